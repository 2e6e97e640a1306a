import JvmDerived
import JvmDerived.Pilot.@@N@@Statement
import JvmDerived.Pilot.@@N@@Code
set_option linter.unusedVariables false
set_option linter.unusedSimpArgs false
/- laws to paste: Road.backV (cut by pick.py; bodies as the Statement names them) -/
namespace Jvm.Pilot.@@N@@
namespace StrChars
open Jvm Sem ClassFile Op Lib Jvm.Stand Jvm.Free.XT Jvm.Free.ALB Jvm.Free.JM Jvm.Free
open Jvm.Lib.Cold (StaticIs)
/-- a char array whose places are chars -/
def Ch (a : Addr) (A : Cell) (U : State) : Prop := Arr .char a A U ∧ Typed .char A
theorem Ch.mv {a : Addr} {A : Cell} {U U' : State} (h : Ch a A U) (hal : U.vm.Alike U'.vm) (hh : U'.heap = U.heap) : Ch a A U' := ⟨h.1.mv hal hh, h.2⟩
theorem Ch.keep {a : Addr} {A : Cell} {U U' : State} (h : Ch a A U) (hal : U.vm.Alike U'.vm) (hk : U'.heap[a]? = some A) : Ch a A U' := ⟨h.1.keep hal hk, h.2⟩
/-- what place i of a char[]'s cell holds -/
def cv (A : Cell) (i : Nat) : Int32 := match A.slots[i]? with | some (.int x) => x | _ => 0
theorem Ch.get {a : Addr} {A : Cell} {U : State} (h : Ch a A U) {i : Nat} (hi : i < A.slots.size) : A.slots[i]? = some (.int (cv A i)) := by
  have e := Array.getElem?_eq_getElem hi
  have f := h.2 i _ e
  unfold cv; rw [e]
  generalize A.slots[i] = v at f
  cases v <;> simp [fits] at f ⊢
/-- the byte that i2b leaves of a char -/
def lo8 (x : Int32) : Int32 := x.toInt8.toInt32
theorem fits_lo8 (y : Int32) : fits .byte (.int (lo8 y)) = true := by
  have h1 := y.toInt8.le_toInt
  have h2 := y.toInt8.toInt_lt
  simp only [lo8, fits, Bool.and_eq_true, decide_eq_true_eq, Int32.le_iff_toInt_le, Int8.toInt_toInt32, show (-128 : Int32).toInt = -128 from by decide, show (127 : Int32).toInt = 127 from by decide]
  omega
/-- A' is A but that each place j of lo .. hi - 1 holds f j -/
def Laid (A A' : Cell) (lo hi : Nat) (f : Nat → Value) : Prop := A'.cls = A.cls ∧ A'.vm = A.vm ∧ A'.slots.size = A.slots.size ∧ ∀ i, A'.slots[i]? = if lo ≤ i ∧ i < hi then some (f i) else A.slots[i]?
theorem Laid.zero (A : Cell) (lo : Nat) (f : Nat → Value) : Laid A A lo (lo + 0) f := ⟨rfl, rfl, rfl, fun i => by rw [if_neg (by omega)]⟩
theorem Laid.step {A Ak : Cell} {lo k : Nat} {f : Nat → Value} {v : Value} (h : Laid A Ak lo k f) (hlo : lo ≤ k) (hk : k < Ak.slots.size) (hv : v = f k) : Laid A (Ak.setSlot k v) lo (k + 1) f := by
  refine ⟨h.1, h.2.1, by simpa [Cell.setSlot] using h.2.2.1, fun i => ?_⟩
  by_cases e : k = i
  · subst e; rw [Cell.slots_setSlot_self v hk, if_pos (by omega), hv]
  · rw [Cell.slots_setSlot_ne v e, h.2.2.2 i]
    by_cases q : lo ≤ i ∧ i < k
    · rw [if_pos q, if_pos (by omega)]
    · rw [if_neg q, if_neg (by omega)]
def U16 : String := "java/lang/StringUTF16"
namespace Cmp5
def yN : MethodName := ⟨"java/lang/StringUTF16", "compress", "([CI[BII)I"⟩
abbrev yB : ByteArray := jdk_52_method_21_code
theorem d0 : decode yB 0 = .ok (.iconst 0, 1) := by decide +kernel
theorem d1 : decode yB 1 = .ok (.istore 5, 2) := by decide +kernel
theorem d3 : decode yB 3 = .ok (.iload 5, 2) := by decide +kernel
theorem d5 : decode yB 5 = .ok (.iload 4, 2) := by decide +kernel
theorem d7 : decode yB 7 = .ok (.if_icmp (.ge) 37, 3) := by decide +kernel
theorem d10 : decode yB 10 = .ok (.aload_n 0, 1) := by decide +kernel
theorem d11 : decode yB 11 = .ok (.iload_n 1, 1) := by decide +kernel
theorem d12 : decode yB 12 = .ok (.caload, 1) := by decide +kernel
theorem d13 : decode yB 13 = .ok (.istore 6, 2) := by decide +kernel
theorem d15 : decode yB 15 = .ok (.iload 6, 2) := by decide +kernel
theorem d17 : decode yB 17 = .ok (.sipush 255, 3) := by decide +kernel
theorem d20 : decode yB 20 = .ok (.if_icmp (.le) 6, 3) := by decide +kernel
theorem d26 : decode yB 26 = .ok (.aload_n 2, 1) := by decide +kernel
theorem d27 : decode yB 27 = .ok (.iload_n 3, 1) := by decide +kernel
theorem d28 : decode yB 28 = .ok (.iload 6, 2) := by decide +kernel
theorem d30 : decode yB 30 = .ok (.i2b, 1) := by decide +kernel
theorem d31 : decode yB 31 = .ok (.bastore, 1) := by decide +kernel
theorem d32 : decode yB 32 = .ok (.iinc 1 1, 3) := by decide +kernel
theorem d35 : decode yB 35 = .ok (.iinc 3 1, 3) := by decide +kernel
theorem d38 : decode yB 38 = .ok (.iinc 5 1, 3) := by decide +kernel
theorem d41 : decode yB 41 = .ok (.goto (-38), 3) := by decide +kernel
theorem d44 : decode yB 44 = .ok (.iload 4, 2) := by decide +kernel
theorem d46 : decode yB 46 = .ok (.ireturn, 1) := by decide +kernel
def site : List Cond := []
def tab : Cond := tabOf yN yB 7 (some .int) site
def P (b : Addr) (A : Cell) (d : Addr) (B : Cell) (o q len : Nat) (args : Array Value) (s : State) : Prop := args = #[.ref b, .int (Int32.ofNat o), .ref d, .int (Int32.ofNat q), .int (Int32.ofNat len)] ∧ Ch b A s ∧ Arr .byte d B s ∧ b ≠ d ∧ o + len ≤ A.slots.size ∧ q + len ≤ B.slots.size ∧ ∀ i, i < len → ¬ 255 < cv A (o + i)
def E (b : Addr) (A : Cell) (d : Addr) (B : Cell) (o q len : Nat) (r : Option Value) (s u : State) : Prop := r = some (.int (Int32.ofNat len)) ∧ ∃ B', Put d B' s u ∧ Laid B B' q (q + len) (fun j => Value.int (lo8 (cv A (o + (j - q)))))
/-- no char of the range above 255: len; the places written hold each char's low byte -/
theorem law (l : Launch) (b : Addr) (A : Cell) (d : Addr) (B : Cell) (o q len : Nat) : Law l yN 5 5 0 0 yB 7 (some .int) site (P b A d B o q len) (E b A d B o q len) (copyLocs d q len) 0 0 := by
  refine Law.of_walk (plainFor_of_name (by decide +kernel)) (by decide +kernel) (by decide +kernel) (by decide) (fun _ _ h => by rw [h.1]; rfl) (fun _ U U' hal hh h => ⟨h.1, h.2.1.mv hal hh, h.2.2.1.mv hal hh, h.2.2.2⟩) (fun r U U' V V' h1 hal h2 h => ⟨h.1, h.2.elim fun B' q => ⟨B', q.1.mv h1 h2, q.2⟩⟩) ?_
  intro p e s m args below meth c s₁ X0 hexec hbytes hml hret hlk hnm hown hh0 W hP
  obtain ⟨rfl, hA, hB, hne, l1, l2, hp⟩ := hP
  have c1 : Steps p.tables e below (s₁.setTop (entryFrame m #[.ref b, .int (Int32.ofNat o), .ref d, .int (Int32.ofNat q), .int (Int32.ofNat len)] 7)) (s₁.setTop (mkF m 0 #[.val (.ref b), .val (.int (Int32.ofNat o)), .val (.ref d), .val (.int (Int32.ofNat q)), .val (.int (Int32.ofNat len)), .unset, .unset] [])) := entry rfl
  have hA0 := hA.1.mv X0.warmed.alike hh0
  have hB0 := hB.mv X0.warmed.alike hh0
  have a31 := hA.1.2.2.2
  have c2 : Steps p.tables e below (s₁.setTop (entryFrame m #[.ref b, .int (Int32.ofNat o), .ref d, .int (Int32.ofNat q), .int (Int32.ofNat len)] 7)) (s₁.setTop (mkF m 3 #[.val (.ref b), .val (.int (Int32.ofNat o)), .val (.ref d), .val (.int (Int32.ofNat q)), .val (.int (Int32.ofNat len)), .val (.int 0), .unset] [])) := c1.trans (by
    refine iconstV X0.here hexec rfl 0 (hb hbytes d0) (by decide) ?_
    refine XS.istore X0.here hexec rfl (hb hbytes d1) rfl rfl ?_
    exact Steps.refl _)
  have loop : ∀ (r i : Nat), i + r = len → ∀ (z : Slot), (z = .unset ∨ ∃ w, z = .val w ∧ w.category = 1) → ∀ (Tl : State) (Bk : Cell), Stand p l e { frames := 0, locals := 0, cells := 0, slots := 0 } s m #[.ref b, .int (Int32.ofNat o), .ref d, .int (Int32.ofNat q), .int (Int32.ofNat len)] below meth c Tl ([] ++ copyLocs d q i) 0 0 → Put d Bk s₁ Tl → Laid B Bk q (q + i) (fun j => Value.int (lo8 (cv A (o + (j - q))))) →
      Steps p.tables e below (s₁.setTop (entryFrame m #[.ref b, .int (Int32.ofNat o), .ref d, .int (Int32.ofNat q), .int (Int32.ofNat len)] 7)) (Tl.setTop (mkF m 3 #[.val (.ref b), .val (.int (Int32.ofNat (o + i))), .val (.ref d), .val (.int (Int32.ofNat (q + i))), .val (.int (Int32.ofNat len)), .val (.int (Int32.ofNat i)), z] [])) → ∃ (T' : State) (B' : Cell) (z' : Slot), Stand p l e { frames := 0, locals := 0, cells := 0, slots := 0 } s m #[.ref b, .int (Int32.ofNat o), .ref d, .int (Int32.ofNat q), .int (Int32.ofNat len)] below meth c T' ([] ++ copyLocs d q len) 0 0 ∧ Put d B' s₁ T' ∧ Laid B B' q (q + len) (fun j => Value.int (lo8 (cv A (o + (j - q))))) ∧
      Steps p.tables e below (s₁.setTop (entryFrame m #[.ref b, .int (Int32.ofNat o), .ref d, .int (Int32.ofNat q), .int (Int32.ofNat len)] 7)) (T'.setTop (mkF m 3 #[.val (.ref b), .val (.int (Int32.ofNat (o + len))), .val (.ref d), .val (.int (Int32.ofNat (q + len))), .val (.int (Int32.ofNat len)), .val (.int (Int32.ofNat len)), z'] [])) := by
    intro r
    induction r with
    | zero =>
      intro i hi z hz Tl Bk Xl pl fl cl
      have hil : i = len := by omega
      rw [hil] at Xl fl cl
      exact ⟨Tl, Bk, z, Xl, pl, fl, cl⟩
    | succ r ih =>
      intro i hi z hz Tl Bk Xl pl fl cl
      have all := X0.warmed.alike.symm.trans Xl.warmed.alike
      have hAl := hA0.keep all (pl.other hne hA0.1)
      have hBk := hB0.like all pl.1 fl.1 fl.2.1 fl.2.2.1
      have hlt : q + i < Bk.slots.size := by rw [fl.2.2.1]; omega
      have c3 : Steps p.tables e below (s₁.setTop (entryFrame m #[.ref b, .int (Int32.ofNat o), .ref d, .int (Int32.ofNat q), .int (Int32.ofNat len)] 7)) (Tl.setTop (mkF m 12 #[.val (.ref b), .val (.int (Int32.ofNat (o + i))), .val (.ref d), .val (.int (Int32.ofNat (q + i))), .val (.int (Int32.ofNat len)), .val (.int (Int32.ofNat i)), z] [.int (Int32.ofNat (o + i)), .ref b])) := cl.trans (by
        refine XS.iload Xl.here hexec rfl (hb hbytes d3) rfl ?_
        refine XS.iload Xl.here hexec rfl (hb hbytes d5) rfl ?_
        refine XS.icmpNo Xl.here hexec rfl (hb hbytes d7) rfl (ii_ge_f (lt32 (by omega) (by omega))) ?_
        refine XS.aloadN Xl.here hexec rfl (hb hbytes d10) rfl rfl ?_
        refine XS.iloadN Xl.here hexec rfl (hb hbytes d11) rfl ?_
        exact Steps.refl _)
      have c4 : Steps p.tables e below (s₁.setTop (entryFrame m #[.ref b, .int (Int32.ofNat o), .ref d, .int (Int32.ofNat q), .int (Int32.ofNat len)] 7)) (Tl.setTop (mkF m 13 #[.val (.ref b), .val (.int (Int32.ofNat (o + i))), .val (.ref d), .val (.int (Int32.ofNat (q + i))), .val (.int (Int32.ofNat len)), .val (.int (Int32.ofNat i)), z] [.int (cv A (o + i))])) := c3.trans (by
        refine Xl.aget hexec hAl rfl (hA.get (i := o + i) (by omega)) rfl rfl (hb hbytes d12) ?_
        exact Steps.refl _)
      have c5 : Steps p.tables e below (s₁.setTop (entryFrame m #[.ref b, .int (Int32.ofNat o), .ref d, .int (Int32.ofNat q), .int (Int32.ofNat len)] 7)) (Tl.setTop (mkF m 15 #[.val (.ref b), .val (.int (Int32.ofNat (o + i))), .val (.ref d), .val (.int (Int32.ofNat (q + i))), .val (.int (Int32.ofNat len)), .val (.int (Int32.ofNat i)), .val (.int (cv A (o + i)))] [])) := c4.trans (by
        refine XS.istoreS Xl.here hexec rfl (hb hbytes d13) rfl rfl hz ?_
        exact Steps.refl _)
      have c6 : Steps p.tables e below (s₁.setTop (entryFrame m #[.ref b, .int (Int32.ofNat o), .ref d, .int (Int32.ofNat q), .int (Int32.ofNat len)] 7)) (Tl.setTop (mkF m 31 #[.val (.ref b), .val (.int (Int32.ofNat (o + i))), .val (.ref d), .val (.int (Int32.ofNat (q + i))), .val (.int (Int32.ofNat len)), .val (.int (Int32.ofNat i)), .val (.int (cv A (o + i)))] [.int (lo8 (cv A (o + i))), .int (Int32.ofNat (q + i)), .ref d])) := c5.trans (by
        refine XS.iload Xl.here hexec rfl (hb hbytes d15) rfl ?_
        refine sipushV Xl.here hexec rfl 255 (hb hbytes d17) (by decide) ?_
        refine XS.icmpYes Xl.here hexec rfl (pc0 := 20) rfl (hb hbytes d20) rfl (ii_le_t (hp i (by omega))) (by decide) rfl ?_
        refine XS.aloadN Xl.here hexec rfl (hb hbytes d26) rfl rfl ?_
        refine XS.iloadN Xl.here hexec rfl (hb hbytes d27) rfl ?_
        refine XS.iload Xl.here hexec rfl (hb hbytes d28) rfl ?_
        refine i2b Xl.here hexec rfl (hb hbytes d30) rfl ?_
        exact Steps.refl _)
      obtain ⟨T7, X7, p7, st7⟩ := Xl.aput hexec hBk rfl hlt rfl (fits_lo8 (cv A (o + i))) (g := (mkF m 31 #[.val (.ref b), .val (.int (Int32.ofNat (o + i))), .val (.ref d), .val (.int (Int32.ofNat (q + i))), .val (.int (Int32.ofNat len)), .val (.int (Int32.ofNat i)), .val (.int (cv A (o + i)))] [.int (lo8 (cv A (o + i))), .int (Int32.ofNat (q + i)), .ref d])) rfl (rest := []) rfl (hb hbytes d31)
      have c8 : Steps p.tables e below (s₁.setTop (entryFrame m #[.ref b, .int (Int32.ofNat o), .ref d, .int (Int32.ofNat q), .int (Int32.ofNat len)] 7)) (T7.setTop (mkF m 32 #[.val (.ref b), .val (.int (Int32.ofNat (o + i))), .val (.ref d), .val (.int (Int32.ofNat (q + i))), .val (.int (Int32.ofNat len)), .val (.int (Int32.ofNat i)), .val (.int (cv A (o + i)))] [])) := c6.trans (st7 _ (Steps.refl _))
      have c9 : Steps p.tables e below (s₁.setTop (entryFrame m #[.ref b, .int (Int32.ofNat o), .ref d, .int (Int32.ofNat q), .int (Int32.ofNat len)] 7)) (T7.setTop (mkF m 3 #[.val (.ref b), .val (.int (Int32.ofNat (o + i) + 1)), .val (.ref d), .val (.int (Int32.ofNat (q + i) + 1)), .val (.int (Int32.ofNat len)), .val (.int (Int32.ofNat i + 1)), .val (.int (cv A (o + i)))] [])) := c8.trans (by
        refine iincV X7.here hexec rfl 1 (hb hbytes d32) (by decide) rfl rfl ?_
        refine iincV X7.here hexec rfl 1 (hb hbytes d35) (by decide) rfl rfl ?_
        refine iincV X7.here hexec rfl 1 (hb hbytes d38) (by decide) rfl rfl ?_
        refine XS.goto X7.here hexec rfl (pc0 := 41) rfl (hb hbytes d41) (by decide) rfl ?_
        exact Steps.refl _)
      have c10 : Steps p.tables e below (s₁.setTop (entryFrame m #[.ref b, .int (Int32.ofNat o), .ref d, .int (Int32.ofNat q), .int (Int32.ofNat len)] 7)) (T7.setTop (mkF m 3 #[.val (.ref b), .val (.int (Int32.ofNat (o + (i + 1)))), .val (.ref d), .val (.int (Int32.ofNat (q + (i + 1)))), .val (.int (Int32.ofNat len)), .val (.int (Int32.ofNat (i + 1))), .val (.int (cv A (o + i)))] [])) := by
        have := c9
        rw [succ32, succ32, succ32] at this
        exact this
      exact ih (i + 1) (by omega) _ (Or.inr ⟨_, rfl, rfl⟩) T7 _ (by rw [copyLocs_step, ← List.append_assoc]; exact X7) (pl.trans p7) (fl.step (by omega) hlt (by simp)) c10
  obtain ⟨T9, B9, z9, X9, p9, f9, g9⟩ := loop len 0 (by omega) .unset (Or.inl rfl) s₁ B (by simpa [copyLocs] using X0) ⟨hB0.1, fun _ _ => rfl, rfl⟩ (Laid.zero _ _ _) c2
  have c11 : Steps p.tables e below (s₁.setTop (entryFrame m #[.ref b, .int (Int32.ofNat o), .ref d, .int (Int32.ofNat q), .int (Int32.ofNat len)] 7)) (T9.setTop (mkF m 46 #[.val (.ref b), .val (.int (Int32.ofNat (o + len))), .val (.ref d), .val (.int (Int32.ofNat (q + len))), .val (.int (Int32.ofNat len)), .val (.int (Int32.ofNat len)), z9] [.int (Int32.ofNat len)])) := g9.trans (by
    refine XS.iload X9.here hexec rfl (hb hbytes d3) rfl ?_
    refine XS.iload X9.here hexec rfl (hb hbytes d5) rfl ?_
    refine XS.icmpYes X9.here hexec rfl (pc0 := 7) rfl (hb hbytes d7) rfl (ii_ge_t (nlt32 (by omega) (Nat.le_refl _))) (by decide) rfl ?_
    refine XS.iload X9.here hexec rfl (hb hbytes d44) rfl ?_
    exact Steps.refl _)
  exact ⟨T9, some (.int (Int32.ofNat len)), _, _, _, X9, by simp, rfl, rfl, (fun h => by cases h), ⟨rfl, B9, p9.from hh0, f9⟩, fun fs hl => c11.trans (X9.ireturnOut hexec hret rfl (Or.inl rfl) (hb hbytes d46) hl)⟩
end Cmp5
namespace Cmp3
def yN : MethodName := ⟨"java/lang/StringUTF16", "compress", "([CII)[B"⟩
abbrev yB : ByteArray := jdk_52_method_16_code
theorem d0 : decode yB 0 = .ok (.iload_n 2, 1) := by decide +kernel
theorem d1 : decode yB 1 = .ok (.newarray .byte, 2) := by decide +kernel
theorem d3 : decode yB 3 = .ok (.astore_n 3, 1) := by decide +kernel
theorem d4 : decode yB 4 = .ok (.aload_n 0, 1) := by decide +kernel
theorem d5 : decode yB 5 = .ok (.iload_n 1, 1) := by decide +kernel
theorem d6 : decode yB 6 = .ok (.aload_n 3, 1) := by decide +kernel
theorem d7 : decode yB 7 = .ok (.iconst 0, 1) := by decide +kernel
theorem d8 : decode yB 8 = .ok (.iload_n 2, 1) := by decide +kernel
theorem d9 : decode yB 9 = .ok (.invokestatic 115, 3) := by decide +kernel
theorem d12 : decode yB 12 = .ok (.istore 4, 2) := by decide +kernel
theorem d14 : decode yB 14 = .ok (.iload 4, 2) := by decide +kernel
theorem d16 : decode yB 16 = .ok (.iload_n 2, 1) := by decide +kernel
theorem d17 : decode yB 17 = .ok (.if_icmp (.eq) 40, 3) := by decide +kernel
theorem d57 : decode yB 57 = .ok (.aload_n 3, 1) := by decide +kernel
theorem d58 : decode yB 58 = .ok (.areturn, 1) := by decide +kernel
def site : List Cond := [.arrayClass .byte, Cmp5.tab] ++ staticW U16 115 Cmp5.yN
def tab : Cond := tabOf yN yB 6 (some (.array .byte)) site
def P (b : Addr) (A : Cell) (o len : Nat) (args : Array Value) (s : State) : Prop := args = #[.ref b, .int (Int32.ofNat o), .int (Int32.ofNat len)] ∧ Ch b A s ∧ o + len ≤ A.slots.size ∧ len ≤ 536870912 ∧ ∀ i, i < len → ¬ 255 < cv A (o + i)
def E (b : Addr) (A : Cell) (o len : Nat) (r : Option Value) (s u : State) : Prop := NewArr .byte "[B" len (fun j => .int (lo8 (cv A (o + j)))) r s u ∧ u.heap.size = s.heap.size + 1
/-- no char of the range above 255: a new byte[] of their low bytes -/
theorem law (l : Launch) (b : Addr) (A : Cell) (o len : Nat) : Law l yN 3 3 1 18 yB 6 (some (.array .byte)) site (P b A o len) (E b A o len) [] 1 len := by
  refine Law.of_walk (plainFor_of_name (by decide +kernel)) (by decide +kernel) (by decide +kernel) (by decide) (fun _ _ h => by rw [h.1]; rfl) (fun _ U U' hal hh h => ⟨h.1, h.2.1.mv hal hh, h.2.2⟩) (fun r U U' V V' h1 hal h2 h => ⟨NewArr.mv r U U' V V' h1 hal h2 h.1, by rw [h1, h2]; exact h.2⟩) ?_
  intro p e s m args below meth c s₁ X0 hexec hbytes hml hret hlk hnm hown hh0 W hP
  obtain ⟨rfl, hA, l1, l2, hp⟩ := hP
  have a31 := hA.1.2.2.2
  have c1 : Steps p.tables e below (s₁.setTop (entryFrame m #[.ref b, .int (Int32.ofNat o), .int (Int32.ofNat len)] 6)) (s₁.setTop (mkF m 0 #[.val (.ref b), .val (.int (Int32.ofNat o)), .val (.int (Int32.ofNat len)), .unset, .unset, .unset] [])) := entry rfl
  have c2 : Steps p.tables e below (s₁.setTop (entryFrame m #[.ref b, .int (Int32.ofNat o), .int (Int32.ofNat len)] 6)) (s₁.setTop (mkF m 1 #[.val (.ref b), .val (.int (Int32.ofNat o)), .val (.int (Int32.ofNat len)), .unset, .unset, .unset] [.int (Int32.ofNat len)])) := c1.trans (by
    refine XS.iloadN X0.here hexec rfl (hb hbytes d0) rfl ?_
    exact Steps.refl _)
  obtain ⟨T3, B3, X3, ba3, bs3, bv3, bh3, bf3, st3⟩ := X0.anew hexec (atype := .byte) (wk W (.arrayClass .byte)) rfl (by show len * 1 ≤ _; omega) (by omega) (g := (mkF m 1 #[.val (.ref b), .val (.int (Int32.ofNat o)), .val (.int (Int32.ofNat len)), .unset, .unset, .unset] [.int (Int32.ofNat len)])) rfl (hb hbytes d1) (rest := []) rfl (Nat.le_refl _) (by show 0 + len ≤ len; omega)
  rw [hh0] at ba3 st3
  have kp3 : XT.Kept s T3 := (XT.Kept.of_eq hh0).push bh3
  have hA3 := hA.keep X3.warmed.alike (kp3 _ _ hA.1.1)
  have hne : b ≠ s.heap.size := hA.1.ne
  have c4 : Steps p.tables e below (s₁.setTop (entryFrame m #[.ref b, .int (Int32.ofNat o), .int (Int32.ofNat len)] 6)) (T3.setTop (mkF m 3 #[.val (.ref b), .val (.int (Int32.ofNat o)), .val (.int (Int32.ofNat len)), .unset, .unset, .unset] [.ref s.heap.size])) := c2.trans (st3 _ (Steps.refl _))
  have c5 : Steps p.tables e below (s₁.setTop (entryFrame m #[.ref b, .int (Int32.ofNat o), .int (Int32.ofNat len)] 6)) (T3.setTop (mkF m 9 #[.val (.ref b), .val (.int (Int32.ofNat o)), .val (.int (Int32.ofNat len)), .val (.ref s.heap.size), .unset, .unset] [.int (Int32.ofNat len), .int 0, .ref s.heap.size, .int (Int32.ofNat o), .ref b])) := c4.trans (by
    refine XS.astoreN X3.here hexec rfl (hb hbytes d3) rfl rfl rfl ?_
    refine XS.aloadN X3.here hexec rfl (hb hbytes d4) rfl rfl ?_
    refine XS.iloadN X3.here hexec rfl (hb hbytes d5) rfl ?_
    refine XS.aloadN X3.here hexec rfl (hb hbytes d6) rfl rfl ?_
    refine iconstV X3.here hexec rfl 0 (hb hbytes d7) (by decide) ?_
    refine XS.iloadN X3.here hexec rfl (hb hbytes d8) rfl ?_
    exact Steps.refl _)
  obtain ⟨v6, T6, X6, E6, g6⟩ := X3.callS hexec (Cmp5.law l b A s.heap.size B3 o 0 len) hown (wks W (staticW U16 115 Cmp5.yN)) (wk W Cmp5.tab) (W := 0) (Nat.le_of_ble_eq_true rfl) (Nat.le_of_ble_eq_true rfl) (Nat.le_refl _) (by show 0 + len + 0 ≤ len; omega) (g := (mkF m 9 #[.val (.ref b), .val (.int (Int32.ofNat o)), .val (.int (Int32.ofNat len)), .val (.ref s.heap.size), .unset, .unset] [.int (Int32.ofNat len), .int (Int32.ofNat 0), .ref s.heap.size, .int (Int32.ofNat o), .ref b])) rfl (by rw [hml]; rfl) c5 (argsL := [.ref b, .int (Int32.ofNat o), .ref s.heap.size, .int (Int32.ofNat 0), .int (Int32.ofNat len)]) (rest := []) rfl rfl (by show 2 * 0 + 0 ≤ _; decide) (hb hbytes d9) (⟨rfl, hA3, ba3, hne, l1, by rw [bs3]; simp, hp⟩)
  obtain ⟨rfl, B6, p6, f6⟩ := E6
  have c7 : Steps p.tables e below (s₁.setTop (entryFrame m #[.ref b, .int (Int32.ofNat o), .int (Int32.ofNat len)] 6)) (T6.setTop (mkF m 12 #[.val (.ref b), .val (.int (Int32.ofNat o)), .val (.int (Int32.ofNat len)), .val (.ref s.heap.size), .unset, .unset] [.int (Int32.ofNat len)])) := g6
  have c8 : Steps p.tables e below (s₁.setTop (entryFrame m #[.ref b, .int (Int32.ofNat o), .int (Int32.ofNat len)] 6)) (T6.setTop (mkF m 58 #[.val (.ref b), .val (.int (Int32.ofNat o)), .val (.int (Int32.ofNat len)), .val (.ref s.heap.size), .val (.int (Int32.ofNat len)), .unset] [.ref s.heap.size])) := c7.trans (by
    refine XS.istore X6.here hexec rfl (hb hbytes d12) rfl rfl ?_
    refine XS.iload X6.here hexec rfl (hb hbytes d14) rfl ?_
    refine XS.iloadN X6.here hexec rfl (hb hbytes d16) rfl ?_
    refine XS.icmpYes X6.here hexec rfl (pc0 := 17) rfl (hb hbytes d17) rfl (ii_eq_t rfl) (by decide) rfl ?_
    refine XS.aloadN X6.here hexec rfl (hb hbytes d57) rfl rfl ?_
    exact Steps.refl _)
  have X8 := X6.wide (L' := []) (cells' := 1) (slots' := len) (fun x hx hlt => by
    simp only [List.nil_append, copyLocs, List.mem_map, List.mem_range] at hx
    obtain ⟨i, -, rfl⟩ := hx
    exact absurd hlt (Nat.lt_irrefl _)) (Nat.le_refl _) (by omega)
  exact ⟨T6, some (.ref s.heap.size), _, _, _, X8, rfl, rfl, rfl, (fun h => by cases h), ⟨⟨rfl, B6, ba3.like (X3.warmed.alike.symm.trans X6.warmed.alike) p6.1 f6.1 f6.2.1 f6.2.2.1, f6.2.1.trans bv3, by rw [X6.warmed.alike.findClass, f6.1]; exact bf3, by rw [f6.2.2.1, bs3]; simp, fun j hj => by rw [f6.2.2.2 j, if_pos (by omega)]; rfl, kp3.put p6 (Nat.le_refl _)⟩, by rw [p6.2.2, bh3, hh0]; simp⟩, fun fs hl => c8.trans (X8.areturnOut hexec rfl hret rfl (hb hbytes d58) hl)⟩
end Cmp3
namespace CodL
def yN : MethodName := ⟨"java/lang/StringUTF16", "coderFromArrayLen", "([BI)B"⟩
abbrev yB : ByteArray := jdk_52_method_15_code
theorem d0 : decode yB 0 = .ok (.iload_n 1, 1) := by decide +kernel
theorem d1 : decode yB 1 = .ok (.aload_n 0, 1) := by decide +kernel
theorem d2 : decode yB 2 = .ok (.arraylength, 1) := by decide +kernel
theorem d3 : decode yB 3 = .ok (.isub, 1) := by decide +kernel
theorem d4 : decode yB 4 = .ok (.bipush 31, 2) := by decide +kernel
theorem d6 : decode yB 6 = .ok (.iushr, 1) := by decide +kernel
theorem d7 : decode yB 7 = .ok (.i2b, 1) := by decide +kernel
theorem d8 : decode yB 8 = .ok (.ireturn, 1) := by decide +kernel
def site : List Cond := []
def tab : Cond := tabOf yN yB 2 (some .byte) site
def P (d : Addr) (B : Cell) (args : Array Value) (s : State) : Prop := args = #[.ref d, .int (Int32.ofNat B.slots.size)] ∧ Arr .byte d B s
def E (r : Option Value) (s u : State) : Prop := XT.PureE (some (.int 0)) r s u
/-- an array as long as the number of chars: LATIN1 -/
theorem law (l : Launch) (d : Addr) (B : Cell) : Law l yN 2 2 0 0 yB 2 (some .byte) site (P d B) E [] 0 0 := by
  refine Law.of_walk (plainFor_of_name (by decide +kernel)) (by decide +kernel) (by decide +kernel) (by decide) (fun _ _ h => by rw [h.1]; rfl) (fun _ U U' hal hh h => ⟨h.1, h.2.mv hal hh⟩) (fun r U U' V V' h1 hal h2 h => XT.PureE.mv r U U' V V' h1 hal h2 h) ?_
  intro p e s m args below meth c s₁ X0 hexec hbytes hml hret hlk hnm hown hh0 W hP
  obtain ⟨rfl, hB⟩ := hP
  have hB0 := hB.mv X0.warmed.alike hh0
  have c1 : Steps p.tables e below (s₁.setTop (entryFrame m #[.ref d, .int (Int32.ofNat B.slots.size)] 2)) (s₁.setTop (mkF m 0 #[.val (.ref d), .val (.int (Int32.ofNat B.slots.size))] [])) := entry rfl
  have c2 : Steps p.tables e below (s₁.setTop (entryFrame m #[.ref d, .int (Int32.ofNat B.slots.size)] 2)) (s₁.setTop (mkF m 2 #[.val (.ref d), .val (.int (Int32.ofNat B.slots.size))] [.ref d, .int (Int32.ofNat B.slots.size)])) := c1.trans (by
    refine XS.iloadN X0.here hexec rfl (hb hbytes d0) rfl ?_
    refine XS.aloadN X0.here hexec rfl (hb hbytes d1) rfl rfl ?_
    exact Steps.refl _)
  have c3 : Steps p.tables e below (s₁.setTop (entryFrame m #[.ref d, .int (Int32.ofNat B.slots.size)] 2)) (s₁.setTop (mkF m 8 #[.val (.ref d), .val (.int (Int32.ofNat B.slots.size))] [.int (lo8 (ushr (Int32.ofNat B.slots.size - Int32.ofNat B.slots.size) 31))])) := c2.trans (by
    refine X0.alen hexec hB0 rfl rfl (hb hbytes d2) ?_
    refine XS.isub X0.here hexec rfl (hb hbytes d3) rfl ?_
    refine bipushV X0.here hexec rfl 31 (hb hbytes d4) (by decide) ?_
    refine iushr X0.here hexec rfl (hb hbytes d6) rfl ?_
    refine i2b X0.here hexec rfl (hb hbytes d7) rfl ?_
    exact Steps.refl _)
  have e0 : lo8 (ushr (Int32.ofNat B.slots.size - Int32.ofNat B.slots.size) 31) = 0 := by rw [Int32.sub_self]; decide
  rw [e0] at c3
  exact ⟨s₁, some (.int 0), _, _, _, X0, rfl, rfl, rfl, (fun h => by cases h), ⟨rfl, hh0⟩, fun fs hl => c3.trans (X0.ireturnOut hexec hret rfl (Or.inr (Or.inr (Or.inl rfl))) (hb hbytes d8) hl)⟩
end CodL
/-- the String at a is Latin-1 over a new byte[] (the heap's one new cell): the low bytes of the len chars of A from o on; every cell but a is kept -/
def Got (a : Addr) (D : Cell) (fV fC : Field) (A : Cell) (o len : Nat) (r : Option Value) (s u : State) : Prop := r = none ∧ ∃ D' V : Cell, Blank "java/lang/String" a D' u ∧ Same D D' [fV.slot, fC.slot] ∧ D'.slots[fV.slot]? = some (.ref s.heap.size) ∧ D'.slots[fC.slot]? = some (.int 0) ∧ Arr .byte s.heap.size V u ∧ V.vm = .none ∧ u.vm.findClass "[B" = some V.cls ∧ V.slots.size = len ∧ (∀ j, j < len → V.slots[j]? = some (.int (lo8 (cv A (o + j))))) ∧ (∀ (y : Addr) (c : Cell), y ≠ a → s.heap[y]? = some c → u.heap[y]? = some c) ∧ u.heap.size = s.heap.size + 1
theorem Got.mv {a : Addr} {D A : Cell} {fV fC : Field} {o len : Nat} : ∀ r (U U' V V' : State), U'.heap = U.heap → V.vm.Alike V'.vm → V'.heap = V.heap → Got a D fV fC A o len r U V → Got a D fV fC A o len r U' V' :=
  fun r U U' V V' h1 hal h2 ⟨e0, D', X, a1, a2, a3, a4, a5, a6, a7, a8, a9, a10, a11⟩ => ⟨e0, D', X, a1.mv hal h2, a2, by rw [h1]; exact a3, a4, by rw [h1]; exact a5.mv hal h2, a6, by rw [hal.findClass]; exact a7, a8, a9, by rw [h1, h2]; exact a10, by rw [h1, h2]; exact a11⟩
namespace New4
def yN : MethodName := ⟨"java/lang/String", "<init>", "([CIILjava/lang/Void;)V"⟩
abbrev yB : ByteArray := jdk_42_method_149_code
theorem d0 : decode yB 0 = .ok (.aload_n 0, 1) := by decide +kernel
theorem d1 : decode yB 1 = .ok (.invokespecial 1, 3) := by decide +kernel
theorem d4 : decode yB 4 = .ok (.iload_n 3, 1) := by decide +kernel
theorem d5 : decode yB 5 = .ok (.ifCond (.ne) 22, 3) := by decide +kernel
theorem d27 : decode yB 27 = .ok (.getstatic 38, 3) := by decide +kernel
theorem d30 : decode yB 30 = .ok (.ifCond (.eq) 28, 3) := by decide +kernel
theorem d33 : decode yB 33 = .ok (.aload_n 1, 1) := by decide +kernel
theorem d34 : decode yB 34 = .ok (.iload_n 2, 1) := by decide +kernel
theorem d35 : decode yB 35 = .ok (.iload_n 3, 1) := by decide +kernel
theorem d36 : decode yB 36 = .ok (.invokestatic 177, 3) := by decide +kernel
theorem d39 : decode yB 39 = .ok (.astore 5, 2) := by decide +kernel
theorem d41 : decode yB 41 = .ok (.aload_n 0, 1) := by decide +kernel
theorem d42 : decode yB 42 = .ok (.aload 5, 2) := by decide +kernel
theorem d44 : decode yB 44 = .ok (.iload_n 3, 1) := by decide +kernel
theorem d45 : decode yB 45 = .ok (.invokestatic 47, 3) := by decide +kernel
theorem d48 : decode yB 48 = .ok (.putfield 15, 3) := by decide +kernel
theorem d51 : decode yB 51 = .ok (.aload_n 0, 1) := by decide +kernel
theorem d52 : decode yB 52 = .ok (.aload 5, 2) := by decide +kernel
theorem d54 : decode yB 54 = .ok (.putfield 9, 3) := by decide +kernel
theorem d57 : decode yB 57 = .ok (.return_, 1) := by decide +kernel
def site : List Cond := [.fieldLink "java/lang/String" 38 "java/lang/String" "COMPACT_STRINGS" "Z", Cmp3.tab, CodL.tab, .laysFinal "java/lang/String" "java/lang/String" "value" "[B", .fieldLink "java/lang/String" 9 "java/lang/String" "value" "[B", .laysFinal "java/lang/String" "java/lang/String" "coder" "B", .fieldLink "java/lang/String" 15 "java/lang/String" "coder" "B"] ++ objW "java/lang/String" 1 ++ staticW "java/lang/String" 177 Cmp3.yN ++ staticW "java/lang/String" 47 CodL.yN
def tab : Cond := tabOf yN yB 6 none site
def P (a : Addr) (D : Cell) (fV fC : Field) (b : Addr) (A : Cell) (z : Int32) (o len : Nat) (args : Array Value) (s : State) : Prop := args = #[.ref a, .ref b, .int (Int32.ofNat o), .int (Int32.ofNat len), .null] ∧ Blank "java/lang/String" a D s ∧ Found "java/lang/String" "value" "[B" fV s ∧ Found "java/lang/String" "coder" "B" fC s ∧ Ch b A s ∧ StaticIs s "java/lang/String" "COMPACT_STRINGS" "Z" (.int z) ∧ ¬ z = 0 ∧ 0 < len ∧ o + len ≤ A.slots.size ∧ len ≤ 536870912 ∧ ∀ i, i < len → ¬ 255 < cv A (o + i)
def E (a : Addr) (D : Cell) (fV fC : Field) (A : Cell) (o len : Nat) (r : Option Value) (s u : State) : Prop := Got a D fV fC A o len r s u
/-- len > 0, no char of the range above 255: a Latin-1 String of their low bytes -/
theorem law (l : Launch) (a : Addr) (D : Cell) (fV fC : Field) (b : Addr) (A : Cell) (z : Int32) (o len : Nat) : Law l yN 5 4 2 35 yB 6 none site (P a D fV fC b A z o len) (E a D fV fC A o len) [⟨a, fC.slot⟩, ⟨a, fV.slot⟩] 1 len := by
  refine Law.of_walk (plainFor_of_name (by decide +kernel)) (by decide +kernel) (by decide +kernel) (by decide) (fun _ _ h => by rw [h.1]; rfl) (fun _ U U' hal hh h => ⟨h.1, h.2.1.mv hal hh, h.2.2.1.al hal, h.2.2.2.1.al hal, h.2.2.2.2.1.mv hal hh, h.2.2.2.2.2.1.there hal hh, h.2.2.2.2.2.2⟩) (fun r U U' V V' h1 hal h2 h => Got.mv r U U' V V' h1 hal h2 h) ?_
  intro p e s m args below meth c s₁ X0 hexec hbytes hml hret hlk hnm hown hh0 W hP
  obtain ⟨rfl, hB, f1, f2, hA, s1, hz, l0, l1, l2, hp⟩ := hP
  have a31 := hA.1.2.2.2
  have c1 : Steps p.tables e below (s₁.setTop (entryFrame m #[.ref a, .ref b, .int (Int32.ofNat o), .int (Int32.ofNat len), .null] 6)) (s₁.setTop (mkF m 0 #[.val (.ref a), .val (.ref b), .val (.int (Int32.ofNat o)), .val (.int (Int32.ofNat len)), .val .null, .unset] [])) := entry rfl
  have c2 : Steps p.tables e below (s₁.setTop (entryFrame m #[.ref a, .ref b, .int (Int32.ofNat o), .int (Int32.ofNat len), .null] 6)) (s₁.setTop (mkF m 1 #[.val (.ref a), .val (.ref b), .val (.int (Int32.ofNat o)), .val (.int (Int32.ofNat len)), .val .null, .unset] [.ref a])) := c1.trans (by
    refine XS.aloadN X0.here hexec rfl (hb hbytes d0) rfl rfl ?_
    exact Steps.refl _)
  obtain ⟨T3, X3, q3, st3⟩ := X0.oinit hexec hown (wks W (objW "java/lang/String" 1)) (g := (mkF m 1 #[.val (.ref a), .val (.ref b), .val (.int (Int32.ofNat o)), .val (.int (Int32.ofNat len)), .val .null, .unset] [.ref a])) rfl (by rw [hml]; rfl) (rest := []) rfl (hb hbytes d1) (W := 0) (by show 2 * 0 + 0 ≤ _; decide) (Nat.le_of_ble_eq_true rfl) (Nat.le_of_ble_eq_true rfl)
  have hh3 := q3.trans hh0
  have c4 : Steps p.tables e below (s₁.setTop (entryFrame m #[.ref a, .ref b, .int (Int32.ofNat o), .int (Int32.ofNat len), .null] 6)) (T3.setTop (mkF m 27 #[.val (.ref a), .val (.ref b), .val (.int (Int32.ofNat o)), .val (.int (Int32.ofNat len)), .val .null, .unset] [])) := (c2.trans (st3 _ (Steps.refl _))).trans (by
    refine XS.iloadN X3.here hexec rfl (hb hbytes d4) rfl ?_
    refine XS.ifYes X3.here hexec rfl (pc0 := 5) rfl (hb hbytes d5) rfl (i0_ne_t (nz32 (by omega) l0)) (by decide) rfl ?_
    exact Steps.refl _)
  obtain ⟨T5, X5, q5, st5⟩ := X3.sget hexec hown (wk W (.fieldLink "java/lang/String" 38 "java/lang/String" "COMPACT_STRINGS" "Z")) s1 (fun _ _ h => by rw [hh3]; exact h) (g := (mkF m 27 #[.val (.ref a), .val (.ref b), .val (.int (Int32.ofNat o)), .val (.int (Int32.ofNat len)), .val .null, .unset] [])) rfl (hb hbytes d27)
  have hh5 := q5.trans hh3
  have c6 : Steps p.tables e below (s₁.setTop (entryFrame m #[.ref a, .ref b, .int (Int32.ofNat o), .int (Int32.ofNat len), .null] 6)) (T5.setTop (mkF m 30 #[.val (.ref a), .val (.ref b), .val (.int (Int32.ofNat o)), .val (.int (Int32.ofNat len)), .val .null, .unset] [.int z])) := c4.trans (st5 _ (Steps.refl _))
  have c7 : Steps p.tables e below (s₁.setTop (entryFrame m #[.ref a, .ref b, .int (Int32.ofNat o), .int (Int32.ofNat len), .null] 6)) (T5.setTop (mkF m 36 #[.val (.ref a), .val (.ref b), .val (.int (Int32.ofNat o)), .val (.int (Int32.ofNat len)), .val .null, .unset] [.int (Int32.ofNat len), .int (Int32.ofNat o), .ref b])) := c6.trans (by
    refine XS.ifNo X5.here hexec rfl (hb hbytes d30) rfl (i0_eq_f hz) ?_
    refine XS.aloadN X5.here hexec rfl (hb hbytes d33) rfl rfl ?_
    refine XS.iloadN X5.here hexec rfl (hb hbytes d34) rfl ?_
    refine XS.iloadN X5.here hexec rfl (hb hbytes d35) rfl ?_
    exact Steps.refl _)
  obtain ⟨v8, T8, X8, E8, g8⟩ := X5.callS hexec (Cmp3.law l b A o len) hown (wks W (staticW "java/lang/String" 177 Cmp3.yN)) (wk W Cmp3.tab) (W := 0) (Nat.le_of_ble_eq_true rfl) (Nat.le_of_ble_eq_true rfl) (Nat.le_refl _) (by show 0 + len ≤ len; omega) (g := (mkF m 36 #[.val (.ref a), .val (.ref b), .val (.int (Int32.ofNat o)), .val (.int (Int32.ofNat len)), .val .null, .unset] [.int (Int32.ofNat len), .int (Int32.ofNat o), .ref b])) rfl (by rw [hml]; rfl) c7 (argsL := [.ref b, .int (Int32.ofNat o), .int (Int32.ofNat len)]) (rest := []) rfl rfl (by show 2 * 0 + 0 ≤ _; decide) (hb hbytes d36) (⟨rfl, hA.mv X5.warmed.alike hh5, l1, l2, hp⟩)
  obtain ⟨e8, z8⟩ := E8
  obtain ⟨rfl, N, n1, n2, n3, n4, n5, n6⟩ := NewArr.mv _ T5 s _ _ hh5.symm (Vm.Alike.refl _) rfl e8
  rw [hh5] at z8
  have hB1 := hB.keep X8.warmed.alike (n6 _ _ hB.1)
  have hne : s.heap.size ≠ a := (Nat.ne_of_lt (Array.getElem?_eq_some_iff.mp hB.1).1).symm
  have c9 : Steps p.tables e below (s₁.setTop (entryFrame m #[.ref a, .ref b, .int (Int32.ofNat o), .int (Int32.ofNat len), .null] 6)) (T8.setTop (mkF m 39 #[.val (.ref a), .val (.ref b), .val (.int (Int32.ofNat o)), .val (.int (Int32.ofNat len)), .val .null, .unset] [.ref s.heap.size])) := g8
  have c10 : Steps p.tables e below (s₁.setTop (entryFrame m #[.ref a, .ref b, .int (Int32.ofNat o), .int (Int32.ofNat len), .null] 6)) (T8.setTop (mkF m 45 #[.val (.ref a), .val (.ref b), .val (.int (Int32.ofNat o)), .val (.int (Int32.ofNat len)), .val .null, .val (.ref s.heap.size)] [.int (Int32.ofNat N.slots.size), .ref s.heap.size, .ref a])) := by
    have hc : Steps p.tables e below (s₁.setTop (entryFrame m #[.ref a, .ref b, .int (Int32.ofNat o), .int (Int32.ofNat len), .null] 6)) (T8.setTop (mkF m 45 #[.val (.ref a), .val (.ref b), .val (.int (Int32.ofNat o)), .val (.int (Int32.ofNat len)), .val .null, .val (.ref s.heap.size)] [.int (Int32.ofNat len), .ref s.heap.size, .ref a])) := c9.trans (by
      refine XS.astore X8.here hexec rfl (hb hbytes d39) rfl rfl rfl ?_
      refine XS.aloadN X8.here hexec rfl (hb hbytes d41) rfl rfl ?_
      refine XS.aload X8.here hexec rfl (hb hbytes d42) rfl rfl ?_
      refine XS.iloadN X8.here hexec rfl (hb hbytes d44) rfl ?_
      exact Steps.refl _)
    rw [n4]; exact hc
  obtain ⟨v11, T11, X11, E11, g11⟩ := X8.callS hexec (CodL.law l s.heap.size N) hown (wks W (staticW "java/lang/String" 47 CodL.yN)) (wk W CodL.tab) (W := 1) (Nat.le_of_ble_eq_true rfl) (Nat.le_of_ble_eq_true rfl) (Nat.le_refl _) (by show 0 + len + 0 ≤ len; omega) (g := (mkF m 45 #[.val (.ref a), .val (.ref b), .val (.int (Int32.ofNat o)), .val (.int (Int32.ofNat len)), .val .null, .val (.ref s.heap.size)] [.int (Int32.ofNat N.slots.size), .ref s.heap.size, .ref a])) rfl (by rw [hml]; rfl) c10 (argsL := [.ref s.heap.size, .int (Int32.ofNat N.slots.size)]) (rest := [.ref a]) rfl rfl (by show 2 * 0 + (1 + 0) ≤ _; decide) (hb hbytes d45) (⟨rfl, n1⟩)
  obtain ⟨rfl, q11⟩ := E11
  have hB11 := hB1.mv (X8.warmed.alike.symm.trans X11.warmed.alike) q11
  have c12 : Steps p.tables e below (s₁.setTop (entryFrame m #[.ref a, .ref b, .int (Int32.ofNat o), .int (Int32.ofNat len), .null] 6)) (T11.setTop (mkF m 48 #[.val (.ref a), .val (.ref b), .val (.int (Int32.ofNat o)), .val (.int (Int32.ofNat len)), .val .null, .val (.ref s.heap.size)] [.int 0, .ref a])) := g11
  obtain ⟨T13, X13, p13, bl13, sl13, st13⟩ := X11.finit hexec hown (wk W (.fieldLink "java/lang/String" 15 "java/lang/String" "coder" "B")) (Or.inr ⟨_, (wk W (.laysFinal "java/lang/String" "java/lang/String" "coder" "B"))⟩) (Or.inl ⟨rfl, hnm⟩) f2 (Or.inl rfl) hB11 (t := .byte) (by decide +kernel) rfl (g := (mkF m 48 #[.val (.ref a), .val (.ref b), .val (.int (Int32.ofNat o)), .val (.int (Int32.ofNat len)), .val .null, .val (.ref s.heap.size)] [.int 0, .ref a])) rfl (rest := []) rfl (hb hbytes d48)
  have c14 : Steps p.tables e below (s₁.setTop (entryFrame m #[.ref a, .ref b, .int (Int32.ofNat o), .int (Int32.ofNat len), .null] 6)) (T13.setTop (mkF m 54 #[.val (.ref a), .val (.ref b), .val (.int (Int32.ofNat o)), .val (.int (Int32.ofNat len)), .val .null, .val (.ref s.heap.size)] [.ref s.heap.size, .ref a])) := (c12.trans (st13 _ (Steps.refl _))).trans (by
    refine XS.aloadN X13.here hexec rfl (hb hbytes d51) rfl rfl ?_
    refine XS.aload X13.here hexec rfl (hb hbytes d52) rfl rfl ?_
    exact Steps.refl _)
  obtain ⟨T15, X15, p15, bl15, sl15, st15⟩ := X13.finit hexec hown (wk W (.fieldLink "java/lang/String" 9 "java/lang/String" "value" "[B")) (Or.inr ⟨_, (wk W (.laysFinal "java/lang/String" "java/lang/String" "value" "[B"))⟩) (Or.inl ⟨rfl, hnm⟩) f1 (Or.inl rfl) bl13 (t := (.array .byte)) (by decide +kernel) rfl (g := (mkF m 54 #[.val (.ref a), .val (.ref b), .val (.int (Int32.ofNat o)), .val (.int (Int32.ofNat len)), .val .null, .val (.ref s.heap.size)] [.ref s.heap.size, .ref a])) rfl (rest := []) rfl (hb hbytes d54)
  have c16 : Steps p.tables e below (s₁.setTop (entryFrame m #[.ref a, .ref b, .int (Int32.ofNat o), .int (Int32.ofNat len), .null] 6)) (T15.setTop (mkF m 57 #[.val (.ref a), .val (.ref b), .val (.int (Int32.ofNat o)), .val (.int (Int32.ofNat len)), .val .null, .val (.ref s.heap.size)] [])) := c14.trans (st15 _ (Steps.refl _))
  have ap := apart (Or.inr ⟨_, (wk W (.laysFinal "java/lang/String" "java/lang/String" "value" "[B"))⟩) (Or.inr ⟨_, (wk W (.laysFinal "java/lang/String" "java/lang/String" "coder" "B"))⟩) f1 f2 (t₁ := .array .byte) (t₂ := .byte) (by decide +kernel) (by decide +kernel) (by decide)
  have al := X8.warmed.alike.symm.trans X15.warmed.alike
  have n7 : T11.heap[s.heap.size]? = some N := by rw [q11]; exact n1.1
  exact ⟨T15, none, _, _, _, X15, by simp, rfl, by omega, (fun _ => rfl), ⟨rfl, _, N, bl15, ((Same.refl D _).set _ (by simp)).set _ (by simp), sl15, (Cell.slots_setSlot_ne _ ap).trans sl13, n1.keep al (p15.other hne (p13.other hne n7)), n2, by rw [al.findClass]; exact n3, n4, n5, fun y c h1 h2 => p15.other h1 (p13.other h1 (by rw [q11]; exact n6 y c h2)), by rw [p15.2.2, p13.2.2, q11]; exact z8⟩, fun fs hl => c16.trans (X15.returnOut hexec hret (hb hbytes d57) hl)⟩
end New4
namespace New1
def yN : MethodName := ⟨"java/lang/String", "<init>", "([C)V"⟩
abbrev yB : ByteArray := jdk_42_method_3_code
theorem d0 : decode yB 0 = .ok (.aload_n 0, 1) := by decide +kernel
theorem d1 : decode yB 1 = .ok (.aload_n 1, 1) := by decide +kernel
theorem d2 : decode yB 2 = .ok (.iconst 0, 1) := by decide +kernel
theorem d3 : decode yB 3 = .ok (.aload_n 1, 1) := by decide +kernel
theorem d4 : decode yB 4 = .ok (.arraylength, 1) := by decide +kernel
theorem d5 : decode yB 5 = .ok (.aconst_null, 1) := by decide +kernel
theorem d6 : decode yB 6 = .ok (.invokespecial 27, 3) := by decide +kernel
theorem d9 : decode yB 9 = .ok (.return_, 1) := by decide +kernel
def site : List Cond := [New4.tab] ++ initW "java/lang/String" 27 New4.yN
def tab : Cond := tabOf yN yB 2 none site
def P (a : Addr) (D : Cell) (fV fC : Field) (b : Addr) (A : Cell) (z : Int32) (args : Array Value) (s : State) : Prop := args = #[.ref a, .ref b] ∧ Blank "java/lang/String" a D s ∧ Found "java/lang/String" "value" "[B" fV s ∧ Found "java/lang/String" "coder" "B" fC s ∧ Ch b A s ∧ StaticIs s "java/lang/String" "COMPACT_STRINGS" "Z" (.int z) ∧ ¬ z = 0 ∧ 0 < A.slots.size ∧ A.slots.size ≤ 536870912 ∧ ∀ i, i < A.slots.size → ¬ 255 < cv A i
def E (a : Addr) (D : Cell) (fV fC : Field) (A : Cell) (r : Option Value) (s u : State) : Prop := Got a D fV fC A 0 A.slots.size r s u
/-- new String(chars), not empty, no char above 255: a Latin-1 String of their low bytes -/
theorem law (l : Launch) (a : Addr) (D : Cell) (fV fC : Field) (b : Addr) (A : Cell) (z : Int32) : Law l yN 2 1 3 52 yB 2 none site (P a D fV fC b A z) (E a D fV fC A) [⟨a, fC.slot⟩, ⟨a, fV.slot⟩] 1 A.slots.size := by
  refine Law.of_walk (plainFor_of_name (by decide +kernel)) (by decide +kernel) (by decide +kernel) (by decide) (fun _ _ h => by rw [h.1]; rfl) (fun _ U U' hal hh h => ⟨h.1, h.2.1.mv hal hh, h.2.2.1.al hal, h.2.2.2.1.al hal, h.2.2.2.2.1.mv hal hh, h.2.2.2.2.2.1.there hal hh, h.2.2.2.2.2.2⟩) (fun r U U' V V' h1 hal h2 h => Got.mv r U U' V V' h1 hal h2 h) ?_
  intro p e s m args below meth c s₁ X0 hexec hbytes hml hret hlk hnm hown hh0 W hP
  obtain ⟨rfl, hB, f1, f2, hA, s1, hz, l0, l2, hp⟩ := hP
  have c1 : Steps p.tables e below (s₁.setTop (entryFrame m #[.ref a, .ref b] 2)) (s₁.setTop (mkF m 0 #[.val (.ref a), .val (.ref b)] [])) := entry rfl
  have c2 : Steps p.tables e below (s₁.setTop (entryFrame m #[.ref a, .ref b] 2)) (s₁.setTop (mkF m 6 #[.val (.ref a), .val (.ref b)] [.null, .int (Int32.ofNat A.slots.size), .int 0, .ref b, .ref a])) := c1.trans (by
    refine XS.aloadN X0.here hexec rfl (hb hbytes d0) rfl rfl ?_
    refine XS.aloadN X0.here hexec rfl (hb hbytes d1) rfl rfl ?_
    refine iconstV X0.here hexec rfl 0 (hb hbytes d2) (by decide) ?_
    refine XS.aloadN X0.here hexec rfl (hb hbytes d3) rfl rfl ?_
    refine X0.alen hexec (hA.1.mv X0.warmed.alike hh0) rfl rfl (hb hbytes d4) ?_
    refine XS.aconstNull X0.here hexec rfl (hb hbytes d5) ?_
    exact Steps.refl _)
  obtain ⟨v3, T3, X3, E3, g3⟩ := X0.callN hexec (New4.law l a D fV fC b A z 0 A.slots.size) rfl hown (wks W (initW "java/lang/String" 27 New4.yN)) (W New4.tab (by simp only [site, List.mem_cons, List.mem_append, true_or, or_true])) (W := 0) (Nat.le_of_ble_eq_true rfl) (Nat.le_of_ble_eq_true rfl) (Nat.le_refl _) (by show 0 + A.slots.size ≤ A.slots.size; omega) (g := (mkF m 6 #[.val (.ref a), .val (.ref b)] [.null, .int (Int32.ofNat A.slots.size), .int (Int32.ofNat 0), .ref b, .ref a])) rfl (by rw [hml]; rfl) c2 (argsL := [.ref b, .int (Int32.ofNat 0), .int (Int32.ofNat A.slots.size), .null]) (rest := []) rfl rfl (by show 2 * 0 + 0 ≤ _; decide) (hb hbytes d6) (⟨rfl, hB.mv X0.warmed.alike hh0, f1.al X0.warmed.alike, f2.al X0.warmed.alike, hA.mv X0.warmed.alike hh0, s1.there X0.warmed.alike hh0, hz, l0, by omega, l2, fun i hi => by rw [Nat.zero_add]; exact hp i hi⟩)
  have e0 := Got.mv _ s₁ s _ _ hh0.symm (Vm.Alike.refl _) rfl E3
  obtain rfl := e0.1
  have c4 : Steps p.tables e below (s₁.setTop (entryFrame m #[.ref a, .ref b] 2)) (T3.setTop (mkF m 9 #[.val (.ref a), .val (.ref b)] [])) := g3
  exact ⟨T3, none, _, _, _, X3, by simp, rfl, by omega, (fun _ => rfl), e0, fun fs hl => c4.trans (X3.returnOut hexec hret (hb hbytes d9) hl)⟩
theorem pays {l : Launch} {R : Room} {p : Program} {e : Env} {below : List Frame} {s : State} {sargs : Array Value} {len W : Nat} (a : Addr) (D : Cell) (fV fC : Field) (b : Addr) (A : Cell) (z : Int32) (htab : tab.before sargs s = true) (hfr : 4 ≤ R.frames) (hlo : W + 65 ≤ R.locals) :
    Back l R p e below s sargs yN len W (fun A₁ a₁ => A₁.cells + 1 ≤ R.cells ∧ A₁.slots + A.slots.size ≤ R.slots ∧ P a D fV fC b A z a₁ A₁.U) (fun A₁ _ v₁ B₁ => E a D fV fC A v₁ A₁.U B₁.U ∧ B₁.locs = A₁.locs ++ [⟨a, fC.slot⟩, ⟨a, fV.slot⟩] ∧ B₁.cells = A₁.cells + 1 ∧ B₁.slots = A₁.slots + A.slots.size) :=
  (law l a D fV fC b A z).pays htab hfr (by omega)
end New1
end StrChars
namespace StrChars.Road
open Jvm Sem ClassFile Op Lib Jvm.Stand Jvm.Free Jvm.Free.XT
open Jvm.Lib.Cold (StaticIs)
abbrev ST : String := "java/lang/String"
/-- every table word that New1's law asks, flat -/
abbrev words : List Jvm.Cond := [.code New1.yN New1.yB 2 none, .initialized ST, .methodLink ST 27 New4.yN, .instanceMethod New4.yN,
  .code New4.yN New4.yB 6 none, .fieldLink ST 38 ST "COMPACT_STRINGS" "Z", .laysFinal ST ST "value" "[B", .fieldLink ST 9 ST "value" "[B", .laysFinal ST ST "coder" "B", .fieldLink ST 15 ST "coder" "B",
  .methodLink ST 1 Lib.objectInit, .instanceMethod Lib.objectInit, .code Lib.objectInit ⟨#[0xb1]⟩ 1 none, .methodLink ST 177 Cmp3.yN, .static Cmp3.yN, .methodLink ST 47 CodL.yN, .static CodL.yN,
  .code Cmp3.yN Cmp3.yB 6 (some (.array .byte)), .initialized U16, .arrayClass .byte, .methodLink U16 115 Cmp5.yN, .static Cmp5.yN, .code Cmp5.yN Cmp5.yB 7 (some .int), .code CodL.yN CodL.yB 2 (some .byte)]
theorem tab_of {a : Array Value} {s : State} (h : ∀ w ∈ words, w.before a s = true) : New1.tab.before a s = true := by
  have h5 : Cmp5.tab.before a s = true := unparts (wk h (.code Cmp5.yN Cmp5.yB 7 (some .int))) (wks h (.initialized Cmp5.yN.cls :: Cmp5.site))
  have hc : CodL.tab.before a s = true := unparts (wk h (.code CodL.yN CodL.yB 2 (some .byte))) (wks h (.initialized CodL.yN.cls :: CodL.site))
  have q5 : ∀ w ∈ Cmp5.tab :: words, w.before a s = true := fun w hw => (List.mem_cons.mp hw).elim (fun e => e ▸ h5) (h w)
  have h3 : Cmp3.tab.before a s = true := unparts (wk q5 (.code Cmp3.yN Cmp3.yB 6 (some (.array .byte)))) (wks q5 (.initialized Cmp3.yN.cls :: Cmp3.site))
  have q3 : ∀ w ∈ Cmp3.tab :: CodL.tab :: words, w.before a s = true := fun w hw => (List.mem_cons.mp hw).elim (fun e => e ▸ h3) fun hw => (List.mem_cons.mp hw).elim (fun e => e ▸ hc) (h w)
  have h4 : New4.tab.before a s = true := unparts (wk q3 (.code New4.yN New4.yB 6 none)) (wks q3 (.initialized New4.yN.cls :: New4.site))
  have q4 : ∀ w ∈ New4.tab :: words, w.before a s = true := fun w hw => (List.mem_cons.mp hw).elim (fun e => e ▸ h4) (h w)
  exact unparts (wk q4 (.code New1.yN New1.yB 2 none)) (wks q4 (.initialized New1.yN.cls :: New1.site))
/-- the words ride from the start Z to the walk's own state -/
theorem moved {Z s : State} {a0 args : Array Value} (hZ : Z.Warmed39 s.vm) (hw : ∀ d ∈ words, d.before a0 Z = true) : ∀ d ∈ words, d.before args s = true := fun d hd => by
  have q := hw d hd
  have t : ∀ d ∈ words, d = .arrayClass .byte ∨ (d.onTables && d.keepsFace) = true := by decide +kernel
  rcases t d hd with rfl | t
  · exact RoadKit.mvA hZ q
  · exact RoadKit.mv hZ q t
/-- WHAT COMES BACK, over the tables of the start Z: h the heap at the call, h' behind it -/
def Q (Z : State) (x : Addr) (A : Cell) (h : Heap) (v : Option Value) (h' : Heap) (L : List Loc) : Prop := v = none ∧ (∀ y ∈ L, y.base = x) ∧ RoadKit.Keep h h' [x] ∧ h'.size = h.size + 1 ∧ RoadKit.Exa Z h' x ST ∧ RoadKit.Fld Z h' x ST "value" "[B" (.ref h.size) ∧ RoadKit.Fld Z h' x ST "coder" "B" (.int 0) ∧
  (∃ V : Cell, RoadKit.Arr Z h' h.size V .byte ∧ V.vm = .none ∧ Z.vm.findClass "[B" = some V.cls ∧ V.slots.size = A.slots.size ∧ ∀ j, j < A.slots.size → V.slots[j]? = some (.int (lo8 (cv A j)))) ∧
  ∀ (O n d : String) (w : Value), RoadKit.Fld Z h x O n d w → RoadKit.slotOf Z O n d ≠ RoadKit.slotOf Z ST "value" "[B" → RoadKit.slotOf Z O n d ≠ RoadKit.slotOf Z ST "coder" "B" → RoadKit.Fld Z h' x O n d w
/-- **new String(chars) AT A CALL, IN THE ROAD'S FORM**: for specialBack behind newO: x the fresh String, b the char[] with the cell A -/
theorem back {p : Program} {l : Launch} {e : Env} {R : Room} {s : State} {args : Array Value} {below : List Frame} {len W : Nat} {Z : State} {a0 : Array Value} {h : Heap} (hZ : Z.Warmed39 s.vm) (hw : ∀ d ∈ words, d.before a0 Z = true) {kI : Nat} (wi : (Jvm.Cond.instantiable ST kI).before a0 Z = true)
    {x b : Addr} {A : Cell} {z : Int32} {v0 c0 : Value} (E : RoadKit.Exa Z h x ST) (V : RoadKit.Fld Z h x ST "value" "[B" v0) (C : RoadKit.Fld Z h x ST "coder" "B" c0) (K : RoadKit.Arr Z h b A .char) (hty : Typed .char A) (S : RoadKit.Sta Z h ST "COMPACT_STRINGS" "Z" (.int z)) (hz : ¬ z = 0)
    (l0 : 0 < A.slots.size) (l2 : A.slots.size ≤ 536870912) (hp : ∀ i, i < A.slots.size → ¬ 255 < cv A i) (hfr : 4 ≤ R.frames) (hlo : W + 65 ≤ R.locals) :
    Back l R p e below s args New1.yN len W (fun P a => a = #[.ref x, .ref b] ∧ P.U.heap = h ∧ P.cells + 1 ≤ R.cells ∧ P.slots + A.slots.size ≤ R.slots)
      (fun P _ v B => ∃ L, Q Z x A h v B.U.heap L ∧ B.locs = P.locs ++ L ∧ B.cells = P.cells + 1 ∧ B.slots = P.slots + A.slots.size) := by
  intro m meth c P g ig mk a X hg hsize hdg hW hn hp'
  obtain ⟨rfl, rfl, r1, r2⟩ := hp'
  have al : Z.vm.Alike P.U.vm := hZ.alike.trans X.warmed.alike
  obtain ⟨D, cfV, kV, iV, fV, hD, gV, stV, knV, obV, asV, slV⟩ := id V
  obtain ⟨D', cfC, kC, iC, fC, hD', gC, stC, -, -, asC, slC⟩ := id C
  cases hD.symm.trans hD'
  obtain ⟨D2, kD, e1, e2, e3, e4, e5⟩ := id E
  cases hD.symm.trans e1
  obtain ⟨c2, k2, i1, i2, i3, -⟩ := Cond.instantiable_spec wi
  cases e2.symm.trans i1
  cases e3.symm.trans i2
  obtain ⟨kU, u1, u2⟩ := al.2.2 _ _ e3
  have hB : Blank ST x D P.U := ⟨hD, ⟨knV, fun q hq => by rw [hq] at obV; cases obV⟩, by rw [al.findClass]; exact e2, kU, u1, by rw [u2]; exact i3, by rw [u2]; exact e5 i3⟩
  have F1 : Found ST "value" "[B" fV P.U := ⟨SBG.found_only al ⟨cfV, kV, iV, gV⟩, stV⟩
  have F2 : Found ST "coder" "B" fC P.U := ⟨SBG.found_only al ⟨cfC, kC, iC, gC⟩, stC⟩
  have hA : Ch b A P.U := ⟨⟨K.1, State.isArrayOf_alike al K.2.1, K.2.2, by omega⟩, hty⟩
  have hS : StaticIs P.U ST "COMPACT_STRINGS" "Z" (.int z) := by
    obtain ⟨cfS, iS, kS, fS, st, cS, t1, t2, t3, t4, t5, t6, t7⟩ := S
    exact StaticIs.there (s := { Z with heap := P.U.heap }) ⟨cfS, iS, kS, fS, st, cS, t1, t2, t3, t4, t5, (fun q => by rw [q] at t6; cases t6), t7⟩ al rfl
  obtain ⟨v, B, X', ⟨⟨hv, E', V', q1, q2, q3, q4, q5, q6, q7, q8, q9, q10, q11⟩, hl, hc, hs⟩, st⟩ := New1.pays x D fV fC b A z (tab_of (moved hZ hw)) hfr hlo m meth c P g ig mk _ X hg hsize hdg hW hn ⟨r1, r2, rfl, hB, F1, F2, hA, hS, hz, l0, l2, hp⟩
  have al' : Z.vm.Alike B.U.vm := hZ.alike.trans X'.warmed.alike
  have hsz : E'.slots.size = D.slots.size := by
    obtain ⟨-, -, -, kB, w1, w2, w3⟩ := q1
    obtain ⟨kB', y1, y2⟩ := al'.2.2 _ _ e3
    rw [q2.2.1] at w1
    cases w1.symm.trans y1
    rw [w3, e5 i3, y2]
  refine ⟨v, B, X', ⟨_, ⟨hv, ?_, ⟨by omega, fun y cy hy hn' => q10 y cy (by simpa using hn') hy, fun y cy hy => ?_⟩, q11, ⟨E', _, q1.1, by rw [q2.2.1]; exact e2, by rw [q2.2.1]; exact e3, by rw [q2.1]; exact obV, fun _ => by rw [hsz]; exact e5 i3⟩,
    ⟨E', cfV, kV, iV, fV, q1.1, gV, stV, by rw [q2.1]; exact knV, by rw [q2.1]; exact obV, by rw [q2.2.1]; exact asV, q3⟩, ⟨E', cfC, kC, iC, fC, q1.1, gC, stC, by rw [q2.1]; exact knV, by rw [q2.1]; exact obV, by rw [q2.2.1]; exact asC, q4⟩,
    ⟨V', ⟨q5.1, State.isArrayOf_alike al'.symm q5.2.1, q5.2.2.1⟩, q6, by rw [← al'.findClass]; exact q7, q8, fun j hj => by have := q9 j hj; rwa [Nat.zero_add] at this⟩, fun O n d w F n1 n2 => ?_⟩, hl, hc, hs⟩, st⟩
  · intro y hy
    simp only [List.mem_cons, List.not_mem_nil, or_false] at hy
    rcases hy with rfl | rfl <;> rfl
  · by_cases q : y = x
    · subst q
      cases hD.symm.trans hy
      exact ⟨E', q1.1, q2.2.1, q2.1, hsz⟩
    · exact ⟨cy, q10 y cy q hy, rfl, rfl, rfl⟩
  · obtain ⟨D3, cf, k, i, f, g1, g2, g3, g4, g5, g6, g7⟩ := F
    cases hD.symm.trans g1
    simp only [RoadKit.slotOf, g2, gV, gC, Option.map_some, Option.getD_some] at n1 n2
    exact ⟨E', cf, k, i, f, q1.1, g2, g3, by rw [q2.1]; exact g4, by rw [q2.1]; exact g5, by rw [q2.2.1]; exact g6, by rw [q2.2.2 f.slot (by simp [n1, n2])]; exact g7⟩
end StrChars.Road
namespace StrChars.Road
open Jvm Sem ClassFile Op Lib Jvm.Stand Jvm.Free Jvm.Free.XT
/-- WHAT COMES BACK, the byte[] as a list of values -/
def QA (Z : State) (x : Addr) (zn : Int32) (cs : List Int32) (h : Heap) (v : Option Value) (h' : Heap) (L : List Loc) : Prop := v = none ∧ (∀ y ∈ L, y.base = x) ∧ RoadKit.Keep h h' [x] ∧ h'.size = h.size + 1 ∧ RoadKit.Exa Z h' x ST ∧ RoadKit.Fld Z h' x ST "value" "[B" (.ref h.size) ∧ RoadKit.Fld Z h' x ST "coder" "B" (.int 0) ∧
  (∃ kb, Z.vm.findClass "[B" = some kb ∧ RoadKit.Arv Z h' h.size kb .byte zn (cs.map fun c => .int (lo8 c)) (.int 0)) ∧
  ∀ (O n d : String) (w : Value), RoadKit.Fld Z h x O n d w → RoadKit.slotOf Z O n d ≠ RoadKit.slotOf Z ST "value" "[B" → RoadKit.slotOf Z O n d ≠ RoadKit.slotOf Z ST "coder" "B" → RoadKit.Fld Z h' x O n d w
/-- **new String(chars) AT A CALL, THE ARRAYS AS LISTS**: the char[] at b holds cs, not empty, no char above 255 -/
theorem backArv {p : Program} {l : Launch} {e : Env} {R : Room} {s : State} {args : Array Value} {below : List Frame} {len W : Nat} {Z : State} {a0 : Array Value} {h : Heap} (hZ : Z.Warmed39 s.vm) (hw : ∀ d ∈ words, d.before a0 Z = true) {kI : Nat} (wi : (Jvm.Cond.instantiable ST kI).before a0 Z = true)
    {x b : Addr} {k : ClassId} {zn z : Int32} {cs : List Int32} {dv v0 c0 : Value} (E : RoadKit.Exa Z h x ST) (V : RoadKit.Fld Z h x ST "value" "[B" v0) (C : RoadKit.Fld Z h x ST "coder" "B" c0) (K : RoadKit.Arv Z h b k .char zn (cs.map Value.int) dv) (S : RoadKit.Sta Z h ST "COMPACT_STRINGS" "Z" (.int z)) (hz : ¬ z = 0)
    (hlen : zn.toNatClampNeg = cs.length) (h0 : 0 < cs.length) (hbig : cs.length ≤ 536870912) (hall : ∀ c ∈ cs, ¬ 255 < c) (hfr : 4 ≤ R.frames) (hlo : W + 65 ≤ R.locals) :
    Back l R p e below s args New1.yN len W (fun P a => a = #[.ref x, .ref b] ∧ P.U.heap = h ∧ P.cells + 1 ≤ R.cells ∧ P.slots + cs.length ≤ R.slots)
      (fun P _ v B => ∃ L, QA Z x zn cs h v B.U.heap L ∧ B.locs = P.locs ++ L ∧ B.cells = P.cells + 1 ∧ B.slots = P.slots + cs.length) := by
  obtain ⟨A, K1, K2, K3, K4, K5, K6⟩ := K
  have e : A.slots.size = cs.length := K3.trans hlen
  have hat : ∀ (i : Nat) (hi : i < cs.length), A.slots[i]? = some (.int cs[i]) := fun i hi => by rw [K5 i (by omega)]; simp [List.getD_eq_getElem?_getD, hi]
  have hcv : ∀ (i : Nat) (hi : i < cs.length), cv A i = cs[i] := fun i hi => by unfold cv; rw [hat i hi]
  have hty : Typed .char A := fun i v hv => by
    have hi : i < A.slots.size := (Array.getElem?_eq_some_iff.mp hv).1
    have q := K5 i hi
    rw [hv] at q
    rw [Option.some.inj q]
    exact K6 i hi
  refine Back.mono (back hZ hw wi E V C K1 hty S hz (by omega) (by omega) (fun i hi => by rw [hcv i (by omega)]; exact hall _ (List.getElem_mem _)) hfr hlo) (fun P a hp => ⟨hp.1, hp.2.1, hp.2.2.1, by rw [e]; exact hp.2.2.2⟩) (fun P a v B hp hq => ?_)
  obtain ⟨L, ⟨q1, q2, q3, q4, q5, q6, q7, ⟨V', v1, v2, v3, v4, v5⟩, q9⟩, hl, hc, hs⟩ := hq
  refine ⟨L, ⟨q1, q2, q3, q4, q5, q6, q7, ⟨V'.cls, v3, V', v1, rfl, by rw [v4, e, hlen], K4, fun i hi => ?_, fun i hi => ?_⟩, q9⟩, hl, hc, by rw [hs, e]⟩
  · have hi' : i < cs.length := by omega
    rw [v5 i (by omega), hcv i hi']; simp [List.getD_eq_getElem?_getD, hi']
  · have hi' : i < cs.length := by omega
    simp only [List.getD_eq_getElem?_getD, List.getElem?_map, List.getElem?_eq_getElem hi', Option.map_some, Option.getD_some]
    exact fits_lo8 _
end StrChars.Road
namespace StrChars.Road
open Jvm Sem ClassFile Op Lib Jvm.Stand Jvm.Free Jvm.Free.XT
/-- WHAT COMES BACK, in the writer's own shape -/
def QV (Z : State) (x : Addr) (N : Int32) (bs : List Int32) (h : Heap) (n0 : Nat) (v : Option Value) (h' : Heap) (L : List Loc) : Prop := v = none ∧ RoadKit.Fr n0 L ∧ RoadKit.Keep h h' [x] ∧ RoadKit.Exa Z h' x ST ∧ RoadKit.Fld Z h' x ST "coder" "B" (.int 0) ∧
  ∃ (t : Addr) (kb : ClassId), n0 ≤ t ∧ h.size ≤ t ∧ ¬ t = x ∧ RoadKit.Fld Z h' x ST "value" "[B" (.ref t) ∧ RoadKit.Arv Z h' t kb .byte N (bs.map Value.int) (.int 0)
/-- **new String(chars) AT A CALL, FOR THE WRITER**: a char[] of n known ints, each 0 to 255 -/
theorem backV {p : Program} {l : Launch} {e : Env} {R : Room} {s : State} {args : Array Value} {below : List Frame} {len W : Nat} {Z : State} {a0 : Array Value} {h : Heap} (hZ : Z.Warmed39 s.vm) (hw : ∀ d ∈ words, d.before a0 Z = true) {kI : Nat} (wi : (Jvm.Cond.instantiable ST kI).before a0 Z = true)
    {x b : Addr} {kC : ClassId} {cs bs : List Int32} {d v0 c0 : Value} {z N : Int32} {n n0 : Nat} (hx0 : n0 ≤ x) (hh0 : n0 ≤ h.size) (E : RoadKit.Exa Z h x ST) (V : RoadKit.Fld Z h x ST "value" "[B" v0) (C : RoadKit.Fld Z h x ST "coder" "B" c0) (K : RoadKit.Arv Z h b kC .char N (cs.map Value.int) d) (S : RoadKit.Sta Z h ST "COMPACT_STRINGS" "Z" (.int z)) (hz : ¬ z = 0)
    (hn : cs.length = n) (hN : N = Int32.ofNat n) (l0 : 0 < n) (l2 : n ≤ 4000) (hp : ∀ c ∈ cs, ¬ c < 0 ∧ ¬ (255 : Int32) < c) (hb : bs = cs.map (fun c => c.toInt8.toInt32)) (hfr : 4 ≤ R.frames) (hlo : W + 65 ≤ R.locals) :
    Back l R p e below s args (⟨"java/lang/String", "<init>", "([C)V"⟩ : MethodName) len W (fun P a => a = #[.ref x, .ref b] ∧ P.U.heap = h ∧ P.cells + 1 ≤ R.cells ∧ P.slots + n ≤ R.slots)
      (fun P _ v B => ∃ L, QV Z x N bs h n0 v B.U.heap L ∧ B.locs = P.locs ++ L ∧ B.cells = P.cells + 1 ∧ B.slots = P.slots + n) := by
  subst hn hN hb
  refine Back.mono (backArv hZ hw wi E V C K S hz (n32 (by omega)) l0 (by omega) (fun c hc => (hp c hc).2) hfr hlo) (fun P a hp => hp) (fun P a v B hp hq => ?_)
  obtain ⟨L, ⟨q1, q2, q3, q4, q5, q6, q7, ⟨kb, v1, v2⟩, q9⟩, hl, hc, hs⟩ := hq
  exact ⟨L, ⟨q1, fun y hy => by rw [q2 y hy]; exact hx0, q3, q5, q7, h.size, kb, hh0, Nat.le_refl _, Nat.ne_of_gt E.lt, q6, by rw [List.map_map]; exact v2⟩, hl, hc, hs⟩
end StrChars.Road
end Jvm.Pilot.@@N@@
namespace Jvm.Pilot.@@N@@
open Jvm Jvm.ClassFile Sem Op Lib Jvm.Free Jvm.Stand Jvm.LawKit Jvm.RoadKit Bundle Jvm.Pilot.@@N@@.Jvm.D
def own_Done (p : Program) (e : Env) (below : List Frame) (P : Outcome → State → Prop) (S : State) : Prop := ∃ s₂ o, Steps p.tables e below S s₂ ∧ s₂.status = .running ∧ Ended s₂ below o ∧ P o s₂
section Own
variable {p : Program} {e : Env} {below : List Frame} {P : Outcome → State → Prop} {S S' : State}
theorem own_open (d : own_Done p e below P S) : ∃ s₂ o, Steps p.tables e below S s₂ ∧ s₂.status = .running ∧ Ended s₂ below o ∧ P o s₂ := d
theorem own_via (k : ∀ t, Steps p.tables e below S' t → Steps p.tables e below S t) (d : own_Done p e below P S') : own_Done p e below P S := by
  obtain ⟨s₂, o, h1, h2⟩ := d
  exact ⟨s₂, o, k _ h1, h2⟩
theorem own_tr (k : Steps p.tables e below S S') (d : own_Done p e below P S') : own_Done p e below P S := own_via (fun _ h => k.trans h) d
theorem own_ret {l : Launch} {R : Room} {s : State} {m : MethodId} {args : Array Value} {meth : Method} {c : Code} {T : State} {locs : List Loc} {cells slots : Nat} {Q : Option Value → Heap → List Loc → Prop} {C N : Nat} (X : Stand p l e R s m args below meth c T locs cells slots) {v : Option Value} (hv : meth.sig.returnType = none → v = none) (hlocks : meth.locks = false) (hq : Q v T.heap locs) (hc : cells ≤ C) (hs : slots ≤ N)
    (k : ∀ fs, (∀ (f : JFrame) (acts : List Action), f.method = m → f.locked = none → f.entered = [] → (doReturn e (T.setTop f) acts v).1 = T.setFrames fs) → Steps p.tables e below S (T.setFrames fs)) :
    own_Done p e below (fun o U' => ∃ v L, o = .returned v ∧ Q v U'.heap L ∧ FrameEnd s o U' L C N) S := by
  obtain ⟨fs, hr, hrun, hended, hW, hsame⟩ := X.leave hv hlocks
  exact ⟨_, _, k fs hr, hrun, hended, v, locs, rfl, hq, ⟨_, rfl⟩, hW, hsame.mono hc hs⟩
theorem own_nface {args : Array Value} {s : State} {C : String} {y z : MethodName} (hsel : (Cond.selects C y y).before args s = true) (e : z.cls = y.cls) : NotFace s z := fun r0 h0 => by
  obtain ⟨c2, r2, m2, q1, q2, q3, q4, kP, hkP, hkPi⟩ := Cond.selects_spec hsel
  have e1 := findClass_of_methodNamed h0
  have e2 := findClass_of_methodNamed q3
  rw [e] at e1
  have e3 : r0.cls = m2.cls := Option.some.inj (e1.symm.trans e2)
  exact ⟨kP, by rw [e3]; exact hkP, hkPi⟩
theorem own_sameM {args : Array Value} {s : State} {y : MethodName} (h1 : (Cond.instanceMethod y).before args s = true) (hnf : NotFace s y) (hy : y.cls ≠ "java/lang/invoke/MethodHandle" ∧ y.cls ≠ "java/lang/invoke/VarHandle") : (Cond.sameMethod y.cls y.cls y.name y.desc).before args s = true := by
  obtain ⟨mk, meth, hn, hm, -, -⟩ := Cond.instanceMethod_spec h1
  have e1 := findClass_of_methodNamed hn
  have e2 := State.methodFound?_of_named hn hy
  obtain ⟨k, hk, hi⟩ := hnf _ hn
  have e3 : s.methodNamed? ⟨y.cls, y.name, y.desc⟩ = some mk := hn
  simp [Cond.before, Cond.holds, Cond.value, e1, e2, e3, hk, hi]
theorem own_declares {args : Array Value} {s : State} {y : MethodName} {bytes : ByteArray} {maxL : Nat} {ret : Option FieldType} (h1 : (Cond.instanceMethod y).before args s = true) (h2 : (Cond.code y bytes maxL ret).before args s = true) : (Cond.declares y).before args s = true := by
  obtain ⟨mk, meth, hn, hm, hst, -⟩ := Cond.instanceMethod_spec h1
  obtain ⟨meth', c, hm', -, -, -, -, -, -, hsig⟩ := Cond.code_spec hn h2
  cases hm.symm.trans hm'
  simp [Cond.before, Cond.holds, Cond.value, hn, hm, hst, hsig]
theorem own_ltA {a : Addr} {n : Nat} (h : n > a) : a < n := h
theorem own_shr0 (x : Int32) : x >>> ((0 : Int32) &&& 31) = x := by rw [show ((0 : Int32) &&& 31) = 0 from by decide]; simp
theorem own_shl0 (x : Int32) : x <<< ((0 : Int32) &&& 31) = x := by rw [show ((0 : Int32) &&& 31) = 0 from by decide]; simp
theorem own_sub0 (x : Int32) : x - (0 : Int32) = x := by simp
abbrev own_cp (vd vs : List Value) (dp sp nn : Int32) : List Value := vd.take dp.toNatClampNeg ++ ((List.range nn.toNatClampNeg).map fun i => vs.getD (sp.toNatClampNeg + i) (.int (0 : Int32))) ++ vd.drop (dp.toNatClampNeg + nn.toNatClampNeg)
theorem own_inst {Z : State} {h : Heap} {a : Addr} {C own K : String} {idx : Nat} {a0 : Array Value} {d : ClassId} (E : Exa Z h a C) (w : (Cond.classLink own idx K).before a0 Z = true) (hd : Z.vm.findClass own = some d) : Ins Z h a K true ∨ ∃ c t, Z.vm.findClass C = some c ∧ Z.vm.findClass K = some t ∧ Z.vm.assignable c t = false := by
  obtain ⟨cell, k, h1, h2, h3, h4, h5⟩ := E
  obtain ⟨cT, hT, -⟩ := Cond.classLink_spec hd w {} rfl
  cases hb : Z.vm.assignable cell.cls cT
  · exact Or.inr ⟨cell.cls, cT, h2, hT, hb⟩
  · exact Or.inl ⟨cell, cT, h1, hT, by simp [h4, hb]⟩
end Own
abbrev mt0 : MethodName := (⟨"java/lang/String", "<init>", "([CIILjava/lang/Void;)V"⟩ : MethodName)
theorem pn_java_lang_String : plainName "java/lang/String" = true := by first | (simp [plainName, overriddenIn]; done) | decide +kernel
theorem ef_own_new4e (m : MethodId) (x0 : Addr) (x1 : Addr) (x2 : Int32) (x3 : Int32) : entryFrame m #[(.ref x0), (.ref x1), (.int x2), (.int x3), .null] 6 = mkF m 0 #[.val (.ref x0), .val (.ref x1), .val (.int x2), .val (.int x3), .val .null, .unset] [] := by first | (simp [entryFrame, mkF, argsToLocals, Value.category]; done) | rfl
theorem d3_0 : decode jdk_42_method_149_code 0 = .ok (.aload_n 0, 1) := by decide +kernel
theorem d3_1 : decode jdk_42_method_149_code 1 = .ok (.invokespecial 1, 3) := by decide +kernel
theorem wd17 {Z : State} {a0 : Array Value} (hw : ∀ d ∈ tables_1, d.before a0 Z = true) : ((Jvm.Cond.methodLink "java/lang/String" (1 : Nat) ({ cls := "java/lang/Object", name := "<init>", desc := "()V" } : Jvm.MethodName)) : Jvm.Cond).before a0 Z = true := hw _ (List.mem_of_getElem? (i := 17) rfl)
theorem wd18 {Z : State} {a0 : Array Value} (hw : ∀ d ∈ tables_1, d.before a0 Z = true) : ((Jvm.Cond.instanceMethod ({ cls := "java/lang/Object", name := "<init>", desc := "()V" } : Jvm.MethodName)) : Jvm.Cond).before a0 Z = true := hw _ (List.mem_of_getElem? (i := 18) rfl)
theorem wd19 {Z : State} {a0 : Array Value} (hw : ∀ d ∈ tables_1, d.before a0 Z = true) : ((Jvm.Cond.code ({ cls := "java/lang/Object", name := "<init>", desc := "()V" } : Jvm.MethodName) object_method_1_code (1 : Nat) (Option.none : Option Jvm.ClassFile.FieldType)) : Jvm.Cond).before a0 Z = true := hw _ (List.mem_of_getElem? (i := 19) rfl)
theorem d3_4 : decode jdk_42_method_149_code 4 = .ok (.iload_n 3, 1) := by decide +kernel
theorem d3_5 : decode jdk_42_method_149_code 5 = .ok (.ifCond .ne 22, 3) := by decide +kernel
theorem d3_8 : decode jdk_42_method_149_code 8 = .ok (.aload_n 0, 1) := by decide +kernel
theorem d3_9 : decode jdk_42_method_149_code 9 = .ok (.ldc 7, 2) := by decide +kernel
theorem wd20 {Z : State} {a0 : Array Value} (hw : ∀ d ∈ tables_1, d.before a0 Z = true) : ((Jvm.Cond.stringLink "java/lang/String" (7 : Nat) "") : Jvm.Cond).before a0 Z = true := hw _ (List.mem_of_getElem? (i := 20) rfl)
theorem d3_11 : decode jdk_42_method_149_code 11 = .ok (.getfield 9, 3) := by decide +kernel
theorem wd26 {Z : State} {a0 : Array Value} (hw : ∀ d ∈ tables_1, d.before a0 Z = true) : ((Jvm.Cond.fieldLink "java/lang/String" (9 : Nat) "java/lang/String" "value" "[B") : Jvm.Cond).before a0 Z = true := hw _ (List.mem_of_getElem? (i := 26) rfl)
theorem d3_14 : decode jdk_42_method_149_code 14 = .ok (.putfield 9, 3) := by decide +kernel
theorem wd8 {Z : State} {a0 : Array Value} (hw : ∀ d ∈ tables_1, d.before a0 Z = true) : ((Jvm.Cond.instantiable "java/lang/String" (4 : Nat)) : Jvm.Cond).before a0 Z = true := hw _ (List.mem_of_getElem? (i := 8) rfl)
theorem wd22 {Z : State} {a0 : Array Value} (hw : ∀ d ∈ tables_1, d.before a0 Z = true) : ((Jvm.Cond.laysFinal "java/lang/String" "java/lang/String" "value" "[B") : Jvm.Cond).before a0 Z = true := hw _ (List.mem_of_getElem? (i := 22) rfl)
theorem d3_17 : decode jdk_42_method_149_code 17 = .ok (.aload_n 0, 1) := by decide +kernel
theorem d3_18 : decode jdk_42_method_149_code 18 = .ok (.ldc 7, 2) := by decide +kernel
theorem d3_20 : decode jdk_42_method_149_code 20 = .ok (.getfield 15, 3) := by decide +kernel
theorem wd27 {Z : State} {a0 : Array Value} (hw : ∀ d ∈ tables_1, d.before a0 Z = true) : ((Jvm.Cond.fieldLink "java/lang/String" (15 : Nat) "java/lang/String" "coder" "B") : Jvm.Cond).before a0 Z = true := hw _ (List.mem_of_getElem? (i := 27) rfl)
theorem d3_23 : decode jdk_42_method_149_code 23 = .ok (.putfield 15, 3) := by decide +kernel
theorem wd23 {Z : State} {a0 : Array Value} (hw : ∀ d ∈ tables_1, d.before a0 Z = true) : ((Jvm.Cond.laysFinal "java/lang/String" "java/lang/String" "coder" "B") : Jvm.Cond).before a0 Z = true := hw _ (List.mem_of_getElem? (i := 23) rfl)
theorem d3_26 : decode jdk_42_method_149_code 26 = .ok (.return_, 1) := by decide +kernel
abbrev mt1 : MethodName := (⟨"java/lang/String", "<init>", "([C)V"⟩ : MethodName)
theorem ef_own_new1e (m : MethodId) (x0 : Addr) (x1 : Addr) : entryFrame m #[(.ref x0), (.ref x1)] 2 = mkF m 0 #[.val (.ref x0), .val (.ref x1)] [] := by first | (simp [entryFrame, mkF, argsToLocals, Value.category]; done) | rfl
theorem d2_0 : decode jdk_42_method_3_code 0 = .ok (.aload_n 0, 1) := by decide +kernel
theorem d2_1 : decode jdk_42_method_3_code 1 = .ok (.aload_n 1, 1) := by decide +kernel
theorem d2_2 : decode jdk_42_method_3_code 2 = .ok (.iconst 0, 1) := by decide +kernel
theorem d2_3 : decode jdk_42_method_3_code 3 = .ok (.aload_n 1, 1) := by decide +kernel
theorem d2_4 : decode jdk_42_method_3_code 4 = .ok (.arraylength, 1) := by decide +kernel
theorem d2_5 : decode jdk_42_method_3_code 5 = .ok (.aconst_null, 1) := by decide +kernel
theorem d2_6 : decode jdk_42_method_3_code 6 = .ok (.invokespecial 27, 3) := by decide +kernel
theorem wd13 {Z : State} {a0 : Array Value} (hw : ∀ d ∈ tables_1, d.before a0 Z = true) : ((Jvm.Cond.methodLink "java/lang/String" (27 : Nat) ({ cls := "java/lang/String", name := "<init>", desc := "([CIILjava/lang/Void;)V" } : Jvm.MethodName)) : Jvm.Cond).before a0 Z = true := hw _ (List.mem_of_getElem? (i := 13) rfl)
theorem wd16 {Z : State} {a0 : Array Value} (hw : ∀ d ∈ tables_1, d.before a0 Z = true) : ((Jvm.Cond.code ({ cls := "java/lang/String", name := "<init>", desc := "([CIILjava/lang/Void;)V" } : Jvm.MethodName) jdk_42_method_149_code (6 : Nat) (Option.none : Option Jvm.ClassFile.FieldType)) : Jvm.Cond).before a0 Z = true := hw _ (List.mem_of_getElem? (i := 16) rfl)
theorem wd9 {Z : State} {a0 : Array Value} (hw : ∀ d ∈ tables_1, d.before a0 Z = true) : ((Jvm.Cond.initialized "java/lang/String") : Jvm.Cond).before a0 Z = true := hw _ (List.mem_of_getElem? (i := 9) rfl)
theorem pd___CIILjava_lang_Void__V_1938 : parseMethodDescriptor "([CIILjava/lang/Void;)V" = some ⟨[(.array .char), .int, .int, (.object "java/lang/Void")], none⟩ := by decide +kernel
theorem wd14 {Z : State} {a0 : Array Value} (hw : ∀ d ∈ tables_1, d.before a0 Z = true) : ((Jvm.Cond.instanceMethod ({ cls := "java/lang/String", name := "<init>", desc := "([CIILjava/lang/Void;)V" } : Jvm.MethodName)) : Jvm.Cond).before a0 Z = true := hw _ (List.mem_of_getElem? (i := 14) rfl)
theorem d2_9 : decode jdk_42_method_3_code 9 = .ok (.return_, 1) := by decide +kernel
abbrev mt2 : MethodName := (⟨"java/lang/StringUTF16", "putChar", "([BII)V"⟩ : MethodName)
theorem pn_java_lang_StringUTF16 : plainName "java/lang/StringUTF16" = true := by first | (simp [plainName, overriddenIn]; done) | decide +kernel
theorem ef_own_put (m : MethodId) (x0 : Addr) (x1 : Int32) (x2 : Int32) : entryFrame m #[(.ref x0), (.int x1), (.int x2)] 3 = mkF m 0 #[.val (.ref x0), .val (.int x1), .val (.int x2)] [] := by first | (simp [entryFrame, mkF, argsToLocals, Value.category]; done) | rfl
theorem d27_0 : decode jdk_52_method_4_code 0 = .ok (.getstatic 44, 3) := by decide +kernel
theorem wd117 {Z : State} {a0 : Array Value} (hw : ∀ d ∈ tables_1, d.before a0 Z = true) : ((Jvm.Cond.fieldLink "java/lang/StringUTF16" (44 : Nat) "java/lang/StringUTF16" "$assertionsDisabled" "Z") : Jvm.Cond).before a0 Z = true := hw _ (List.mem_of_getElem? (i := 117) rfl)
theorem d27_3 : decode jdk_52_method_4_code 3 = .ok (.ifCond .ne 25, 3) := by decide +kernel
theorem d27_28 : decode jdk_52_method_4_code 28 = .ok (.iload_n 1, 1) := by decide +kernel
theorem d27_29 : decode jdk_52_method_4_code 29 = .ok (.iconst 1, 1) := by decide +kernel
theorem d27_30 : decode jdk_52_method_4_code 30 = .ok (.ishl, 1) := by decide +kernel
theorem d27_31 : decode jdk_52_method_4_code 31 = .ok (.istore_n 1, 1) := by decide +kernel
theorem d27_32 : decode jdk_52_method_4_code 32 = .ok (.aload_n 0, 1) := by decide +kernel
theorem d27_33 : decode jdk_52_method_4_code 33 = .ok (.iload_n 1, 1) := by decide +kernel
theorem d27_34 : decode jdk_52_method_4_code 34 = .ok (.iinc 1 1, 3) := by decide +kernel
theorem d27_37 : decode jdk_52_method_4_code 37 = .ok (.iload_n 2, 1) := by decide +kernel
theorem d27_38 : decode jdk_52_method_4_code 38 = .ok (.getstatic 59, 3) := by decide +kernel
theorem wd118 {Z : State} {a0 : Array Value} (hw : ∀ d ∈ tables_1, d.before a0 Z = true) : ((Jvm.Cond.fieldLink "java/lang/StringUTF16" (59 : Nat) "java/lang/StringUTF16" "HI_BYTE_SHIFT" "I") : Jvm.Cond).before a0 Z = true := hw _ (List.mem_of_getElem? (i := 118) rfl)
theorem d27_41 : decode jdk_52_method_4_code 41 = .ok (.ishr, 1) := by decide +kernel
theorem d27_42 : decode jdk_52_method_4_code 42 = .ok (.i2b, 1) := by decide +kernel
theorem d27_43 : decode jdk_52_method_4_code 43 = .ok (.bastore, 1) := by decide +kernel
theorem d27_44 : decode jdk_52_method_4_code 44 = .ok (.aload_n 0, 1) := by decide +kernel
theorem d27_45 : decode jdk_52_method_4_code 45 = .ok (.iload_n 1, 1) := by decide +kernel
theorem d27_46 : decode jdk_52_method_4_code 46 = .ok (.iload_n 2, 1) := by decide +kernel
theorem d27_47 : decode jdk_52_method_4_code 47 = .ok (.getstatic 63, 3) := by decide +kernel
theorem wd119 {Z : State} {a0 : Array Value} (hw : ∀ d ∈ tables_1, d.before a0 Z = true) : ((Jvm.Cond.fieldLink "java/lang/StringUTF16" (63 : Nat) "java/lang/StringUTF16" "LO_BYTE_SHIFT" "I") : Jvm.Cond).before a0 Z = true := hw _ (List.mem_of_getElem? (i := 119) rfl)
theorem d27_50 : decode jdk_52_method_4_code 50 = .ok (.ishr, 1) := by decide +kernel
theorem d27_51 : decode jdk_52_method_4_code 51 = .ok (.i2b, 1) := by decide +kernel
theorem d27_52 : decode jdk_52_method_4_code 52 = .ok (.bastore, 1) := by decide +kernel
theorem d27_53 : decode jdk_52_method_4_code 53 = .ok (.return_, 1) := by decide +kernel
abbrev mt3 : MethodName := (⟨"java/lang/StringUTF16", "getChar", "([BI)C"⟩ : MethodName)
theorem ef_own_gc (m : MethodId) (x0 : Addr) (x1 : Int32) : entryFrame m #[(.ref x0), (.int x1)] 2 = mkF m 0 #[.val (.ref x0), .val (.int x1)] [] := by first | (simp [entryFrame, mkF, argsToLocals, Value.category]; done) | rfl
theorem d28_0 : decode jdk_52_method_5_code 0 = .ok (.getstatic 44, 3) := by decide +kernel
theorem d28_3 : decode jdk_52_method_5_code 3 = .ok (.ifCond .ne 25, 3) := by decide +kernel
theorem d28_28 : decode jdk_52_method_5_code 28 = .ok (.iload_n 1, 1) := by decide +kernel
theorem d28_29 : decode jdk_52_method_5_code 29 = .ok (.iconst 1, 1) := by decide +kernel
theorem d28_30 : decode jdk_52_method_5_code 30 = .ok (.ishl, 1) := by decide +kernel
theorem d28_31 : decode jdk_52_method_5_code 31 = .ok (.istore_n 1, 1) := by decide +kernel
theorem d28_32 : decode jdk_52_method_5_code 32 = .ok (.aload_n 0, 1) := by decide +kernel
theorem d28_33 : decode jdk_52_method_5_code 33 = .ok (.iload_n 1, 1) := by decide +kernel
theorem d28_34 : decode jdk_52_method_5_code 34 = .ok (.iinc 1 1, 3) := by decide +kernel
theorem d28_37 : decode jdk_52_method_5_code 37 = .ok (.baload, 1) := by decide +kernel
theorem d28_38 : decode jdk_52_method_5_code 38 = .ok (.sipush 255, 3) := by decide +kernel
theorem d28_41 : decode jdk_52_method_5_code 41 = .ok (.iand, 1) := by decide +kernel
theorem d28_42 : decode jdk_52_method_5_code 42 = .ok (.getstatic 59, 3) := by decide +kernel
theorem d28_45 : decode jdk_52_method_5_code 45 = .ok (.ishl, 1) := by decide +kernel
theorem d28_46 : decode jdk_52_method_5_code 46 = .ok (.aload_n 0, 1) := by decide +kernel
theorem d28_47 : decode jdk_52_method_5_code 47 = .ok (.iload_n 1, 1) := by decide +kernel
theorem d28_48 : decode jdk_52_method_5_code 48 = .ok (.baload, 1) := by decide +kernel
theorem d28_49 : decode jdk_52_method_5_code 49 = .ok (.sipush 255, 3) := by decide +kernel
theorem d28_52 : decode jdk_52_method_5_code 52 = .ok (.iand, 1) := by decide +kernel
theorem d28_53 : decode jdk_52_method_5_code 53 = .ok (.getstatic 63, 3) := by decide +kernel
theorem d28_56 : decode jdk_52_method_5_code 56 = .ok (.ishl, 1) := by decide +kernel
theorem d28_57 : decode jdk_52_method_5_code 57 = .ok (.ior, 1) := by decide +kernel
theorem d28_58 : decode jdk_52_method_5_code 58 = .ok (.i2c, 1) := by decide +kernel
theorem d28_59 : decode jdk_52_method_5_code 59 = .ok (.ireturn, 1) := by decide +kernel
abbrev own_L0 (x0 : Int32) : List Value := [(.int (nar .byte (x0.toInt8.toInt32))), (.int (nar .byte ((x0 >>> ((8 : Int32) &&& 31)).toInt8.toInt32)))]
abbrev mt4 : MethodName := (⟨"java/lang/StringUTF16", "newBytesLength", "(I)I"⟩ : MethodName)
theorem ef_own_nbl1 (m : MethodId) (x0 : Int32) : entryFrame m #[(.int x0)] 1 = mkF m 0 #[.val (.int x0)] [] := by first | (simp [entryFrame, mkF, argsToLocals, Value.category]; done) | rfl
theorem d26_0 : decode jdk_52_method_3_code 0 = .ok (.iload_n 0, 1) := by decide +kernel
theorem d26_1 : decode jdk_52_method_3_code 1 = .ok (.ifCond .ge 11, 3) := by decide +kernel
theorem d26_12 : decode jdk_52_method_3_code 12 = .ok (.iload_n 0, 1) := by decide +kernel
theorem d26_13 : decode jdk_52_method_3_code 13 = .ok (.ldc 20, 2) := by decide +kernel
theorem wd113 {Z : State} {a0 : Array Value} (hw : ∀ d ∈ tables_1, d.before a0 Z = true) : ((Jvm.Cond.constant "java/lang/StringUTF16" (20 : Nat) (1073741823 : Int32)) : Jvm.Cond).before a0 Z = true := hw _ (List.mem_of_getElem? (i := 113) rfl)
theorem d26_15 : decode jdk_52_method_3_code 15 = .ok (.if_icmp .lt 40, 3) := by decide +kernel
theorem d26_55 : decode jdk_52_method_3_code 55 = .ok (.iload_n 0, 1) := by decide +kernel
theorem d26_56 : decode jdk_52_method_3_code 56 = .ok (.iconst 1, 1) := by decide +kernel
theorem d26_57 : decode jdk_52_method_3_code 57 = .ok (.ishl, 1) := by decide +kernel
theorem d26_58 : decode jdk_52_method_3_code 58 = .ok (.ireturn, 1) := by decide +kernel
abbrev own_L1 : List Value := [(.int (0 : Int32)), (.int (0 : Int32))]
abbrev mt5 : MethodName := (⟨"java/lang/StringUTF16", "newBytesFor", "(I)[B"⟩ : MethodName)
theorem ef_own_nbf1 (m : MethodId) (x0 : Int32) : entryFrame m #[(.int x0)] 1 = mkF m 0 #[.val (.int x0)] [] := by first | (simp [entryFrame, mkF, argsToLocals, Value.category]; done) | rfl
theorem d25_0 : decode jdk_52_method_2_code 0 = .ok (.iload_n 0, 1) := by decide +kernel
theorem d25_1 : decode jdk_52_method_2_code 1 = .ok (.invokestatic 11, 3) := by decide +kernel
theorem wd110 {Z : State} {a0 : Array Value} (hw : ∀ d ∈ tables_1, d.before a0 Z = true) : ((Jvm.Cond.methodLink "java/lang/StringUTF16" (11 : Nat) ({ cls := "java/lang/StringUTF16", name := "newBytesLength", desc := "(I)I" } : Jvm.MethodName)) : Jvm.Cond).before a0 Z = true := hw _ (List.mem_of_getElem? (i := 110) rfl)
theorem wd112 {Z : State} {a0 : Array Value} (hw : ∀ d ∈ tables_1, d.before a0 Z = true) : ((Jvm.Cond.code ({ cls := "java/lang/StringUTF16", name := "newBytesLength", desc := "(I)I" } : Jvm.MethodName) jdk_52_method_3_code (1 : Nat) (Option.some Jvm.ClassFile.FieldType.int)) : Jvm.Cond).before a0 Z = true := hw _ (List.mem_of_getElem? (i := 112) rfl)
theorem wd93 {Z : State} {a0 : Array Value} (hw : ∀ d ∈ tables_1, d.before a0 Z = true) : ((Jvm.Cond.initialized "java/lang/StringUTF16") : Jvm.Cond).before a0 Z = true := hw _ (List.mem_of_getElem? (i := 93) rfl)
theorem pd__I_I_227 : parseMethodDescriptor "(I)I" = some ⟨[.int], some .int⟩ := by decide +kernel
theorem wd111 {Z : State} {a0 : Array Value} (hw : ∀ d ∈ tables_1, d.before a0 Z = true) : ((Jvm.Cond.static ({ cls := "java/lang/StringUTF16", name := "newBytesLength", desc := "(I)I" } : Jvm.MethodName)) : Jvm.Cond).before a0 Z = true := hw _ (List.mem_of_getElem? (i := 111) rfl)
theorem d25_4 : decode jdk_52_method_2_code 4 = .ok (.newarray .byte, 2) := by decide +kernel
theorem wd21 {Z : State} {a0 : Array Value} (hw : ∀ d ∈ tables_1, d.before a0 Z = true) : ((Jvm.Cond.arrayClass Jvm.ClassFile.FieldType.byte) : Jvm.Cond).before a0 Z = true := hw _ (List.mem_of_getElem? (i := 21) rfl)
theorem d25_6 : decode jdk_52_method_2_code 6 = .ok (.areturn, 1) := by decide +kernel
abbrev mt6 : MethodName := (⟨"java/lang/StringUTF16", "compress", "([CI[BII)I"⟩ : MethodName)
theorem ef_own_cx1 (m : MethodId) (x0 : Addr) (x1 : Int32) (x2 : Addr) (x3 : Int32) (x4 : Int32) : entryFrame m #[(.ref x0), (.int x1), (.ref x2), (.int x3), (.int x4)] 7 = mkF m 0 #[.val (.ref x0), .val (.int x1), .val (.ref x2), .val (.int x3), .val (.int x4), .unset, .unset] [] := by first | (simp [entryFrame, mkF, argsToLocals, Value.category]; done) | rfl
theorem d21_0 : decode jdk_52_method_21_code 0 = .ok (.iconst 0, 1) := by decide +kernel
theorem d21_1 : decode jdk_52_method_21_code 1 = .ok (.istore 5, 2) := by decide +kernel
theorem d21_3 : decode jdk_52_method_21_code 3 = .ok (.iload 5, 2) := by decide +kernel
theorem d21_5 : decode jdk_52_method_21_code 5 = .ok (.iload 4, 2) := by decide +kernel
theorem d21_7 : decode jdk_52_method_21_code 7 = .ok (.if_icmp .ge 37, 3) := by decide +kernel
theorem d21_10 : decode jdk_52_method_21_code 10 = .ok (.aload_n 0, 1) := by decide +kernel
theorem d21_11 : decode jdk_52_method_21_code 11 = .ok (.iload_n 1, 1) := by decide +kernel
theorem d21_12 : decode jdk_52_method_21_code 12 = .ok (.caload, 1) := by decide +kernel
theorem d21_13 : decode jdk_52_method_21_code 13 = .ok (.istore 6, 2) := by decide +kernel
theorem d21_15 : decode jdk_52_method_21_code 15 = .ok (.iload 6, 2) := by decide +kernel
theorem d21_17 : decode jdk_52_method_21_code 17 = .ok (.sipush 255, 3) := by decide +kernel
theorem d21_20 : decode jdk_52_method_21_code 20 = .ok (.if_icmp .le 6, 3) := by decide +kernel
theorem d21_23 : decode jdk_52_method_21_code 23 = .ok (.iload 5, 2) := by decide +kernel
theorem d21_25 : decode jdk_52_method_21_code 25 = .ok (.ireturn, 1) := by decide +kernel
abbrev mt7 : MethodName := (⟨"java/lang/StringUTF16", "toBytes", "([CII)[B"⟩ : MethodName)
theorem ef_own_tob1 (m : MethodId) (x0 : Addr) (x1 : Int32) (x2 : Int32) : entryFrame m #[(.ref x0), (.int x1), (.int x2)] 5 = mkF m 0 #[.val (.ref x0), .val (.int x1), .val (.int x2), .unset, .unset] [] := by first | (simp [entryFrame, mkF, argsToLocals, Value.category]; done) | rfl
theorem d24_0 : decode jdk_52_method_14_code 0 = .ok (.iload_n 2, 1) := by decide +kernel
theorem d24_1 : decode jdk_52_method_14_code 1 = .ok (.invokestatic 107, 3) := by decide +kernel
theorem wd107 {Z : State} {a0 : Array Value} (hw : ∀ d ∈ tables_1, d.before a0 Z = true) : ((Jvm.Cond.methodLink "java/lang/StringUTF16" (107 : Nat) ({ cls := "java/lang/StringUTF16", name := "newBytesFor", desc := "(I)[B" } : Jvm.MethodName)) : Jvm.Cond).before a0 Z = true := hw _ (List.mem_of_getElem? (i := 107) rfl)
theorem wd109 {Z : State} {a0 : Array Value} (hw : ∀ d ∈ tables_1, d.before a0 Z = true) : ((Jvm.Cond.code ({ cls := "java/lang/StringUTF16", name := "newBytesFor", desc := "(I)[B" } : Jvm.MethodName) jdk_52_method_2_code (1 : Nat) (Option.some (Jvm.ClassFile.FieldType.array Jvm.ClassFile.FieldType.byte))) : Jvm.Cond).before a0 Z = true := hw _ (List.mem_of_getElem? (i := 109) rfl)
theorem pd__I__B_311 : parseMethodDescriptor "(I)[B" = some ⟨[.int], some (.array .byte)⟩ := by decide +kernel
theorem wd108 {Z : State} {a0 : Array Value} (hw : ∀ d ∈ tables_1, d.before a0 Z = true) : ((Jvm.Cond.static ({ cls := "java/lang/StringUTF16", name := "newBytesFor", desc := "(I)[B" } : Jvm.MethodName)) : Jvm.Cond).before a0 Z = true := hw _ (List.mem_of_getElem? (i := 108) rfl)
theorem d24_4 : decode jdk_52_method_14_code 4 = .ok (.astore_n 3, 1) := by decide +kernel
theorem d24_5 : decode jdk_52_method_14_code 5 = .ok (.iconst 0, 1) := by decide +kernel
theorem d24_6 : decode jdk_52_method_14_code 6 = .ok (.istore 4, 2) := by decide +kernel
theorem d24_8 : decode jdk_52_method_14_code 8 = .ok (.iload 4, 2) := by decide +kernel
theorem d24_10 : decode jdk_52_method_14_code 10 = .ok (.iload_n 2, 1) := by decide +kernel
theorem d24_11 : decode jdk_52_method_14_code 11 = .ok (.if_icmp .ge 21, 3) := by decide +kernel
theorem d24_14 : decode jdk_52_method_14_code 14 = .ok (.aload_n 3, 1) := by decide +kernel
theorem d24_15 : decode jdk_52_method_14_code 15 = .ok (.iload 4, 2) := by decide +kernel
theorem d24_17 : decode jdk_52_method_14_code 17 = .ok (.aload_n 0, 1) := by decide +kernel
theorem d24_18 : decode jdk_52_method_14_code 18 = .ok (.iload_n 1, 1) := by decide +kernel
theorem d24_19 : decode jdk_52_method_14_code 19 = .ok (.caload, 1) := by decide +kernel
theorem d24_20 : decode jdk_52_method_14_code 20 = .ok (.invokestatic 111, 3) := by decide +kernel
theorem wd114 {Z : State} {a0 : Array Value} (hw : ∀ d ∈ tables_1, d.before a0 Z = true) : ((Jvm.Cond.methodLink "java/lang/StringUTF16" (111 : Nat) ({ cls := "java/lang/StringUTF16", name := "putChar", desc := "([BII)V" } : Jvm.MethodName)) : Jvm.Cond).before a0 Z = true := hw _ (List.mem_of_getElem? (i := 114) rfl)
theorem wd116 {Z : State} {a0 : Array Value} (hw : ∀ d ∈ tables_1, d.before a0 Z = true) : ((Jvm.Cond.code ({ cls := "java/lang/StringUTF16", name := "putChar", desc := "([BII)V" } : Jvm.MethodName) jdk_52_method_4_code (3 : Nat) (Option.none : Option Jvm.ClassFile.FieldType)) : Jvm.Cond).before a0 Z = true := hw _ (List.mem_of_getElem? (i := 116) rfl)
theorem pd___BII_V_470 : parseMethodDescriptor "([BII)V" = some ⟨[(.array .byte), .int, .int], none⟩ := by decide +kernel
theorem wd115 {Z : State} {a0 : Array Value} (hw : ∀ d ∈ tables_1, d.before a0 Z = true) : ((Jvm.Cond.static ({ cls := "java/lang/StringUTF16", name := "putChar", desc := "([BII)V" } : Jvm.MethodName)) : Jvm.Cond).before a0 Z = true := hw _ (List.mem_of_getElem? (i := 115) rfl)
theorem d24_23 : decode jdk_52_method_14_code 23 = .ok (.iinc 1 1, 3) := by decide +kernel
theorem d24_26 : decode jdk_52_method_14_code 26 = .ok (.iinc 4 1, 3) := by decide +kernel
theorem d24_29 : decode jdk_52_method_14_code 29 = .ok (.goto (-21), 3) := by decide +kernel
theorem d24_32 : decode jdk_52_method_14_code 32 = .ok (.aload_n 3, 1) := by decide +kernel
theorem d24_33 : decode jdk_52_method_14_code 33 = .ok (.areturn, 1) := by decide +kernel
abbrev mt8 : MethodName := (⟨"java/lang/StringUTF16", "compress", "([CII)[B"⟩ : MethodName)
theorem ef_own_c3_1 (m : MethodId) (x0 : Addr) (x1 : Int32) (x2 : Int32) : entryFrame m #[(.ref x0), (.int x1), (.int x2)] 6 = mkF m 0 #[.val (.ref x0), .val (.int x1), .val (.int x2), .unset, .unset, .unset] [] := by first | (simp [entryFrame, mkF, argsToLocals, Value.category]; done) | rfl
theorem d20_0 : decode jdk_52_method_16_code 0 = .ok (.iload_n 2, 1) := by decide +kernel
theorem d20_1 : decode jdk_52_method_16_code 1 = .ok (.newarray .byte, 2) := by decide +kernel
theorem d20_3 : decode jdk_52_method_16_code 3 = .ok (.astore_n 3, 1) := by decide +kernel
theorem d20_4 : decode jdk_52_method_16_code 4 = .ok (.aload_n 0, 1) := by decide +kernel
theorem d20_5 : decode jdk_52_method_16_code 5 = .ok (.iload_n 1, 1) := by decide +kernel
theorem d20_6 : decode jdk_52_method_16_code 6 = .ok (.aload_n 3, 1) := by decide +kernel
theorem d20_7 : decode jdk_52_method_16_code 7 = .ok (.iconst 0, 1) := by decide +kernel
theorem d20_8 : decode jdk_52_method_16_code 8 = .ok (.iload_n 2, 1) := by decide +kernel
theorem d20_9 : decode jdk_52_method_16_code 9 = .ok (.invokestatic 115, 3) := by decide +kernel
theorem wd95 {Z : State} {a0 : Array Value} (hw : ∀ d ∈ tables_1, d.before a0 Z = true) : ((Jvm.Cond.methodLink "java/lang/StringUTF16" (115 : Nat) ({ cls := "java/lang/StringUTF16", name := "compress", desc := "([CI[BII)I" } : Jvm.MethodName)) : Jvm.Cond).before a0 Z = true := hw _ (List.mem_of_getElem? (i := 95) rfl)
theorem wd97 {Z : State} {a0 : Array Value} (hw : ∀ d ∈ tables_1, d.before a0 Z = true) : ((Jvm.Cond.code ({ cls := "java/lang/StringUTF16", name := "compress", desc := "([CI[BII)I" } : Jvm.MethodName) jdk_52_method_21_code (7 : Nat) (Option.some Jvm.ClassFile.FieldType.int)) : Jvm.Cond).before a0 Z = true := hw _ (List.mem_of_getElem? (i := 97) rfl)
theorem pd___CI_BII_I_688 : parseMethodDescriptor "([CI[BII)I" = some ⟨[(.array .char), .int, (.array .byte), .int, .int], some .int⟩ := by decide +kernel
theorem wd96 {Z : State} {a0 : Array Value} (hw : ∀ d ∈ tables_1, d.before a0 Z = true) : ((Jvm.Cond.static ({ cls := "java/lang/StringUTF16", name := "compress", desc := "([CI[BII)I" } : Jvm.MethodName)) : Jvm.Cond).before a0 Z = true := hw _ (List.mem_of_getElem? (i := 96) rfl)
theorem d20_12 : decode jdk_52_method_16_code 12 = .ok (.istore 4, 2) := by decide +kernel
theorem d20_14 : decode jdk_52_method_16_code 14 = .ok (.iload 4, 2) := by decide +kernel
theorem d20_16 : decode jdk_52_method_16_code 16 = .ok (.iload_n 2, 1) := by decide +kernel
theorem d20_17 : decode jdk_52_method_16_code 17 = .ok (.if_icmp .eq 40, 3) := by decide +kernel
theorem d20_20 : decode jdk_52_method_16_code 20 = .ok (.aload_n 0, 1) := by decide +kernel
theorem d20_21 : decode jdk_52_method_16_code 21 = .ok (.iload_n 1, 1) := by decide +kernel
theorem d20_22 : decode jdk_52_method_16_code 22 = .ok (.iload_n 2, 1) := by decide +kernel
theorem d20_23 : decode jdk_52_method_16_code 23 = .ok (.invokestatic 119, 3) := by decide +kernel
theorem wd104 {Z : State} {a0 : Array Value} (hw : ∀ d ∈ tables_1, d.before a0 Z = true) : ((Jvm.Cond.methodLink "java/lang/StringUTF16" (119 : Nat) ({ cls := "java/lang/StringUTF16", name := "toBytes", desc := "([CII)[B" } : Jvm.MethodName)) : Jvm.Cond).before a0 Z = true := hw _ (List.mem_of_getElem? (i := 104) rfl)
theorem wd106 {Z : State} {a0 : Array Value} (hw : ∀ d ∈ tables_1, d.before a0 Z = true) : ((Jvm.Cond.code ({ cls := "java/lang/StringUTF16", name := "toBytes", desc := "([CII)[B" } : Jvm.MethodName) jdk_52_method_14_code (5 : Nat) (Option.some (Jvm.ClassFile.FieldType.array Jvm.ClassFile.FieldType.byte))) : Jvm.Cond).before a0 Z = true := hw _ (List.mem_of_getElem? (i := 106) rfl)
theorem pd___CII__B_542 : parseMethodDescriptor "([CII)[B" = some ⟨[(.array .char), .int, .int], some (.array .byte)⟩ := by decide +kernel
theorem wd105 {Z : State} {a0 : Array Value} (hw : ∀ d ∈ tables_1, d.before a0 Z = true) : ((Jvm.Cond.static ({ cls := "java/lang/StringUTF16", name := "toBytes", desc := "([CII)[B" } : Jvm.MethodName)) : Jvm.Cond).before a0 Z = true := hw _ (List.mem_of_getElem? (i := 105) rfl)
theorem d20_26 : decode jdk_52_method_16_code 26 = .ok (.astore 5, 2) := by decide +kernel
theorem d20_28 : decode jdk_52_method_16_code 28 = .ok (.aload 5, 2) := by decide +kernel
theorem d20_30 : decode jdk_52_method_16_code 30 = .ok (.iload 4, 2) := by decide +kernel
theorem d20_32 : decode jdk_52_method_16_code 32 = .ok (.invokestatic 71, 3) := by decide +kernel
theorem wd120 {Z : State} {a0 : Array Value} (hw : ∀ d ∈ tables_1, d.before a0 Z = true) : ((Jvm.Cond.methodLink "java/lang/StringUTF16" (71 : Nat) ({ cls := "java/lang/StringUTF16", name := "getChar", desc := "([BI)C" } : Jvm.MethodName)) : Jvm.Cond).before a0 Z = true := hw _ (List.mem_of_getElem? (i := 120) rfl)
theorem wd122 {Z : State} {a0 : Array Value} (hw : ∀ d ∈ tables_1, d.before a0 Z = true) : ((Jvm.Cond.code ({ cls := "java/lang/StringUTF16", name := "getChar", desc := "([BI)C" } : Jvm.MethodName) jdk_52_method_5_code (2 : Nat) (Option.some Jvm.ClassFile.FieldType.char)) : Jvm.Cond).before a0 Z = true := hw _ (List.mem_of_getElem? (i := 122) rfl)
theorem pd___BI_C_378 : parseMethodDescriptor "([BI)C" = some ⟨[(.array .byte), .int], some .char⟩ := by decide +kernel
theorem wd121 {Z : State} {a0 : Array Value} (hw : ∀ d ∈ tables_1, d.before a0 Z = true) : ((Jvm.Cond.static ({ cls := "java/lang/StringUTF16", name := "getChar", desc := "([BI)C" } : Jvm.MethodName)) : Jvm.Cond).before a0 Z = true := hw _ (List.mem_of_getElem? (i := 121) rfl)
theorem d20_35 : decode jdk_52_method_16_code 35 = .ok (.sipush 255, 3) := by decide +kernel
theorem d20_38 : decode jdk_52_method_16_code 38 = .ok (.if_icmp .gt 16, 3) := by decide +kernel
theorem d20_54 : decode jdk_52_method_16_code 54 = .ok (.aload 5, 2) := by decide +kernel
theorem d20_56 : decode jdk_52_method_16_code 56 = .ok (.areturn, 1) := by decide +kernel
abbrev mt9 : MethodName := (⟨"java/lang/StringUTF16", "coderFromArrayLen", "([BI)B"⟩ : MethodName)
theorem ef_own_cfa1 (m : MethodId) (x0 : Addr) (x1 : Int32) : entryFrame m #[(.ref x0), (.int x1)] 2 = mkF m 0 #[.val (.ref x0), .val (.int x1)] [] := by first | (simp [entryFrame, mkF, argsToLocals, Value.category]; done) | rfl
theorem d22_0 : decode jdk_52_method_15_code 0 = .ok (.iload_n 1, 1) := by decide +kernel
theorem d22_1 : decode jdk_52_method_15_code 1 = .ok (.aload_n 0, 1) := by decide +kernel
theorem d22_2 : decode jdk_52_method_15_code 2 = .ok (.arraylength, 1) := by decide +kernel
theorem d22_3 : decode jdk_52_method_15_code 3 = .ok (.isub, 1) := by decide +kernel
theorem d22_4 : decode jdk_52_method_15_code 4 = .ok (.bipush 31, 2) := by decide +kernel
theorem d22_6 : decode jdk_52_method_15_code 6 = .ok (.iushr, 1) := by decide +kernel
theorem d22_7 : decode jdk_52_method_15_code 7 = .ok (.i2b, 1) := by decide +kernel
theorem d22_8 : decode jdk_52_method_15_code 8 = .ok (.ireturn, 1) := by decide +kernel
theorem ef_own_n4_1 (m : MethodId) (x0 : Addr) (x1 : Addr) (x2 : Int32) (x3 : Int32) : entryFrame m #[(.ref x0), (.ref x1), (.int x2), (.int x3), .null] 6 = mkF m 0 #[.val (.ref x0), .val (.ref x1), .val (.int x2), .val (.int x3), .val .null, .unset] [] := by first | (simp [entryFrame, mkF, argsToLocals, Value.category]; done) | rfl
theorem d3_27 : decode jdk_42_method_149_code 27 = .ok (.getstatic 38, 3) := by decide +kernel
theorem wd31 {Z : State} {a0 : Array Value} (hw : ∀ d ∈ tables_1, d.before a0 Z = true) : ((Jvm.Cond.fieldLink "java/lang/String" (38 : Nat) "java/lang/String" "COMPACT_STRINGS" "Z") : Jvm.Cond).before a0 Z = true := hw _ (List.mem_of_getElem? (i := 31) rfl)
theorem d3_30 : decode jdk_42_method_149_code 30 = .ok (.ifCond .eq 28, 3) := by decide +kernel
theorem d3_33 : decode jdk_42_method_149_code 33 = .ok (.aload_n 1, 1) := by decide +kernel
theorem d3_34 : decode jdk_42_method_149_code 34 = .ok (.iload_n 2, 1) := by decide +kernel
theorem d3_35 : decode jdk_42_method_149_code 35 = .ok (.iload_n 3, 1) := by decide +kernel
theorem d3_36 : decode jdk_42_method_149_code 36 = .ok (.invokestatic 177, 3) := by decide +kernel
theorem wd91 {Z : State} {a0 : Array Value} (hw : ∀ d ∈ tables_1, d.before a0 Z = true) : ((Jvm.Cond.methodLink "java/lang/String" (177 : Nat) ({ cls := "java/lang/StringUTF16", name := "compress", desc := "([CII)[B" } : Jvm.MethodName)) : Jvm.Cond).before a0 Z = true := hw _ (List.mem_of_getElem? (i := 91) rfl)
theorem wd94 {Z : State} {a0 : Array Value} (hw : ∀ d ∈ tables_1, d.before a0 Z = true) : ((Jvm.Cond.code ({ cls := "java/lang/StringUTF16", name := "compress", desc := "([CII)[B" } : Jvm.MethodName) jdk_52_method_16_code (6 : Nat) (Option.some (Jvm.ClassFile.FieldType.array Jvm.ClassFile.FieldType.byte))) : Jvm.Cond).before a0 Z = true := hw _ (List.mem_of_getElem? (i := 94) rfl)
theorem wd92 {Z : State} {a0 : Array Value} (hw : ∀ d ∈ tables_1, d.before a0 Z = true) : ((Jvm.Cond.static ({ cls := "java/lang/StringUTF16", name := "compress", desc := "([CII)[B" } : Jvm.MethodName)) : Jvm.Cond).before a0 Z = true := hw _ (List.mem_of_getElem? (i := 92) rfl)
theorem d3_39 : decode jdk_42_method_149_code 39 = .ok (.astore 5, 2) := by decide +kernel
theorem d3_41 : decode jdk_42_method_149_code 41 = .ok (.aload_n 0, 1) := by decide +kernel
theorem d3_42 : decode jdk_42_method_149_code 42 = .ok (.aload 5, 2) := by decide +kernel
theorem d3_44 : decode jdk_42_method_149_code 44 = .ok (.iload_n 3, 1) := by decide +kernel
theorem d3_45 : decode jdk_42_method_149_code 45 = .ok (.invokestatic 47, 3) := by decide +kernel
theorem wd98 {Z : State} {a0 : Array Value} (hw : ∀ d ∈ tables_1, d.before a0 Z = true) : ((Jvm.Cond.methodLink "java/lang/String" (47 : Nat) ({ cls := "java/lang/StringUTF16", name := "coderFromArrayLen", desc := "([BI)B" } : Jvm.MethodName)) : Jvm.Cond).before a0 Z = true := hw _ (List.mem_of_getElem? (i := 98) rfl)
theorem wd100 {Z : State} {a0 : Array Value} (hw : ∀ d ∈ tables_1, d.before a0 Z = true) : ((Jvm.Cond.code ({ cls := "java/lang/StringUTF16", name := "coderFromArrayLen", desc := "([BI)B" } : Jvm.MethodName) jdk_52_method_15_code (2 : Nat) (Option.some Jvm.ClassFile.FieldType.byte)) : Jvm.Cond).before a0 Z = true := hw _ (List.mem_of_getElem? (i := 100) rfl)
theorem pd___BI_B_377 : parseMethodDescriptor "([BI)B" = some ⟨[(.array .byte), .int], some .byte⟩ := by decide +kernel
theorem wd99 {Z : State} {a0 : Array Value} (hw : ∀ d ∈ tables_1, d.before a0 Z = true) : ((Jvm.Cond.static ({ cls := "java/lang/StringUTF16", name := "coderFromArrayLen", desc := "([BI)B" } : Jvm.MethodName)) : Jvm.Cond).before a0 Z = true := hw _ (List.mem_of_getElem? (i := 99) rfl)
theorem d3_48 : decode jdk_42_method_149_code 48 = .ok (.putfield 15, 3) := by decide +kernel
theorem d3_51 : decode jdk_42_method_149_code 51 = .ok (.aload_n 0, 1) := by decide +kernel
theorem d3_52 : decode jdk_42_method_149_code 52 = .ok (.aload 5, 2) := by decide +kernel
theorem d3_54 : decode jdk_42_method_149_code 54 = .ok (.putfield 9, 3) := by decide +kernel
theorem d3_57 : decode jdk_42_method_149_code 57 = .ok (.return_, 1) := by decide +kernel
theorem ef_own_n1_1 (m : MethodId) (x0 : Addr) (x1 : Addr) : entryFrame m #[(.ref x0), (.ref x1)] 2 = mkF m 0 #[.val (.ref x0), .val (.ref x1)] [] := by first | (simp [entryFrame, mkF, argsToLocals, Value.category]; done) | rfl
abbrev own_L2 (x0 : Int32) (x1 : Int32) : List Value := [(.int (nar .byte (x0.toInt8.toInt32))), (.int (nar .byte ((x0 >>> ((8 : Int32) &&& 31)).toInt8.toInt32))), (.int (nar .byte (x1.toInt8.toInt32))), (.int (nar .byte ((x1 >>> ((8 : Int32) &&& 31)).toInt8.toInt32)))]
theorem ef_own_nbl2 (m : MethodId) (x0 : Int32) : entryFrame m #[(.int x0)] 1 = mkF m 0 #[.val (.int x0)] [] := by first | (simp [entryFrame, mkF, argsToLocals, Value.category]; done) | rfl
abbrev own_L3 : List Value := [(.int (0 : Int32)), (.int (0 : Int32)), (.int (0 : Int32)), (.int (0 : Int32))]
theorem ef_own_nbf2 (m : MethodId) (x0 : Int32) : entryFrame m #[(.int x0)] 1 = mkF m 0 #[.val (.int x0)] [] := by first | (simp [entryFrame, mkF, argsToLocals, Value.category]; done) | rfl
theorem ef_own_cx2 (m : MethodId) (x0 : Addr) (x1 : Int32) (x2 : Addr) (x3 : Int32) (x4 : Int32) : entryFrame m #[(.ref x0), (.int x1), (.ref x2), (.int x3), (.int x4)] 7 = mkF m 0 #[.val (.ref x0), .val (.int x1), .val (.ref x2), .val (.int x3), .val (.int x4), .unset, .unset] [] := by first | (simp [entryFrame, mkF, argsToLocals, Value.category]; done) | rfl
theorem d21_26 : decode jdk_52_method_21_code 26 = .ok (.aload_n 2, 1) := by decide +kernel
theorem d21_27 : decode jdk_52_method_21_code 27 = .ok (.iload_n 3, 1) := by decide +kernel
theorem d21_28 : decode jdk_52_method_21_code 28 = .ok (.iload 6, 2) := by decide +kernel
theorem d21_30 : decode jdk_52_method_21_code 30 = .ok (.i2b, 1) := by decide +kernel
theorem d21_31 : decode jdk_52_method_21_code 31 = .ok (.bastore, 1) := by decide +kernel
theorem d21_32 : decode jdk_52_method_21_code 32 = .ok (.iinc 1 1, 3) := by decide +kernel
theorem d21_35 : decode jdk_52_method_21_code 35 = .ok (.iinc 3 1, 3) := by decide +kernel
theorem d21_38 : decode jdk_52_method_21_code 38 = .ok (.iinc 5 1, 3) := by decide +kernel
theorem d21_41 : decode jdk_52_method_21_code 41 = .ok (.goto (-38), 3) := by decide +kernel
theorem ef_own_tob2 (m : MethodId) (x0 : Addr) (x1 : Int32) (x2 : Int32) : entryFrame m #[(.ref x0), (.int x1), (.int x2)] 5 = mkF m 0 #[.val (.ref x0), .val (.int x1), .val (.int x2), .unset, .unset] [] := by first | (simp [entryFrame, mkF, argsToLocals, Value.category]; done) | rfl
abbrev own_L4 (x0 : Int32) : List Value := [(.int (nar .byte (x0.toInt8.toInt32))), (.int (nar .byte ((x0 >>> ((8 : Int32) &&& 31)).toInt8.toInt32))), (.int (0 : Int32)), (.int (0 : Int32))]
theorem ef_own_c3_2 (m : MethodId) (x0 : Addr) (x1 : Int32) (x2 : Int32) : entryFrame m #[(.ref x0), (.int x1), (.int x2)] 6 = mkF m 0 #[.val (.ref x0), .val (.int x1), .val (.int x2), .unset, .unset, .unset] [] := by first | (simp [entryFrame, mkF, argsToLocals, Value.category]; done) | rfl
theorem ef_own_cfa2 (m : MethodId) (x0 : Addr) (x1 : Int32) : entryFrame m #[(.ref x0), (.int x1)] 2 = mkF m 0 #[.val (.ref x0), .val (.int x1)] [] := by first | (simp [entryFrame, mkF, argsToLocals, Value.category]; done) | rfl
theorem ef_own_n4_2 (m : MethodId) (x0 : Addr) (x1 : Addr) (x2 : Int32) (x3 : Int32) : entryFrame m #[(.ref x0), (.ref x1), (.int x2), (.int x3), .null] 6 = mkF m 0 #[.val (.ref x0), .val (.ref x1), .val (.int x2), .val (.int x3), .val .null, .unset] [] := by first | (simp [entryFrame, mkF, argsToLocals, Value.category]; done) | rfl
theorem ef_own_n1_2 (m : MethodId) (x0 : Addr) (x1 : Addr) : entryFrame m #[(.ref x0), (.ref x1)] 2 = mkF m 0 #[.val (.ref x0), .val (.ref x1)] [] := by first | (simp [entryFrame, mkF, argsToLocals, Value.category]; done) | rfl
abbrev own_L5 (x0 : Int32) (x1 : Int32) (x2 : Int32) : List Value := [(.int (nar .byte (x0.toInt8.toInt32))), (.int (nar .byte ((x0 >>> ((8 : Int32) &&& 31)).toInt8.toInt32))), (.int (nar .byte (x1.toInt8.toInt32))), (.int (nar .byte ((x1 >>> ((8 : Int32) &&& 31)).toInt8.toInt32))), (.int (nar .byte (x2.toInt8.toInt32))), (.int (nar .byte ((x2 >>> ((8 : Int32) &&& 31)).toInt8.toInt32)))]
theorem ef_own_nbl3 (m : MethodId) (x0 : Int32) : entryFrame m #[(.int x0)] 1 = mkF m 0 #[.val (.int x0)] [] := by first | (simp [entryFrame, mkF, argsToLocals, Value.category]; done) | rfl
abbrev own_L6 : List Value := [(.int (0 : Int32)), (.int (0 : Int32)), (.int (0 : Int32)), (.int (0 : Int32)), (.int (0 : Int32)), (.int (0 : Int32))]
theorem ef_own_nbf3 (m : MethodId) (x0 : Int32) : entryFrame m #[(.int x0)] 1 = mkF m 0 #[.val (.int x0)] [] := by first | (simp [entryFrame, mkF, argsToLocals, Value.category]; done) | rfl
theorem ef_own_cx3 (m : MethodId) (x0 : Addr) (x1 : Int32) (x2 : Addr) (x3 : Int32) (x4 : Int32) : entryFrame m #[(.ref x0), (.int x1), (.ref x2), (.int x3), (.int x4)] 7 = mkF m 0 #[.val (.ref x0), .val (.int x1), .val (.ref x2), .val (.int x3), .val (.int x4), .unset, .unset] [] := by first | (simp [entryFrame, mkF, argsToLocals, Value.category]; done) | rfl
theorem ef_own_tob3 (m : MethodId) (x0 : Addr) (x1 : Int32) (x2 : Int32) : entryFrame m #[(.ref x0), (.int x1), (.int x2)] 5 = mkF m 0 #[.val (.ref x0), .val (.int x1), .val (.int x2), .unset, .unset] [] := by first | (simp [entryFrame, mkF, argsToLocals, Value.category]; done) | rfl
abbrev own_L7 (x0 : Int32) : List Value := [(.int (nar .byte (x0.toInt8.toInt32))), (.int (nar .byte ((x0 >>> ((8 : Int32) &&& 31)).toInt8.toInt32))), (.int (0 : Int32)), (.int (0 : Int32)), (.int (0 : Int32)), (.int (0 : Int32))]
abbrev own_L8 (x0 : Int32) (x1 : Int32) : List Value := [(.int (nar .byte (x0.toInt8.toInt32))), (.int (nar .byte ((x0 >>> ((8 : Int32) &&& 31)).toInt8.toInt32))), (.int (nar .byte (x1.toInt8.toInt32))), (.int (nar .byte ((x1 >>> ((8 : Int32) &&& 31)).toInt8.toInt32))), (.int (0 : Int32)), (.int (0 : Int32))]
theorem ef_own_c3_3 (m : MethodId) (x0 : Addr) (x1 : Int32) (x2 : Int32) : entryFrame m #[(.ref x0), (.int x1), (.int x2)] 6 = mkF m 0 #[.val (.ref x0), .val (.int x1), .val (.int x2), .unset, .unset, .unset] [] := by first | (simp [entryFrame, mkF, argsToLocals, Value.category]; done) | rfl
theorem ef_own_cfa3 (m : MethodId) (x0 : Addr) (x1 : Int32) : entryFrame m #[(.ref x0), (.int x1)] 2 = mkF m 0 #[.val (.ref x0), .val (.int x1)] [] := by first | (simp [entryFrame, mkF, argsToLocals, Value.category]; done) | rfl
theorem ef_own_n4_3 (m : MethodId) (x0 : Addr) (x1 : Addr) (x2 : Int32) (x3 : Int32) : entryFrame m #[(.ref x0), (.ref x1), (.int x2), (.int x3), .null] 6 = mkF m 0 #[.val (.ref x0), .val (.ref x1), .val (.int x2), .val (.int x3), .val .null, .unset] [] := by first | (simp [entryFrame, mkF, argsToLocals, Value.category]; done) | rfl
theorem ef_own_n1_3 (m : MethodId) (x0 : Addr) (x1 : Addr) : entryFrame m #[(.ref x0), (.ref x1)] 2 = mkF m 0 #[.val (.ref x0), .val (.ref x1)] [] := by first | (simp [entryFrame, mkF, argsToLocals, Value.category]; done) | rfl
abbrev own_L9 (x0 : Int32) (x1 : Int32) (x2 : Int32) (x3 : Int32) : List Value := [(.int (nar .byte (x0.toInt8.toInt32))), (.int (nar .byte ((x0 >>> ((8 : Int32) &&& 31)).toInt8.toInt32))), (.int (nar .byte (x1.toInt8.toInt32))), (.int (nar .byte ((x1 >>> ((8 : Int32) &&& 31)).toInt8.toInt32))), (.int (nar .byte (x2.toInt8.toInt32))), (.int (nar .byte ((x2 >>> ((8 : Int32) &&& 31)).toInt8.toInt32))), (.int (nar .byte (x3.toInt8.toInt32))), (.int (nar .byte ((x3 >>> ((8 : Int32) &&& 31)).toInt8.toInt32)))]
theorem ef_own_nbl4 (m : MethodId) (x0 : Int32) : entryFrame m #[(.int x0)] 1 = mkF m 0 #[.val (.int x0)] [] := by first | (simp [entryFrame, mkF, argsToLocals, Value.category]; done) | rfl
abbrev own_L10 : List Value := [(.int (0 : Int32)), (.int (0 : Int32)), (.int (0 : Int32)), (.int (0 : Int32)), (.int (0 : Int32)), (.int (0 : Int32)), (.int (0 : Int32)), (.int (0 : Int32))]
theorem ef_own_nbf4 (m : MethodId) (x0 : Int32) : entryFrame m #[(.int x0)] 1 = mkF m 0 #[.val (.int x0)] [] := by first | (simp [entryFrame, mkF, argsToLocals, Value.category]; done) | rfl
theorem ef_own_cx4 (m : MethodId) (x0 : Addr) (x1 : Int32) (x2 : Addr) (x3 : Int32) (x4 : Int32) : entryFrame m #[(.ref x0), (.int x1), (.ref x2), (.int x3), (.int x4)] 7 = mkF m 0 #[.val (.ref x0), .val (.int x1), .val (.ref x2), .val (.int x3), .val (.int x4), .unset, .unset] [] := by first | (simp [entryFrame, mkF, argsToLocals, Value.category]; done) | rfl
theorem ef_own_tob4 (m : MethodId) (x0 : Addr) (x1 : Int32) (x2 : Int32) : entryFrame m #[(.ref x0), (.int x1), (.int x2)] 5 = mkF m 0 #[.val (.ref x0), .val (.int x1), .val (.int x2), .unset, .unset] [] := by first | (simp [entryFrame, mkF, argsToLocals, Value.category]; done) | rfl
abbrev own_L11 (x0 : Int32) : List Value := [(.int (nar .byte (x0.toInt8.toInt32))), (.int (nar .byte ((x0 >>> ((8 : Int32) &&& 31)).toInt8.toInt32))), (.int (0 : Int32)), (.int (0 : Int32)), (.int (0 : Int32)), (.int (0 : Int32)), (.int (0 : Int32)), (.int (0 : Int32))]
abbrev own_L12 (x0 : Int32) (x1 : Int32) : List Value := [(.int (nar .byte (x0.toInt8.toInt32))), (.int (nar .byte ((x0 >>> ((8 : Int32) &&& 31)).toInt8.toInt32))), (.int (nar .byte (x1.toInt8.toInt32))), (.int (nar .byte ((x1 >>> ((8 : Int32) &&& 31)).toInt8.toInt32))), (.int (0 : Int32)), (.int (0 : Int32)), (.int (0 : Int32)), (.int (0 : Int32))]
abbrev own_L13 (x0 : Int32) (x1 : Int32) (x2 : Int32) : List Value := [(.int (nar .byte (x0.toInt8.toInt32))), (.int (nar .byte ((x0 >>> ((8 : Int32) &&& 31)).toInt8.toInt32))), (.int (nar .byte (x1.toInt8.toInt32))), (.int (nar .byte ((x1 >>> ((8 : Int32) &&& 31)).toInt8.toInt32))), (.int (nar .byte (x2.toInt8.toInt32))), (.int (nar .byte ((x2 >>> ((8 : Int32) &&& 31)).toInt8.toInt32))), (.int (0 : Int32)), (.int (0 : Int32))]
theorem ef_own_c3_4 (m : MethodId) (x0 : Addr) (x1 : Int32) (x2 : Int32) : entryFrame m #[(.ref x0), (.int x1), (.int x2)] 6 = mkF m 0 #[.val (.ref x0), .val (.int x1), .val (.int x2), .unset, .unset, .unset] [] := by first | (simp [entryFrame, mkF, argsToLocals, Value.category]; done) | rfl
theorem ef_own_cfa4 (m : MethodId) (x0 : Addr) (x1 : Int32) : entryFrame m #[(.ref x0), (.int x1)] 2 = mkF m 0 #[.val (.ref x0), .val (.int x1)] [] := by first | (simp [entryFrame, mkF, argsToLocals, Value.category]; done) | rfl
theorem ef_own_n4_4 (m : MethodId) (x0 : Addr) (x1 : Addr) (x2 : Int32) (x3 : Int32) : entryFrame m #[(.ref x0), (.ref x1), (.int x2), (.int x3), .null] 6 = mkF m 0 #[.val (.ref x0), .val (.ref x1), .val (.int x2), .val (.int x3), .val .null, .unset] [] := by first | (simp [entryFrame, mkF, argsToLocals, Value.category]; done) | rfl
theorem ef_own_n1_4 (m : MethodId) (x0 : Addr) (x1 : Addr) : entryFrame m #[(.ref x0), (.ref x1)] 2 = mkF m 0 #[.val (.ref x0), .val (.ref x1)] [] := by first | (simp [entryFrame, mkF, argsToLocals, Value.category]; done) | rfl
abbrev mt10 : MethodName := (⟨"java/lang/String", "isLatin1", "()Z"⟩ : MethodName)
theorem ef_own_isLs (m : MethodId) (x0 : Addr) : entryFrame m #[(.ref x0)] 1 = mkF m 0 #[.val (.ref x0)] [] := by first | (simp [entryFrame, mkF, argsToLocals, Value.category]; done) | rfl
theorem d12_0 : decode jdk_42_method_154_code 0 = .ok (.getstatic 38, 3) := by decide +kernel
theorem d12_3 : decode jdk_42_method_154_code 3 = .ok (.ifCond .eq 14, 3) := by decide +kernel
theorem d12_6 : decode jdk_42_method_154_code 6 = .ok (.aload_n 0, 1) := by decide +kernel
theorem d12_7 : decode jdk_42_method_154_code 7 = .ok (.getfield 15, 3) := by decide +kernel
theorem d12_10 : decode jdk_42_method_154_code 10 = .ok (.ifCond .ne 7, 3) := by decide +kernel
theorem d12_13 : decode jdk_42_method_154_code 13 = .ok (.iconst 1, 1) := by decide +kernel
theorem d12_14 : decode jdk_42_method_154_code 14 = .ok (.goto 4, 3) := by decide +kernel
theorem d12_18 : decode jdk_42_method_154_code 18 = .ok (.ireturn, 1) := by decide +kernel
theorem ef_own_isLu (m : MethodId) (x0 : Addr) : entryFrame m #[(.ref x0)] 1 = mkF m 0 #[.val (.ref x0)] [] := by first | (simp [entryFrame, mkF, argsToLocals, Value.category]; done) | rfl
theorem d12_17 : decode jdk_42_method_154_code 17 = .ok (.iconst 0, 1) := by decide +kernel
abbrev mt11 : MethodName := (⟨"java/lang/String", "coder", "()B"⟩ : MethodName)
theorem ef_own_coder0 (m : MethodId) (x0 : Addr) : entryFrame m #[(.ref x0)] 1 = mkF m 0 #[.val (.ref x0)] [] := by first | (simp [entryFrame, mkF, argsToLocals, Value.category]; done) | rfl
theorem d14_0 : decode jdk_42_method_152_code 0 = .ok (.getstatic 38, 3) := by decide +kernel
theorem d14_3 : decode jdk_42_method_152_code 3 = .ok (.ifCond .eq 10, 3) := by decide +kernel
theorem d14_6 : decode jdk_42_method_152_code 6 = .ok (.aload_n 0, 1) := by decide +kernel
theorem d14_7 : decode jdk_42_method_152_code 7 = .ok (.getfield 15, 3) := by decide +kernel
theorem d14_10 : decode jdk_42_method_152_code 10 = .ok (.goto 4, 3) := by decide +kernel
theorem d14_14 : decode jdk_42_method_152_code 14 = .ok (.ireturn, 1) := by decide +kernel
theorem ef_own_coder1 (m : MethodId) (x0 : Addr) : entryFrame m #[(.ref x0)] 1 = mkF m 0 #[.val (.ref x0)] [] := by first | (simp [entryFrame, mkF, argsToLocals, Value.category]; done) | rfl
abbrev mt12 : MethodName := (⟨"java/lang/StringLatin1", "canEncode", "(I)Z"⟩ : MethodName)
theorem pn_java_lang_StringLatin1 : plainName "java/lang/StringLatin1" = true := by first | (simp [plainName, overriddenIn]; done) | decide +kernel
theorem ef_own_ceI (m : MethodId) (x0 : Int32) : entryFrame m #[(.int x0)] 1 = mkF m 0 #[.val (.int x0)] [] := by first | (simp [entryFrame, mkF, argsToLocals, Value.category]; done) | rfl
theorem d16_0 : decode jdk_43_method_4_code 0 = .ok (.iload_n 0, 1) := by decide +kernel
theorem d16_1 : decode jdk_43_method_4_code 1 = .ok (.ifCond .lt 14, 3) := by decide +kernel
theorem d16_4 : decode jdk_43_method_4_code 4 = .ok (.iload_n 0, 1) := by decide +kernel
theorem d16_5 : decode jdk_43_method_4_code 5 = .ok (.sipush 255, 3) := by decide +kernel
theorem d16_8 : decode jdk_43_method_4_code 8 = .ok (.if_icmp .gt 7, 3) := by decide +kernel
theorem d16_11 : decode jdk_43_method_4_code 11 = .ok (.iconst 1, 1) := by decide +kernel
theorem d16_12 : decode jdk_43_method_4_code 12 = .ok (.goto 4, 3) := by decide +kernel
theorem d16_16 : decode jdk_43_method_4_code 16 = .ok (.ireturn, 1) := by decide +kernel
abbrev mt13 : MethodName := (⟨"java/lang/Math", "max", "(II)I"⟩ : MethodName)
theorem ef_own_mx (m : MethodId) (x0 : Int32) (x1 : Int32) : entryFrame m #[(.int x0), (.int x1)] 2 = mkF m 0 #[.val (.int x0), .val (.int x1)] [] := by first | (simp [entryFrame, mkF, argsToLocals, Value.category]; done) | rfl
theorem d17_0 : decode jdk_29_method_65_code 0 = .ok (.iload_n 0, 1) := by decide +kernel
theorem d17_1 : decode jdk_29_method_65_code 1 = .ok (.iload_n 1, 1) := by decide +kernel
theorem d17_2 : decode jdk_29_method_65_code 2 = .ok (.if_icmp .lt 7, 3) := by decide +kernel
theorem d17_5 : decode jdk_29_method_65_code 5 = .ok (.iload_n 0, 1) := by decide +kernel
theorem d17_6 : decode jdk_29_method_65_code 6 = .ok (.goto 4, 3) := by decide +kernel
theorem d17_10 : decode jdk_29_method_65_code 10 = .ok (.ireturn, 1) := by decide +kernel
abbrev mt14 : MethodName := (⟨"java/lang/Math", "min", "(II)I"⟩ : MethodName)
theorem ef_own_mn (m : MethodId) (x0 : Int32) (x1 : Int32) : entryFrame m #[(.int x0), (.int x1)] 2 = mkF m 0 #[.val (.int x0), .val (.int x1)] [] := by first | (simp [entryFrame, mkF, argsToLocals, Value.category]; done) | rfl
theorem d18_0 : decode jdk_29_method_69_code 0 = .ok (.iload_n 0, 1) := by decide +kernel
theorem d18_1 : decode jdk_29_method_69_code 1 = .ok (.iload_n 1, 1) := by decide +kernel
theorem d18_2 : decode jdk_29_method_69_code 2 = .ok (.if_icmp .gt 7, 3) := by decide +kernel
theorem d18_5 : decode jdk_29_method_69_code 5 = .ok (.iload_n 0, 1) := by decide +kernel
theorem d18_6 : decode jdk_29_method_69_code 6 = .ok (.goto 4, 3) := by decide +kernel
theorem d18_10 : decode jdk_29_method_69_code 10 = .ok (.ireturn, 1) := by decide +kernel
abbrev mt15 : MethodName := (⟨"jdk/internal/util/Preconditions", "checkFromToIndex", "(IIILjava/util/function/BiFunction;)I"⟩ : MethodName)
theorem pn_jdk_internal_util_Preconditions : plainName "jdk/internal/util/Preconditions" = true := by first | (simp [plainName, overriddenIn]; done) | decide +kernel
theorem ef_own_cfiN (m : MethodId) (x0 : Int32) (x1 : Int32) (x2 : Int32) : entryFrame m #[(.int x0), (.int x1), (.int x2), .null] 4 = mkF m 0 #[.val (.int x0), .val (.int x1), .val (.int x2), .val .null] [] := by first | (simp [entryFrame, mkF, argsToLocals, Value.category]; done) | rfl
theorem d34_0 : decode jdk_41_method_12_code 0 = .ok (.iload_n 0, 1) := by decide +kernel
theorem d34_1 : decode jdk_41_method_12_code 1 = .ok (.ifCond .lt 13, 3) := by decide +kernel
theorem d34_4 : decode jdk_41_method_12_code 4 = .ok (.iload_n 0, 1) := by decide +kernel
theorem d34_5 : decode jdk_41_method_12_code 5 = .ok (.iload_n 1, 1) := by decide +kernel
theorem d34_6 : decode jdk_41_method_12_code 6 = .ok (.if_icmp .gt 8, 3) := by decide +kernel
theorem d34_9 : decode jdk_41_method_12_code 9 = .ok (.iload_n 1, 1) := by decide +kernel
theorem d34_10 : decode jdk_41_method_12_code 10 = .ok (.iload_n 2, 1) := by decide +kernel
theorem d34_11 : decode jdk_41_method_12_code 11 = .ok (.if_icmp .le 11, 3) := by decide +kernel
theorem d34_22 : decode jdk_41_method_12_code 22 = .ok (.iload_n 0, 1) := by decide +kernel
theorem d34_23 : decode jdk_41_method_12_code 23 = .ok (.ireturn, 1) := by decide +kernel
theorem ef_own_cfiR (m : MethodId) (x0 : Int32) (x1 : Int32) (x2 : Int32) (x3 : Addr) : entryFrame m #[(.int x0), (.int x1), (.int x2), (.ref x3)] 4 = mkF m 0 #[.val (.int x0), .val (.int x1), .val (.int x2), .val (.ref x3)] [] := by first | (simp [entryFrame, mkF, argsToLocals, Value.category]; done) | rfl
abbrev mt16 : MethodName := (⟨"java/lang/String", "checkBoundsBeginEnd", "(III)V"⟩ : MethodName)
theorem ef_own_cbs (m : MethodId) (x0 : Int32) (x1 : Int32) (x2 : Int32) : entryFrame m #[(.int x0), (.int x1), (.int x2)] 3 = mkF m 0 #[.val (.int x0), .val (.int x1), .val (.int x2)] [] := by first | (simp [entryFrame, mkF, argsToLocals, Value.category]; done) | rfl
theorem d33_0 : decode jdk_42_method_158_code 0 = .ok (.iload_n 0, 1) := by decide +kernel
theorem d33_1 : decode jdk_42_method_158_code 1 = .ok (.iload_n 1, 1) := by decide +kernel
theorem d33_2 : decode jdk_42_method_158_code 2 = .ok (.iload_n 2, 1) := by decide +kernel
theorem d33_3 : decode jdk_42_method_158_code 3 = .ok (.getstatic 1053, 3) := by decide +kernel
theorem wd141 {Z : State} {a0 : Array Value} (hw : ∀ d ∈ tables_1, d.before a0 Z = true) : ((Jvm.Cond.fieldLink "java/lang/String" (1053 : Nat) "jdk/internal/util/Preconditions" "SIOOBE_FORMATTER" "Ljava/util/function/BiFunction;") : Jvm.Cond).before a0 Z = true := hw _ (List.mem_of_getElem? (i := 141) rfl)
theorem d33_6 : decode jdk_42_method_158_code 6 = .ok (.invokestatic 1062, 3) := by decide +kernel
theorem wd143 {Z : State} {a0 : Array Value} (hw : ∀ d ∈ tables_1, d.before a0 Z = true) : ((Jvm.Cond.methodLink "java/lang/String" (1062 : Nat) ({ cls := "jdk/internal/util/Preconditions", name := "checkFromToIndex", desc := "(IIILjava/util/function/BiFunction;)I" } : Jvm.MethodName)) : Jvm.Cond).before a0 Z = true := hw _ (List.mem_of_getElem? (i := 143) rfl)
theorem wd145 {Z : State} {a0 : Array Value} (hw : ∀ d ∈ tables_1, d.before a0 Z = true) : ((Jvm.Cond.code ({ cls := "jdk/internal/util/Preconditions", name := "checkFromToIndex", desc := "(IIILjava/util/function/BiFunction;)I" } : Jvm.MethodName) jdk_41_method_12_code (4 : Nat) (Option.some Jvm.ClassFile.FieldType.int)) : Jvm.Cond).before a0 Z = true := hw _ (List.mem_of_getElem? (i := 145) rfl)
theorem wd142 {Z : State} {a0 : Array Value} (hw : ∀ d ∈ tables_1, d.before a0 Z = true) : ((Jvm.Cond.initialized "jdk/internal/util/Preconditions") : Jvm.Cond).before a0 Z = true := hw _ (List.mem_of_getElem? (i := 142) rfl)
theorem pd__IIILjava_util_function_BiFunction__I_3392 : parseMethodDescriptor "(IIILjava/util/function/BiFunction;)I" = some ⟨[.int, .int, .int, (.object "java/util/function/BiFunction")], some .int⟩ := by decide +kernel
theorem wd144 {Z : State} {a0 : Array Value} (hw : ∀ d ∈ tables_1, d.before a0 Z = true) : ((Jvm.Cond.static ({ cls := "jdk/internal/util/Preconditions", name := "checkFromToIndex", desc := "(IIILjava/util/function/BiFunction;)I" } : Jvm.MethodName)) : Jvm.Cond).before a0 Z = true := hw _ (List.mem_of_getElem? (i := 144) rfl)
theorem d33_9 : decode jdk_42_method_158_code 9 = .ok (.pop, 1) := by decide +kernel
theorem d33_10 : decode jdk_42_method_158_code 10 = .ok (.return_, 1) := by decide +kernel
abbrev mt17 : MethodName := (⟨"java/lang/String", "length", "()I"⟩ : MethodName)
theorem ef_own_lenL (m : MethodId) (x0 : Addr) : entryFrame m #[(.ref x0)] 1 = mkF m 0 #[.val (.ref x0)] [] := by first | (simp [entryFrame, mkF, argsToLocals, Value.category]; done) | rfl
theorem d13_0 : decode jdk_42_method_54_code 0 = .ok (.aload_n 0, 1) := by decide +kernel
theorem d13_1 : decode jdk_42_method_54_code 1 = .ok (.getfield 9, 3) := by decide +kernel
theorem d13_4 : decode jdk_42_method_54_code 4 = .ok (.arraylength, 1) := by decide +kernel
theorem d13_5 : decode jdk_42_method_54_code 5 = .ok (.aload_n 0, 1) := by decide +kernel
theorem d13_6 : decode jdk_42_method_54_code 6 = .ok (.invokevirtual 335, 3) := by decide +kernel
theorem wd67 {Z : State} {a0 : Array Value} (hw : ∀ d ∈ tables_1, d.before a0 Z = true) : ((Jvm.Cond.methodLink "java/lang/String" (335 : Nat) ({ cls := "java/lang/String", name := "coder", desc := "()B" } : Jvm.MethodName)) : Jvm.Cond).before a0 Z = true := hw _ (List.mem_of_getElem? (i := 67) rfl)
theorem wd71 {Z : State} {a0 : Array Value} (hw : ∀ d ∈ tables_1, d.before a0 Z = true) : ((Jvm.Cond.code ({ cls := "java/lang/String", name := "coder", desc := "()B" } : Jvm.MethodName) jdk_42_method_152_code (1 : Nat) (Option.some Jvm.ClassFile.FieldType.byte)) : Jvm.Cond).before a0 Z = true := hw _ (List.mem_of_getElem? (i := 71) rfl)
theorem pd___B_147 : parseMethodDescriptor "()B" = some ⟨[], some .byte⟩ := by decide +kernel
theorem wd70 {Z : State} {a0 : Array Value} (hw : ∀ d ∈ tables_1, d.before a0 Z = true) : ((Jvm.Cond.selects "java/lang/String" ({ cls := "java/lang/String", name := "coder", desc := "()B" } : Jvm.MethodName) ({ cls := "java/lang/String", name := "coder", desc := "()B" } : Jvm.MethodName)) : Jvm.Cond).before a0 Z = true := hw _ (List.mem_of_getElem? (i := 70) rfl)
theorem wd68 {Z : State} {a0 : Array Value} (hw : ∀ d ∈ tables_1, d.before a0 Z = true) : ((Jvm.Cond.declares ({ cls := "java/lang/String", name := "coder", desc := "()B" } : Jvm.MethodName)) : Jvm.Cond).before a0 Z = true := hw _ (List.mem_of_getElem? (i := 68) rfl)
theorem wd69 {Z : State} {a0 : Array Value} (hw : ∀ d ∈ tables_1, d.before a0 Z = true) : ((Jvm.Cond.instanceMethod ({ cls := "java/lang/String", name := "coder", desc := "()B" } : Jvm.MethodName)) : Jvm.Cond).before a0 Z = true := hw _ (List.mem_of_getElem? (i := 69) rfl)
theorem d13_9 : decode jdk_42_method_54_code 9 = .ok (.ishr, 1) := by decide +kernel
theorem d13_10 : decode jdk_42_method_54_code 10 = .ok (.ireturn, 1) := by decide +kernel
abbrev mt18 : MethodName := (⟨"java/lang/StringLatin1", "indexOfChar", "([BIII)I"⟩ : MethodName)
theorem ef_own_lic (m : MethodId) (x0 : Addr) (x1 : Int32) (x2 : Int32) (x3 : Int32) : entryFrame m #[(.ref x0), (.int x1), (.int x2), (.int x3)] 6 = mkF m 0 #[.val (.ref x0), .val (.int x1), .val (.int x2), .val (.int x3), .unset, .unset] [] := by first | (simp [entryFrame, mkF, argsToLocals, Value.category]; done) | rfl
theorem d23_0 : decode jdk_43_method_23_code 0 = .ok (.iload_n 1, 1) := by decide +kernel
theorem d23_1 : decode jdk_43_method_23_code 1 = .ok (.i2b, 1) := by decide +kernel
theorem d23_2 : decode jdk_43_method_23_code 2 = .ok (.istore 4, 2) := by decide +kernel
theorem d23_4 : decode jdk_43_method_23_code 4 = .ok (.iload_n 2, 1) := by decide +kernel
theorem d23_5 : decode jdk_43_method_23_code 5 = .ok (.istore 5, 2) := by decide +kernel
theorem d23_7 : decode jdk_43_method_23_code 7 = .ok (.iload 5, 2) := by decide +kernel
theorem d23_9 : decode jdk_43_method_23_code 9 = .ok (.iload_n 3, 1) := by decide +kernel
theorem d23_10 : decode jdk_43_method_23_code 10 = .ok (.if_icmp .ge 21, 3) := by decide +kernel
theorem d23_13 : decode jdk_43_method_23_code 13 = .ok (.aload_n 0, 1) := by decide +kernel
theorem d23_14 : decode jdk_43_method_23_code 14 = .ok (.iload 5, 2) := by decide +kernel
theorem d23_16 : decode jdk_43_method_23_code 16 = .ok (.baload, 1) := by decide +kernel
theorem d23_17 : decode jdk_43_method_23_code 17 = .ok (.iload 4, 2) := by decide +kernel
theorem d23_19 : decode jdk_43_method_23_code 19 = .ok (.if_icmp .ne 6, 3) := by decide +kernel
theorem d23_25 : decode jdk_43_method_23_code 25 = .ok (.iinc 5 1, 3) := by decide +kernel
theorem d23_28 : decode jdk_43_method_23_code 28 = .ok (.goto (-21), 3) := by decide +kernel
theorem d23_31 : decode jdk_43_method_23_code 31 = .ok (.iconst (-1), 1) := by decide +kernel
theorem d23_32 : decode jdk_43_method_23_code 32 = .ok (.ireturn, 1) := by decide +kernel
abbrev mt19 : MethodName := (⟨"java/lang/StringLatin1", "indexOf", "([BIII)I"⟩ : MethodName)
theorem ef_own_lix (m : MethodId) (x0 : Addr) (x1 : Int32) (x2 : Int32) (x3 : Int32) : entryFrame m #[(.ref x0), (.int x1), (.int x2), (.int x3)] 4 = mkF m 0 #[.val (.ref x0), .val (.int x1), .val (.int x2), .val (.int x3)] [] := by first | (simp [entryFrame, mkF, argsToLocals, Value.category]; done) | rfl
theorem d15_0 : decode jdk_43_method_22_code 0 = .ok (.iload_n 1, 1) := by decide +kernel
theorem d15_1 : decode jdk_43_method_22_code 1 = .ok (.invokestatic 88, 3) := by decide +kernel
theorem wd75 {Z : State} {a0 : Array Value} (hw : ∀ d ∈ tables_1, d.before a0 Z = true) : ((Jvm.Cond.methodLink "java/lang/StringLatin1" (88 : Nat) ({ cls := "java/lang/StringLatin1", name := "canEncode", desc := "(I)Z" } : Jvm.MethodName)) : Jvm.Cond).before a0 Z = true := hw _ (List.mem_of_getElem? (i := 75) rfl)
theorem wd77 {Z : State} {a0 : Array Value} (hw : ∀ d ∈ tables_1, d.before a0 Z = true) : ((Jvm.Cond.code ({ cls := "java/lang/StringLatin1", name := "canEncode", desc := "(I)Z" } : Jvm.MethodName) jdk_43_method_4_code (1 : Nat) (Option.some Jvm.ClassFile.FieldType.boolean)) : Jvm.Cond).before a0 Z = true := hw _ (List.mem_of_getElem? (i := 77) rfl)
theorem wd34 {Z : State} {a0 : Array Value} (hw : ∀ d ∈ tables_1, d.before a0 Z = true) : ((Jvm.Cond.initialized "java/lang/StringLatin1") : Jvm.Cond).before a0 Z = true := hw _ (List.mem_of_getElem? (i := 34) rfl)
theorem pd__I_Z_244 : parseMethodDescriptor "(I)Z" = some ⟨[.int], some .boolean⟩ := by decide +kernel
theorem wd76 {Z : State} {a0 : Array Value} (hw : ∀ d ∈ tables_1, d.before a0 Z = true) : ((Jvm.Cond.static ({ cls := "java/lang/StringLatin1", name := "canEncode", desc := "(I)Z" } : Jvm.MethodName)) : Jvm.Cond).before a0 Z = true := hw _ (List.mem_of_getElem? (i := 76) rfl)
theorem d15_4 : decode jdk_43_method_22_code 4 = .ok (.ifCond .ne 5, 3) := by decide +kernel
theorem d15_9 : decode jdk_43_method_22_code 9 = .ok (.iload_n 2, 1) := by decide +kernel
theorem d15_10 : decode jdk_43_method_22_code 10 = .ok (.iconst 0, 1) := by decide +kernel
theorem d15_11 : decode jdk_43_method_22_code 11 = .ok (.invokestatic 92, 3) := by decide +kernel
theorem wd78 {Z : State} {a0 : Array Value} (hw : ∀ d ∈ tables_1, d.before a0 Z = true) : ((Jvm.Cond.methodLink "java/lang/StringLatin1" (92 : Nat) ({ cls := "java/lang/Math", name := "max", desc := "(II)I" } : Jvm.MethodName)) : Jvm.Cond).before a0 Z = true := hw _ (List.mem_of_getElem? (i := 78) rfl)
theorem wd81 {Z : State} {a0 : Array Value} (hw : ∀ d ∈ tables_1, d.before a0 Z = true) : ((Jvm.Cond.code ({ cls := "java/lang/Math", name := "max", desc := "(II)I" } : Jvm.MethodName) jdk_29_method_65_code (2 : Nat) (Option.some Jvm.ClassFile.FieldType.int)) : Jvm.Cond).before a0 Z = true := hw _ (List.mem_of_getElem? (i := 81) rfl)
theorem wd80 {Z : State} {a0 : Array Value} (hw : ∀ d ∈ tables_1, d.before a0 Z = true) : ((Jvm.Cond.initialized "java/lang/Math") : Jvm.Cond).before a0 Z = true := hw _ (List.mem_of_getElem? (i := 80) rfl)
theorem pd__II_I_300 : parseMethodDescriptor "(II)I" = some ⟨[.int, .int], some .int⟩ := by decide +kernel
theorem wd79 {Z : State} {a0 : Array Value} (hw : ∀ d ∈ tables_1, d.before a0 Z = true) : ((Jvm.Cond.static ({ cls := "java/lang/Math", name := "max", desc := "(II)I" } : Jvm.MethodName)) : Jvm.Cond).before a0 Z = true := hw _ (List.mem_of_getElem? (i := 79) rfl)
theorem d15_14 : decode jdk_43_method_22_code 14 = .ok (.istore_n 2, 1) := by decide +kernel
theorem d15_15 : decode jdk_43_method_22_code 15 = .ok (.iload_n 3, 1) := by decide +kernel
theorem d15_16 : decode jdk_43_method_22_code 16 = .ok (.aload_n 0, 1) := by decide +kernel
theorem d15_17 : decode jdk_43_method_22_code 17 = .ok (.arraylength, 1) := by decide +kernel
theorem d15_18 : decode jdk_43_method_22_code 18 = .ok (.invokestatic 38, 3) := by decide +kernel
theorem wd82 {Z : State} {a0 : Array Value} (hw : ∀ d ∈ tables_1, d.before a0 Z = true) : ((Jvm.Cond.methodLink "java/lang/StringLatin1" (38 : Nat) ({ cls := "java/lang/Math", name := "min", desc := "(II)I" } : Jvm.MethodName)) : Jvm.Cond).before a0 Z = true := hw _ (List.mem_of_getElem? (i := 82) rfl)
theorem wd84 {Z : State} {a0 : Array Value} (hw : ∀ d ∈ tables_1, d.before a0 Z = true) : ((Jvm.Cond.code ({ cls := "java/lang/Math", name := "min", desc := "(II)I" } : Jvm.MethodName) jdk_29_method_69_code (2 : Nat) (Option.some Jvm.ClassFile.FieldType.int)) : Jvm.Cond).before a0 Z = true := hw _ (List.mem_of_getElem? (i := 84) rfl)
theorem wd83 {Z : State} {a0 : Array Value} (hw : ∀ d ∈ tables_1, d.before a0 Z = true) : ((Jvm.Cond.static ({ cls := "java/lang/Math", name := "min", desc := "(II)I" } : Jvm.MethodName)) : Jvm.Cond).before a0 Z = true := hw _ (List.mem_of_getElem? (i := 83) rfl)
theorem d15_21 : decode jdk_43_method_22_code 21 = .ok (.istore_n 3, 1) := by decide +kernel
theorem d15_22 : decode jdk_43_method_22_code 22 = .ok (.iload_n 2, 1) := by decide +kernel
theorem d15_23 : decode jdk_43_method_22_code 23 = .ok (.iload_n 3, 1) := by decide +kernel
theorem d15_24 : decode jdk_43_method_22_code 24 = .ok (.if_icmp .lt 5, 3) := by decide +kernel
theorem d15_29 : decode jdk_43_method_22_code 29 = .ok (.aload_n 0, 1) := by decide +kernel
theorem d15_30 : decode jdk_43_method_22_code 30 = .ok (.iload_n 1, 1) := by decide +kernel
theorem d15_31 : decode jdk_43_method_22_code 31 = .ok (.iload_n 2, 1) := by decide +kernel
theorem d15_32 : decode jdk_43_method_22_code 32 = .ok (.iload_n 3, 1) := by decide +kernel
theorem d15_33 : decode jdk_43_method_22_code 33 = .ok (.invokestatic 95, 3) := by decide +kernel
theorem wd101 {Z : State} {a0 : Array Value} (hw : ∀ d ∈ tables_1, d.before a0 Z = true) : ((Jvm.Cond.methodLink "java/lang/StringLatin1" (95 : Nat) ({ cls := "java/lang/StringLatin1", name := "indexOfChar", desc := "([BIII)I" } : Jvm.MethodName)) : Jvm.Cond).before a0 Z = true := hw _ (List.mem_of_getElem? (i := 101) rfl)
theorem wd103 {Z : State} {a0 : Array Value} (hw : ∀ d ∈ tables_1, d.before a0 Z = true) : ((Jvm.Cond.code ({ cls := "java/lang/StringLatin1", name := "indexOfChar", desc := "([BIII)I" } : Jvm.MethodName) jdk_43_method_23_code (6 : Nat) (Option.some Jvm.ClassFile.FieldType.int)) : Jvm.Cond).before a0 Z = true := hw _ (List.mem_of_getElem? (i := 103) rfl)
theorem pd___BIII_I_530 : parseMethodDescriptor "([BIII)I" = some ⟨[(.array .byte), .int, .int, .int], some .int⟩ := by decide +kernel
theorem wd102 {Z : State} {a0 : Array Value} (hw : ∀ d ∈ tables_1, d.before a0 Z = true) : ((Jvm.Cond.static ({ cls := "java/lang/StringLatin1", name := "indexOfChar", desc := "([BIII)I" } : Jvm.MethodName)) : Jvm.Cond).before a0 Z = true := hw _ (List.mem_of_getElem? (i := 102) rfl)
theorem d15_36 : decode jdk_43_method_22_code 36 = .ok (.ireturn, 1) := by decide +kernel
theorem d15_27 : decode jdk_43_method_22_code 27 = .ok (.iconst (-1), 1) := by decide +kernel
theorem d15_28 : decode jdk_43_method_22_code 28 = .ok (.ireturn, 1) := by decide +kernel
abbrev mt20 : MethodName := (⟨"java/lang/String", "indexOf", "(II)I"⟩ : MethodName)
theorem ef_own_ixbL (m : MethodId) (x0 : Addr) (x1 : Int32) (x2 : Int32) : entryFrame m #[(.ref x0), (.int x1), (.int x2)] 3 = mkF m 0 #[.val (.ref x0), .val (.int x1), .val (.int x2)] [] := by first | (simp [entryFrame, mkF, argsToLocals, Value.category]; done) | rfl
theorem d11_0 : decode jdk_42_method_80_code 0 = .ok (.aload_n 0, 1) := by decide +kernel
theorem d11_1 : decode jdk_42_method_80_code 1 = .ok (.invokevirtual 492, 3) := by decide +kernel
theorem wd57 {Z : State} {a0 : Array Value} (hw : ∀ d ∈ tables_1, d.before a0 Z = true) : ((Jvm.Cond.methodLink "java/lang/String" (492 : Nat) ({ cls := "java/lang/String", name := "isLatin1", desc := "()Z" } : Jvm.MethodName)) : Jvm.Cond).before a0 Z = true := hw _ (List.mem_of_getElem? (i := 57) rfl)
theorem wd61 {Z : State} {a0 : Array Value} (hw : ∀ d ∈ tables_1, d.before a0 Z = true) : ((Jvm.Cond.code ({ cls := "java/lang/String", name := "isLatin1", desc := "()Z" } : Jvm.MethodName) jdk_42_method_154_code (1 : Nat) (Option.some Jvm.ClassFile.FieldType.boolean)) : Jvm.Cond).before a0 Z = true := hw _ (List.mem_of_getElem? (i := 61) rfl)
theorem pd___Z_171 : parseMethodDescriptor "()Z" = some ⟨[], some .boolean⟩ := by decide +kernel
theorem wd60 {Z : State} {a0 : Array Value} (hw : ∀ d ∈ tables_1, d.before a0 Z = true) : ((Jvm.Cond.selects "java/lang/String" ({ cls := "java/lang/String", name := "isLatin1", desc := "()Z" } : Jvm.MethodName) ({ cls := "java/lang/String", name := "isLatin1", desc := "()Z" } : Jvm.MethodName)) : Jvm.Cond).before a0 Z = true := hw _ (List.mem_of_getElem? (i := 60) rfl)
theorem wd58 {Z : State} {a0 : Array Value} (hw : ∀ d ∈ tables_1, d.before a0 Z = true) : ((Jvm.Cond.declares ({ cls := "java/lang/String", name := "isLatin1", desc := "()Z" } : Jvm.MethodName)) : Jvm.Cond).before a0 Z = true := hw _ (List.mem_of_getElem? (i := 58) rfl)
theorem wd59 {Z : State} {a0 : Array Value} (hw : ∀ d ∈ tables_1, d.before a0 Z = true) : ((Jvm.Cond.instanceMethod ({ cls := "java/lang/String", name := "isLatin1", desc := "()Z" } : Jvm.MethodName)) : Jvm.Cond).before a0 Z = true := hw _ (List.mem_of_getElem? (i := 59) rfl)
theorem d11_4 : decode jdk_42_method_80_code 4 = .ok (.ifCond .eq 19, 3) := by decide +kernel
theorem d11_7 : decode jdk_42_method_80_code 7 = .ok (.aload_n 0, 1) := by decide +kernel
theorem d11_8 : decode jdk_42_method_80_code 8 = .ok (.getfield 9, 3) := by decide +kernel
theorem d11_11 : decode jdk_42_method_80_code 11 = .ok (.iload_n 1, 1) := by decide +kernel
theorem d11_12 : decode jdk_42_method_80_code 12 = .ok (.iload_n 2, 1) := by decide +kernel
theorem d11_13 : decode jdk_42_method_80_code 13 = .ok (.aload_n 0, 1) := by decide +kernel
theorem d11_14 : decode jdk_42_method_80_code 14 = .ok (.invokevirtual 505, 3) := by decide +kernel
theorem wd62 {Z : State} {a0 : Array Value} (hw : ∀ d ∈ tables_1, d.before a0 Z = true) : ((Jvm.Cond.methodLink "java/lang/String" (505 : Nat) ({ cls := "java/lang/String", name := "length", desc := "()I" } : Jvm.MethodName)) : Jvm.Cond).before a0 Z = true := hw _ (List.mem_of_getElem? (i := 62) rfl)
theorem wd66 {Z : State} {a0 : Array Value} (hw : ∀ d ∈ tables_1, d.before a0 Z = true) : ((Jvm.Cond.code ({ cls := "java/lang/String", name := "length", desc := "()I" } : Jvm.MethodName) jdk_42_method_54_code (1 : Nat) (Option.some Jvm.ClassFile.FieldType.int)) : Jvm.Cond).before a0 Z = true := hw _ (List.mem_of_getElem? (i := 66) rfl)
theorem pd___I_154 : parseMethodDescriptor "()I" = some ⟨[], some .int⟩ := by decide +kernel
theorem wd65 {Z : State} {a0 : Array Value} (hw : ∀ d ∈ tables_1, d.before a0 Z = true) : ((Jvm.Cond.selects "java/lang/String" ({ cls := "java/lang/String", name := "length", desc := "()I" } : Jvm.MethodName) ({ cls := "java/lang/String", name := "length", desc := "()I" } : Jvm.MethodName)) : Jvm.Cond).before a0 Z = true := hw _ (List.mem_of_getElem? (i := 65) rfl)
theorem wd63 {Z : State} {a0 : Array Value} (hw : ∀ d ∈ tables_1, d.before a0 Z = true) : ((Jvm.Cond.declares ({ cls := "java/lang/String", name := "length", desc := "()I" } : Jvm.MethodName)) : Jvm.Cond).before a0 Z = true := hw _ (List.mem_of_getElem? (i := 63) rfl)
theorem wd64 {Z : State} {a0 : Array Value} (hw : ∀ d ∈ tables_1, d.before a0 Z = true) : ((Jvm.Cond.instanceMethod ({ cls := "java/lang/String", name := "length", desc := "()I" } : Jvm.MethodName)) : Jvm.Cond).before a0 Z = true := hw _ (List.mem_of_getElem? (i := 64) rfl)
theorem d11_17 : decode jdk_42_method_80_code 17 = .ok (.invokestatic 637, 3) := by decide +kernel
theorem wd72 {Z : State} {a0 : Array Value} (hw : ∀ d ∈ tables_1, d.before a0 Z = true) : ((Jvm.Cond.methodLink "java/lang/String" (637 : Nat) ({ cls := "java/lang/StringLatin1", name := "indexOf", desc := "([BIII)I" } : Jvm.MethodName)) : Jvm.Cond).before a0 Z = true := hw _ (List.mem_of_getElem? (i := 72) rfl)
theorem wd74 {Z : State} {a0 : Array Value} (hw : ∀ d ∈ tables_1, d.before a0 Z = true) : ((Jvm.Cond.code ({ cls := "java/lang/StringLatin1", name := "indexOf", desc := "([BIII)I" } : Jvm.MethodName) jdk_43_method_22_code (4 : Nat) (Option.some Jvm.ClassFile.FieldType.int)) : Jvm.Cond).before a0 Z = true := hw _ (List.mem_of_getElem? (i := 74) rfl)
theorem wd73 {Z : State} {a0 : Array Value} (hw : ∀ d ∈ tables_1, d.before a0 Z = true) : ((Jvm.Cond.static ({ cls := "java/lang/StringLatin1", name := "indexOf", desc := "([BIII)I" } : Jvm.MethodName)) : Jvm.Cond).before a0 Z = true := hw _ (List.mem_of_getElem? (i := 73) rfl)
theorem d11_20 : decode jdk_42_method_80_code 20 = .ok (.goto 16, 3) := by decide +kernel
theorem d11_36 : decode jdk_42_method_80_code 36 = .ok (.ireturn, 1) := by decide +kernel
abbrev mt21 : MethodName := (⟨"java/lang/String", "indexOf", "(I)I"⟩ : MethodName)
theorem ef_own_ixaL (m : MethodId) (x0 : Addr) (x1 : Int32) : entryFrame m #[(.ref x0), (.int x1)] 2 = mkF m 0 #[.val (.ref x0), .val (.int x1)] [] := by first | (simp [entryFrame, mkF, argsToLocals, Value.category]; done) | rfl
theorem d10_0 : decode jdk_42_method_79_code 0 = .ok (.aload_n 0, 1) := by decide +kernel
theorem d10_1 : decode jdk_42_method_79_code 1 = .ok (.iload_n 1, 1) := by decide +kernel
theorem d10_2 : decode jdk_42_method_79_code 2 = .ok (.iconst 0, 1) := by decide +kernel
theorem d10_3 : decode jdk_42_method_79_code 3 = .ok (.invokevirtual 633, 3) := by decide +kernel
theorem wd52 {Z : State} {a0 : Array Value} (hw : ∀ d ∈ tables_1, d.before a0 Z = true) : ((Jvm.Cond.methodLink "java/lang/String" (633 : Nat) ({ cls := "java/lang/String", name := "indexOf", desc := "(II)I" } : Jvm.MethodName)) : Jvm.Cond).before a0 Z = true := hw _ (List.mem_of_getElem? (i := 52) rfl)
theorem wd56 {Z : State} {a0 : Array Value} (hw : ∀ d ∈ tables_1, d.before a0 Z = true) : ((Jvm.Cond.code ({ cls := "java/lang/String", name := "indexOf", desc := "(II)I" } : Jvm.MethodName) jdk_42_method_80_code (3 : Nat) (Option.some Jvm.ClassFile.FieldType.int)) : Jvm.Cond).before a0 Z = true := hw _ (List.mem_of_getElem? (i := 56) rfl)
theorem wd55 {Z : State} {a0 : Array Value} (hw : ∀ d ∈ tables_1, d.before a0 Z = true) : ((Jvm.Cond.selects "java/lang/String" ({ cls := "java/lang/String", name := "indexOf", desc := "(II)I" } : Jvm.MethodName) ({ cls := "java/lang/String", name := "indexOf", desc := "(II)I" } : Jvm.MethodName)) : Jvm.Cond).before a0 Z = true := hw _ (List.mem_of_getElem? (i := 55) rfl)
theorem wd53 {Z : State} {a0 : Array Value} (hw : ∀ d ∈ tables_1, d.before a0 Z = true) : ((Jvm.Cond.declares ({ cls := "java/lang/String", name := "indexOf", desc := "(II)I" } : Jvm.MethodName)) : Jvm.Cond).before a0 Z = true := hw _ (List.mem_of_getElem? (i := 53) rfl)
theorem wd54 {Z : State} {a0 : Array Value} (hw : ∀ d ∈ tables_1, d.before a0 Z = true) : ((Jvm.Cond.instanceMethod ({ cls := "java/lang/String", name := "indexOf", desc := "(II)I" } : Jvm.MethodName)) : Jvm.Cond).before a0 Z = true := hw _ (List.mem_of_getElem? (i := 54) rfl)
theorem d10_6 : decode jdk_42_method_79_code 6 = .ok (.ireturn, 1) := by decide +kernel
abbrev mt22 : MethodName := (⟨"com/example/regent/regent/Input", "text", "(Ljava/lang/String;Ljava/lang/String;)Ljava/lang/String;"⟩ : MethodName)
theorem pn_com_example_regent_regent_Input : plainName "com/example/regent/regent/Input" = true := by first | (simp [plainName, overriddenIn]; done) | decide +kernel
theorem ef_own_txtL (m : MethodId) (x0 : Addr) (x1 : Addr) : entryFrame m #[(.ref x0), (.ref x1)] 2 = mkF m 0 #[.val (.ref x0), .val (.ref x1)] [] := by first | (simp [entryFrame, mkF, argsToLocals, Value.category]; done) | rfl
theorem d9_0 : decode prog_11_method_5_code 0 = .ok (.aload_n 1, 1) := by decide +kernel
theorem d9_1 : decode prog_11_method_5_code 1 = .ok (.iconst 0, 1) := by decide +kernel
theorem d9_2 : decode prog_11_method_5_code 2 = .ok (.invokevirtual 60, 3) := by decide +kernel
theorem wd47 {Z : State} {a0 : Array Value} (hw : ∀ d ∈ tables_1, d.before a0 Z = true) : ((Jvm.Cond.methodLink "com/example/regent/regent/Input" (60 : Nat) ({ cls := "java/lang/String", name := "indexOf", desc := "(I)I" } : Jvm.MethodName)) : Jvm.Cond).before a0 Z = true := hw _ (List.mem_of_getElem? (i := 47) rfl)
theorem wd51 {Z : State} {a0 : Array Value} (hw : ∀ d ∈ tables_1, d.before a0 Z = true) : ((Jvm.Cond.code ({ cls := "java/lang/String", name := "indexOf", desc := "(I)I" } : Jvm.MethodName) jdk_42_method_79_code (2 : Nat) (Option.some Jvm.ClassFile.FieldType.int)) : Jvm.Cond).before a0 Z = true := hw _ (List.mem_of_getElem? (i := 51) rfl)
theorem wd50 {Z : State} {a0 : Array Value} (hw : ∀ d ∈ tables_1, d.before a0 Z = true) : ((Jvm.Cond.selects "java/lang/String" ({ cls := "java/lang/String", name := "indexOf", desc := "(I)I" } : Jvm.MethodName) ({ cls := "java/lang/String", name := "indexOf", desc := "(I)I" } : Jvm.MethodName)) : Jvm.Cond).before a0 Z = true := hw _ (List.mem_of_getElem? (i := 50) rfl)
theorem wd48 {Z : State} {a0 : Array Value} (hw : ∀ d ∈ tables_1, d.before a0 Z = true) : ((Jvm.Cond.declares ({ cls := "java/lang/String", name := "indexOf", desc := "(I)I" } : Jvm.MethodName)) : Jvm.Cond).before a0 Z = true := hw _ (List.mem_of_getElem? (i := 48) rfl)
theorem wd49 {Z : State} {a0 : Array Value} (hw : ∀ d ∈ tables_1, d.before a0 Z = true) : ((Jvm.Cond.instanceMethod ({ cls := "java/lang/String", name := "indexOf", desc := "(I)I" } : Jvm.MethodName)) : Jvm.Cond).before a0 Z = true := hw _ (List.mem_of_getElem? (i := 49) rfl)
theorem d9_5 : decode prog_11_method_5_code 5 = .ok (.ifCond .lt 10, 3) := by decide +kernel
theorem d9_15 : decode prog_11_method_5_code 15 = .ok (.aload_n 1, 1) := by decide +kernel
theorem d9_16 : decode prog_11_method_5_code 16 = .ok (.areturn, 1) := by decide +kernel
theorem ef_own_lenU (m : MethodId) (x0 : Addr) : entryFrame m #[(.ref x0)] 1 = mkF m 0 #[.val (.ref x0)] [] := by first | (simp [entryFrame, mkF, argsToLocals, Value.category]; done) | rfl
abbrev mt23 : MethodName := (⟨"java/lang/StringUTF16", "length", "([B)I"⟩ : MethodName)
theorem ef_own_ul (m : MethodId) (x0 : Addr) : entryFrame m #[(.ref x0)] 1 = mkF m 0 #[.val (.ref x0)] [] := by first | (simp [entryFrame, mkF, argsToLocals, Value.category]; done) | rfl
theorem d32_0 : decode jdk_52_method_6_code 0 = .ok (.aload_n 0, 1) := by decide +kernel
theorem d32_1 : decode jdk_52_method_6_code 1 = .ok (.arraylength, 1) := by decide +kernel
theorem d32_2 : decode jdk_52_method_6_code 2 = .ok (.iconst 1, 1) := by decide +kernel
theorem d32_3 : decode jdk_52_method_6_code 3 = .ok (.ishr, 1) := by decide +kernel
theorem d32_4 : decode jdk_52_method_6_code 4 = .ok (.ireturn, 1) := by decide +kernel
abbrev mt24 : MethodName := (⟨"java/lang/StringUTF16", "indexOfCharUnsafe", "([BIII)I"⟩ : MethodName)
theorem ef_own_uic (m : MethodId) (x0 : Addr) (x1 : Int32) (x2 : Int32) (x3 : Int32) : entryFrame m #[(.ref x0), (.int x1), (.int x2), (.int x3)] 5 = mkF m 0 #[.val (.ref x0), .val (.int x1), .val (.int x2), .val (.int x3), .unset] [] := by first | (simp [entryFrame, mkF, argsToLocals, Value.category]; done) | rfl
theorem d35_0 : decode jdk_52_method_48_code 0 = .ok (.iload_n 2, 1) := by decide +kernel
theorem d35_1 : decode jdk_52_method_48_code 1 = .ok (.istore 4, 2) := by decide +kernel
theorem d35_3 : decode jdk_52_method_48_code 3 = .ok (.iload 4, 2) := by decide +kernel
theorem d35_5 : decode jdk_52_method_48_code 5 = .ok (.iload_n 3, 1) := by decide +kernel
theorem d35_6 : decode jdk_52_method_48_code 6 = .ok (.if_icmp .ge 22, 3) := by decide +kernel
theorem d35_9 : decode jdk_52_method_48_code 9 = .ok (.aload_n 0, 1) := by decide +kernel
theorem d35_10 : decode jdk_52_method_48_code 10 = .ok (.iload 4, 2) := by decide +kernel
theorem d35_12 : decode jdk_52_method_48_code 12 = .ok (.invokestatic 71, 3) := by decide +kernel
theorem d35_15 : decode jdk_52_method_48_code 15 = .ok (.iload_n 1, 1) := by decide +kernel
theorem d35_16 : decode jdk_52_method_48_code 16 = .ok (.if_icmp .ne 6, 3) := by decide +kernel
theorem d35_22 : decode jdk_52_method_48_code 22 = .ok (.iinc 4 1, 3) := by decide +kernel
theorem d35_25 : decode jdk_52_method_48_code 25 = .ok (.goto (-22), 3) := by decide +kernel
theorem d35_28 : decode jdk_52_method_48_code 28 = .ok (.iconst (-1), 1) := by decide +kernel
theorem d35_29 : decode jdk_52_method_48_code 29 = .ok (.ireturn, 1) := by decide +kernel
abbrev mt25 : MethodName := (⟨"java/lang/StringUTF16", "checkBoundsBeginEnd", "(II[B)V"⟩ : MethodName)
theorem ef_own_ucb (m : MethodId) (x0 : Int32) (x1 : Int32) (x2 : Addr) : entryFrame m #[(.int x0), (.int x1), (.ref x2)] 3 = mkF m 0 #[.val (.int x0), .val (.int x1), .val (.ref x2)] [] := by first | (simp [entryFrame, mkF, argsToLocals, Value.category]; done) | rfl
theorem d31_0 : decode jdk_52_method_93_code 0 = .ok (.iload_n 0, 1) := by decide +kernel
theorem d31_1 : decode jdk_52_method_93_code 1 = .ok (.iload_n 1, 1) := by decide +kernel
theorem d31_2 : decode jdk_52_method_93_code 2 = .ok (.aload_n 2, 1) := by decide +kernel
theorem d31_3 : decode jdk_52_method_93_code 3 = .ok (.invokestatic 48, 3) := by decide +kernel
theorem wd135 {Z : State} {a0 : Array Value} (hw : ∀ d ∈ tables_1, d.before a0 Z = true) : ((Jvm.Cond.methodLink "java/lang/StringUTF16" (48 : Nat) ({ cls := "java/lang/StringUTF16", name := "length", desc := "([B)I" } : Jvm.MethodName)) : Jvm.Cond).before a0 Z = true := hw _ (List.mem_of_getElem? (i := 135) rfl)
theorem wd137 {Z : State} {a0 : Array Value} (hw : ∀ d ∈ tables_1, d.before a0 Z = true) : ((Jvm.Cond.code ({ cls := "java/lang/StringUTF16", name := "length", desc := "([B)I" } : Jvm.MethodName) jdk_52_method_6_code (1 : Nat) (Option.some Jvm.ClassFile.FieldType.int)) : Jvm.Cond).before a0 Z = true := hw _ (List.mem_of_getElem? (i := 137) rfl)
theorem pd___B_I_311 : parseMethodDescriptor "([B)I" = some ⟨[(.array .byte)], some .int⟩ := by decide +kernel
theorem wd136 {Z : State} {a0 : Array Value} (hw : ∀ d ∈ tables_1, d.before a0 Z = true) : ((Jvm.Cond.static ({ cls := "java/lang/StringUTF16", name := "length", desc := "([B)I" } : Jvm.MethodName)) : Jvm.Cond).before a0 Z = true := hw _ (List.mem_of_getElem? (i := 136) rfl)
theorem d31_6 : decode jdk_52_method_93_code 6 = .ok (.invokestatic 241, 3) := by decide +kernel
theorem wd138 {Z : State} {a0 : Array Value} (hw : ∀ d ∈ tables_1, d.before a0 Z = true) : ((Jvm.Cond.methodLink "java/lang/StringUTF16" (241 : Nat) ({ cls := "java/lang/String", name := "checkBoundsBeginEnd", desc := "(III)V" } : Jvm.MethodName)) : Jvm.Cond).before a0 Z = true := hw _ (List.mem_of_getElem? (i := 138) rfl)
theorem wd140 {Z : State} {a0 : Array Value} (hw : ∀ d ∈ tables_1, d.before a0 Z = true) : ((Jvm.Cond.code ({ cls := "java/lang/String", name := "checkBoundsBeginEnd", desc := "(III)V" } : Jvm.MethodName) jdk_42_method_158_code (3 : Nat) (Option.none : Option Jvm.ClassFile.FieldType)) : Jvm.Cond).before a0 Z = true := hw _ (List.mem_of_getElem? (i := 140) rfl)
theorem pd__III_V_386 : parseMethodDescriptor "(III)V" = some ⟨[.int, .int, .int], none⟩ := by decide +kernel
theorem wd139 {Z : State} {a0 : Array Value} (hw : ∀ d ∈ tables_1, d.before a0 Z = true) : ((Jvm.Cond.static ({ cls := "java/lang/String", name := "checkBoundsBeginEnd", desc := "(III)V" } : Jvm.MethodName)) : Jvm.Cond).before a0 Z = true := hw _ (List.mem_of_getElem? (i := 139) rfl)
theorem d31_9 : decode jdk_52_method_93_code 9 = .ok (.return_, 1) := by decide +kernel
abbrev mt26 : MethodName := (⟨"java/lang/StringUTF16", "indexOfChar", "([BIII)I"⟩ : MethodName)
theorem ef_own_uch (m : MethodId) (x0 : Addr) (x1 : Int32) (x2 : Int32) (x3 : Int32) : entryFrame m #[(.ref x0), (.int x1), (.int x2), (.int x3)] 4 = mkF m 0 #[.val (.ref x0), .val (.int x1), .val (.int x2), .val (.int x3)] [] := by first | (simp [entryFrame, mkF, argsToLocals, Value.category]; done) | rfl
theorem d30_0 : decode jdk_52_method_47_code 0 = .ok (.iload_n 2, 1) := by decide +kernel
theorem d30_1 : decode jdk_52_method_47_code 1 = .ok (.iload_n 3, 1) := by decide +kernel
theorem d30_2 : decode jdk_52_method_47_code 2 = .ok (.aload_n 0, 1) := by decide +kernel
theorem d30_3 : decode jdk_52_method_47_code 3 = .ok (.invokestatic 96, 3) := by decide +kernel
theorem wd132 {Z : State} {a0 : Array Value} (hw : ∀ d ∈ tables_1, d.before a0 Z = true) : ((Jvm.Cond.methodLink "java/lang/StringUTF16" (96 : Nat) ({ cls := "java/lang/StringUTF16", name := "checkBoundsBeginEnd", desc := "(II[B)V" } : Jvm.MethodName)) : Jvm.Cond).before a0 Z = true := hw _ (List.mem_of_getElem? (i := 132) rfl)
theorem wd134 {Z : State} {a0 : Array Value} (hw : ∀ d ∈ tables_1, d.before a0 Z = true) : ((Jvm.Cond.code ({ cls := "java/lang/StringUTF16", name := "checkBoundsBeginEnd", desc := "(II[B)V" } : Jvm.MethodName) jdk_52_method_93_code (3 : Nat) (Option.none : Option Jvm.ClassFile.FieldType)) : Jvm.Cond).before a0 Z = true := hw _ (List.mem_of_getElem? (i := 134) rfl)
theorem pd__II_B_V_470 : parseMethodDescriptor "(II[B)V" = some ⟨[.int, .int, (.array .byte)], none⟩ := by decide +kernel
theorem wd133 {Z : State} {a0 : Array Value} (hw : ∀ d ∈ tables_1, d.before a0 Z = true) : ((Jvm.Cond.static ({ cls := "java/lang/StringUTF16", name := "checkBoundsBeginEnd", desc := "(II[B)V" } : Jvm.MethodName)) : Jvm.Cond).before a0 Z = true := hw _ (List.mem_of_getElem? (i := 133) rfl)
theorem d30_6 : decode jdk_52_method_47_code 6 = .ok (.aload_n 0, 1) := by decide +kernel
theorem d30_7 : decode jdk_52_method_47_code 7 = .ok (.iload_n 1, 1) := by decide +kernel
theorem d30_8 : decode jdk_52_method_47_code 8 = .ok (.iload_n 2, 1) := by decide +kernel
theorem d30_9 : decode jdk_52_method_47_code 9 = .ok (.iload_n 3, 1) := by decide +kernel
theorem d30_10 : decode jdk_52_method_47_code 10 = .ok (.invokestatic 244, 3) := by decide +kernel
theorem wd146 {Z : State} {a0 : Array Value} (hw : ∀ d ∈ tables_1, d.before a0 Z = true) : ((Jvm.Cond.methodLink "java/lang/StringUTF16" (244 : Nat) ({ cls := "java/lang/StringUTF16", name := "indexOfCharUnsafe", desc := "([BIII)I" } : Jvm.MethodName)) : Jvm.Cond).before a0 Z = true := hw _ (List.mem_of_getElem? (i := 146) rfl)
theorem wd148 {Z : State} {a0 : Array Value} (hw : ∀ d ∈ tables_1, d.before a0 Z = true) : ((Jvm.Cond.code ({ cls := "java/lang/StringUTF16", name := "indexOfCharUnsafe", desc := "([BIII)I" } : Jvm.MethodName) jdk_52_method_48_code (5 : Nat) (Option.some Jvm.ClassFile.FieldType.int)) : Jvm.Cond).before a0 Z = true := hw _ (List.mem_of_getElem? (i := 148) rfl)
theorem wd147 {Z : State} {a0 : Array Value} (hw : ∀ d ∈ tables_1, d.before a0 Z = true) : ((Jvm.Cond.static ({ cls := "java/lang/StringUTF16", name := "indexOfCharUnsafe", desc := "([BIII)I" } : Jvm.MethodName)) : Jvm.Cond).before a0 Z = true := hw _ (List.mem_of_getElem? (i := 147) rfl)
theorem d30_13 : decode jdk_52_method_47_code 13 = .ok (.ireturn, 1) := by decide +kernel
abbrev mt27 : MethodName := (⟨"java/lang/StringUTF16", "indexOf", "([BIII)I"⟩ : MethodName)
theorem ef_own_uix (m : MethodId) (x0 : Addr) (x1 : Int32) (x2 : Int32) (x3 : Int32) : entryFrame m #[(.ref x0), (.int x1), (.int x2), (.int x3)] 4 = mkF m 0 #[.val (.ref x0), .val (.int x1), .val (.int x2), .val (.int x3)] [] := by first | (simp [entryFrame, mkF, argsToLocals, Value.category]; done) | rfl
theorem d29_0 : decode jdk_52_method_40_code 0 = .ok (.iload_n 2, 1) := by decide +kernel
theorem d29_1 : decode jdk_52_method_40_code 1 = .ok (.iconst 0, 1) := by decide +kernel
theorem d29_2 : decode jdk_52_method_40_code 2 = .ok (.invokestatic 224, 3) := by decide +kernel
theorem wd126 {Z : State} {a0 : Array Value} (hw : ∀ d ∈ tables_1, d.before a0 Z = true) : ((Jvm.Cond.methodLink "java/lang/StringUTF16" (224 : Nat) ({ cls := "java/lang/Math", name := "max", desc := "(II)I" } : Jvm.MethodName)) : Jvm.Cond).before a0 Z = true := hw _ (List.mem_of_getElem? (i := 126) rfl)
theorem d29_5 : decode jdk_52_method_40_code 5 = .ok (.istore_n 2, 1) := by decide +kernel
theorem d29_6 : decode jdk_52_method_40_code 6 = .ok (.iload_n 3, 1) := by decide +kernel
theorem d29_7 : decode jdk_52_method_40_code 7 = .ok (.aload_n 0, 1) := by decide +kernel
theorem d29_8 : decode jdk_52_method_40_code 8 = .ok (.arraylength, 1) := by decide +kernel
theorem d29_9 : decode jdk_52_method_40_code 9 = .ok (.iconst 1, 1) := by decide +kernel
theorem d29_10 : decode jdk_52_method_40_code 10 = .ok (.ishr, 1) := by decide +kernel
theorem d29_11 : decode jdk_52_method_40_code 11 = .ok (.invokestatic 183, 3) := by decide +kernel
theorem wd127 {Z : State} {a0 : Array Value} (hw : ∀ d ∈ tables_1, d.before a0 Z = true) : ((Jvm.Cond.methodLink "java/lang/StringUTF16" (183 : Nat) ({ cls := "java/lang/Math", name := "min", desc := "(II)I" } : Jvm.MethodName)) : Jvm.Cond).before a0 Z = true := hw _ (List.mem_of_getElem? (i := 127) rfl)
theorem d29_14 : decode jdk_52_method_40_code 14 = .ok (.istore_n 3, 1) := by decide +kernel
theorem d29_15 : decode jdk_52_method_40_code 15 = .ok (.iload_n 2, 1) := by decide +kernel
theorem d29_16 : decode jdk_52_method_40_code 16 = .ok (.iload_n 3, 1) := by decide +kernel
theorem d29_17 : decode jdk_52_method_40_code 17 = .ok (.if_icmp .lt 5, 3) := by decide +kernel
theorem d29_22 : decode jdk_52_method_40_code 22 = .ok (.iload_n 1, 1) := by decide +kernel
theorem d29_23 : decode jdk_52_method_40_code 23 = .ok (.ldc 227, 2) := by decide +kernel
theorem wd128 {Z : State} {a0 : Array Value} (hw : ∀ d ∈ tables_1, d.before a0 Z = true) : ((Jvm.Cond.constant "java/lang/StringUTF16" (227 : Nat) (65536 : Int32)) : Jvm.Cond).before a0 Z = true := hw _ (List.mem_of_getElem? (i := 128) rfl)
theorem d29_25 : decode jdk_52_method_40_code 25 = .ok (.if_icmp .ge 11, 3) := by decide +kernel
theorem d29_28 : decode jdk_52_method_40_code 28 = .ok (.aload_n 0, 1) := by decide +kernel
theorem d29_29 : decode jdk_52_method_40_code 29 = .ok (.iload_n 1, 1) := by decide +kernel
theorem d29_30 : decode jdk_52_method_40_code 30 = .ok (.iload_n 2, 1) := by decide +kernel
theorem d29_31 : decode jdk_52_method_40_code 31 = .ok (.iload_n 3, 1) := by decide +kernel
theorem d29_32 : decode jdk_52_method_40_code 32 = .ok (.invokestatic 228, 3) := by decide +kernel
theorem wd129 {Z : State} {a0 : Array Value} (hw : ∀ d ∈ tables_1, d.before a0 Z = true) : ((Jvm.Cond.methodLink "java/lang/StringUTF16" (228 : Nat) ({ cls := "java/lang/StringUTF16", name := "indexOfChar", desc := "([BIII)I" } : Jvm.MethodName)) : Jvm.Cond).before a0 Z = true := hw _ (List.mem_of_getElem? (i := 129) rfl)
theorem wd131 {Z : State} {a0 : Array Value} (hw : ∀ d ∈ tables_1, d.before a0 Z = true) : ((Jvm.Cond.code ({ cls := "java/lang/StringUTF16", name := "indexOfChar", desc := "([BIII)I" } : Jvm.MethodName) jdk_52_method_47_code (4 : Nat) (Option.some Jvm.ClassFile.FieldType.int)) : Jvm.Cond).before a0 Z = true := hw _ (List.mem_of_getElem? (i := 131) rfl)
theorem wd130 {Z : State} {a0 : Array Value} (hw : ∀ d ∈ tables_1, d.before a0 Z = true) : ((Jvm.Cond.static ({ cls := "java/lang/StringUTF16", name := "indexOfChar", desc := "([BIII)I" } : Jvm.MethodName)) : Jvm.Cond).before a0 Z = true := hw _ (List.mem_of_getElem? (i := 130) rfl)
theorem d29_35 : decode jdk_52_method_40_code 35 = .ok (.ireturn, 1) := by decide +kernel
theorem ef_own_ixbU (m : MethodId) (x0 : Addr) (x1 : Int32) (x2 : Int32) : entryFrame m #[(.ref x0), (.int x1), (.int x2)] 3 = mkF m 0 #[.val (.ref x0), .val (.int x1), .val (.int x2)] [] := by first | (simp [entryFrame, mkF, argsToLocals, Value.category]; done) | rfl
theorem d11_23 : decode jdk_42_method_80_code 23 = .ok (.aload_n 0, 1) := by decide +kernel
theorem d11_24 : decode jdk_42_method_80_code 24 = .ok (.getfield 9, 3) := by decide +kernel
theorem d11_27 : decode jdk_42_method_80_code 27 = .ok (.iload_n 1, 1) := by decide +kernel
theorem d11_28 : decode jdk_42_method_80_code 28 = .ok (.iload_n 2, 1) := by decide +kernel
theorem d11_29 : decode jdk_42_method_80_code 29 = .ok (.aload_n 0, 1) := by decide +kernel
theorem d11_30 : decode jdk_42_method_80_code 30 = .ok (.invokevirtual 505, 3) := by decide +kernel
theorem d11_33 : decode jdk_42_method_80_code 33 = .ok (.invokestatic 640, 3) := by decide +kernel
theorem wd123 {Z : State} {a0 : Array Value} (hw : ∀ d ∈ tables_1, d.before a0 Z = true) : ((Jvm.Cond.methodLink "java/lang/String" (640 : Nat) ({ cls := "java/lang/StringUTF16", name := "indexOf", desc := "([BIII)I" } : Jvm.MethodName)) : Jvm.Cond).before a0 Z = true := hw _ (List.mem_of_getElem? (i := 123) rfl)
theorem wd125 {Z : State} {a0 : Array Value} (hw : ∀ d ∈ tables_1, d.before a0 Z = true) : ((Jvm.Cond.code ({ cls := "java/lang/StringUTF16", name := "indexOf", desc := "([BIII)I" } : Jvm.MethodName) jdk_52_method_40_code (4 : Nat) (Option.some Jvm.ClassFile.FieldType.int)) : Jvm.Cond).before a0 Z = true := hw _ (List.mem_of_getElem? (i := 125) rfl)
theorem wd124 {Z : State} {a0 : Array Value} (hw : ∀ d ∈ tables_1, d.before a0 Z = true) : ((Jvm.Cond.static ({ cls := "java/lang/StringUTF16", name := "indexOf", desc := "([BIII)I" } : Jvm.MethodName)) : Jvm.Cond).before a0 Z = true := hw _ (List.mem_of_getElem? (i := 124) rfl)
theorem ef_own_ixaU (m : MethodId) (x0 : Addr) (x1 : Int32) : entryFrame m #[(.ref x0), (.int x1)] 2 = mkF m 0 #[.val (.ref x0), .val (.int x1)] [] := by first | (simp [entryFrame, mkF, argsToLocals, Value.category]; done) | rfl
theorem ef_own_txtU (m : MethodId) (x0 : Addr) (x1 : Addr) : entryFrame m #[(.ref x0), (.ref x1)] 2 = mkF m 0 #[.val (.ref x0), .val (.ref x1)] [] := by first | (simp [entryFrame, mkF, argsToLocals, Value.category]; done) | rfl
abbrev mt28 : MethodName := (⟨"java/lang/StringLatin1", "canEncode", "(C)Z"⟩ : MethodName)
theorem ef_own_ceC (m : MethodId) (x0 : Int32) : entryFrame m #[(.int x0)] 1 = mkF m 0 #[.val (.int x0)] [] := by first | (simp [entryFrame, mkF, argsToLocals, Value.category]; done) | rfl
theorem d6_0 : decode jdk_43_method_3_code 0 = .ok (.iload_n 0, 1) := by decide +kernel
theorem d6_1 : decode jdk_43_method_3_code 1 = .ok (.sipush 255, 3) := by decide +kernel
theorem d6_4 : decode jdk_43_method_3_code 4 = .ok (.if_icmp .gt 7, 3) := by decide +kernel
theorem d6_11 : decode jdk_43_method_3_code 11 = .ok (.iconst 0, 1) := by decide +kernel
theorem d6_12 : decode jdk_43_method_3_code 12 = .ok (.ireturn, 1) := by decide +kernel
theorem d6_7 : decode jdk_43_method_3_code 7 = .ok (.iconst 1, 1) := by decide +kernel
theorem d6_8 : decode jdk_43_method_3_code 8 = .ok (.goto 4, 3) := by decide +kernel
abbrev mt29 : MethodName := (⟨"java/lang/StringLatin1", "toBytes", "(C)[B"⟩ : MethodName)
theorem ef_own_tbC (m : MethodId) (x0 : Int32) : entryFrame m #[(.int x0)] 1 = mkF m 0 #[.val (.int x0)] [] := by first | (simp [entryFrame, mkF, argsToLocals, Value.category]; done) | rfl
theorem d7_0 : decode jdk_43_method_46_code 0 = .ok (.iconst 1, 1) := by decide +kernel
theorem d7_1 : decode jdk_43_method_46_code 1 = .ok (.newarray .byte, 2) := by decide +kernel
theorem d7_3 : decode jdk_43_method_46_code 3 = .ok (.dup, 1) := by decide +kernel
theorem d7_4 : decode jdk_43_method_46_code 4 = .ok (.iconst 0, 1) := by decide +kernel
theorem d7_5 : decode jdk_43_method_46_code 5 = .ok (.iload_n 0, 1) := by decide +kernel
theorem d7_6 : decode jdk_43_method_46_code 6 = .ok (.i2b, 1) := by decide +kernel
theorem d7_7 : decode jdk_43_method_46_code 7 = .ok (.bastore, 1) := by decide +kernel
theorem d7_8 : decode jdk_43_method_46_code 8 = .ok (.areturn, 1) := by decide +kernel
abbrev mt30 : MethodName := (⟨"java/lang/String", "<init>", "([BB)V"⟩ : MethodName)
theorem ef_own_nBB (m : MethodId) (x0 : Addr) (x1 : Addr) (x2 : Int32) : entryFrame m #[(.ref x0), (.ref x1), (.int x2)] 3 = mkF m 0 #[.val (.ref x0), .val (.ref x1), .val (.int x2)] [] := by first | (simp [entryFrame, mkF, argsToLocals, Value.category]; done) | rfl
theorem d8_0 : decode jdk_42_method_151_code 0 = .ok (.aload_n 0, 1) := by decide +kernel
theorem d8_1 : decode jdk_42_method_151_code 1 = .ok (.invokespecial 1, 3) := by decide +kernel
theorem d8_4 : decode jdk_42_method_151_code 4 = .ok (.aload_n 0, 1) := by decide +kernel
theorem d8_5 : decode jdk_42_method_151_code 5 = .ok (.aload_n 1, 1) := by decide +kernel
theorem d8_6 : decode jdk_42_method_151_code 6 = .ok (.putfield 9, 3) := by decide +kernel
theorem d8_9 : decode jdk_42_method_151_code 9 = .ok (.aload_n 0, 1) := by decide +kernel
theorem d8_10 : decode jdk_42_method_151_code 10 = .ok (.iload_n 2, 1) := by decide +kernel
theorem d8_11 : decode jdk_42_method_151_code 11 = .ok (.putfield 15, 3) := by decide +kernel
theorem d8_14 : decode jdk_42_method_151_code 14 = .ok (.return_, 1) := by decide +kernel
abbrev mt31 : MethodName := (⟨"java/lang/String", "valueOf", "(C)Ljava/lang/String;"⟩ : MethodName)
theorem ef_own_vof (m : MethodId) (x0 : Int32) : entryFrame m #[(.int x0)] 1 = mkF m 0 #[.val (.int x0)] [] := by first | (simp [entryFrame, mkF, argsToLocals, Value.category]; done) | rfl
theorem d5_0 : decode jdk_42_method_139_code 0 = .ok (.getstatic 38, 3) := by decide +kernel
theorem d5_3 : decode jdk_42_method_139_code 3 = .ok (.ifCond .eq 23, 3) := by decide +kernel
theorem d5_6 : decode jdk_42_method_139_code 6 = .ok (.iload_n 0, 1) := by decide +kernel
theorem d5_7 : decode jdk_42_method_139_code 7 = .ok (.invokestatic 1015, 3) := by decide +kernel
theorem wd32 {Z : State} {a0 : Array Value} (hw : ∀ d ∈ tables_1, d.before a0 Z = true) : ((Jvm.Cond.methodLink "java/lang/String" (1015 : Nat) ({ cls := "java/lang/StringLatin1", name := "canEncode", desc := "(C)Z" } : Jvm.MethodName)) : Jvm.Cond).before a0 Z = true := hw _ (List.mem_of_getElem? (i := 32) rfl)
theorem wd35 {Z : State} {a0 : Array Value} (hw : ∀ d ∈ tables_1, d.before a0 Z = true) : ((Jvm.Cond.code ({ cls := "java/lang/StringLatin1", name := "canEncode", desc := "(C)Z" } : Jvm.MethodName) jdk_43_method_3_code (1 : Nat) (Option.some Jvm.ClassFile.FieldType.boolean)) : Jvm.Cond).before a0 Z = true := hw _ (List.mem_of_getElem? (i := 35) rfl)
theorem pd__C_Z_238 : parseMethodDescriptor "(C)Z" = some ⟨[.char], some .boolean⟩ := by decide +kernel
theorem wd33 {Z : State} {a0 : Array Value} (hw : ∀ d ∈ tables_1, d.before a0 Z = true) : ((Jvm.Cond.static ({ cls := "java/lang/StringLatin1", name := "canEncode", desc := "(C)Z" } : Jvm.MethodName)) : Jvm.Cond).before a0 Z = true := hw _ (List.mem_of_getElem? (i := 33) rfl)
theorem d5_10 : decode jdk_42_method_139_code 10 = .ok (.ifCond .eq 16, 3) := by decide +kernel
theorem d5_13 : decode jdk_42_method_139_code 13 = .ok (.new 10, 3) := by decide +kernel
theorem wd36 {Z : State} {a0 : Array Value} (hw : ∀ d ∈ tables_1, d.before a0 Z = true) : ((Jvm.Cond.classLink "java/lang/String" (10 : Nat) "java/lang/String") : Jvm.Cond).before a0 Z = true := hw _ (List.mem_of_getElem? (i := 36) rfl)
theorem d5_16 : decode jdk_42_method_139_code 16 = .ok (.dup, 1) := by decide +kernel
theorem d5_17 : decode jdk_42_method_139_code 17 = .ok (.iload_n 0, 1) := by decide +kernel
theorem d5_18 : decode jdk_42_method_139_code 18 = .ok (.invokestatic 1018, 3) := by decide +kernel
theorem wd37 {Z : State} {a0 : Array Value} (hw : ∀ d ∈ tables_1, d.before a0 Z = true) : ((Jvm.Cond.methodLink "java/lang/String" (1018 : Nat) ({ cls := "java/lang/StringLatin1", name := "toBytes", desc := "(C)[B" } : Jvm.MethodName)) : Jvm.Cond).before a0 Z = true := hw _ (List.mem_of_getElem? (i := 37) rfl)
theorem wd39 {Z : State} {a0 : Array Value} (hw : ∀ d ∈ tables_1, d.before a0 Z = true) : ((Jvm.Cond.code ({ cls := "java/lang/StringLatin1", name := "toBytes", desc := "(C)[B" } : Jvm.MethodName) jdk_43_method_46_code (1 : Nat) (Option.some (Jvm.ClassFile.FieldType.array Jvm.ClassFile.FieldType.byte))) : Jvm.Cond).before a0 Z = true := hw _ (List.mem_of_getElem? (i := 39) rfl)
theorem pd__C__B_305 : parseMethodDescriptor "(C)[B" = some ⟨[.char], some (.array .byte)⟩ := by decide +kernel
theorem wd38 {Z : State} {a0 : Array Value} (hw : ∀ d ∈ tables_1, d.before a0 Z = true) : ((Jvm.Cond.static ({ cls := "java/lang/StringLatin1", name := "toBytes", desc := "(C)[B" } : Jvm.MethodName)) : Jvm.Cond).before a0 Z = true := hw _ (List.mem_of_getElem? (i := 38) rfl)
theorem d5_21 : decode jdk_42_method_139_code 21 = .ok (.iconst 0, 1) := by decide +kernel
theorem d5_22 : decode jdk_42_method_139_code 22 = .ok (.invokespecial 209, 3) := by decide +kernel
theorem wd40 {Z : State} {a0 : Array Value} (hw : ∀ d ∈ tables_1, d.before a0 Z = true) : ((Jvm.Cond.methodLink "java/lang/String" (209 : Nat) ({ cls := "java/lang/String", name := "<init>", desc := "([BB)V" } : Jvm.MethodName)) : Jvm.Cond).before a0 Z = true := hw _ (List.mem_of_getElem? (i := 40) rfl)
theorem wd42 {Z : State} {a0 : Array Value} (hw : ∀ d ∈ tables_1, d.before a0 Z = true) : ((Jvm.Cond.code ({ cls := "java/lang/String", name := "<init>", desc := "([BB)V" } : Jvm.MethodName) jdk_42_method_151_code (3 : Nat) (Option.none : Option Jvm.ClassFile.FieldType)) : Jvm.Cond).before a0 Z = true := hw _ (List.mem_of_getElem? (i := 42) rfl)
theorem pd___BB_V_390 : parseMethodDescriptor "([BB)V" = some ⟨[(.array .byte), .byte], none⟩ := by decide +kernel
theorem wd41 {Z : State} {a0 : Array Value} (hw : ∀ d ∈ tables_1, d.before a0 Z = true) : ((Jvm.Cond.instanceMethod ({ cls := "java/lang/String", name := "<init>", desc := "([BB)V" } : Jvm.MethodName)) : Jvm.Cond).before a0 Z = true := hw _ (List.mem_of_getElem? (i := 41) rfl)
theorem d5_25 : decode jdk_42_method_139_code 25 = .ok (.areturn, 1) := by decide +kernel
abbrev mt32 : MethodName := (⟨"java/lang/String", "equals", "(Ljava/lang/Object;)Z"⟩ : MethodName)
theorem ef_own_eqs (m : MethodId) (x0 : Addr) (x1 : Addr) : entryFrame m #[(.ref x0), (.ref x1)] 3 = mkF m 0 #[.val (.ref x0), .val (.ref x1), .unset] [] := by first | (simp [entryFrame, mkF, argsToLocals, Value.category]; done) | rfl
theorem d19_0 : decode jdk_42_method_66_code 0 = .ok (.aload_n 0, 1) := by decide +kernel
theorem d19_1 : decode jdk_42_method_66_code 1 = .ok (.aload_n 1, 1) := by decide +kernel
theorem d19_2 : decode jdk_42_method_66_code 2 = .ok (.if_acmp .ne 5, 3) := by decide +kernel
theorem d19_5 : decode jdk_42_method_66_code 5 = .ok (.iconst 1, 1) := by decide +kernel
theorem d19_6 : decode jdk_42_method_66_code 6 = .ok (.ireturn, 1) := by decide +kernel
abbrev mt33 : MethodName := (⟨"com/example/regent/regent/InputTextPinLaw", "nz", "(I)C"⟩ : MethodName)
theorem pn_com_example_regent_regent_InputTextPinLaw : plainName "com/example/regent/regent/InputTextPinLaw" = true := by first | (simp [plainName, overriddenIn]; done) | decide +kernel
theorem ef_own_nz (m : MethodId) (x0 : Int32) : entryFrame m #[(.int x0)] 1 = mkF m 0 #[.val (.int x0)] [] := by first | (simp [entryFrame, mkF, argsToLocals, Value.category]; done) | rfl
theorem d1_0 : decode method_2_code 0 = .ok (.iconst 1, 1) := by decide +kernel
theorem d1_1 : decode method_2_code 1 = .ok (.iload_n 0, 1) := by decide +kernel
theorem d1_2 : decode method_2_code 2 = .ok (.ldc 7, 2) := by decide +kernel
theorem wd4 {Z : State} {a0 : Array Value} (hw : ∀ d ∈ tables_1, d.before a0 Z = true) : ((Jvm.Cond.constant "com/example/regent/regent/InputTextPinLaw" (7 : Nat) (2147483647 : Int32)) : Jvm.Cond).before a0 Z = true := hw _ (List.mem_of_getElem? (i := 4) rfl)
theorem d1_4 : decode method_2_code 4 = .ok (.iand, 1) := by decide +kernel
theorem d1_5 : decode method_2_code 5 = .ok (.ldc 8, 2) := by decide +kernel
theorem wd5 {Z : State} {a0 : Array Value} (hw : ∀ d ∈ tables_1, d.before a0 Z = true) : ((Jvm.Cond.constant "com/example/regent/regent/InputTextPinLaw" (8 : Nat) (65535 : Int32)) : Jvm.Cond).before a0 Z = true := hw _ (List.mem_of_getElem? (i := 5) rfl)
theorem d1_7 : decode method_2_code 7 = .ok (.irem, 1) := by decide +kernel
theorem d1_8 : decode method_2_code 8 = .ok (.iadd, 1) := by decide +kernel
theorem d1_9 : decode method_2_code 9 = .ok (.i2c, 1) := by decide +kernel
theorem d1_10 : decode method_2_code 10 = .ok (.ireturn, 1) := by decide +kernel
theorem ef_own_law (m : MethodId) (x0 : Int32) (x1 : Int32) (x2 : Int32) (x3 : Int32) (x4 : Int32) (x5 : Int32) : entryFrame m #[(.int x0), (.int x1), (.int x2), (.int x3), (.int x4), (.int x5)] maxLocals = mkF m 0 #[.val (.int x0), .val (.int x1), .val (.int x2), .val (.int x3), .val (.int x4), .val (.int x5), .unset, .unset, .unset, .unset, .unset, .unset, .unset, .unset, .unset] [] := by first | (simp [entryFrame, mkF, argsToLocals, Value.category, maxLocals]; done) | rfl
theorem wd0 {Z : State} {a0 : Array Value} (hw : ∀ d ∈ tables_1, d.before a0 Z = true) : ((Jvm.Cond.methodLink "com/example/regent/regent/InputTextPinLaw" (9 : Nat) ({ cls := "com/example/regent/regent/InputTextPinLaw", name := "nz", desc := "(I)C" } : Jvm.MethodName)) : Jvm.Cond).before a0 Z = true := hw _ (List.mem_of_getElem? (i := 0) rfl)
theorem wd3 {Z : State} {a0 : Array Value} (hw : ∀ d ∈ tables_1, d.before a0 Z = true) : ((Jvm.Cond.code ({ cls := "com/example/regent/regent/InputTextPinLaw", name := "nz", desc := "(I)C" } : Jvm.MethodName) method_2_code (1 : Nat) (Option.some Jvm.ClassFile.FieldType.char)) : Jvm.Cond).before a0 Z = true := hw _ (List.mem_of_getElem? (i := 3) rfl)
theorem wd2 {Z : State} {a0 : Array Value} (hw : ∀ d ∈ tables_1, d.before a0 Z = true) : ((Jvm.Cond.initialized "com/example/regent/regent/InputTextPinLaw") : Jvm.Cond).before a0 Z = true := hw _ (List.mem_of_getElem? (i := 2) rfl)
theorem pd__I_C_221 : parseMethodDescriptor "(I)C" = some ⟨[.int], some .char⟩ := by decide +kernel
theorem wd1 {Z : State} {a0 : Array Value} (hw : ∀ d ∈ tables_1, d.before a0 Z = true) : ((Jvm.Cond.static ({ cls := "com/example/regent/regent/InputTextPinLaw", name := "nz", desc := "(I)C" } : Jvm.MethodName)) : Jvm.Cond).before a0 Z = true := hw _ (List.mem_of_getElem? (i := 1) rfl)
theorem wd6 {Z : State} {a0 : Array Value} (hw : ∀ d ∈ tables_1, d.before a0 Z = true) : ((Jvm.Cond.arrayClass Jvm.ClassFile.FieldType.char) : Jvm.Cond).before a0 Z = true := hw _ (List.mem_of_getElem? (i := 6) rfl)
theorem wd7 {Z : State} {a0 : Array Value} (hw : ∀ d ∈ tables_1, d.before a0 Z = true) : ((Jvm.Cond.classLink "com/example/regent/regent/InputTextPinLaw" (15 : Nat) "java/lang/String") : Jvm.Cond).before a0 Z = true := hw _ (List.mem_of_getElem? (i := 7) rfl)
theorem wd10 {Z : State} {a0 : Array Value} (hw : ∀ d ∈ tables_1, d.before a0 Z = true) : ((Jvm.Cond.methodLink "com/example/regent/regent/InputTextPinLaw" (17 : Nat) ({ cls := "java/lang/String", name := "<init>", desc := "([C)V" } : Jvm.MethodName)) : Jvm.Cond).before a0 Z = true := hw _ (List.mem_of_getElem? (i := 10) rfl)
theorem wd12 {Z : State} {a0 : Array Value} (hw : ∀ d ∈ tables_1, d.before a0 Z = true) : ((Jvm.Cond.code ({ cls := "java/lang/String", name := "<init>", desc := "([C)V" } : Jvm.MethodName) jdk_42_method_3_code (2 : Nat) (Option.none : Option Jvm.ClassFile.FieldType)) : Jvm.Cond).before a0 Z = true := hw _ (List.mem_of_getElem? (i := 12) rfl)
theorem pd___C_V_325 : parseMethodDescriptor "([C)V" = some ⟨[(.array .char)], none⟩ := by decide +kernel
theorem wd11 {Z : State} {a0 : Array Value} (hw : ∀ d ∈ tables_1, d.before a0 Z = true) : ((Jvm.Cond.instanceMethod ({ cls := "java/lang/String", name := "<init>", desc := "([C)V" } : Jvm.MethodName)) : Jvm.Cond).before a0 Z = true := hw _ (List.mem_of_getElem? (i := 11) rfl)
theorem wd28 {Z : State} {a0 : Array Value} (hw : ∀ d ∈ tables_1, d.before a0 Z = true) : ((Jvm.Cond.methodLink "com/example/regent/regent/InputTextPinLaw" (20 : Nat) ({ cls := "java/lang/String", name := "valueOf", desc := "(C)Ljava/lang/String;" } : Jvm.MethodName)) : Jvm.Cond).before a0 Z = true := hw _ (List.mem_of_getElem? (i := 28) rfl)
theorem wd30 {Z : State} {a0 : Array Value} (hw : ∀ d ∈ tables_1, d.before a0 Z = true) : ((Jvm.Cond.code ({ cls := "java/lang/String", name := "valueOf", desc := "(C)Ljava/lang/String;" } : Jvm.MethodName) jdk_42_method_139_code (1 : Nat) (Option.some (Jvm.ClassFile.FieldType.object "java/lang/String"))) : Jvm.Cond).before a0 Z = true := hw _ (List.mem_of_getElem? (i := 30) rfl)
theorem pd__C_Ljava_lang_String__1844 : parseMethodDescriptor "(C)Ljava/lang/String;" = some ⟨[.char], some (.object "java/lang/String")⟩ := by decide +kernel
theorem wd29 {Z : State} {a0 : Array Value} (hw : ∀ d ∈ tables_1, d.before a0 Z = true) : ((Jvm.Cond.static ({ cls := "java/lang/String", name := "valueOf", desc := "(C)Ljava/lang/String;" } : Jvm.MethodName)) : Jvm.Cond).before a0 Z = true := hw _ (List.mem_of_getElem? (i := 29) rfl)
theorem wd43 {Z : State} {a0 : Array Value} (hw : ∀ d ∈ tables_1, d.before a0 Z = true) : ((Jvm.Cond.methodLink "com/example/regent/regent/InputTextPinLaw" (24 : Nat) ({ cls := "com/example/regent/regent/Input", name := "text", desc := "(Ljava/lang/String;Ljava/lang/String;)Ljava/lang/String;" } : Jvm.MethodName)) : Jvm.Cond).before a0 Z = true := hw _ (List.mem_of_getElem? (i := 43) rfl)
theorem wd46 {Z : State} {a0 : Array Value} (hw : ∀ d ∈ tables_1, d.before a0 Z = true) : ((Jvm.Cond.code ({ cls := "com/example/regent/regent/Input", name := "text", desc := "(Ljava/lang/String;Ljava/lang/String;)Ljava/lang/String;" } : Jvm.MethodName) prog_11_method_5_code (2 : Nat) (Option.some (Jvm.ClassFile.FieldType.object "java/lang/String"))) : Jvm.Cond).before a0 Z = true := hw _ (List.mem_of_getElem? (i := 46) rfl)
theorem wd45 {Z : State} {a0 : Array Value} (hw : ∀ d ∈ tables_1, d.before a0 Z = true) : ((Jvm.Cond.initialized "com/example/regent/regent/Input") : Jvm.Cond).before a0 Z = true := hw _ (List.mem_of_getElem? (i := 45) rfl)
theorem pd__Ljava_lang_String_Ljava_lang_String__Ljava_lang_String__5169 : parseMethodDescriptor "(Ljava/lang/String;Ljava/lang/String;)Ljava/lang/String;" = some ⟨[(.object "java/lang/String"), (.object "java/lang/String")], some (.object "java/lang/String")⟩ := by decide +kernel
theorem wd44 {Z : State} {a0 : Array Value} (hw : ∀ d ∈ tables_1, d.before a0 Z = true) : ((Jvm.Cond.static ({ cls := "com/example/regent/regent/Input", name := "text", desc := "(Ljava/lang/String;Ljava/lang/String;)Ljava/lang/String;" } : Jvm.MethodName)) : Jvm.Cond).before a0 Z = true := hw _ (List.mem_of_getElem? (i := 44) rfl)
theorem wd85 {Z : State} {a0 : Array Value} (hw : ∀ d ∈ tables_1, d.before a0 Z = true) : ((Jvm.Cond.methodLink "com/example/regent/regent/InputTextPinLaw" (30 : Nat) ({ cls := "java/lang/String", name := "equals", desc := "(Ljava/lang/Object;)Z" } : Jvm.MethodName)) : Jvm.Cond).before a0 Z = true := hw _ (List.mem_of_getElem? (i := 85) rfl)
theorem wd89 {Z : State} {a0 : Array Value} (hw : ∀ d ∈ tables_1, d.before a0 Z = true) : ((Jvm.Cond.code ({ cls := "java/lang/String", name := "equals", desc := "(Ljava/lang/Object;)Z" } : Jvm.MethodName) jdk_42_method_66_code (3 : Nat) (Option.some Jvm.ClassFile.FieldType.boolean)) : Jvm.Cond).before a0 Z = true := hw _ (List.mem_of_getElem? (i := 89) rfl)
theorem pd__Ljava_lang_Object__Z_1835 : parseMethodDescriptor "(Ljava/lang/Object;)Z" = some ⟨[(.object "java/lang/Object")], some .boolean⟩ := by decide +kernel
theorem wd88 {Z : State} {a0 : Array Value} (hw : ∀ d ∈ tables_1, d.before a0 Z = true) : ((Jvm.Cond.selects "java/lang/String" ({ cls := "java/lang/String", name := "equals", desc := "(Ljava/lang/Object;)Z" } : Jvm.MethodName) ({ cls := "java/lang/String", name := "equals", desc := "(Ljava/lang/Object;)Z" } : Jvm.MethodName)) : Jvm.Cond).before a0 Z = true := hw _ (List.mem_of_getElem? (i := 88) rfl)
theorem wd86 {Z : State} {a0 : Array Value} (hw : ∀ d ∈ tables_1, d.before a0 Z = true) : ((Jvm.Cond.declares ({ cls := "java/lang/String", name := "equals", desc := "(Ljava/lang/Object;)Z" } : Jvm.MethodName)) : Jvm.Cond).before a0 Z = true := hw _ (List.mem_of_getElem? (i := 86) rfl)
theorem wd87 {Z : State} {a0 : Array Value} (hw : ∀ d ∈ tables_1, d.before a0 Z = true) : ((Jvm.Cond.instanceMethod ({ cls := "java/lang/String", name := "equals", desc := "(Ljava/lang/Object;)Z" } : Jvm.MethodName)) : Jvm.Cond).before a0 Z = true := hw _ (List.mem_of_getElem? (i := 87) rfl)
theorem wd90 {Z : State} {a0 : Array Value} (hw : ∀ d ∈ tables_1, d.before a0 Z = true) : ((Jvm.Cond.methodLink "com/example/regent/regent/InputTextPinLaw" (34 : Nat) ({ cls := "java/lang/String", name := "length", desc := "()I" } : Jvm.MethodName)) : Jvm.Cond).before a0 Z = true := hw _ (List.mem_of_getElem? (i := 90) rfl)
theorem own_mw {Z : State} {a0 : Array Value} (hw : ∀ d ∈ tables_1, d.before a0 Z = true) : ∀ d ∈ StrChars.Road.words, d.before a0 Z = true := fun d hd => hw d ((by decide +kernel : ∀ d ∈ StrChars.Road.words, d ∈ tables_1) d hd)
abbrev own_EL : List (String × Nat) := [("java/lang/String", 7)]
theorem own_EW {Z : State} {a0 : Array Value} (hw : ∀ d ∈ tables_1, d.before a0 Z = true) : EW Z a0 own_EL := (EW.cons (wd20 hw) (by decide) EW.nil)
theorem own_wS {Z : State} {a0 : Array Value} (hw : ∀ d ∈ tables_1, d.before a0 Z = true) : ∀ a ∈ Bundle.stringAtoms, a.before a0 Z = true := fun d hd => hw d ((by decide +kernel : ∀ d ∈ Bundle.stringAtoms, d ∈ tables_1) d hd)
theorem own_safeNull {Z : State} {EL : List (String × Nat)} {vm : Vm} {h : Heap} {a : Addr} (hal : Z.vm.Alike vm) (E : Exa Z h a "java/lang/String") (F : Fld Z h a "java/lang/String" "value" "[B" .null) : Safe Z EL vm h a := fun B => by
  obtain ⟨p, -, u, a', -, q, -, G, rfl | rfl⟩ := B
  · obtain ⟨cell, cf, k, i, f, h1, h2, -, -, -, -, h7⟩ := F
    cases (show h[q.sa]? = some q.sC from G.ha).symm.trans h1
    obtain ⟨cS, ⟨⟨-, -, -, ⟨c1, k1, i1, g1, -⟩, -, -, -, g2, -⟩, -⟩, -⟩ := G
    obtain ⟨k', g3⟩ := ff_back (U := Wst Z vm h) hal g1
    cases g3.symm.trans h2
    rw [g2] at h7
    cases h7
  · obtain ⟨cell, k, e1, e2, -⟩ := E
    cases (show h[q.sd]? = some q.SA from G.hd).symm.trans e1
    obtain ⟨cS, -, -, f, -⟩ := G
    have f' : Z.vm.findClass "[B" = some q.SA.cls := by rw [← hal.findClass]; exact f
    exact ids_ne e2 f' (by decide) rfl
section OwnW
variable {p : Program} {l : Launch} {e : Env} {R : Room} {s : State} {m : MethodId} {args : Array Value} {below : List Frame} {meth : Method} {c : Code} {T : State} {locs : List Loc} {cells slots : Nat} {Z : State} {a0 : Array Value} {h : Heap} {vm0 : Vm} {EL : List (String × Nat)}
theorem own_retW {S : State} {Q : Option Value → Vm → Heap → List Loc → Prop} {C N k0 : Nat} (X : Stand p l e R (s.setVm vm0) m args below meth c T locs cells slots) (hS : s.Since vm0 k0) (hk : k0 ≤ T.heap.size) {v : Option Value} (hv : meth.sig.returnType = none → v = none) (hlocks : meth.locks = false) (hq : Q v T.vm T.heap locs) (hR : CHr Z EL s.vm s.heap T.vm T.heap) (hc : cells ≤ C) (hs : slots ≤ N)
    (k : ∀ fs, (∀ (f : JFrame) (acts : List Action), f.method = m → f.locked = none → f.entered = [] → (doReturn e (T.setTop f) acts v).1 = T.setFrames fs) → Steps p.tables e below S (T.setFrames fs)) :
    own_Done p e below (fun o U' => ∃ v L, o = .returned v ∧ Q v U'.vm U'.heap L ∧ CHr Z EL s.vm s.heap U'.vm U'.heap ∧ ReturnedEndW s o U' L C N) S := by
  obtain ⟨fs, hr, hrun, hended, h1, h2, h3, h4⟩ := X.leaveW hS hk hv hlocks
  exact ⟨_, _, k fs hr, hrun, hended, v, locs, rfl, hq, hR, h1, h2, h3, h4.mono hc hs⟩
theorem own_backW {y : MethodName} {bytes : ByteArray} {maxL : Nat} {ret : Option FieldType} {rm : Room} {len W : Nat} {as' : Array Value} {SL : List Addr} {Q : Option Value → Vm → Heap → List Loc → Prop}
    (hM : MetFree l y (head1 [Cond.code y bytes maxL ret] rm) (fun a U => a = as' ∧ Z.Warmed39 U.vm ∧ U.heap = h ∧ CHv Z EL U.vm h ∧ ∀ x ∈ SL, Safe Z EL U.vm h x) (fun _ _ _ _ _ => True) (fun _ U o U' => ∃ v L, o = .returned v ∧ Q v U'.vm U'.heap L ∧ CHr Z EL U.vm U.heap U'.vm U'.heap ∧ ReturnedEndW U o U' L rm.cells rm.slots))
    (hZ : Z.Warmed39 vm0) (wc : (Cond.code y bytes maxL ret).before a0 Z = true) (wz : (Cond.initialized y.cls).before a0 Z = true) (hf : rm.frames + 1 ≤ R.frames) (hl : W + (maxL + 11) + rm.locals ≤ R.locals) (hEL : EW Z a0 EL) (H : CHv Z EL vm0 h) (hSL : ∀ x ∈ SL, x < h.size ∧ Safe Z EL vm0 h x) :
    BackS l R p e below (s.setVm vm0) args y len W (fun A a => a = as' ∧ A.U.heap = h ∧ A.cells + rm.cells ≤ R.cells ∧ A.slots + rm.slots ≤ R.slots)
      (fun A _ v B => ∃ L, (Q v B.U.vm B.U.heap L ∧ CHr Z EL vm0 h B.U.vm B.U.heap) ∧ B.locs = A.locs ++ L ∧ B.cells = A.cells + rm.cells ∧ B.slots = A.slots + rm.slots) :=
  BackS.of_freeW (bytes := bytes) (maxL := maxL) (ret := ret) (E := fun _ first o t L k n => k = rm.cells ∧ n = rm.slots ∧ (∃ v, o = .returned v ∧ Q v t.vm t.heap L) ∧ CHr Z EL first.vm first.heap t.vm t.heap) hM hf hl
    (fun m meth c A a Y hp => have hU : Z.Warmed39 A.U.vm := wtrans (s := s.setVm vm0) hZ Y.warmed
      ⟨by show (Cond.and _ .tt).before a A.U = true; rw [Cond.before_and, mv hU wc]; rfl, mv hU wc, mv hU wz, hp.2.2.1, hp.2.2.2⟩)
    (fun m meth c A a g mk Y hp => have A1 := CHv.at Y hZ hEL H
      ⟨hp.1, wtrans (s := s.setVm vm0) hZ Y.warmed, hp.2.1, A1.1, fun x hx => A1.safe (hSL x hx).1 (hSL x hx).2⟩)
    (fun _ _ _ _ _ _ _ _ _ => trivial)
    (fun _ _ _ _ ⟨v, L, h1, h2, h3, h4⟩ => ⟨L, _, _, h4, rfl, rfl, ⟨v, h1, h2⟩, h3⟩)
    (fun m meth c A a g mk v t L k n Y hp _ _ q => by
      obtain ⟨e1, e2, ⟨v', e3, e4⟩, e5⟩ := q
      cases e3
      subst e1 e2
      have e6 : CHr Z EL A.U.vm h t.vm t.heap := by rw [← hp.2.1]; exact e5
      exact ⟨L, ⟨e4, (CHv.at Y hZ hEL H).trans e6⟩, rfl, rfl, rfl⟩)
end OwnW
theorem ov {p : Program} {e : Env} {below : List Frame} {P : Outcome → State → Prop} {S : State} {m : MethodId} (T : State) (pc : Nat) (A : Array Slot) (B : List Value) (k : ∀ t, Steps p.tables e below (T.setTop (mkF m pc A B)) t → Steps p.tables e below S t) (d : own_Done p e below P (T.setTop (mkF m pc A B))) : own_Done p e below P S := own_via k d
abbrev rm1_4_8_12 : Room := ({ frames := 1, cells := 4, slots := 8, locals := 12 } : Room)
abbrev rm2_4_8_29 : Room := ({ frames := 2, cells := 4, slots := 8, locals := 29 } : Room)
abbrev rm0_0_0_0 : Room := ({ frames := 0, cells := 0, slots := 0, locals := 0 } : Room)
abbrev rm1_1_2_12 : Room := ({ frames := 1, cells := 1, slots := 2, locals := 12 } : Room)
abbrev rm2_1_2_24 : Room := ({ frames := 2, cells := 1, slots := 2, locals := 24 } : Room)
abbrev rm3_2_3_40 : Room := ({ frames := 3, cells := 2, slots := 3, locals := 40 } : Room)
abbrev rm4_2_3_57 : Room := ({ frames := 4, cells := 2, slots := 3, locals := 57 } : Room)
abbrev rm5_2_3_74 : Room := ({ frames := 5, cells := 2, slots := 3, locals := 74 } : Room)
abbrev rm1_1_4_12 : Room := ({ frames := 1, cells := 1, slots := 4, locals := 12 } : Room)
abbrev rm2_1_4_24 : Room := ({ frames := 2, cells := 1, slots := 4, locals := 24 } : Room)
abbrev rm3_2_6_40 : Room := ({ frames := 3, cells := 2, slots := 6, locals := 40 } : Room)
abbrev rm4_2_6_57 : Room := ({ frames := 4, cells := 2, slots := 6, locals := 57 } : Room)
abbrev rm5_2_6_74 : Room := ({ frames := 5, cells := 2, slots := 6, locals := 74 } : Room)
abbrev rm1_1_6_12 : Room := ({ frames := 1, cells := 1, slots := 6, locals := 12 } : Room)
abbrev rm2_1_6_24 : Room := ({ frames := 2, cells := 1, slots := 6, locals := 24 } : Room)
abbrev rm3_2_9_40 : Room := ({ frames := 3, cells := 2, slots := 9, locals := 40 } : Room)
abbrev rm4_2_9_57 : Room := ({ frames := 4, cells := 2, slots := 9, locals := 57 } : Room)
abbrev rm5_2_9_74 : Room := ({ frames := 5, cells := 2, slots := 9, locals := 74 } : Room)
abbrev rm1_1_8_12 : Room := ({ frames := 1, cells := 1, slots := 8, locals := 12 } : Room)
abbrev rm2_1_8_24 : Room := ({ frames := 2, cells := 1, slots := 8, locals := 24 } : Room)
abbrev rm3_2_12_40 : Room := ({ frames := 3, cells := 2, slots := 12, locals := 40 } : Room)
abbrev rm4_2_12_57 : Room := ({ frames := 4, cells := 2, slots := 12, locals := 57 } : Room)
abbrev rm5_2_12_74 : Room := ({ frames := 5, cells := 2, slots := 12, locals := 74 } : Room)
abbrev rm1_0_0_15 : Room := ({ frames := 1, cells := 0, slots := 0, locals := 15 } : Room)
abbrev rm1_0_0_13 : Room := ({ frames := 1, cells := 0, slots := 0, locals := 13 } : Room)
abbrev rm1_0_0_17 : Room := ({ frames := 1, cells := 0, slots := 0, locals := 17 } : Room)
abbrev rm2_0_0_32 : Room := ({ frames := 2, cells := 0, slots := 0, locals := 32 } : Room)
abbrev rm3_0_0_46 : Room := ({ frames := 3, cells := 0, slots := 0, locals := 46 } : Room)
abbrev rm4_0_0_59 : Room := ({ frames := 4, cells := 0, slots := 0, locals := 59 } : Room)
abbrev rm2_0_0_29 : Room := ({ frames := 2, cells := 0, slots := 0, locals := 29 } : Room)
abbrev rm3_0_0_43 : Room := ({ frames := 3, cells := 0, slots := 0, locals := 43 } : Room)
abbrev rm4_0_0_58 : Room := ({ frames := 4, cells := 0, slots := 0, locals := 58 } : Room)
abbrev rm5_0_0_73 : Room := ({ frames := 5, cells := 0, slots := 0, locals := 73 } : Room)
abbrev rm6_0_0_87 : Room := ({ frames := 6, cells := 0, slots := 0, locals := 87 } : Room)
abbrev rm7_0_0_100 : Room := ({ frames := 7, cells := 0, slots := 0, locals := 100 } : Room)
abbrev rm0_1_1_0 : Room := ({ frames := 0, cells := 1, slots := 1, locals := 0 } : Room)
abbrev rm1_0_0_12 : Room := ({ frames := 1, cells := 0, slots := 0, locals := 12 } : Room)
abbrev rm2_2_5_27 : Room := ({ frames := 2, cells := 2, slots := 5, locals := 27 } : Room)
theorem own_and255 (y : Int32) : ¬ (y &&& (255 : Int32)).toUInt32.toUInt16.toUInt32.toInt32 < 0 ∧ ¬ (255 : Int32) < (y &&& (255 : Int32)).toUInt32.toUInt16.toUInt32.toInt32 := by
  have t : ∀ k : Fin 256, ¬ (Int32.ofNat k.val).toUInt32.toUInt16.toUInt32.toInt32 < 0 ∧ ¬ (255 : Int32) < (Int32.ofNat k.val).toUInt32.toUInt16.toUInt32.toInt32 := by decide +kernel
  have h : (y &&& 255).toBitVec.toNat < 256 := by
    simp only [Int32.toBitVec_and, BitVec.toNat_and]
    exact Nat.lt_succ_of_le Nat.and_le_right
  have e : y &&& 255 = Int32.ofNat (y &&& 255).toBitVec.toNat := by
    apply Int32.toBitVec_inj.mp
    apply BitVec.eq_of_toNat_eq
    simp only [Int32.toBitVec_ofNat', BitVec.toNat_ofNat]
    omega
  rw [e]
  exact t ⟨_, h⟩
theorem own_cases256 {c : Int32} (h : ¬ c < 0 ∧ ¬ (255 : Int32) < c) : ∃ k : Fin 256, c = Int32.ofNat k.val := by
  have h1 : 0 ≤ c.toInt := by have := h.1; rw [Int32.lt_iff_toInt_lt] at this; simpa using this
  have h2 : c.toInt ≤ 255 := by have := h.2; rw [Int32.lt_iff_toInt_lt] at this; have e : (255 : Int32).toInt = 255 := rfl; omega
  refine ⟨⟨c.toInt.toNat, by omega⟩, ?_⟩
  apply Int32.toInt_inj.mp
  rw [Int32.toInt_ofNat_small (by show c.toInt.toNat < 2 ^ 31; omega)]
  show c.toInt = (c.toInt.toNat : Int)
  omega
theorem own_cases64k {c : Int32} (h : ¬ c < 0 ∧ ¬ (65535 : Int32) < c) : c.toBitVec.toNat < 65536 := by
  obtain ⟨h0, h1⟩ := h
  rw [Int32.lt_iff_toInt_lt] at h0 h1
  have e0 : (0 : Int32).toInt = 0 := rfl
  have e1 : (65535 : Int32).toInt = 65535 := rfl
  have := c.toBitVec.isLt
  have e : c.toInt = c.toBitVec.toInt := rfl
  rw [e] at h0 h1
  rw [BitVec.toInt_eq_toNat_cond] at h0 h1
  split at h0 <;> omega
theorem own_i2c {c : Int32} (h : ¬ c < 0 ∧ ¬ (65535 : Int32) < c) : c.toUInt32.toUInt16.toUInt32.toInt32 = c := by
  have hn := own_cases64k h
  apply Int32.toBitVec_inj.mp
  apply BitVec.eq_of_toNat_eq
  show BitVec.toNat ((c.toBitVec.setWidth 16).setWidth 32) = _
  rw [BitVec.toNat_setWidth, BitVec.toNat_setWidth]
  omega
theorem own_narc {c : Int32} (h : ¬ c < 0 ∧ ¬ (65535 : Int32) < c) : nar .char c = c := own_i2c h
theorem own_fitc {c : Int32} (h : ¬ c < 0 ∧ ¬ (65535 : Int32) < c) : fits .char (.int c) = true := by
  have q := fits_nar_char c
  rw [own_narc h] at q
  exact q
theorem own_lt0 {v : Int32} (h : ¬ v < (1 : Int32)) : ¬ v < 0 := fun q => h (by rw [Int32.lt_iff_toInt_lt] at q ⊢; have e0 : (0 : Int32).toInt = 0 := rfl; have e1 : (1 : Int32).toInt = 1 := rfl; omega)
theorem own_r16 {v : Int32} (h : ¬ v < (1 : Int32) ∧ ¬ (65535 : Int32) < v) : ¬ v < 0 ∧ ¬ (65535 : Int32) < v := ⟨own_lt0 h.1, h.2⟩
theorem own_vnz {v : Int32} (h : ¬ v < (1 : Int32) ∧ ¬ (65535 : Int32) < v) : ¬ (v = (0 : Int32)) := fun q => h.1 (by rw [q]; decide)
theorem own_bnz {v : Int32} (h : ¬ v < (1 : Int32) ∧ ¬ (255 : Int32) < v) : ¬ ((v.toInt8.toInt32) = (0 : Int32)) := by
  obtain ⟨k, rfl⟩ := own_cases256 (c := v) ⟨own_lt0 h.1, h.2⟩
  have t : ∀ k : Fin 256, ¬ (Int32.ofNat k.val) < (1 : Int32) → ¬ ((Int32.ofNat k.val).toInt8.toInt32 = (0 : Int32)) := by decide +kernel
  exact t k h.1
theorem own_refc {v : Value} (h : v.isRef = true) : v = .null ∨ ∃ a, v = .ref a := by cases v <;> simp_all [Value.isRef]
theorem own_rem5 (q : Int32) : ((q &&& (2147483647 : Int32)) % (5 : Int32)) = (0 : Int32) ∨ ((q &&& (2147483647 : Int32)) % (5 : Int32)) = (1 : Int32) ∨ ((q &&& (2147483647 : Int32)) % (5 : Int32)) = (2 : Int32) ∨ ((q &&& (2147483647 : Int32)) % (5 : Int32)) = (3 : Int32) ∨ ((q &&& (2147483647 : Int32)) % (5 : Int32)) = (4 : Int32) := by
  have e := c_mask q 2147483647 31 (by decide) (by decide)
  have h1 : 0 ≤ q.toInt % (2 ^ 31 : Nat) := Int.emod_nonneg _ (by decide)
  have e2 : ((q &&& (2147483647 : Int32)) % (5 : Int32)).toInt = (q &&& (2147483647 : Int32)).toInt.tmod 5 := Int32.toInt_mod _ _
  have h0 : 0 ≤ (q &&& (2147483647 : Int32)).toInt := by omega
  rw [Int.tmod_eq_emod_of_nonneg h0] at e2
  have t : ∀ z : Int32, z.toInt = 0 ∨ z.toInt = 1 ∨ z.toInt = 2 ∨ z.toInt = 3 ∨ z.toInt = 4 → z = 0 ∨ z = 1 ∨ z = 2 ∨ z = 3 ∨ z = 4 := fun z hz => by
    rcases hz with hz | hz | hz | hz | hz
    · exact Or.inl (Int32.toInt_inj.mp hz)
    · exact Or.inr (Or.inl (Int32.toInt_inj.mp hz))
    · exact Or.inr (Or.inr (Or.inl (Int32.toInt_inj.mp hz)))
    · exact Or.inr (Or.inr (Or.inr (Or.inl (Int32.toInt_inj.mp hz))))
    · exact Or.inr (Or.inr (Or.inr (Or.inr (Int32.toInt_inj.mp hz))))
  exact t _ (by omega)
theorem own_nzr (x : Int32) : ¬ (nar .char (((1 : Int32) + ((x &&& (2147483647 : Int32)) % (65535 : Int32))).toUInt32.toUInt16.toUInt32.toInt32)) < (1 : Int32) ∧ ¬ (65535 : Int32) < (nar .char (((1 : Int32) + ((x &&& (2147483647 : Int32)) % (65535 : Int32))).toUInt32.toUInt16.toUInt32.toInt32)) := by
  have e := c_mask x 2147483647 31 (by decide) (by decide)
  have h1 : 0 ≤ x.toInt % (2 ^ 31 : Nat) := Int.emod_nonneg _ (by decide)
  have e2 : ((x &&& (2147483647 : Int32)) % (65535 : Int32)).toInt = (x &&& (2147483647 : Int32)).toInt.tmod 65535 := Int32.toInt_mod _ _
  have h0 : 0 ≤ (x &&& (2147483647 : Int32)).toInt := by omega
  rw [Int.tmod_eq_emod_of_nonneg h0] at e2
  obtain ⟨y, hy⟩ : ∃ y, y = ((x &&& (2147483647 : Int32)) % (65535 : Int32)) := ⟨_, rfl⟩
  rw [← hy] at e2 ⊢
  have h2 : 0 ≤ y.toInt := by rw [e2]; exact Int.emod_nonneg _ (by decide)
  have h3 : y.toInt < 65535 := by rw [e2]; exact Int.emod_lt_of_pos _ (by decide)
  have e3 : ((1 : Int32) + y).toInt = 1 + y.toInt := by
    rw [Int32.toInt_add]
    have : (1 : Int32).toInt = 1 := rfl
    rw [this, Int.bmod_eq_of_le (by omega) (by omega)]
  have r : ¬ ((1 : Int32) + y) < (1 : Int32) ∧ ¬ (65535 : Int32) < ((1 : Int32) + y) := by
    rw [Int32.lt_iff_toInt_lt, Int32.lt_iff_toInt_lt, e3]
    have a1 : (1 : Int32).toInt = 1 := rfl
    have a2 : (65535 : Int32).toInt = 65535 := rfl
    omega
  rw [own_i2c (own_r16 r), own_narc (own_r16 r)]
  exact r
theorem own_lo8a (x : Int32) : ((nar .byte (x.toInt8.toInt32)) &&& (255 : Int32)).toBitVec.toNat = x.toBitVec.toNat % 256 := by
  have hb : nar .byte (x.toInt8.toInt32) = x.toInt8.toInt32 := by show (x.toInt8.toInt32).toInt8.toInt32 = x.toInt8.toInt32; simp
  rw [hb]
  have h : (x.toInt8.toInt32).toBitVec = (x.toBitVec.signExtend 8).signExtend 32 := by rw [Int8.toBitVec_toInt32, Int32.toBitVec_toInt8]
  rw [Int32.toBitVec_and, BitVec.toNat_and, h]
  have e : ((x.toBitVec.signExtend 8).signExtend 32).toNat % 256 = x.toBitVec.toNat % 256 := by
    rw [BitVec.toNat_signExtend]
    have hlt := x.toBitVec.isLt
    simp only [BitVec.toNat_setWidth, BitVec.toNat_signExtend]
    split <;> split <;> omega
  rw [← e]
  exact Nat.and_two_pow_sub_one_eq_mod _ 8
theorem own_pair {c : Int32} (h : ¬ c < (1 : Int32) ∧ ¬ (65535 : Int32) < c) : nar .char ((((nar .byte (c.toInt8.toInt32)) &&& (255 : Int32)) ||| (((nar .byte ((c >>> ((8 : Int32) &&& 31)).toInt8.toInt32)) &&& (255 : Int32)) <<< ((8 : Int32) &&& 31))).toUInt32.toUInt16.toUInt32.toInt32) = c := by
  have hn := own_cases64k (own_r16 h)
  have a1 := own_lo8a c
  have a2 : ((nar .byte ((c >>> ((8 : Int32) &&& 31)).toInt8.toInt32)) &&& (255 : Int32)).toBitVec.toNat = c.toBitVec.toNat / 256 := by
    rw [own_lo8a]
    have e : ((8 : Int32) &&& 31) = 8 := by decide
    rw [e, Int32.toBitVec_shiftRight]
    have e2 : ((8 : Int32).toBitVec.smod 32) = 8#32 := by decide
    rw [e2, BitVec.sshiftRight_eq', BitVec.toNat_sshiftRight_of_msb_false (by rw [BitVec.msb_eq_false_iff_two_mul_lt]; omega)]
    show c.toBitVec.toNat >>> 8 % 256 = _
    rw [Nat.shiftRight_eq_div_pow]
    omega
  have g : (((nar .byte (c.toInt8.toInt32)) &&& (255 : Int32)) ||| (((nar .byte ((c >>> ((8 : Int32) &&& 31)).toInt8.toInt32)) &&& (255 : Int32)) <<< ((8 : Int32) &&& 31))).toBitVec.toNat = c.toBitVec.toNat := by
    have f8 : ((8 : Int32) &&& 31) = 8 := by decide
    rw [Int32.toBitVec_or, Int32.toBitVec_shiftLeft, BitVec.toNat_or]
    rw [f8] at a2 ⊢
    have s8 : ((8 : Int32).toBitVec.smod 32) = 8#32 := by decide
    rw [s8]
    simp only [BitVec.shiftLeft_eq', BitVec.toNat_shiftLeft, a1, a2]
    show (c.toBitVec.toNat % 256) ||| (c.toBitVec.toNat / 256) <<< 8 % 2 ^ 32 = _
    rw [Nat.mod_eq_of_lt (show (c.toBitVec.toNat / 256) <<< 8 < 2 ^ 32 by rw [Nat.shiftLeft_eq]; omega), Nat.or_comm, ← Nat.shiftLeft_add_eq_or_of_lt (by omega), Nat.shiftLeft_eq]
    omega
  have eq : (((nar .byte (c.toInt8.toInt32)) &&& (255 : Int32)) ||| (((nar .byte ((c >>> ((8 : Int32) &&& 31)).toInt8.toInt32)) &&& (255 : Int32)) <<< ((8 : Int32) &&& 31))) = c := Int32.toBitVec_inj.mp (BitVec.eq_of_toNat_eq g)
  rw [eq, own_i2c (own_r16 h), own_narc (own_r16 h)]
theorem own_up (cs : List Int32) (h : ∀ c ∈ cs, ¬ c < 0 ∧ ¬ (255 : Int32) < c) : ∀ c ∈ cs, ¬ c < 0 ∧ ¬ (65535 : Int32) < c := fun c hc => ⟨(h c hc).1, fun q => (h c hc).2 (by rw [Int32.lt_iff_toInt_lt] at q ⊢; have e1 : (65535 : Int32).toInt = 65535 := rfl; have e2 : (255 : Int32).toInt = 255 := rfl; omega)⟩
theorem own_sta {s : State} {a0 : Array Value} {C f d : String} {z : Int32} (h : (Jvm.Cond.eq (Jvm.Term.static C f d) (Jvm.Term.int z)).before a0 s = true) (hi : (Jvm.Cond.initializedFor C f d).before a0 s = true) : Sta s s.heap C f d (.int z) := by
  have h' := Cond.before_iff.mp h
  cases q : (Jvm.Term.static C f d).eval a0 s none [] s with
  | none => simp only [Cond.value, q] at h'; cases h'
  | some v =>
    have e2 : (Jvm.Term.int z).eval a0 s none [] s = some (.int z) := rfl
    simp only [Cond.value, q, e2] at h'
    cases v with
    | int x => simp at h'; subst h'; exact Sta.start q (Or.inl hi)
    | _ => simp at h'
theorem own_isref {s : State} {a0 : Array Value} {C f d : String} (h : (Jvm.Cond.isRef (Jvm.Term.static C f d)).before a0 s = true) : ∃ fm, (Jvm.Term.static C f d).eval a0 s none [] s = some fm ∧ fm.isRef = true := by
  have h' := Cond.before_iff.mp h
  cases q : (Jvm.Term.static C f d).eval a0 s none [] s with
  | none => simp only [Cond.value, q] at h'; cases h'
  | some v =>
    refine ⟨v, rfl, ?_⟩
    simp only [Cond.value, q] at h'
    cases v <;> first | rfl | simp at h'
def Q_own_new4e (Z : State) (a : Addr) (bc : Addr) (h0 : Heap) (n0 : Nat) (v : Option Value) (vm : Vm) (h : Heap) (L : List Loc) : Prop := ∃ tb : Addr, ∃ kb : ClassId, v = none ∧ Fr n0 L ∧ Keep h0 h [a] ∧ Fld Z h a "java/lang/String" "value" "[B" (.ref tb) ∧ Fld Z h a "java/lang/String" "coder" "B" (.int 0) ∧ Arv Z h tb kb .byte (0 : Int32) [] (.int 0)
set_option maxRecDepth 65536 in
set_option maxHeartbeats 40000000 in
theorem own_new4e (l : Launch) (Z : State) (a0 : Array Value) (hw : ∀ d ∈ tables_1, d.before a0 Z = true) (ws : List Jvm.Cond) (a : Addr) (bc : Addr) (h0 : Heap) (n0 : Nat) (O0 : Old Z n0 h0) (f0_E_a : Exa Z h0 a "java/lang/String") (f0_F_a_value : Fld Z h0 a "java/lang/String" "value" "[B" .null) (f0_F_a_coder : Fld Z h0 a "java/lang/String" "coder" "B" (.int 0)) (g_a : n0 ≤ a) :
    MetFree l mt0 (head1 (Jvm.Cond.code mt0 jdk_42_method_149_code 6 none :: ws) rm1_4_8_12) (fun aq U => aq = #[.ref a, .ref bc, .int 0, .int 0, .null] ∧ Z.Warmed39 U.vm ∧ U.heap = h0 ∧ CHv Z own_EL U.vm h0 ∧ ∀ x ∈ ([] : List Addr), Safe Z own_EL U.vm h0 x) (fun _ _ _ _ _ => True) (fun _ U o U' => ∃ v L, o = .returned v ∧ Q_own_new4e Z a bc h0 n0 v U'.vm U'.heap L ∧ CHr Z own_EL U.vm U.heap U'.vm U'.heap ∧ ReturnedEndW U o U' L rm1_4_8_12.cells rm1_4_8_12.slots) := by
  refine MetFree.of_bodySF (plainFor_of_name pn_java_lang_String) hisR ?_
  intro p e s m args below meth c s₁ Bd hml0 hP hK
  obtain ⟨rfl, hZ, hh, hCH, hSL⟩ := hP
  have hx := Bd.exec
  have hby := Bd.bytes
  have hml : c.maxLocals = 6 := hml0
  have hown : s.vm.findClass "java/lang/String" = some m.cls := findClass_of_methodNamed Bd.named
  have hnm := (name_of_methodNamed Bd.named Bd.method).1
  have X0 : Stand p l e rm1_4_8_12 (s.setVm s.vm) m #[.ref a, .ref bc, .int 0, .int 0, .null] below meth c s₁ [] 0 0 := Stand.of_body Bd
  have e0 : s₁.heap = h0 := by rw [← hh, Bd.state]; rfl
  have N0 := Fr.nil n0
  have zO := O0.1
  have zO2 := O0.2.1
  have fl_E_a : h0.size > a := f0_E_a.lt
  have fl_F_a_value : h0.size > a := f0_F_a_value.lt
  have fl_F_a_coder : h0.size > a := f0_F_a_coder.lt
  refine own_open (own_via (S' := s₁.setTop (mkF m 0 #[.val (.ref a), .val (.ref bc), .val (.int 0), .val (.int 0), .val .null, .unset] [])) (fun t k => castTop (ef_own_new4e m a bc (0 : Int32) (0 : Int32)) k) ?_)
  have hEL := own_EW hw
  have hS0 : s.Since s.vm h0.size := (State.WarmedH.refl s).since _
  have R0 : CHr Z own_EL s.vm h0 s.vm h0 := CHr.refl hCH
  have K0 : Keep h0 h0 [a] := Keep.refl _ _
  let A_1 : Array Slot := #[.val (.ref a), .val (.ref bc), .val (.int 0), .val (.int 0), .val .null, .unset]
  refine ov s₁ 1 A_1 [.ref a] (fun t k => XS.aloadN X0.here hx rfl (hb hby d3_0) rfl rfl k) ?_
  obtain ⟨T1, X1, e1, st1⟩ := initO X0 hx hZ hown (wd17 hw) (wd18 hw) (wd19 hw) e0 (g := (mkF m 1 A_1 [.ref a])) rfl (by rw [hml]; rfl) rfl (hb hby d3_1) (by decide) (W := 0) (by show 2 * 0 + _ ≤ _; exact Nat.le_of_eq rfl) (by decide)
  refine ov T1 4 A_1 [] st1 ?_
  refine ov T1 5 A_1 [.int 0] (fun t k => XS.iloadN X1.here hx rfl (hb hby d3_4) rfl k) ?_
  refine ov T1 8 A_1 [] (fun t k => XS.ifNo X1.here hx rfl (hb hby d3_5) rfl ((if0 _ _).trans (teq (by decide : (0 : Int32) = (0 : Int32))).2) k) ?_
  refine ov T1 9 A_1 [.ref a] (fun t k => XS.aloadN X1.here hx rfl (hb hby d3_8) rfl rfl k) ?_
  obtain ⟨b2, T2, h2, kk2, t2, kb2, X2, e2, E2, hS2, hk2, hZ, hown, f2_0, f2_1, f2_2, f2_3, lta2, ltb2, R2q, hLit2, hsn2, st2⟩ := ldcCH X1 hx hZ hown (wd20 hw) (own_wS hw) e1 hS0 (by omega) hEL (List.mem_of_getElem? (i := 0) rfl) R0.1 (vs := []) (z := (0 : Int32)) ⟨by decide, rfl⟩ (by decide) rfl (g := (mkF m 9 A_1 [.ref a])) rfl (hb hby d3_9) (n := 0) (by decide) (by decide) (by decide) (by decide)
  have sz3 : h0.size ≤ h2.size := E2.1
  have O4 : Old Z n0 h2 := O0.ext E2
  have R5 : CHr Z own_EL s.vm h0 T2.vm h2 := R0.trans R2q
  have K6 : Keep h0 h2 [a] := K0.ext E2
  have lt_b2 : h2.size > b2 := lta2
  have lt_t2 : h2.size > t2 := ltb2
  have cx7 : Exa Z h2 a "java/lang/String" := (f0_E_a.ext E2)
  have cx8 : Fld Z h2 a "java/lang/String" "value" "[B" .null := (f0_F_a_value.ext E2)
  have ne_a_b2 : a ≠ b2 := (hsn2 _ (own_safeNull hZ.alike cx7 cx8)).1
  have ne_a_t2 : a ≠ t2 := (hsn2 _ (own_safeNull hZ.alike cx7 cx8)).2
  refine ov T2 11 A_1 [.ref b2, .ref a] st2 ?_
  obtain ⟨T9, X9, e9, st9⟩ := getF X2 hx hZ hown (host := "") (Or.inl (wd26 hw)) Via.refl e2 f2_2 (g := (mkF m 11 A_1 [.ref b2, .ref a])) rfl rfl (hb hby d3_11)
  refine ov T9 14 A_1 [.ref t2, .ref a] st9 ?_
  obtain ⟨T10, h10, X10, e10, W10, st10⟩ := putF X9 hx hZ hown (host := "") (Or.inl (wd26 hw)) Via.refl e9 cx8 cx7 (Or.inr ⟨(wd22 hw), rfl, hnm⟩) (wd8 hw) (ty := (.array .byte)) (by decide) rfl rfl (g := (mkF m 14 A_1 [.ref t2, .ref a])) rfl rfl (hb hby d3_14)
  have sf10 : Safe Z own_EL T2.vm h2 a := (own_safeNull hZ.alike cx7 cx8)
  have sz11 : h2.size ≤ h10.size := Nat.le_of_eq W10.size.symm
  have R12 : CHr Z own_EL s.vm h0 T2.vm h10 := R5.trans (CHr.wr W10 sf10 R5.1)
  have O13 : Old Z n0 h10 := O4.wr W10 (by omega : n0 ≤ a)
  have N10 := Fr.snoc X10 N0 (by omega : n0 ≤ a)
  have K14 : Keep h0 h10 [a] := K6.wr W10 (Or.inl (List.mem_of_getElem? (i := 0) rfl))
  have Fw10 : Fld Z h10 a "java/lang/String" "value" "[B" (.ref t2) := Fld.same W10 cx8
  refine ov T10 17 A_1 [] st10 ?_
  refine ov T10 18 A_1 [.ref a] (fun t k => XS.aloadN X10.here hx rfl (hb hby d3_17) rfl rfl k) ?_
  obtain ⟨b15, T15, h15, kk15, t15, kb15, X15, e15, E15, hS15, hk15, hZ, hown, f15_0, f15_1, f15_2, f15_3, lta15, ltb15, R15q, hLit15, hsn15, st15⟩ := ldcCH X10 hx hZ hown (wd20 hw) (own_wS hw) e10 hS2 (by omega) hEL (List.mem_of_getElem? (i := 0) rfl) R12.1 (vs := []) (z := (0 : Int32)) ⟨by decide, rfl⟩ (by decide) rfl (g := (mkF m 18 A_1 [.ref a])) rfl (hb hby d3_18) (n := 0) (by decide) (by decide) (by decide) (by decide)
  have sz16 : h10.size ≤ h15.size := E15.1
  have O17 : Old Z n0 h15 := O13.ext E15
  have R18 : CHr Z own_EL s.vm h0 T15.vm h15 := R12.trans R15q
  have K19 : Keep h0 h15 [a] := K14.ext E15
  have lt_b15 : h15.size > b15 := lta15
  have lt_t15 : h15.size > t15 := ltb15
  have cx20 : Safe Z own_EL T15.vm h15 a := (CHr.safe R15q (own_ltA (by omega)) (Safe.wr W10 sf10 R5.1 sf10))
  have ne_a_b15 : a ≠ b15 := (hsn15 _ cx20).1
  have ne_a_t15 : a ≠ t15 := (hsn15 _ cx20).2
  refine ov T15 20 A_1 [.ref b15, .ref a] st15 ?_
  obtain ⟨T21, X21, e21, st21⟩ := getF X15 hx hZ hown (host := "") (Or.inl (wd27 hw)) Via.refl e15 f15_1 (g := (mkF m 20 A_1 [.ref b15, .ref a])) rfl rfl (hb hby d3_20)
  refine ov T21 23 A_1 [.int 0, .ref a] st21 ?_
  have cx22 : Exa Z h15 a "java/lang/String" := ((Exa.wr W10 cx7).ext E15)
  have cx23 : Fld Z h15 a "java/lang/String" "coder" "B" (.int 0) := ((Fld.other W10 (f0_F_a_coder.ext E2) (Or.inr (slot_ne (Or.inr (wd23 hw)) (Or.inr (wd22 hw)) (by decide) (t := .byte) (t' := (.array .byte)) (by decide) (by decide)))).ext E15)
  obtain ⟨T24, h24, X24, e24, W24, st24⟩ := putFN X21 hx hZ hown (wd27 hw) Via.refl e21 cx23 cx22 (Or.inr ⟨(wd23 hw), rfl, hnm⟩) (wd8 hw) (ty := .byte) (v' := (.int 0)) (by decide) rfl rfl (g := (mkF m 23 A_1 [.int 0, .ref a])) rfl rfl (hb hby d3_23)
  have sz25 : h15.size ≤ h24.size := Nat.le_of_eq W24.size.symm
  have R26 : CHr Z own_EL s.vm h0 T15.vm h24 := R18.trans (CHr.wr W24 cx20 R18.1)
  have O27 : Old Z n0 h24 := O17.wr W24 (by omega : n0 ≤ a)
  have N24 := Fr.snoc X24 N10 (by omega : n0 ≤ a)
  have K28 : Keep h0 h24 [a] := K19.wr W24 (Or.inl (List.mem_of_getElem? (i := 0) rfl))
  have Fw24 : Fld Z h24 a "java/lang/String" "coder" "B" (.int 0) := Fld.same W24 cx23
  refine ov T24 26 A_1 [] st24 ?_
  have cx29 : Fld Z h24 a "java/lang/String" "value" "[B" (.ref t2) := (Fld.other W24 (Fw10.ext E15) (Or.inr (slot_ne (Or.inr (wd22 hw)) (Or.inr (wd23 hw)) (by decide) (t := (.array .byte)) (t' := .byte) (by decide) (by decide))))
  have cx30 : Arv Z h24 t2 kb2 .byte (0 : Int32) [] (.int 0) := (((f2_3.other W10 (Ne.symm ne_a_t2)).ext E15).other W24 (Ne.symm ne_a_t2))
  have RTR26 : CHr Z own_EL s.vm h0 T24.vm h24 := R26.trans (CHv.at X24 hZ hEL R26.1)
  have RXR26 : CHr Z own_EL s.vm s.heap T24.vm T24.heap := by rw [hh, e24]; exact RTR26
  refine own_retW (Q := Q_own_new4e Z a bc h0 n0) (C := rm1_4_8_12.cells) (N := rm1_4_8_12.slots) X24 hS15 (by rw [e24]; omega) (v := none) (fun _ => rfl) Bd.notSynchronized ?_ RXR26 (by decide) (by decide) (fun fs hr => X24.returnOut hx Bd.returns (hb hby d3_26) hr)
  show Q_own_new4e Z a bc h0 n0 _ T24.vm T24.heap _
  rw [e24]
  exact ⟨t2, kb2, rfl, N24, K28, cx29, Fw24, cx30⟩
def Q_own_new1e (Z : State) (a : Addr) (bc : Addr) (kc : ClassId) (h0 : Heap) (n0 : Nat) (v : Option Value) (vm : Vm) (h : Heap) (L : List Loc) : Prop := ∃ tb : Addr, ∃ kb : ClassId, v = none ∧ Fr n0 L ∧ Keep h0 h [a] ∧ Fld Z h a "java/lang/String" "value" "[B" (.ref tb) ∧ Fld Z h a "java/lang/String" "coder" "B" (.int 0) ∧ Arv Z h tb kb .byte (0 : Int32) [] (.int 0)
set_option maxRecDepth 65536 in
set_option maxHeartbeats 40000000 in
theorem own_new1e (l : Launch) (Z : State) (a0 : Array Value) (hw : ∀ d ∈ tables_1, d.before a0 Z = true) (ws : List Jvm.Cond) (a : Addr) (bc : Addr) (kc : ClassId) (h0 : Heap) (n0 : Nat) (O0 : Old Z n0 h0) (f0_E_a : Exa Z h0 a "java/lang/String") (f0_F_a_value : Fld Z h0 a "java/lang/String" "value" "[B" .null) (f0_F_a_coder : Fld Z h0 a "java/lang/String" "coder" "B" (.int 0)) (f0_A_bc : Arv Z h0 bc kc .char (0 : Int32) [] (.int 0)) (g_a : n0 ≤ a) :
    MetFree l mt1 (head1 (Jvm.Cond.code mt1 jdk_42_method_3_code 2 none :: ws) rm2_4_8_29) (fun aq U => aq = #[.ref a, .ref bc] ∧ Z.Warmed39 U.vm ∧ U.heap = h0 ∧ CHv Z own_EL U.vm h0 ∧ ∀ x ∈ ([] : List Addr), Safe Z own_EL U.vm h0 x) (fun _ _ _ _ _ => True) (fun _ U o U' => ∃ v L, o = .returned v ∧ Q_own_new1e Z a bc kc h0 n0 v U'.vm U'.heap L ∧ CHr Z own_EL U.vm U.heap U'.vm U'.heap ∧ ReturnedEndW U o U' L rm2_4_8_29.cells rm2_4_8_29.slots) := by
  refine MetFree.of_bodySF (plainFor_of_name pn_java_lang_String) hisR ?_
  intro p e s m args below meth c s₁ Bd hml0 hP hK
  obtain ⟨rfl, hZ, hh, hCH, hSL⟩ := hP
  have hx := Bd.exec
  have hby := Bd.bytes
  have hml : c.maxLocals = 2 := hml0
  have hown : s.vm.findClass "java/lang/String" = some m.cls := findClass_of_methodNamed Bd.named
  have hnm := (name_of_methodNamed Bd.named Bd.method).1
  have X0 : Stand p l e rm2_4_8_29 (s.setVm s.vm) m #[.ref a, .ref bc] below meth c s₁ [] 0 0 := Stand.of_body Bd
  have e0 : s₁.heap = h0 := by rw [← hh, Bd.state]; rfl
  have N0 := Fr.nil n0
  have zO := O0.1
  have zO2 := O0.2.1
  have fl_E_a : h0.size > a := f0_E_a.lt
  have fl_F_a_value : h0.size > a := f0_F_a_value.lt
  have fl_F_a_coder : h0.size > a := f0_F_a_coder.lt
  have fl_A_bc : h0.size > bc := f0_A_bc.lt
  refine own_open (own_via (S' := s₁.setTop (mkF m 0 #[.val (.ref a), .val (.ref bc)] [])) (fun t k => castTop (ef_own_new1e m a bc) k) ?_)
  have hEL := own_EW hw
  have hS0 : s.Since s.vm h0.size := (State.WarmedH.refl s).since _
  have R0 : CHr Z own_EL s.vm h0 s.vm h0 := CHr.refl hCH
  have K0 : Keep h0 h0 [a] := Keep.refl _ _
  have ne_a_bc : a ≠ bc := Exa.neArv f0_E_a f0_A_bc (wd8 hw)
  refine ov s₁ 1 #[.val (.ref a), .val (.ref bc)] [.ref a] (fun t k => XS.aloadN X0.here hx rfl (hb hby d2_0) rfl rfl k) ?_
  refine ov s₁ 2 #[.val (.ref a), .val (.ref bc)] [.ref bc, .ref a] (fun t k => XS.aloadN X0.here hx rfl (hb hby d2_1) rfl rfl k) ?_
  refine ov s₁ 3 #[.val (.ref a), .val (.ref bc)] [.int 0, .ref bc, .ref a] (fun t k => XS.iconst X0.here hx rfl (hb hby d2_2) k) ?_
  refine ov s₁ 4 #[.val (.ref a), .val (.ref bc)] [.ref bc, .int 0, .ref bc, .ref a] (fun t k => XS.aloadN X0.here hx rfl (hb hby d2_3) rfl rfl k) ?_
  obtain ⟨cl1, Ar1, -, S1, N1, -, -⟩ := id f0_A_bc
  refine ov s₁ 5 #[.val (.ref a), .val (.ref bc)] [.int 0, .int 0, .ref bc, .ref a] (fun t k => X0.arraylength hx (by first | (rw [e0]; exact Ar1.1) | exact Ar1.1) (State.isArrayOf_alike hZ.alike Ar1.2.1) (g := (mkF m 4 #[.val (.ref a), .val (.ref bc)] [.ref bc, .int 0, .ref bc, .ref a])) rfl rfl (hb hby d2_4) _ (by rw [len_of S1 N1]; exact k)) ?_
  refine ov s₁ 6 #[.val (.ref a), .val (.ref bc)] [.null, .int 0, .int 0, .ref bc, .ref a] (fun t k => XS.aconstNull X0.here hx rfl (hb hby d2_5) k) ?_
  have hk2 : h0.size ≤ s₁.heap.size := by rw [e0]; omega
  obtain ⟨_, _, ⟨T2, Lp2, kp2, np2⟩, -, X2, hS2, hgr2, ⟨Lc2, ⟨hQ2, R2q⟩, l2, y2, z2⟩, st2⟩ := X0.specialBackS hx (y := mt0) rfl hown (mvT hZ (wd13 hw)) (mvT hZ (wd14 hw)) (mvT hZ (wd16 hw)) (by decide) (own_backW (SL := []) (W := 0) (own_new4e l Z a0 hw [] a bc h0 n0 O0 f0_E_a f0_F_a_value f0_F_a_coder g_a) hZ (wd16 hw) (wd9 hw) (by decide) (by decide) hEL R0.1 all0) (g := (mkF m 6 #[.val (.ref a), .val (.ref bc)] [.null, .int 0, .int 0, .ref bc, .ref a])) rfl (by rw [hml]; rfl) (Steps.refl _) (a := a) (argsL := [.ref bc, .int 0, .int 0, .null]) (rest := []) (lenOf pd___CIILjava_lang_Void__V_1938 rfl) rfl (by show 2 * 0 + _ ≤ _; exact Nat.le_of_eq rfl) (hb hby d2_6) (fun _ _ => ⟨rfl, e0, (by decide : 0 + 4 ≤ _), (by decide : 0 + 8 ≤ _)⟩)
  dsimp only [Pt.U, Pt.locs, Pt.cells, Pt.slots] at X2 l2 y2 z2 st2 hQ2 hS2 hgr2 R2q
  subst Lp2 kp2 np2
  obtain ⟨X2, hSn2, hZ, hown⟩ := rebS hS0 hk2 X2 hS2 hgr2 hZ hown
  obtain ⟨tb2, kb2, rfl, N2q, K2q, f2_0, f2_1, f2_2⟩ := hQ2
  have N2 := Fr.app N0 N2q
  have sz3 : h0.size ≤ T2.heap.size := K2q.1
  have R4 : CHr Z own_EL s.vm h0 T2.vm T2.heap := R0.trans R2q
  have O5 : Old Z n0 T2.heap := O0.keep K2q (allS (by omega : n0 ≤ a) all0)
  have K6 : Keep h0 T2.heap [a] := K0.trans K2q (allS (P := fun x => x ∈ [a] ∨ h0.size ≤ x) (Or.inl (List.mem_of_getElem? (i := 0) rfl)) all0)
  have lt7_tb2 : T2.heap.size > tb2 := f2_2.lt
  refine own_tr (S' := T2.setTop (mkF m 9 #[.val (.ref a), .val (.ref bc)] [])) st2 ?_
  have RTR4 : CHr Z own_EL s.vm h0 T2.vm T2.heap := R4.trans (CHv.at X2 hZ hEL R4.1)
  have RXR4 : CHr Z own_EL s.vm s.heap T2.vm T2.heap := by rw [hh]; exact RTR4
  refine own_retW (Q := Q_own_new1e Z a bc kc h0 n0) (C := rm2_4_8_29.cells) (N := rm2_4_8_29.slots) X2 hSn2 (by omega) (v := none) (fun _ => rfl) Bd.notSynchronized ?_ RXR4 (by decide) (by decide) (fun fs hr => X2.returnOut hx Bd.returns (hb hby d2_9) hr)
  show Q_own_new1e Z a bc kc h0 n0 _ T2.vm T2.heap _
  exact ⟨tb2, kb2, rfl, N2, K6, f2_0, f2_1, f2_2⟩
def Q_own_put (Z : State) (b : Addr) (kb : ClassId) (zl : Int32) (vs : List Value) (ji : Int32) (vv : Int32) (h0 : Heap) (n0 : Nat) (v : Option Value) (h : Heap) (L : List Loc) : Prop := v = none ∧ Fr n0 L ∧ Keep h0 h [b] ∧ Arv Z h b kb .byte zl ((vs.set (ji <<< ((1 : Int32) &&& 31)).toNatClampNeg (.int (nar .byte (vv.toInt8.toInt32)))).set ((ji <<< ((1 : Int32) &&& 31)) + (1 : Int32)).toNatClampNeg (.int (nar .byte ((vv >>> ((8 : Int32) &&& 31)).toInt8.toInt32)))) (.int 0)
set_option maxRecDepth 65536 in
set_option maxHeartbeats 40000000 in
theorem own_put (l : Launch) (Z : State) (a0 : Array Value) (hw : ∀ d ∈ tables_1, d.before a0 Z = true) (ws : List Jvm.Cond) (b : Addr) (kb : ClassId) (zl : Int32) (vs : List Value) (ji : Int32) (vv : Int32) (h0 : Heap) (n0 : Nat) (O0 : Old Z n0 h0) (zf_S_java_lang_StringUTF16__assertionsDisabled : Sta Z Z.heap "java/lang/StringUTF16" "$assertionsDisabled" "Z" (.int 1)) (zf_S_java_lang_StringUTF16_HI_BYTE_SHIFT : Sta Z Z.heap "java/lang/StringUTF16" "HI_BYTE_SHIFT" "I" (.int 0)) (zf_S_java_lang_StringUTF16_LO_BYTE_SHIFT : Sta Z Z.heap "java/lang/StringUTF16" "LO_BYTE_SHIFT" "I" (.int 8)) (f0_A_b : Arv Z h0 b kb .byte zl vs (.int 0)) (ga1 : ¬ ((ji <<< ((1 : Int32) &&& 31)) < (0 : Int32))) (ga2 : (ji <<< ((1 : Int32) &&& 31)) < zl) (ga3 : ¬ (((ji <<< ((1 : Int32) &&& 31)) + (1 : Int32)) < (0 : Int32))) (ga4 : ((ji <<< ((1 : Int32) &&& 31)) + (1 : Int32)) < zl) (ga5 : (ji <<< ((1 : Int32) &&& 31)).toNatClampNeg < vs.length) (ga6 : ((ji <<< ((1 : Int32) &&& 31)) + (1 : Int32)).toNatClampNeg < (vs.set (ji <<< ((1 : Int32) &&& 31)).toNatClampNeg (.int (nar .byte (vv.toInt8.toInt32)))).length) (g_b : n0 ≤ b) :
    MetFree l mt2 (head1 (Jvm.Cond.code mt2 jdk_52_method_4_code 3 none :: ws) rm0_0_0_0) (fun aq U => aq = #[.ref b, .int ji, .int vv] ∧ Z.Warmed39 U.vm ∧ U.heap = h0) (fun _ _ _ _ _ => True) (fun _ U o U' => ∃ v L, o = .returned v ∧ Q_own_put Z b kb zl vs ji vv h0 n0 v U'.heap L ∧ FrameEnd U o U' L rm0_0_0_0.cells rm0_0_0_0.slots) := by
  refine MetFree.of_bodySF (plainFor_of_name pn_java_lang_StringUTF16) hisR ?_
  intro p e s m args below meth c s₁ Bd hml0 hP hK
  obtain ⟨rfl, hZ, hh⟩ := hP
  have hx := Bd.exec
  have hby := Bd.bytes
  have hml : c.maxLocals = 3 := hml0
  have hown : s.vm.findClass "java/lang/StringUTF16" = some m.cls := findClass_of_methodNamed Bd.named
  have hnm := (name_of_methodNamed Bd.named Bd.method).1
  have X0 : Stand p l e rm0_0_0_0 s m #[.ref b, .int ji, .int vv] below meth c s₁ [] 0 0 := Stand.of_body Bd
  have e0 : s₁.heap = h0 := by rw [← hh, Bd.state]; rfl
  have N0 := Fr.nil n0
  have zO := O0.1
  have zO2 := O0.2.1
  have fl_A_b : h0.size > b := f0_A_b.lt
  refine own_open (own_via (S' := s₁.setTop (mkF m 0 #[.val (.ref b), .val (.int ji), .val (.int vv)] [])) (fun t k => castTop (ef_own_put m b ji vv) k) ?_)
  have K0 : Keep h0 h0 [b] := Keep.refl _ _
  have cx1 : Sta Z h0 "java/lang/StringUTF16" "$assertionsDisabled" "Z" (.int 1) := zf_S_java_lang_StringUTF16__assertionsDisabled.ext O0.2
  let A_1 : Array Slot := #[.val (.ref b), .val (.int ji), .val (.int vv)]
  obtain ⟨T2, X2, e2, st2⟩ := getS2 X0 hx hZ hown (host := "") (Or.inl (wd117 hw)) Via.refl e0 cx1 (g := (mkF m 0 A_1 [])) rfl (hb hby d27_0)
  refine ov T2 3 A_1 [.int 1] st2 ?_
  refine ov T2 28 A_1 [] (fun t k => XS.ifYes X2.here hx rfl (pc0 := 3) (pc' := 28) rfl (hb hby d27_3) rfl ((if0 _ _).trans (feq (by decide : ¬ ((1 : Int32) = (0 : Int32)))).2) (by decide) (by decide) k) ?_
  refine ov T2 29 A_1 [.int ji] (fun t k => XS.iloadN X2.here hx rfl (hb hby d27_28) rfl k) ?_
  refine ov T2 30 A_1 [.int 1, .int ji] (fun t k => XS.iconst X2.here hx rfl (hb hby d27_29) k) ?_
  refine ov T2 31 A_1 [(.int (ji <<< ((1 : Int32) &&& 31)))] (fun t k => XS.ishl X2.here hx rfl (hb hby d27_30) rfl k) ?_
  let A_2 : Array Slot := #[.val (.ref b), .val (.int (ji <<< ((1 : Int32) &&& 31))), .val (.int vv)]
  refine ov T2 32 A_2 [] (fun t k => XS.istoreN X2.here hx rfl (hb hby d27_31) rfl (l' := A_2) rfl k) ?_
  refine ov T2 33 A_2 [.ref b] (fun t k => XS.aloadN X2.here hx rfl (hb hby d27_32) rfl rfl k) ?_
  refine ov T2 34 A_2 [(.int (ji <<< ((1 : Int32) &&& 31))), .ref b] (fun t k => XS.iloadN X2.here hx rfl (hb hby d27_33) rfl k) ?_
  let A_3 : Array Slot := #[.val (.ref b), .val (.int ((ji <<< ((1 : Int32) &&& 31)) + (1 : Int32))), .val (.int vv)]
  refine ov T2 37 A_3 [(.int (ji <<< ((1 : Int32) &&& 31))), .ref b] (fun t k => XS.iinc X2.here hx rfl (hb hby d27_34) rfl (l' := A_3) rfl k) ?_
  refine ov T2 38 A_3 [.int vv, (.int (ji <<< ((1 : Int32) &&& 31))), .ref b] (fun t k => XS.iloadN X2.here hx rfl (hb hby d27_37) rfl k) ?_
  have cx3 : Sta Z h0 "java/lang/StringUTF16" "HI_BYTE_SHIFT" "I" (.int 0) := zf_S_java_lang_StringUTF16_HI_BYTE_SHIFT.ext O0.2
  obtain ⟨T4, X4, e4, st4⟩ := getS2 X2 hx hZ hown (host := "") (Or.inl (wd118 hw)) Via.refl e2 cx3 (g := (mkF m 38 A_3 [.int vv, (.int (ji <<< ((1 : Int32) &&& 31))), .ref b])) rfl (hb hby d27_38)
  refine ov T4 41 A_3 [.int 0, .int vv, (.int (ji <<< ((1 : Int32) &&& 31))), .ref b] st4 ?_
  refine ov T4 42 #[.val (.ref b), .val (.int ((ji <<< ((1 : Int32) &&& 31)) + (1 : Int32))), .val (.int vv)] [(.int (vv >>> ((0 : Int32) &&& 31))), (.int (ji <<< ((1 : Int32) &&& 31))), .ref b] (fun t k => XS.ishr X4.here hx rfl (hb hby d27_41) rfl k) ?_
  rw [own_shr0]
  refine ov T4 43 A_3 [(.int (vv.toInt8.toInt32)), (.int (ji <<< ((1 : Int32) &&& 31))), .ref b] (fun t k => XS.i2b X4.here hx rfl (hb hby d27_42) rfl k) ?_
  obtain ⟨cl5, Ar5, q5, S5, M5, H5, U5⟩ := id f0_A_b
  obtain ⟨T5, h5, X5, e5, W5, st5⟩ := stB X4 hx hZ e4 Ar5 (j := (ji <<< ((1 : Int32) &&& 31))) (inb_of S5 ⟨ga1, ga2⟩) (g := (mkF m 43 A_3 [(.int (vv.toInt8.toInt32)), (.int (ji <<< ((1 : Int32) &&& 31))), .ref b])) rfl rfl (hb hby d27_43)
  have sz6 : h0.size ≤ h5.size := Nat.le_of_eq W5.size.symm
  have O7 : Old Z n0 h5 := O0.wr W5 (by omega : n0 ≤ b)
  have N5 := Fr.snoc X5 N0 (by omega : n0 ≤ b)
  have K8 : Keep h0 h5 [b] := K0.wr W5 (Or.inl (List.mem_of_getElem? (i := 0) rfl))
  have V5 : Arv Z h5 b kb .byte zl (vs.set (ji <<< ((1 : Int32) &&& 31)).toNatClampNeg (.int (nar .byte (vv.toInt8.toInt32)))) (.int 0) := Arv.set Ar5 q5 S5 M5 H5 U5 (fits_nar_byte _) W5 _ rfl ga5
  refine ov T5 44 A_3 [] st5 ?_
  refine ov T5 45 A_3 [.ref b] (fun t k => XS.aloadN X5.here hx rfl (hb hby d27_44) rfl rfl k) ?_
  refine ov T5 46 A_3 [(.int ((ji <<< ((1 : Int32) &&& 31)) + (1 : Int32))), .ref b] (fun t k => XS.iloadN X5.here hx rfl (hb hby d27_45) rfl k) ?_
  refine ov T5 47 A_3 [.int vv, (.int ((ji <<< ((1 : Int32) &&& 31)) + (1 : Int32))), .ref b] (fun t k => XS.iloadN X5.here hx rfl (hb hby d27_46) rfl k) ?_
  have cx9 : Sta Z h5 "java/lang/StringUTF16" "LO_BYTE_SHIFT" "I" (.int 8) := zf_S_java_lang_StringUTF16_LO_BYTE_SHIFT.ext O7.2
  obtain ⟨T10, X10, e10, st10⟩ := getS2 X5 hx hZ hown (host := "") (Or.inl (wd119 hw)) Via.refl e5 cx9 (g := (mkF m 47 A_3 [.int vv, (.int ((ji <<< ((1 : Int32) &&& 31)) + (1 : Int32))), .ref b])) rfl (hb hby d27_47)
  refine ov T10 50 A_3 [.int 8, .int vv, (.int ((ji <<< ((1 : Int32) &&& 31)) + (1 : Int32))), .ref b] st10 ?_
  refine ov T10 51 A_3 [(.int (vv >>> ((8 : Int32) &&& 31))), (.int ((ji <<< ((1 : Int32) &&& 31)) + (1 : Int32))), .ref b] (fun t k => XS.ishr X10.here hx rfl (hb hby d27_50) rfl k) ?_
  refine ov T10 52 A_3 [(.int ((vv >>> ((8 : Int32) &&& 31)).toInt8.toInt32)), (.int ((ji <<< ((1 : Int32) &&& 31)) + (1 : Int32))), .ref b] (fun t k => XS.i2b X10.here hx rfl (hb hby d27_51) rfl k) ?_
  obtain ⟨cl11, Ar11, q11, S11, M11, H11, U11⟩ := id V5
  obtain ⟨T11, h11, X11, e11, W11, st11⟩ := stB X10 hx hZ e10 Ar11 (j := ((ji <<< ((1 : Int32) &&& 31)) + (1 : Int32))) (inb_of S11 ⟨ga3, ga4⟩) (g := (mkF m 52 A_3 [(.int ((vv >>> ((8 : Int32) &&& 31)).toInt8.toInt32)), (.int ((ji <<< ((1 : Int32) &&& 31)) + (1 : Int32))), .ref b])) rfl rfl (hb hby d27_52)
  have sz12 : h5.size ≤ h11.size := Nat.le_of_eq W11.size.symm
  have O13 : Old Z n0 h11 := O7.wr W11 (by omega : n0 ≤ b)
  have N11 := Fr.snoc X11 N5 (by omega : n0 ≤ b)
  have K14 : Keep h0 h11 [b] := K8.wr W11 (Or.inl (List.mem_of_getElem? (i := 0) rfl))
  have V11 : Arv Z h11 b kb .byte zl ((vs.set (ji <<< ((1 : Int32) &&& 31)).toNatClampNeg (.int (nar .byte (vv.toInt8.toInt32)))).set ((ji <<< ((1 : Int32) &&& 31)) + (1 : Int32)).toNatClampNeg (.int (nar .byte ((vv >>> ((8 : Int32) &&& 31)).toInt8.toInt32)))) (.int 0) := Arv.set Ar11 q11 S11 M11 H11 U11 (fits_nar_byte _) W11 _ rfl ga6
  refine ov T11 53 A_3 [] st11 ?_
  refine own_ret (Q := Q_own_put Z b kb zl vs ji vv h0 n0) (C := rm0_0_0_0.cells) (N := rm0_0_0_0.slots) X11 (v := none) (fun _ => rfl) Bd.notSynchronized ?_ (by decide) (by decide) (fun fs hr => X11.returnOut hx Bd.returns (hb hby d27_53) hr)
  show Q_own_put Z b kb zl vs ji vv h0 n0 _ T11.heap _
  rw [e11]
  exact ⟨rfl, N11, K14, V11⟩
def Q_own_gc (Z : State) (b : Addr) (kb : ClassId) (zl : Int32) (vs : List Value) (ji : Int32) (vv : Int32) (h0 : Heap) (n0 : Nat) (v : Option Value) (h : Heap) (L : List Loc) : Prop := v = some (.int vv) ∧ L = [] ∧ h = h0
set_option maxRecDepth 65536 in
set_option maxHeartbeats 40000000 in
theorem own_gc (l : Launch) (Z : State) (a0 : Array Value) (hw : ∀ d ∈ tables_1, d.before a0 Z = true) (ws : List Jvm.Cond) (b : Addr) (kb : ClassId) (zl : Int32) (vs : List Value) (ji : Int32) (vv : Int32) (h0 : Heap) (n0 : Nat) (O0 : Old Z n0 h0) (zf_S_java_lang_StringUTF16__assertionsDisabled : Sta Z Z.heap "java/lang/StringUTF16" "$assertionsDisabled" "Z" (.int 1)) (zf_S_java_lang_StringUTF16_HI_BYTE_SHIFT : Sta Z Z.heap "java/lang/StringUTF16" "HI_BYTE_SHIFT" "I" (.int 0)) (zf_S_java_lang_StringUTF16_LO_BYTE_SHIFT : Sta Z Z.heap "java/lang/StringUTF16" "LO_BYTE_SHIFT" "I" (.int 8)) (f0_A_b : Arv Z h0 b kb .byte zl vs (.int 0)) (ga1 : ¬ ((ji <<< ((1 : Int32) &&& 31)) < (0 : Int32))) (ga2 : (ji <<< ((1 : Int32) &&& 31)) < zl) (ga3 : ¬ (((ji <<< ((1 : Int32) &&& 31)) + (1 : Int32)) < (0 : Int32))) (ga4 : ((ji <<< ((1 : Int32) &&& 31)) + (1 : Int32)) < zl) (ga5 : vs.getD (ji <<< ((1 : Int32) &&& 31)).toNatClampNeg (.int 0) = (.int (nar .byte (vv.toInt8.toInt32)))) (ga6 : vs.getD ((ji <<< ((1 : Int32) &&& 31)) + (1 : Int32)).toNatClampNeg (.int 0) = (.int (nar .byte ((vv >>> ((8 : Int32) &&& 31)).toInt8.toInt32)))) (qv : ¬ vv < (1 : Int32) ∧ ¬ (65535 : Int32) < vv) :
    MetFree l mt3 (head1 (Jvm.Cond.code mt3 jdk_52_method_5_code 2 (some .char) :: ws) rm0_0_0_0) (fun aq U => aq = #[.ref b, .int ji] ∧ Z.Warmed39 U.vm ∧ U.heap = h0) (fun _ _ _ _ _ => True) (fun _ U o U' => ∃ v L, o = .returned v ∧ Q_own_gc Z b kb zl vs ji vv h0 n0 v U'.heap L ∧ FrameEnd U o U' L rm0_0_0_0.cells rm0_0_0_0.slots) := by
  refine MetFree.of_bodySF (plainFor_of_name pn_java_lang_StringUTF16) hisR ?_
  intro p e s m args below meth c s₁ Bd hml0 hP hK
  obtain ⟨rfl, hZ, hh⟩ := hP
  have hx := Bd.exec
  have hby := Bd.bytes
  have hml : c.maxLocals = 2 := hml0
  have hown : s.vm.findClass "java/lang/StringUTF16" = some m.cls := findClass_of_methodNamed Bd.named
  have hnm := (name_of_methodNamed Bd.named Bd.method).1
  have X0 : Stand p l e rm0_0_0_0 s m #[.ref b, .int ji] below meth c s₁ [] 0 0 := Stand.of_body Bd
  have e0 : s₁.heap = h0 := by rw [← hh, Bd.state]; rfl
  have N0 := Fr.nil n0
  have zO := O0.1
  have zO2 := O0.2.1
  have fl_A_b : h0.size > b := f0_A_b.lt
  refine own_open (own_via (S' := s₁.setTop (mkF m 0 #[.val (.ref b), .val (.int ji)] [])) (fun t k => castTop (ef_own_gc m b ji) k) ?_)
  have cx1 : Sta Z h0 "java/lang/StringUTF16" "$assertionsDisabled" "Z" (.int 1) := zf_S_java_lang_StringUTF16__assertionsDisabled.ext O0.2
  obtain ⟨T2, X2, e2, st2⟩ := getS2 X0 hx hZ hown (host := "") (Or.inl (wd117 hw)) Via.refl e0 cx1 (g := (mkF m 0 #[.val (.ref b), .val (.int ji)] [])) rfl (hb hby d28_0)
  refine ov T2 3 #[.val (.ref b), .val (.int ji)] [.int 1] st2 ?_
  refine ov T2 28 #[.val (.ref b), .val (.int ji)] [] (fun t k => XS.ifYes X2.here hx rfl (pc0 := 3) (pc' := 28) rfl (hb hby d28_3) rfl ((if0 _ _).trans (feq (by decide : ¬ ((1 : Int32) = (0 : Int32)))).2) (by decide) (by decide) k) ?_
  refine ov T2 29 #[.val (.ref b), .val (.int ji)] [.int ji] (fun t k => XS.iloadN X2.here hx rfl (hb hby d28_28) rfl k) ?_
  refine ov T2 30 #[.val (.ref b), .val (.int ji)] [.int 1, .int ji] (fun t k => XS.iconst X2.here hx rfl (hb hby d28_29) k) ?_
  refine ov T2 31 #[.val (.ref b), .val (.int ji)] [(.int (ji <<< ((1 : Int32) &&& 31)))] (fun t k => XS.ishl X2.here hx rfl (hb hby d28_30) rfl k) ?_
  let A_1 : Array Slot := #[.val (.ref b), .val (.int (ji <<< ((1 : Int32) &&& 31)))]
  refine ov T2 32 A_1 [] (fun t k => XS.istoreN X2.here hx rfl (hb hby d28_31) rfl (l' := A_1) rfl k) ?_
  refine ov T2 33 A_1 [.ref b] (fun t k => XS.aloadN X2.here hx rfl (hb hby d28_32) rfl rfl k) ?_
  refine ov T2 34 A_1 [(.int (ji <<< ((1 : Int32) &&& 31))), .ref b] (fun t k => XS.iloadN X2.here hx rfl (hb hby d28_33) rfl k) ?_
  let A_2 : Array Slot := #[.val (.ref b), .val (.int ((ji <<< ((1 : Int32) &&& 31)) + (1 : Int32)))]
  refine ov T2 37 A_2 [(.int (ji <<< ((1 : Int32) &&& 31))), .ref b] (fun t k => XS.iinc X2.here hx rfl (hb hby d28_34) rfl (l' := A_2) rfl k) ?_
  obtain ⟨cl3, Ar3, q3, S3, M3, H3, U3⟩ := id f0_A_b
  have hin3 : ¬ ((ji <<< ((1 : Int32) &&& 31)) < 0 ∨ cl3.slots.size ≤ ((ji <<< ((1 : Int32) &&& 31))).toNatClampNeg) := inb_of S3 ⟨ga1, ga2⟩
  refine ov T2 38 A_2 [(.int (nar .byte (vv.toInt8.toInt32)))] (fun t k => X2.baloadBytes hx (j := (ji <<< ((1 : Int32) &&& 31))) (v := (.int (nar .byte (vv.toInt8.toInt32)))) (by first | (rw [e2]; exact Ar3.1) | exact Ar3.1) (State.isArrayOf_alike hZ.alike Ar3.2.1) Ar3.2.2 hin3 (Has.at H3 hin3 ga5) (g := (mkF m 37 A_2 [(.int (ji <<< ((1 : Int32) &&& 31))), .ref b])) rfl rfl (hb hby d28_37) _ k) ?_
  refine ov T2 41 A_2 [.int 255, (.int (nar .byte (vv.toInt8.toInt32)))] (fun t k => XS.sipush X2.here hx rfl (hb hby d28_38) k) ?_
  refine ov T2 42 A_2 [(.int ((nar .byte (vv.toInt8.toInt32)) &&& (255 : Int32)))] (fun t k => XS.iand X2.here hx rfl (hb hby d28_41) rfl k) ?_
  have cx4 : Sta Z h0 "java/lang/StringUTF16" "HI_BYTE_SHIFT" "I" (.int 0) := zf_S_java_lang_StringUTF16_HI_BYTE_SHIFT.ext O0.2
  obtain ⟨T5, X5, e5, st5⟩ := getS2 X2 hx hZ hown (host := "") (Or.inl (wd118 hw)) Via.refl e2 cx4 (g := (mkF m 42 A_2 [(.int ((nar .byte (vv.toInt8.toInt32)) &&& (255 : Int32)))])) rfl (hb hby d28_42)
  refine ov T5 45 A_2 [.int 0, (.int ((nar .byte (vv.toInt8.toInt32)) &&& (255 : Int32)))] st5 ?_
  refine ov T5 46 #[.val (.ref b), .val (.int ((ji <<< ((1 : Int32) &&& 31)) + (1 : Int32)))] [(.int (((nar .byte (vv.toInt8.toInt32)) &&& (255 : Int32)) <<< ((0 : Int32) &&& 31)))] (fun t k => XS.ishl X5.here hx rfl (hb hby d28_45) rfl k) ?_
  rw [own_shl0]
  refine ov T5 47 A_2 [.ref b, (.int ((nar .byte (vv.toInt8.toInt32)) &&& (255 : Int32)))] (fun t k => XS.aloadN X5.here hx rfl (hb hby d28_46) rfl rfl k) ?_
  refine ov T5 48 A_2 [(.int ((ji <<< ((1 : Int32) &&& 31)) + (1 : Int32))), .ref b, (.int ((nar .byte (vv.toInt8.toInt32)) &&& (255 : Int32)))] (fun t k => XS.iloadN X5.here hx rfl (hb hby d28_47) rfl k) ?_
  obtain ⟨cl6, Ar6, q6, S6, M6, H6, U6⟩ := id f0_A_b
  have hin6 : ¬ (((ji <<< ((1 : Int32) &&& 31)) + (1 : Int32)) < 0 ∨ cl6.slots.size ≤ (((ji <<< ((1 : Int32) &&& 31)) + (1 : Int32))).toNatClampNeg) := inb_of S6 ⟨ga3, ga4⟩
  refine ov T5 49 A_2 [(.int (nar .byte ((vv >>> ((8 : Int32) &&& 31)).toInt8.toInt32))), (.int ((nar .byte (vv.toInt8.toInt32)) &&& (255 : Int32)))] (fun t k => X5.baloadBytes hx (j := ((ji <<< ((1 : Int32) &&& 31)) + (1 : Int32))) (v := (.int (nar .byte ((vv >>> ((8 : Int32) &&& 31)).toInt8.toInt32)))) (by first | (rw [e5]; exact Ar6.1) | exact Ar6.1) (State.isArrayOf_alike hZ.alike Ar6.2.1) Ar6.2.2 hin6 (Has.at H6 hin6 ga6) (g := (mkF m 48 A_2 [(.int ((ji <<< ((1 : Int32) &&& 31)) + (1 : Int32))), .ref b, (.int ((nar .byte (vv.toInt8.toInt32)) &&& (255 : Int32)))])) rfl rfl (hb hby d28_48) _ k) ?_
  refine ov T5 52 A_2 [.int 255, (.int (nar .byte ((vv >>> ((8 : Int32) &&& 31)).toInt8.toInt32))), (.int ((nar .byte (vv.toInt8.toInt32)) &&& (255 : Int32)))] (fun t k => XS.sipush X5.here hx rfl (hb hby d28_49) k) ?_
  refine ov T5 53 A_2 [(.int ((nar .byte ((vv >>> ((8 : Int32) &&& 31)).toInt8.toInt32)) &&& (255 : Int32))), (.int ((nar .byte (vv.toInt8.toInt32)) &&& (255 : Int32)))] (fun t k => XS.iand X5.here hx rfl (hb hby d28_52) rfl k) ?_
  have cx7 : Sta Z h0 "java/lang/StringUTF16" "LO_BYTE_SHIFT" "I" (.int 8) := zf_S_java_lang_StringUTF16_LO_BYTE_SHIFT.ext O0.2
  obtain ⟨T8, X8, e8, st8⟩ := getS2 X5 hx hZ hown (host := "") (Or.inl (wd119 hw)) Via.refl e5 cx7 (g := (mkF m 53 A_2 [(.int ((nar .byte ((vv >>> ((8 : Int32) &&& 31)).toInt8.toInt32)) &&& (255 : Int32))), (.int ((nar .byte (vv.toInt8.toInt32)) &&& (255 : Int32)))])) rfl (hb hby d28_53)
  refine ov T8 56 A_2 [.int 8, (.int ((nar .byte ((vv >>> ((8 : Int32) &&& 31)).toInt8.toInt32)) &&& (255 : Int32))), (.int ((nar .byte (vv.toInt8.toInt32)) &&& (255 : Int32)))] st8 ?_
  refine ov T8 57 A_2 [(.int (((nar .byte ((vv >>> ((8 : Int32) &&& 31)).toInt8.toInt32)) &&& (255 : Int32)) <<< ((8 : Int32) &&& 31))), (.int ((nar .byte (vv.toInt8.toInt32)) &&& (255 : Int32)))] (fun t k => XS.ishl X8.here hx rfl (hb hby d28_56) rfl k) ?_
  refine ov T8 58 A_2 [(.int (((nar .byte (vv.toInt8.toInt32)) &&& (255 : Int32)) ||| (((nar .byte ((vv >>> ((8 : Int32) &&& 31)).toInt8.toInt32)) &&& (255 : Int32)) <<< ((8 : Int32) &&& 31))))] (fun t k => XS.ior X8.here hx rfl (hb hby d28_57) rfl k) ?_
  refine ov T8 59 A_2 [(.int ((((nar .byte (vv.toInt8.toInt32)) &&& (255 : Int32)) ||| (((nar .byte ((vv >>> ((8 : Int32) &&& 31)).toInt8.toInt32)) &&& (255 : Int32)) <<< ((8 : Int32) &&& 31))).toUInt32.toUInt16.toUInt32.toInt32))] (fun t k => XS.i2c X8.here hx rfl (hb hby d28_58) rfl k) ?_
  refine own_ret (Q := Q_own_gc Z b kb zl vs ji vv h0 n0) (C := rm0_0_0_0.cells) (N := rm0_0_0_0.slots) X8 (v := some (.int (nar .char ((((nar .byte (vv.toInt8.toInt32)) &&& (255 : Int32)) ||| (((nar .byte ((vv >>> ((8 : Int32) &&& 31)).toInt8.toInt32)) &&& (255 : Int32)) <<< ((8 : Int32) &&& 31))).toUInt32.toUInt16.toUInt32.toInt32)))) (fun h => by rw [Bd.returns] at h; cases h) Bd.notSynchronized ?_ (by decide) (by decide) (fun fs hr => retN X8 hx (t := .char) Bd.returns (by simp) (hb hby d28_59) hr)
  show Q_own_gc Z b kb zl vs ji vv h0 n0 _ T8.heap _
  rw [e8]
  exact ⟨(congrArg (fun z => some (Value.int z)) (own_pair qv)), rfl, rfl⟩
def Q_own_nbl1 (Z : State)  (h0 : Heap) (n0 : Nat) (v : Option Value) (h : Heap) (L : List Loc) : Prop := v = some (.int 2) ∧ L = [] ∧ h = h0
set_option maxRecDepth 65536 in
set_option maxHeartbeats 40000000 in
theorem own_nbl1 (l : Launch) (Z : State) (a0 : Array Value) (hw : ∀ d ∈ tables_1, d.before a0 Z = true) (ws : List Jvm.Cond)  (h0 : Heap) (n0 : Nat) (O0 : Old Z n0 h0) :
    MetFree l mt4 (head1 (Jvm.Cond.code mt4 jdk_52_method_3_code 1 (some .int) :: ws) rm0_0_0_0) (fun aq U => aq = #[.int 1] ∧ Z.Warmed39 U.vm ∧ U.heap = h0) (fun _ _ _ _ _ => True) (fun _ U o U' => ∃ v L, o = .returned v ∧ Q_own_nbl1 Z  h0 n0 v U'.heap L ∧ FrameEnd U o U' L rm0_0_0_0.cells rm0_0_0_0.slots) := by
  refine MetFree.of_bodySF (plainFor_of_name pn_java_lang_StringUTF16) hisR ?_
  intro p e s m args below meth c s₁ Bd hml0 hP hK
  obtain ⟨rfl, hZ, hh⟩ := hP
  have hx := Bd.exec
  have hby := Bd.bytes
  have hml : c.maxLocals = 1 := hml0
  have hown : s.vm.findClass "java/lang/StringUTF16" = some m.cls := findClass_of_methodNamed Bd.named
  have hnm := (name_of_methodNamed Bd.named Bd.method).1
  have X0 : Stand p l e rm0_0_0_0 s m #[.int 1] below meth c s₁ [] 0 0 := Stand.of_body Bd
  have e0 : s₁.heap = h0 := by rw [← hh, Bd.state]; rfl
  have N0 := Fr.nil n0
  have zO := O0.1
  have zO2 := O0.2.1
  refine own_open (own_via (S' := s₁.setTop (mkF m 0 #[.val (.int 1)] [])) (fun t k => castTop (ef_own_nbl1 m (1 : Int32)) k) ?_)
  refine ov s₁ 1 #[.val (.int 1)] [.int 1] (fun t k => XS.iloadN X0.here hx rfl (hb hby d26_0) rfl k) ?_
  refine ov s₁ 12 #[.val (.int 1)] [] (fun t k => XS.ifYes X0.here hx rfl (pc0 := 1) (pc' := 12) rfl (hb hby d26_1) rfl ((if0 _ _).trans (flt (by decide : ¬ ((1 : Int32) < (0 : Int32)))).2.1) (by decide) (by decide) k) ?_
  refine ov s₁ 13 #[.val (.int 1)] [.int 1] (fun t k => XS.iloadN X0.here hx rfl (hb hby d26_12) rfl k) ?_
  refine ov s₁ 15 #[.val (.int 1)] [.int 1073741823, .int 1] (fun t k => X0.ldcInt hx hown (mvT hZ (wd113 hw)) (g := (mkF m 13 #[.val (.int 1)] [.int 1])) rfl (hb hby d26_13) _ k) ?_
  refine ov s₁ 55 #[.val (.int 1)] [] (fun t k => XS.icmpYes X0.here hx rfl (pc0 := 15) (pc' := 55) rfl (hb hby d26_15) rfl (tlt (by decide : (1 : Int32) < (1073741823 : Int32))).1 (by decide) (by decide) k) ?_
  refine ov s₁ 56 #[.val (.int 1)] [.int 1] (fun t k => XS.iloadN X0.here hx rfl (hb hby d26_55) rfl k) ?_
  refine ov s₁ 57 #[.val (.int 1)] [.int 1, .int 1] (fun t k => XS.iconst X0.here hx rfl (hb hby d26_56) k) ?_
  refine ov s₁ 58 #[.val (.int 1)] [.int 2] (fun t k => XS.ishl X0.here hx rfl (hb hby d26_57) rfl k) ?_
  refine own_ret (Q := Q_own_nbl1 Z  h0 n0) (C := rm0_0_0_0.cells) (N := rm0_0_0_0.slots) X0 (v := some (.int 2)) (fun h => by rw [Bd.returns] at h; cases h) Bd.notSynchronized ?_ (by decide) (by decide) (fun fs hr => retOut X0 hx Bd.returns rfl (Or.inl ⟨rfl, Or.inl rfl, _, rfl⟩) (hb hby d26_58) hr)
  show Q_own_nbl1 Z  h0 n0 _ s₁.heap _
  rw [e0]
  exact ⟨rfl, rfl, rfl⟩
def Q_own_nbf1 (Z : State)  (h0 : Heap) (n0 : Nat) (v : Option Value) (h : Heap) (L : List Loc) : Prop := ∃ b : Addr, ∃ kb : ClassId, v = some (.ref b) ∧ Fr n0 L ∧ Keep h0 h [] ∧ Arv Z h b kb .byte (2 : Int32) (own_L1) (.int 0) ∧ (h0.size ≤ b)
set_option maxRecDepth 65536 in
set_option maxHeartbeats 40000000 in
theorem own_nbf1 (l : Launch) (Z : State) (a0 : Array Value) (hw : ∀ d ∈ tables_1, d.before a0 Z = true) (ws : List Jvm.Cond)  (h0 : Heap) (n0 : Nat) (O0 : Old Z n0 h0) :
    MetFree l mt5 (head1 (Jvm.Cond.code mt5 jdk_52_method_2_code 1 (some (.array .byte)) :: ws) rm1_1_2_12) (fun aq U => aq = #[.int 1] ∧ Z.Warmed39 U.vm ∧ U.heap = h0) (fun _ _ _ _ _ => True) (fun _ U o U' => ∃ v L, o = .returned v ∧ Q_own_nbf1 Z  h0 n0 v U'.heap L ∧ FrameEnd U o U' L rm1_1_2_12.cells rm1_1_2_12.slots) := by
  refine MetFree.of_bodySF (plainFor_of_name pn_java_lang_StringUTF16) hisR ?_
  intro p e s m args below meth c s₁ Bd hml0 hP hK
  obtain ⟨rfl, hZ, hh⟩ := hP
  have hx := Bd.exec
  have hby := Bd.bytes
  have hml : c.maxLocals = 1 := hml0
  have hown : s.vm.findClass "java/lang/StringUTF16" = some m.cls := findClass_of_methodNamed Bd.named
  have hnm := (name_of_methodNamed Bd.named Bd.method).1
  have X0 : Stand p l e rm1_1_2_12 s m #[.int 1] below meth c s₁ [] 0 0 := Stand.of_body Bd
  have e0 : s₁.heap = h0 := by rw [← hh, Bd.state]; rfl
  have N0 := Fr.nil n0
  have zO := O0.1
  have zO2 := O0.2.1
  refine own_open (own_via (S' := s₁.setTop (mkF m 0 #[.val (.int 1)] [])) (fun t k => castTop (ef_own_nbf1 m (1 : Int32)) k) ?_)
  have K0 : Keep h0 h0 [] := Keep.refl _ _
  refine ov s₁ 1 #[.val (.int 1)] [.int 1] (fun t k => XS.iloadN X0.here hx rfl (hb hby d25_0) rfl k) ?_
  obtain ⟨_, _, ⟨T1, Lp1, kp1, np1⟩, -, X1, ⟨Lc1, hQ1, l1, y1, z1⟩, st1⟩ := Jvm.LawKit.callS X0 hx (y := mt4) hown (mvT hZ (wd110 hw)) (mvT hZ (wd111 hw)) (mvT hZ (wd93 hw)) (mvT hZ (wd112 hw)) (by decide) (backOf (W := 0) (own_nbl1 l Z a0 hw []  h0 n0 O0) hZ (wd112 hw) (wd93 hw) (by decide) (by decide)) (g := (mkF m 1 #[.val (.int 1)] [.int 1])) rfl (by rw [hml]; rfl) (argsL := [.int 1]) (rest := []) (lenOf pd__I_I_227 rfl) rfl (by show 2 * 0 + _ ≤ _; exact Nat.le_of_eq rfl) (hb hby d25_1) (fun _ _ => ⟨rfl, e0, (by decide : 0 + 0 ≤ _), (by decide : 0 + 0 ≤ _)⟩)
  dsimp only [Pt.U, Pt.locs, Pt.cells, Pt.slots] at X1 l1 y1 z1 st1 hQ1
  subst Lp1 kp1 np1
  obtain ⟨rfl, rfl, e1⟩ := hQ1
  try rw [List.append_nil] at X1
  refine ov T1 4 #[.val (.int 1)] [.int 2] st1 ?_
  obtain ⟨T2, h2, k2, X2, e2, E2, A2, st2⟩ := newP (aty := .byte) X1 hx hZ (wd21 hw) e1 (g := (mkF m 4 #[.val (.int 1)] [.int 2])) rfl (hb hby d25_4) rfl (by decide : ¬ ((2 : Int32) < (0 : Int32))) (cap := 2) (by decide) (by decide) (by decide) (by decide)
  obtain ⟨b2, g2⟩ : ∃ z, z = h0.size := ⟨_, rfl⟩
  rw [← g2] at A2 st2
  have lt_b2 : h2.size > b2 := A2.lt
  have sz3 : h0.size ≤ h2.size := E2.1
  have O4 : Old Z n0 h2 := O0.ext E2
  have K5 : Keep h0 h2 [] := K0.ext E2
  have V2 : Arv Z h2 b2 k2 .byte (2 : Int32) [.int 0, .int 0] (.int 0) := (Arv.new A2 (by decide)).pad (pad_rep [] (.int 0) 2)
  refine ov T2 6 #[.val (.int 1)] [.ref b2] st2 ?_
  refine own_ret (Q := Q_own_nbf1 Z  h0 n0) (C := rm1_1_2_12.cells) (N := rm1_1_2_12.slots) X2 (v := some (.ref b2)) (fun h => by rw [Bd.returns] at h; cases h) Bd.notSynchronized ?_ (by decide) (by decide) (fun fs hr => retOut X2 hx Bd.returns rfl (Or.inr (Or.inr (Or.inr (Or.inr ⟨rfl, rfl, rfl⟩)))) (hb hby d25_6) hr)
  show Q_own_nbf1 Z  h0 n0 _ T2.heap _
  rw [e2]
  exact ⟨b2, k2, rfl, N0, K5, V2, (by omega)⟩
def Q_own_cx1 (Z : State) (sa : Addr) (ks : ClassId) (dst : Addr) (kd : ClassId) (v0 : Int32) (h0 : Heap) (n0 : Nat) (v : Option Value) (h : Heap) (L : List Loc) : Prop := ∃ z : Int32, v = some (.int z) ∧ Fr n0 L ∧ Keep h0 h [dst] ∧ ((z = (0 : Int32) ∧ (255 : Int32) < v0))
set_option maxRecDepth 65536 in
set_option maxHeartbeats 40000000 in
theorem own_cx1 (l : Launch) (Z : State) (a0 : Array Value) (hw : ∀ d ∈ tables_1, d.before a0 Z = true) (ws : List Jvm.Cond) (sa : Addr) (ks : ClassId) (dst : Addr) (kd : ClassId) (v0 : Int32) (h0 : Heap) (n0 : Nat) (O0 : Old Z n0 h0) (f0_A_sa : Arv Z h0 sa ks .char (1 : Int32) [.int v0] (.int 0)) (f0_A_dst : Arv Z h0 dst kd .byte (1 : Int32) [.int 0] (.int 0)) (hU : (255 : Int32) < v0) (g_d : n0 ≤ dst) (nsd : sa ≠ dst) :
    MetFree l mt6 (head1 (Jvm.Cond.code mt6 jdk_52_method_21_code 7 (some .int) :: ws) rm0_0_0_0) (fun aq U => aq = #[.ref sa, .int 0, .ref dst, .int 0, .int 1] ∧ Z.Warmed39 U.vm ∧ U.heap = h0) (fun _ _ _ _ _ => True) (fun _ U o U' => ∃ v L, o = .returned v ∧ Q_own_cx1 Z sa ks dst kd v0 h0 n0 v U'.heap L ∧ FrameEnd U o U' L rm0_0_0_0.cells rm0_0_0_0.slots) := by
  refine MetFree.of_bodySF (plainFor_of_name pn_java_lang_StringUTF16) hisR ?_
  intro p e s m args below meth c s₁ Bd hml0 hP hK
  obtain ⟨rfl, hZ, hh⟩ := hP
  have hx := Bd.exec
  have hby := Bd.bytes
  have hml : c.maxLocals = 7 := hml0
  have hown : s.vm.findClass "java/lang/StringUTF16" = some m.cls := findClass_of_methodNamed Bd.named
  have hnm := (name_of_methodNamed Bd.named Bd.method).1
  have X0 : Stand p l e rm0_0_0_0 s m #[.ref sa, .int 0, .ref dst, .int 0, .int 1] below meth c s₁ [] 0 0 := Stand.of_body Bd
  have e0 : s₁.heap = h0 := by rw [← hh, Bd.state]; rfl
  have N0 := Fr.nil n0
  have zO := O0.1
  have zO2 := O0.2.1
  have fl_A_sa : h0.size > sa := f0_A_sa.lt
  have fl_A_dst : h0.size > dst := f0_A_dst.lt
  refine own_open (own_via (S' := s₁.setTop (mkF m 0 #[.val (.ref sa), .val (.int 0), .val (.ref dst), .val (.int 0), .val (.int 1), .unset, .unset] [])) (fun t k => castTop (ef_own_cx1 m sa (0 : Int32) dst (0 : Int32) (1 : Int32)) k) ?_)
  have K0 : Keep h0 h0 [dst] := Keep.refl _ _
  refine ov s₁ 1 #[.val (.ref sa), .val (.int 0), .val (.ref dst), .val (.int 0), .val (.int 1), .unset, .unset] [.int 0] (fun t k => XS.iconst X0.here hx rfl (hb hby d21_0) k) ?_
  let A_1 : Array Slot := #[.val (.ref sa), .val (.int 0), .val (.ref dst), .val (.int 0), .val (.int 1), .val (.int 0), .unset]
  refine ov s₁ 3 A_1 [] (fun t k => XS.istore X0.here hx rfl (hb hby d21_1) rfl (l' := A_1) rfl k) ?_
  refine ov s₁ 5 A_1 [.int 0] (fun t k => XS.iload X0.here hx rfl (hb hby d21_3) rfl k) ?_
  refine ov s₁ 7 A_1 [.int 1, .int 0] (fun t k => XS.iload X0.here hx rfl (hb hby d21_5) rfl k) ?_
  refine ov s₁ 10 A_1 [] (fun t k => XS.icmpNo X0.here hx rfl (hb hby d21_7) rfl (tlt (by decide : (0 : Int32) < (1 : Int32))).2.1 k) ?_
  refine ov s₁ 11 A_1 [.ref sa] (fun t k => XS.aloadN X0.here hx rfl (hb hby d21_10) rfl rfl k) ?_
  refine ov s₁ 12 A_1 [.int 0, .ref sa] (fun t k => XS.iloadN X0.here hx rfl (hb hby d21_11) rfl k) ?_
  obtain ⟨cl1, Ar1, q1, S1, M1, H1, U1⟩ := id f0_A_sa
  have hin1 : ¬ ((0 : Int32) < 0 ∨ cl1.slots.size ≤ ((0 : Int32)).toNatClampNeg) := inb_of S1 ⟨by decide, by decide⟩
  refine ov s₁ 13 A_1 [.int v0] (fun t k => X0.caload hx (j := (0 : Int32)) (v := (.int v0)) (by first | (rw [e0]; exact Ar1.1) | exact Ar1.1) (State.isArrayOf_alike hZ.alike Ar1.2.1) Ar1.2.2 hin1 (Has.at H1 hin1 rfl) (g := (mkF m 12 A_1 [.int 0, .ref sa])) rfl rfl (hb hby d21_12) _ k) ?_
  let A_2 : Array Slot := #[.val (.ref sa), .val (.int 0), .val (.ref dst), .val (.int 0), .val (.int 1), .val (.int 0), .val (.int v0)]
  refine ov s₁ 15 A_2 [] (fun t k => XS.istore X0.here hx rfl (hb hby d21_13) rfl (l' := A_2) rfl k) ?_
  refine ov s₁ 17 A_2 [.int v0] (fun t k => XS.iload X0.here hx rfl (hb hby d21_15) rfl k) ?_
  refine ov s₁ 20 A_2 [.int 255, .int v0] (fun t k => XS.sipush X0.here hx rfl (hb hby d21_17) k) ?_
  by_cases hc20_2 : (255 : Int32) < v0
  · -- yes
    refine ov s₁ 23 A_2 [] (fun t k => XS.icmpNo X0.here hx rfl (hb hby d21_20) rfl (tlt hc20_2).2.2.2 k) ?_
    refine ov s₁ 25 A_2 [.int 0] (fun t k => XS.iload X0.here hx rfl (hb hby d21_23) rfl k) ?_
    refine own_ret (Q := Q_own_cx1 Z sa ks dst kd v0 h0 n0) (C := rm0_0_0_0.cells) (N := rm0_0_0_0.slots) X0 (v := some (.int 0)) (fun h => by rw [Bd.returns] at h; cases h) Bd.notSynchronized ?_ (by decide) (by decide) (fun fs hr => retOut X0 hx Bd.returns rfl (Or.inl ⟨rfl, Or.inl rfl, _, rfl⟩) (hb hby d21_25) hr)
    show Q_own_cx1 Z sa ks dst kd v0 h0 n0 _ s₁.heap _
    rw [e0]
    exact ⟨(0 : Int32), rfl, N0, K0, (⟨rfl, hc20_2⟩)⟩
  · -- no
    exact absurd hU (hc20_2)
def Q_own_tob1 (Z : State) (sa : Addr) (ks : ClassId) (v0 : Int32) (h0 : Heap) (n0 : Nat) (v : Option Value) (h : Heap) (L : List Loc) : Prop := ∃ b : Addr, ∃ kb : ClassId, v = some (.ref b) ∧ Fr n0 L ∧ Keep h0 h [] ∧ Arv Z h b kb .byte (2 : Int32) (own_L0 v0) (.int 0) ∧ (h0.size ≤ b)
set_option maxRecDepth 65536 in
set_option maxHeartbeats 40000000 in
theorem own_tob1 (l : Launch) (Z : State) (a0 : Array Value) (hw : ∀ d ∈ tables_1, d.before a0 Z = true) (ws : List Jvm.Cond) (sa : Addr) (ks : ClassId) (v0 : Int32) (h0 : Heap) (n0 : Nat) (O0 : Old Z n0 h0) (zf_S_java_lang_StringUTF16__assertionsDisabled : Sta Z Z.heap "java/lang/StringUTF16" "$assertionsDisabled" "Z" (.int 1)) (zf_S_java_lang_StringUTF16_HI_BYTE_SHIFT : Sta Z Z.heap "java/lang/StringUTF16" "HI_BYTE_SHIFT" "I" (.int 0)) (zf_S_java_lang_StringUTF16_LO_BYTE_SHIFT : Sta Z Z.heap "java/lang/StringUTF16" "LO_BYTE_SHIFT" "I" (.int 8)) (f0_A_sa : Arv Z h0 sa ks .char (1 : Int32) [.int v0] (.int 0)) :
    MetFree l mt7 (head1 (Jvm.Cond.code mt7 jdk_52_method_14_code 5 (some (.array .byte)) :: ws) rm2_1_2_24) (fun aq U => aq = #[.ref sa, .int 0, .int 1] ∧ Z.Warmed39 U.vm ∧ U.heap = h0) (fun _ _ _ _ _ => True) (fun _ U o U' => ∃ v L, o = .returned v ∧ Q_own_tob1 Z sa ks v0 h0 n0 v U'.heap L ∧ FrameEnd U o U' L rm2_1_2_24.cells rm2_1_2_24.slots) := by
  refine MetFree.of_bodySF (plainFor_of_name pn_java_lang_StringUTF16) hisR ?_
  intro p e s m args below meth c s₁ Bd hml0 hP hK
  obtain ⟨rfl, hZ, hh⟩ := hP
  have hx := Bd.exec
  have hby := Bd.bytes
  have hml : c.maxLocals = 5 := hml0
  have hown : s.vm.findClass "java/lang/StringUTF16" = some m.cls := findClass_of_methodNamed Bd.named
  have hnm := (name_of_methodNamed Bd.named Bd.method).1
  have X0 : Stand p l e rm2_1_2_24 s m #[.ref sa, .int 0, .int 1] below meth c s₁ [] 0 0 := Stand.of_body Bd
  have e0 : s₁.heap = h0 := by rw [← hh, Bd.state]; rfl
  have N0 := Fr.nil n0
  have zO := O0.1
  have zO2 := O0.2.1
  have fl_A_sa : h0.size > sa := f0_A_sa.lt
  refine own_open (own_via (S' := s₁.setTop (mkF m 0 #[.val (.ref sa), .val (.int 0), .val (.int 1), .unset, .unset] [])) (fun t k => castTop (ef_own_tob1 m sa (0 : Int32) (1 : Int32)) k) ?_)
  have K0 : Keep h0 h0 [] := Keep.refl _ _
  let A_1 : Array Slot := #[.val (.ref sa), .val (.int 0), .val (.int 1), .unset, .unset]
  refine ov s₁ 1 A_1 [.int 1] (fun t k => XS.iloadN X0.here hx rfl (hb hby d24_0) rfl k) ?_
  obtain ⟨_, _, ⟨T1, Lp1, kp1, np1⟩, -, X1, ⟨Lc1, hQ1, l1, y1, z1⟩, st1⟩ := Jvm.LawKit.callS X0 hx (y := mt5) hown (mvT hZ (wd107 hw)) (mvT hZ (wd108 hw)) (mvT hZ (wd93 hw)) (mvT hZ (wd109 hw)) (by decide) (backOf (W := 0) (own_nbf1 l Z a0 hw []  h0 n0 O0) hZ (wd109 hw) (wd93 hw) (by decide) (by decide)) (g := (mkF m 1 A_1 [.int 1])) rfl (by rw [hml]; rfl) (argsL := [.int 1]) (rest := []) (lenOf pd__I__B_311 rfl) rfl (by show 2 * 0 + _ ≤ _; exact Nat.le_of_eq rfl) (hb hby d24_1) (fun _ _ => ⟨rfl, e0, (by decide : 0 + 1 ≤ _), (by decide : 0 + 2 ≤ _)⟩)
  dsimp only [Pt.U, Pt.locs, Pt.cells, Pt.slots] at X1 l1 y1 z1 st1 hQ1
  subst Lp1 kp1 np1
  obtain ⟨b1, kb1, rfl, N1q, K1q, f1_0, pp1_0⟩ := hQ1
  have N1 := Fr.app N0 N1q
  have sz2 : h0.size ≤ T1.heap.size := K1q.1
  have O3 : Old Z n0 T1.heap := O0.keep K1q all0
  have K4 : Keep h0 T1.heap [] := K0.trans K1q all0
  have lt5_b1 : T1.heap.size > b1 := f1_0.lt
  refine ov T1 4 A_1 [.ref b1] st1 ?_
  let A_2 : Array Slot := #[.val (.ref sa), .val (.int 0), .val (.int 1), .val (.ref b1), .unset]
  refine ov T1 5 A_2 [] (fun t k => XS.astoreN X1.here hx rfl (hb hby d24_4) rfl rfl (l' := A_2) rfl k) ?_
  refine ov T1 6 A_2 [.int 0] (fun t k => XS.iconst X1.here hx rfl (hb hby d24_5) k) ?_
  let A_3 : Array Slot := #[.val (.ref sa), .val (.int 0), .val (.int 1), .val (.ref b1), .val (.int 0)]
  refine ov T1 8 A_3 [] (fun t k => XS.istore X1.here hx rfl (hb hby d24_6) rfl (l' := A_3) rfl k) ?_
  refine ov T1 10 A_3 [.int 0] (fun t k => XS.iload X1.here hx rfl (hb hby d24_8) rfl k) ?_
  refine ov T1 11 A_3 [.int 1, .int 0] (fun t k => XS.iloadN X1.here hx rfl (hb hby d24_10) rfl k) ?_
  refine ov T1 14 A_3 [] (fun t k => XS.icmpNo X1.here hx rfl (hb hby d24_11) rfl (tlt (by decide : (0 : Int32) < (1 : Int32))).2.1 k) ?_
  refine ov T1 15 A_3 [.ref b1] (fun t k => XS.aloadN X1.here hx rfl (hb hby d24_14) rfl rfl k) ?_
  refine ov T1 17 A_3 [.int 0, .ref b1] (fun t k => XS.iload X1.here hx rfl (hb hby d24_15) rfl k) ?_
  refine ov T1 18 A_3 [.ref sa, .int 0, .ref b1] (fun t k => XS.aloadN X1.here hx rfl (hb hby d24_17) rfl rfl k) ?_
  refine ov T1 19 A_3 [.int 0, .ref sa, .int 0, .ref b1] (fun t k => XS.iloadN X1.here hx rfl (hb hby d24_18) rfl k) ?_
  have cx6 : Arv Z T1.heap sa ks .char (1 : Int32) [.int v0] (.int 0) := (f0_A_sa.keep K1q nin0)
  obtain ⟨cl7, Ar7, q7, S7, M7, H7, U7⟩ := id cx6
  have hin7 : ¬ ((0 : Int32) < 0 ∨ cl7.slots.size ≤ ((0 : Int32)).toNatClampNeg) := inb_of S7 ⟨by decide, by decide⟩
  refine ov T1 20 A_3 [.int v0, .int 0, .ref b1] (fun t k => X1.caload hx (j := (0 : Int32)) (v := (.int v0)) (by first | (rw [rfl]; exact Ar7.1) | exact Ar7.1) (State.isArrayOf_alike hZ.alike Ar7.2.1) Ar7.2.2 hin7 (Has.at H7 hin7 rfl) (g := (mkF m 19 A_3 [.int 0, .ref sa, .int 0, .ref b1])) rfl rfl (hb hby d24_19) _ k) ?_
  obtain ⟨_, _, ⟨T8, Lp8, kp8, np8⟩, -, X8, ⟨Lc8, hQ8, l8, y8, z8⟩, st8⟩ := Jvm.LawKit.callS X1 hx (y := mt2) hown (mvT hZ (wd114 hw)) (mvT hZ (wd115 hw)) (mvT hZ (wd93 hw)) (mvT hZ (wd116 hw)) (by decide) (backOf (W := 0) (own_put l Z a0 hw [] b1 kb1 (2 : Int32) (own_L1) (0 : Int32) v0 T1.heap n0 O3 zf_S_java_lang_StringUTF16__assertionsDisabled zf_S_java_lang_StringUTF16_HI_BYTE_SHIFT zf_S_java_lang_StringUTF16_LO_BYTE_SHIFT f1_0 (by decide) (by decide) (by decide) (by decide) (Nat.le_of_ble_eq_true rfl) (Nat.le_of_ble_eq_true rfl) (by omega)) hZ (wd116 hw) (wd93 hw) (by decide) (by decide)) (g := (mkF m 20 A_3 [.int v0, .int 0, .ref b1])) rfl (by rw [hml]; rfl) (argsL := [.ref b1, .int 0, .int v0]) (rest := []) (lenOf pd___BII_V_470 rfl) rfl (by show 2 * 0 + _ ≤ _; exact Nat.le_of_eq rfl) (hb hby d24_20) (fun _ _ => ⟨rfl, rfl, (by decide : 1 + 0 ≤ _), (by decide : 2 + 0 ≤ _)⟩)
  dsimp only [Pt.U, Pt.locs, Pt.cells, Pt.slots] at X8 l8 y8 z8 st8 hQ8
  subst Lp8 kp8 np8
  obtain ⟨rfl, N8q, K8q, f8_0⟩ := hQ8
  have N8 := Fr.app N1 N8q
  have sz9 : T1.heap.size ≤ T8.heap.size := K8q.1
  have O10 : Old Z n0 T8.heap := O3.keep K8q (allS (by omega : n0 ≤ b1) all0)
  have K11 : Keep h0 T8.heap [] := K4.trans K8q (allS (P := fun x => x ∈ [] ∨ h0.size ≤ x) (Or.inr (by omega)) all0)
  have f8_0c : Arv Z T8.heap b1 kb1 .byte (2 : Int32) (own_L0 v0) (.int 0) := f8_0
  refine ov T8 23 A_3 [] st8 ?_
  refine ov T8 26 #[.val (.ref sa), .val (.int 1), .val (.int 1), .val (.ref b1), .val (.int 0)] [] (fun t k => XS.iinc X8.here hx rfl (hb hby d24_23) rfl (l' := #[.val (.ref sa), .val (.int 1), .val (.int 1), .val (.ref b1), .val (.int 0)]) rfl k) ?_
  let A_4 : Array Slot := #[.val (.ref sa), .val (.int 1), .val (.int 1), .val (.ref b1), .val (.int 1)]
  refine ov T8 29 A_4 [] (fun t k => XS.iinc X8.here hx rfl (hb hby d24_26) rfl (l' := A_4) rfl k) ?_
  refine ov T8 8 A_4 [] (fun t k => XS.goto X8.here hx rfl (pc0 := 29) (pc' := 8) rfl (hb hby d24_29) (by decide) (by decide) k) ?_
  refine ov T8 10 A_4 [.int 1] (fun t k => XS.iload X8.here hx rfl (hb hby d24_8) rfl k) ?_
  refine ov T8 11 A_4 [.int 1, .int 1] (fun t k => XS.iloadN X8.here hx rfl (hb hby d24_10) rfl k) ?_
  refine ov T8 32 A_4 [] (fun t k => XS.icmpYes X8.here hx rfl (pc0 := 11) (pc' := 32) rfl (hb hby d24_11) rfl (flt (by decide : ¬ ((1 : Int32) < (1 : Int32)))).2.1 (by decide) (by decide) k) ?_
  refine ov T8 33 A_4 [.ref b1] (fun t k => XS.aloadN X8.here hx rfl (hb hby d24_32) rfl rfl k) ?_
  refine own_ret (Q := Q_own_tob1 Z sa ks v0 h0 n0) (C := rm2_1_2_24.cells) (N := rm2_1_2_24.slots) X8 (v := some (.ref b1)) (fun h => by rw [Bd.returns] at h; cases h) Bd.notSynchronized ?_ (by decide) (by decide) (fun fs hr => retOut X8 hx Bd.returns rfl (Or.inr (Or.inr (Or.inr (Or.inr ⟨rfl, rfl, rfl⟩)))) (hb hby d24_33) hr)
  show Q_own_tob1 Z sa ks v0 h0 n0 _ T8.heap _
  exact ⟨b1, kb1, rfl, N8, K11, f8_0c, (by omega)⟩
def Q_own_c3_1 (Z : State) (sa : Addr) (ks : ClassId) (v0 : Int32) (h0 : Heap) (n0 : Nat) (v : Option Value) (h : Heap) (L : List Loc) : Prop := ∃ b : Addr, ∃ kb : ClassId, v = some (.ref b) ∧ Fr n0 L ∧ Keep h0 h [] ∧ Arv Z h b kb .byte (2 : Int32) (own_L0 v0) (.int 0) ∧ (h0.size ≤ b)
set_option maxRecDepth 65536 in
set_option maxHeartbeats 40000000 in
theorem own_c3_1 (l : Launch) (Z : State) (a0 : Array Value) (hw : ∀ d ∈ tables_1, d.before a0 Z = true) (ws : List Jvm.Cond) (sa : Addr) (ks : ClassId) (v0 : Int32) (h0 : Heap) (n0 : Nat) (O0 : Old Z n0 h0) (zf_S_java_lang_StringUTF16__assertionsDisabled : Sta Z Z.heap "java/lang/StringUTF16" "$assertionsDisabled" "Z" (.int 1)) (zf_S_java_lang_StringUTF16_HI_BYTE_SHIFT : Sta Z Z.heap "java/lang/StringUTF16" "HI_BYTE_SHIFT" "I" (.int 0)) (zf_S_java_lang_StringUTF16_LO_BYTE_SHIFT : Sta Z Z.heap "java/lang/StringUTF16" "LO_BYTE_SHIFT" "I" (.int 8)) (f0_A_sa : Arv Z h0 sa ks .char (1 : Int32) [.int v0] (.int 0)) (qv0 : ¬ v0 < (1 : Int32) ∧ ¬ (65535 : Int32) < v0) (hU : (255 : Int32) < v0) :
    MetFree l mt8 (head1 (Jvm.Cond.code mt8 jdk_52_method_16_code 6 (some (.array .byte)) :: ws) rm3_2_3_40) (fun aq U => aq = #[.ref sa, .int 0, .int 1] ∧ Z.Warmed39 U.vm ∧ U.heap = h0) (fun _ _ _ _ _ => True) (fun _ U o U' => ∃ v L, o = .returned v ∧ Q_own_c3_1 Z sa ks v0 h0 n0 v U'.heap L ∧ FrameEnd U o U' L rm3_2_3_40.cells rm3_2_3_40.slots) := by
  refine MetFree.of_bodySF (plainFor_of_name pn_java_lang_StringUTF16) hisR ?_
  intro p e s m args below meth c s₁ Bd hml0 hP hK
  obtain ⟨rfl, hZ, hh⟩ := hP
  have hx := Bd.exec
  have hby := Bd.bytes
  have hml : c.maxLocals = 6 := hml0
  have hown : s.vm.findClass "java/lang/StringUTF16" = some m.cls := findClass_of_methodNamed Bd.named
  have hnm := (name_of_methodNamed Bd.named Bd.method).1
  have X0 : Stand p l e rm3_2_3_40 s m #[.ref sa, .int 0, .int 1] below meth c s₁ [] 0 0 := Stand.of_body Bd
  have e0 : s₁.heap = h0 := by rw [← hh, Bd.state]; rfl
  have N0 := Fr.nil n0
  have zO := O0.1
  have zO2 := O0.2.1
  have fl_A_sa : h0.size > sa := f0_A_sa.lt
  refine own_open (own_via (S' := s₁.setTop (mkF m 0 #[.val (.ref sa), .val (.int 0), .val (.int 1), .unset, .unset, .unset] [])) (fun t k => castTop (ef_own_c3_1 m sa (0 : Int32) (1 : Int32)) k) ?_)
  have K0 : Keep h0 h0 [] := Keep.refl _ _
  let A_1 : Array Slot := #[.val (.ref sa), .val (.int 0), .val (.int 1), .unset, .unset, .unset]
  refine ov s₁ 1 A_1 [.int 1] (fun t k => XS.iloadN X0.here hx rfl (hb hby d20_0) rfl k) ?_
  obtain ⟨T1, h1, k1, X1, e1, E1, A1, st1⟩ := newP (aty := .byte) X0 hx hZ (wd21 hw) e0 (g := (mkF m 1 A_1 [.int 1])) rfl (hb hby d20_1) rfl (by decide : ¬ ((1 : Int32) < (0 : Int32))) (cap := 1) (by decide) (by decide) (by decide) (by decide)
  obtain ⟨b1, g1⟩ : ∃ z, z = h0.size := ⟨_, rfl⟩
  rw [← g1] at A1 st1
  have lt_b1 : h1.size > b1 := A1.lt
  have sz2 : h0.size ≤ h1.size := E1.1
  have O3 : Old Z n0 h1 := O0.ext E1
  have K4 : Keep h0 h1 [] := K0.ext E1
  have V1 : Arv Z h1 b1 k1 .byte (1 : Int32) [.int 0] (.int 0) := (Arv.new A1 (by decide)).pad (pad_rep [] (.int 0) 1)
  refine ov T1 3 A_1 [.ref b1] st1 ?_
  let A_2 : Array Slot := #[.val (.ref sa), .val (.int 0), .val (.int 1), .val (.ref b1), .unset, .unset]
  refine ov T1 4 A_2 [] (fun t k => XS.astoreN X1.here hx rfl (hb hby d20_3) rfl rfl (l' := A_2) rfl k) ?_
  refine ov T1 5 A_2 [.ref sa] (fun t k => XS.aloadN X1.here hx rfl (hb hby d20_4) rfl rfl k) ?_
  refine ov T1 6 A_2 [.int 0, .ref sa] (fun t k => XS.iloadN X1.here hx rfl (hb hby d20_5) rfl k) ?_
  refine ov T1 7 A_2 [.ref b1, .int 0, .ref sa] (fun t k => XS.aloadN X1.here hx rfl (hb hby d20_6) rfl rfl k) ?_
  refine ov T1 8 A_2 [.int 0, .ref b1, .int 0, .ref sa] (fun t k => XS.iconst X1.here hx rfl (hb hby d20_7) k) ?_
  refine ov T1 9 A_2 [.int 1, .int 0, .ref b1, .int 0, .ref sa] (fun t k => XS.iloadN X1.here hx rfl (hb hby d20_8) rfl k) ?_
  have cx6 : Arv Z h1 sa ks .char (1 : Int32) [.int v0] (.int 0) := (f0_A_sa.ext E1)
  obtain ⟨_, _, ⟨T5, Lp5, kp5, np5⟩, -, X5, ⟨Lc5, hQ5, l5, y5, z5⟩, st5⟩ := Jvm.LawKit.callS X1 hx (y := mt6) hown (mvT hZ (wd95 hw)) (mvT hZ (wd96 hw)) (mvT hZ (wd93 hw)) (mvT hZ (wd97 hw)) (by decide) (backOf (W := 0) (own_cx1 l Z a0 hw [] sa ks b1 k1 v0 h1 n0 O3 cx6 V1 hU (by omega) (by first | assumption | exact Ne.symm (by assumption) | omega | exact Nat.ne_of_lt (by omega) | exact Nat.ne_of_gt (by omega) | decide | exact Nat.le_of_ble_eq_true rfl)) hZ (wd97 hw) (wd93 hw) (by decide) (by decide)) (g := (mkF m 9 A_2 [.int 1, .int 0, .ref b1, .int 0, .ref sa])) rfl (by rw [hml]; rfl) (argsL := [.ref sa, .int 0, .ref b1, .int 0, .int 1]) (rest := []) (lenOf pd___CI_BII_I_688 rfl) rfl (by show 2 * 0 + _ ≤ _; exact Nat.le_of_eq rfl) (hb hby d20_9) (fun _ _ => ⟨rfl, e1, (by decide : 1 + 0 ≤ _), (by decide : 1 + 0 ≤ _)⟩)
  dsimp only [Pt.U, Pt.locs, Pt.cells, Pt.slots] at X5 l5 y5 z5 st5 hQ5
  subst Lp5 kp5 np5
  obtain ⟨z5, rfl, N5q, K5q, pp5_0⟩ := hQ5
  have N5 := Fr.app N0 N5q
  have sz7 : h1.size ≤ T5.heap.size := K5q.1
  have O8 : Old Z n0 T5.heap := O3.keep K5q (allS (by omega : n0 ≤ b1) all0)
  have K9 : Keep h0 T5.heap [] := K4.trans K5q (allS (P := fun x => x ∈ [] ∨ h0.size ≤ x) (Or.inr (by omega)) all0)
  refine ov T5 12 A_2 [.int z5] st5 ?_
  obtain ⟨hz, hv⟩ := pp5_0
  · -- 0
    rw [hz]
    let A_3 : Array Slot := #[.val (.ref sa), .val (.int 0), .val (.int 1), .val (.ref b1), .val (.int 0), .unset]
    refine ov T5 14 A_3 [] (fun t k => XS.istore X5.here hx rfl (hb hby d20_12) rfl (l' := A_3) rfl k) ?_
    refine ov T5 16 A_3 [.int 0] (fun t k => XS.iload X5.here hx rfl (hb hby d20_14) rfl k) ?_
    refine ov T5 17 A_3 [.int 1, .int 0] (fun t k => XS.iloadN X5.here hx rfl (hb hby d20_16) rfl k) ?_
    refine ov T5 20 A_3 [] (fun t k => XS.icmpNo X5.here hx rfl (hb hby d20_17) rfl (feq (by decide : ¬ ((0 : Int32) = (1 : Int32)))).1 k) ?_
    refine ov T5 21 A_3 [.ref sa] (fun t k => XS.aloadN X5.here hx rfl (hb hby d20_20) rfl rfl k) ?_
    refine ov T5 22 A_3 [.int 0, .ref sa] (fun t k => XS.iloadN X5.here hx rfl (hb hby d20_21) rfl k) ?_
    refine ov T5 23 A_3 [.int 1, .int 0, .ref sa] (fun t k => XS.iloadN X5.here hx rfl (hb hby d20_22) rfl k) ?_
    have ne_sa_b1 : sa ≠ b1 := by first | exact Nat.ne_of_lt (by omega) | exact Nat.ne_of_gt (by omega)
    have cx11 : Arv Z T5.heap sa ks .char (1 : Int32) [.int v0] (.int 0) := (cx6.keep K5q (ninS ne_sa_b1 nin0))
    obtain ⟨_, _, ⟨T10, Lp10, kp10, np10⟩, -, X10, ⟨Lc10, hQ10, l10, y10, z10⟩, st10⟩ := Jvm.LawKit.callS X5 hx (y := mt7) hown (mvT hZ (wd104 hw)) (mvT hZ (wd105 hw)) (mvT hZ (wd93 hw)) (mvT hZ (wd106 hw)) (by decide) (backOf (W := 0) (own_tob1 l Z a0 hw [] sa ks v0 T5.heap n0 O8 zf_S_java_lang_StringUTF16__assertionsDisabled zf_S_java_lang_StringUTF16_HI_BYTE_SHIFT zf_S_java_lang_StringUTF16_LO_BYTE_SHIFT cx11) hZ (wd106 hw) (wd93 hw) (by decide) (by decide)) (g := (mkF m 23 A_3 [.int 1, .int 0, .ref sa])) rfl (by rw [hml]; rfl) (argsL := [.ref sa, .int 0, .int 1]) (rest := []) (lenOf pd___CII__B_542 rfl) rfl (by show 2 * 0 + _ ≤ _; exact Nat.le_of_eq rfl) (hb hby d20_23) (fun _ _ => ⟨rfl, rfl, (by decide : 1 + 1 ≤ _), (by decide : 1 + 2 ≤ _)⟩)
    dsimp only [Pt.U, Pt.locs, Pt.cells, Pt.slots] at X10 l10 y10 z10 st10 hQ10
    subst Lp10 kp10 np10
    obtain ⟨b10, kb10, rfl, N10q, K10q, f10_0, pp10_0⟩ := hQ10
    have N10 := Fr.app N5 N10q
    have sz12 : T5.heap.size ≤ T10.heap.size := K10q.1
    have O13 : Old Z n0 T10.heap := O8.keep K10q all0
    have K14 : Keep h0 T10.heap [] := K9.trans K10q all0
    have lt15_b10 : T10.heap.size > b10 := f10_0.lt
    refine ov T10 26 A_3 [.ref b10] st10 ?_
    let A_4 : Array Slot := #[.val (.ref sa), .val (.int 0), .val (.int 1), .val (.ref b1), .val (.int 0), .val (.ref b10)]
    refine ov T10 28 A_4 [] (fun t k => XS.astore X10.here hx rfl (hb hby d20_26) rfl rfl (l' := A_4) rfl k) ?_
    refine ov T10 30 A_4 [.ref b10] (fun t k => XS.aload X10.here hx rfl (hb hby d20_28) rfl rfl k) ?_
    refine ov T10 32 A_4 [.int 0, .ref b10] (fun t k => XS.iload X10.here hx rfl (hb hby d20_30) rfl k) ?_
    obtain ⟨_, _, ⟨T16, Lp16, kp16, np16⟩, -, X16, ⟨Lc16, hQ16, l16, y16, z16⟩, st16⟩ := Jvm.LawKit.callS X10 hx (y := mt3) hown (mvT hZ (wd120 hw)) (mvT hZ (wd121 hw)) (mvT hZ (wd93 hw)) (mvT hZ (wd122 hw)) (by decide) (backOf (W := 0) (own_gc l Z a0 hw [] b10 kb10 (2 : Int32) (own_L0 v0) (0 : Int32) v0 T10.heap n0 O13 zf_S_java_lang_StringUTF16__assertionsDisabled zf_S_java_lang_StringUTF16_HI_BYTE_SHIFT zf_S_java_lang_StringUTF16_LO_BYTE_SHIFT f10_0 (by decide) (by decide) (by decide) (by decide) rfl rfl qv0) hZ (wd122 hw) (wd93 hw) (by decide) (by decide)) (g := (mkF m 32 A_4 [.int 0, .ref b10])) rfl (by rw [hml]; rfl) (argsL := [.ref b10, .int 0]) (rest := []) (lenOf pd___BI_C_378 rfl) rfl (by show 2 * 0 + _ ≤ _; exact Nat.le_of_eq rfl) (hb hby d20_32) (fun _ _ => ⟨rfl, rfl, (by decide : 2 + 0 ≤ _), (by decide : 3 + 0 ≤ _)⟩)
    dsimp only [Pt.U, Pt.locs, Pt.cells, Pt.slots] at X16 l16 y16 z16 st16 hQ16
    subst Lp16 kp16 np16
    obtain ⟨rfl, rfl, e16⟩ := hQ16
    try rw [List.append_nil] at X16
    refine ov T16 35 A_4 [.int v0] st16 ?_
    refine ov T16 38 A_4 [.int 255, .int v0] (fun t k => XS.sipush X16.here hx rfl (hb hby d20_35) k) ?_
    refine ov T16 54 A_4 [] (fun t k => XS.icmpYes X16.here hx rfl (pc0 := 38) (pc' := 54) rfl (hb hby d20_38) rfl (tlt hv).2.2.1 (by decide) (by decide) k) ?_
    refine ov T16 56 A_4 [.ref b10] (fun t k => XS.aload X16.here hx rfl (hb hby d20_54) rfl rfl k) ?_
    refine own_ret (Q := Q_own_c3_1 Z sa ks v0 h0 n0) (C := rm3_2_3_40.cells) (N := rm3_2_3_40.slots) X16 (v := some (.ref b10)) (fun h => by rw [Bd.returns] at h; cases h) Bd.notSynchronized ?_ (by decide) (by decide) (fun fs hr => retOut X16 hx Bd.returns rfl (Or.inr (Or.inr (Or.inr (Or.inr ⟨rfl, rfl, rfl⟩)))) (hb hby d20_56) hr)
    show Q_own_c3_1 Z sa ks v0 h0 n0 _ T16.heap _
    rw [e16]
    exact ⟨b10, kb10, rfl, N10, K14, f10_0, (by omega)⟩
def Q_own_cfa1 (Z : State) (b : Addr) (kb : ClassId) (ys : List Value) (h0 : Heap) (n0 : Nat) (v : Option Value) (h : Heap) (L : List Loc) : Prop := v = some (.int 1) ∧ L = [] ∧ h = h0
set_option maxRecDepth 65536 in
set_option maxHeartbeats 40000000 in
theorem own_cfa1 (l : Launch) (Z : State) (a0 : Array Value) (hw : ∀ d ∈ tables_1, d.before a0 Z = true) (ws : List Jvm.Cond) (b : Addr) (kb : ClassId) (ys : List Value) (h0 : Heap) (n0 : Nat) (O0 : Old Z n0 h0) (f0_A_b : Arv Z h0 b kb .byte (2 : Int32) ys (.int 0)) :
    MetFree l mt9 (head1 (Jvm.Cond.code mt9 jdk_52_method_15_code 2 (some .byte) :: ws) rm0_0_0_0) (fun aq U => aq = #[.ref b, .int 1] ∧ Z.Warmed39 U.vm ∧ U.heap = h0) (fun _ _ _ _ _ => True) (fun _ U o U' => ∃ v L, o = .returned v ∧ Q_own_cfa1 Z b kb ys h0 n0 v U'.heap L ∧ FrameEnd U o U' L rm0_0_0_0.cells rm0_0_0_0.slots) := by
  refine MetFree.of_bodySF (plainFor_of_name pn_java_lang_StringUTF16) hisR ?_
  intro p e s m args below meth c s₁ Bd hml0 hP hK
  obtain ⟨rfl, hZ, hh⟩ := hP
  have hx := Bd.exec
  have hby := Bd.bytes
  have hml : c.maxLocals = 2 := hml0
  have hown : s.vm.findClass "java/lang/StringUTF16" = some m.cls := findClass_of_methodNamed Bd.named
  have hnm := (name_of_methodNamed Bd.named Bd.method).1
  have X0 : Stand p l e rm0_0_0_0 s m #[.ref b, .int 1] below meth c s₁ [] 0 0 := Stand.of_body Bd
  have e0 : s₁.heap = h0 := by rw [← hh, Bd.state]; rfl
  have N0 := Fr.nil n0
  have zO := O0.1
  have zO2 := O0.2.1
  have fl_A_b : h0.size > b := f0_A_b.lt
  refine own_open (own_via (S' := s₁.setTop (mkF m 0 #[.val (.ref b), .val (.int 1)] [])) (fun t k => castTop (ef_own_cfa1 m b (1 : Int32)) k) ?_)
  refine ov s₁ 1 #[.val (.ref b), .val (.int 1)] [.int 1] (fun t k => XS.iloadN X0.here hx rfl (hb hby d22_0) rfl k) ?_
  refine ov s₁ 2 #[.val (.ref b), .val (.int 1)] [.ref b, .int 1] (fun t k => XS.aloadN X0.here hx rfl (hb hby d22_1) rfl rfl k) ?_
  obtain ⟨cl1, Ar1, -, S1, N1, -, -⟩ := id f0_A_b
  refine ov s₁ 3 #[.val (.ref b), .val (.int 1)] [.int 2, .int 1] (fun t k => X0.arraylength hx (by first | (rw [e0]; exact Ar1.1) | exact Ar1.1) (State.isArrayOf_alike hZ.alike Ar1.2.1) (g := (mkF m 2 #[.val (.ref b), .val (.int 1)] [.ref b, .int 1])) rfl rfl (hb hby d22_2) _ (by rw [len_of S1 N1]; exact k)) ?_
  refine ov s₁ 4 #[.val (.ref b), .val (.int 1)] [(.int (-1))] (fun t k => XS.isub X0.here hx rfl (hb hby d22_3) rfl k) ?_
  refine ov s₁ 6 #[.val (.ref b), .val (.int 1)] [.int 31, (.int (-1))] (fun t k => XS.bipush X0.here hx rfl (hb hby d22_4) k) ?_
  refine ov s₁ 7 #[.val (.ref b), .val (.int 1)] [.int 1] (fun t k => XS.iushr X0.here hx rfl (hb hby d22_6) rfl k) ?_
  refine ov s₁ 8 #[.val (.ref b), .val (.int 1)] [.int 1] (fun t k => XS.i2b X0.here hx rfl (hb hby d22_7) rfl k) ?_
  refine own_ret (Q := Q_own_cfa1 Z b kb ys h0 n0) (C := rm0_0_0_0.cells) (N := rm0_0_0_0.slots) X0 (v := some (.int 1)) (fun h => by rw [Bd.returns] at h; cases h) Bd.notSynchronized ?_ (by decide) (by decide) (fun fs hr => retN X0 hx (t := .byte) Bd.returns (by simp) (hb hby d22_8) hr)
  show Q_own_cfa1 Z b kb ys h0 n0 _ s₁.heap _
  rw [e0]
  exact ⟨rfl, rfl, rfl⟩
def Q_own_n4_1 (Z : State) (a : Addr) (bc : Addr) (kc : ClassId) (zc : Int32) (v0 : Int32) (h0 : Heap) (n0 : Nat) (v : Option Value) (h : Heap) (L : List Loc) : Prop := ∃ tb : Addr, ∃ kb : ClassId, v = none ∧ Fr n0 L ∧ Keep h0 h [a] ∧ Fld Z h a "java/lang/String" "value" "[B" (.ref tb) ∧ Fld Z h a "java/lang/String" "coder" "B" (.int 1) ∧ Arv Z h tb kb .byte (2 : Int32) (own_L0 v0) (.int 0)
set_option maxRecDepth 65536 in
set_option maxHeartbeats 40000000 in
theorem own_n4_1 (l : Launch) (Z : State) (a0 : Array Value) (hw : ∀ d ∈ tables_1, d.before a0 Z = true) (ws : List Jvm.Cond) (a : Addr) (bc : Addr) (kc : ClassId) (zc : Int32) (v0 : Int32) (h0 : Heap) (n0 : Nat) (O0 : Old Z n0 h0) (zfC : Sta Z Z.heap "java/lang/String" "COMPACT_STRINGS" "Z" (.int zc)) (zf_S_java_lang_StringUTF16__assertionsDisabled : Sta Z Z.heap "java/lang/StringUTF16" "$assertionsDisabled" "Z" (.int 1)) (zf_S_java_lang_StringUTF16_HI_BYTE_SHIFT : Sta Z Z.heap "java/lang/StringUTF16" "HI_BYTE_SHIFT" "I" (.int 0)) (zf_S_java_lang_StringUTF16_LO_BYTE_SHIFT : Sta Z Z.heap "java/lang/StringUTF16" "LO_BYTE_SHIFT" "I" (.int 8)) (f0_E_a : Exa Z h0 a "java/lang/String") (f0_F_a_value : Fld Z h0 a "java/lang/String" "value" "[B" .null) (f0_F_a_coder : Fld Z h0 a "java/lang/String" "coder" "B" (.int 0)) (f0_A_bc : Arv Z h0 bc kc .char (1 : Int32) [.int v0] (.int 0)) (hzc : ¬ (zc = (0 : Int32))) (qv0 : ¬ v0 < (1 : Int32) ∧ ¬ (65535 : Int32) < v0) (hU : (255 : Int32) < v0) (g_a : n0 ≤ a) :
    MetFree l mt0 (head1 (Jvm.Cond.code mt0 jdk_42_method_149_code 6 none :: ws) rm4_2_3_57) (fun aq U => aq = #[.ref a, .ref bc, .int 0, .int 1, .null] ∧ Z.Warmed39 U.vm ∧ U.heap = h0) (fun _ _ _ _ _ => True) (fun _ U o U' => ∃ v L, o = .returned v ∧ Q_own_n4_1 Z a bc kc zc v0 h0 n0 v U'.heap L ∧ FrameEnd U o U' L rm4_2_3_57.cells rm4_2_3_57.slots) := by
  refine MetFree.of_bodySF (plainFor_of_name pn_java_lang_String) hisR ?_
  intro p e s m args below meth c s₁ Bd hml0 hP hK
  obtain ⟨rfl, hZ, hh⟩ := hP
  have hx := Bd.exec
  have hby := Bd.bytes
  have hml : c.maxLocals = 6 := hml0
  have hown : s.vm.findClass "java/lang/String" = some m.cls := findClass_of_methodNamed Bd.named
  have hnm := (name_of_methodNamed Bd.named Bd.method).1
  have X0 : Stand p l e rm4_2_3_57 s m #[.ref a, .ref bc, .int 0, .int 1, .null] below meth c s₁ [] 0 0 := Stand.of_body Bd
  have e0 : s₁.heap = h0 := by rw [← hh, Bd.state]; rfl
  have N0 := Fr.nil n0
  have zO := O0.1
  have zO2 := O0.2.1
  have fl_E_a : h0.size > a := f0_E_a.lt
  have fl_F_a_value : h0.size > a := f0_F_a_value.lt
  have fl_F_a_coder : h0.size > a := f0_F_a_coder.lt
  have fl_A_bc : h0.size > bc := f0_A_bc.lt
  refine own_open (own_via (S' := s₁.setTop (mkF m 0 #[.val (.ref a), .val (.ref bc), .val (.int 0), .val (.int 1), .val .null, .unset] [])) (fun t k => castTop (ef_own_n4_1 m a bc (0 : Int32) (1 : Int32)) k) ?_)
  have K0 : Keep h0 h0 [a] := Keep.refl _ _
  have ne_a_bc : a ≠ bc := Exa.neArv f0_E_a f0_A_bc (wd8 hw)
  let A_1 : Array Slot := #[.val (.ref a), .val (.ref bc), .val (.int 0), .val (.int 1), .val .null, .unset]
  refine ov s₁ 1 A_1 [.ref a] (fun t k => XS.aloadN X0.here hx rfl (hb hby d3_0) rfl rfl k) ?_
  obtain ⟨T1, X1, e1, st1⟩ := initO X0 hx hZ hown (wd17 hw) (wd18 hw) (wd19 hw) e0 (g := (mkF m 1 A_1 [.ref a])) rfl (by rw [hml]; rfl) rfl (hb hby d3_1) (by decide) (W := 0) (by show 2 * 0 + _ ≤ _; exact Nat.le_of_eq rfl) (by decide)
  refine ov T1 4 A_1 [] st1 ?_
  refine ov T1 5 A_1 [.int 1] (fun t k => XS.iloadN X1.here hx rfl (hb hby d3_4) rfl k) ?_
  refine ov T1 27 A_1 [] (fun t k => XS.ifYes X1.here hx rfl (pc0 := 5) (pc' := 27) rfl (hb hby d3_5) rfl ((if0 _ _).trans (feq (by decide : ¬ ((1 : Int32) = (0 : Int32)))).2) (by decide) (by decide) k) ?_
  have cx2 : Sta Z h0 "java/lang/String" "COMPACT_STRINGS" "Z" (.int zc) := zfC.ext O0.2
  obtain ⟨T3, X3, e3, st3⟩ := getS2 X1 hx hZ hown (host := "") (Or.inl (wd31 hw)) Via.refl e1 cx2 (g := (mkF m 27 A_1 [])) rfl (hb hby d3_27)
  refine ov T3 30 A_1 [.int zc] st3 ?_
  refine ov T3 33 A_1 [] (fun t k => XS.ifNo X3.here hx rfl (hb hby d3_30) rfl ((if0 _ _).trans (feq hzc).1) k) ?_
  refine ov T3 34 A_1 [.ref bc] (fun t k => XS.aloadN X3.here hx rfl (hb hby d3_33) rfl rfl k) ?_
  refine ov T3 35 A_1 [.int 0, .ref bc] (fun t k => XS.iloadN X3.here hx rfl (hb hby d3_34) rfl k) ?_
  refine ov T3 36 A_1 [.int 1, .int 0, .ref bc] (fun t k => XS.iloadN X3.here hx rfl (hb hby d3_35) rfl k) ?_
  obtain ⟨_, _, ⟨T4, Lp4, kp4, np4⟩, -, X4, ⟨Lc4, hQ4, l4, y4, z4⟩, st4⟩ := Jvm.LawKit.callS X3 hx (y := mt8) hown (mvT hZ (wd91 hw)) (mvT hZ (wd92 hw)) (mvT hZ (wd93 hw)) (mvT hZ (wd94 hw)) (by decide) (backOf (W := 0) (own_c3_1 l Z a0 hw [] bc kc v0 h0 n0 O0 zf_S_java_lang_StringUTF16__assertionsDisabled zf_S_java_lang_StringUTF16_HI_BYTE_SHIFT zf_S_java_lang_StringUTF16_LO_BYTE_SHIFT f0_A_bc qv0 hU) hZ (wd94 hw) (wd93 hw) (by decide) (by decide)) (g := (mkF m 36 A_1 [.int 1, .int 0, .ref bc])) rfl (by rw [hml]; rfl) (argsL := [.ref bc, .int 0, .int 1]) (rest := []) (lenOf pd___CII__B_542 rfl) rfl (by show 2 * 0 + _ ≤ _; exact Nat.le_of_eq rfl) (hb hby d3_36) (fun _ _ => ⟨rfl, e3, (by decide : 0 + 2 ≤ _), (by decide : 0 + 3 ≤ _)⟩)
  dsimp only [Pt.U, Pt.locs, Pt.cells, Pt.slots] at X4 l4 y4 z4 st4 hQ4
  subst Lp4 kp4 np4
  obtain ⟨b4, kb4, rfl, N4q, K4q, f4_0, pp4_0⟩ := hQ4
  have N4 := Fr.app N0 N4q
  have sz5 : h0.size ≤ T4.heap.size := K4q.1
  have O6 : Old Z n0 T4.heap := O0.keep K4q all0
  have K7 : Keep h0 T4.heap [a] := K0.trans K4q all0
  have lt8_b4 : T4.heap.size > b4 := f4_0.lt
  refine ov T4 39 A_1 [.ref b4] st4 ?_
  let A_2 : Array Slot := #[.val (.ref a), .val (.ref bc), .val (.int 0), .val (.int 1), .val .null, .val (.ref b4)]
  refine ov T4 41 A_2 [] (fun t k => XS.astore X4.here hx rfl (hb hby d3_39) rfl rfl (l' := A_2) rfl k) ?_
  refine ov T4 42 A_2 [.ref a] (fun t k => XS.aloadN X4.here hx rfl (hb hby d3_41) rfl rfl k) ?_
  refine ov T4 44 A_2 [.ref b4, .ref a] (fun t k => XS.aload X4.here hx rfl (hb hby d3_42) rfl rfl k) ?_
  refine ov T4 45 A_2 [.int 1, .ref b4, .ref a] (fun t k => XS.iloadN X4.here hx rfl (hb hby d3_44) rfl k) ?_
  obtain ⟨_, _, ⟨T9, Lp9, kp9, np9⟩, -, X9, ⟨Lc9, hQ9, l9, y9, z9⟩, st9⟩ := Jvm.LawKit.callS X4 hx (y := mt9) hown (mvT hZ (wd98 hw)) (mvT hZ (wd99 hw)) (mvT hZ (wd93 hw)) (mvT hZ (wd100 hw)) (by decide) (backOf (W := 1) (own_cfa1 l Z a0 hw [] b4 kb4 (own_L0 v0) T4.heap n0 O6 f4_0) hZ (wd100 hw) (wd93 hw) (by decide) (by decide)) (g := (mkF m 45 A_2 [.int 1, .ref b4, .ref a])) rfl (by rw [hml]; rfl) (argsL := [.ref b4, .int 1]) (rest := [.ref a]) (lenOf pd___BI_B_377 rfl) rfl (by show 2 * 0 + _ ≤ _; exact Nat.le_of_eq rfl) (hb hby d3_45) (fun _ _ => ⟨rfl, rfl, (by decide : 2 + 0 ≤ _), (by decide : 3 + 0 ≤ _)⟩)
  dsimp only [Pt.U, Pt.locs, Pt.cells, Pt.slots] at X9 l9 y9 z9 st9 hQ9
  subst Lp9 kp9 np9
  obtain ⟨rfl, rfl, e9⟩ := hQ9
  try rw [List.append_nil] at X9
  refine ov T9 48 A_2 [.int 1, .ref a] st9 ?_
  have cx10 : Exa Z T4.heap a "java/lang/String" := (f0_E_a.keep K4q)
  have cx11 : Fld Z T4.heap a "java/lang/String" "coder" "B" (.int 0) := (f0_F_a_coder.keep K4q nin0)
  obtain ⟨T12, h12, X12, e12, W12, st12⟩ := putFN X9 hx hZ hown (wd27 hw) Via.refl e9 cx11 cx10 (Or.inr ⟨(wd23 hw), rfl, hnm⟩) (wd8 hw) (ty := .byte) (v' := (.int 1)) (by decide) rfl rfl (g := (mkF m 48 A_2 [.int 1, .ref a])) rfl rfl (hb hby d3_48)
  have sz13 : T4.heap.size ≤ h12.size := Nat.le_of_eq W12.size.symm
  have O14 : Old Z n0 h12 := O6.wr W12 (by omega : n0 ≤ a)
  have N12 := Fr.snoc X12 N4 (by omega : n0 ≤ a)
  have K15 : Keep h0 h12 [a] := K7.wr W12 (Or.inl (List.mem_of_getElem? (i := 0) rfl))
  have Fw12 : Fld Z h12 a "java/lang/String" "coder" "B" (.int 1) := Fld.same W12 cx11
  refine ov T12 51 A_2 [] st12 ?_
  refine ov T12 52 A_2 [.ref a] (fun t k => XS.aloadN X12.here hx rfl (hb hby d3_51) rfl rfl k) ?_
  refine ov T12 54 A_2 [.ref b4, .ref a] (fun t k => XS.aload X12.here hx rfl (hb hby d3_52) rfl rfl k) ?_
  have cx16 : Exa Z h12 a "java/lang/String" := (Exa.wr W12 cx10)
  have cx17 : Fld Z h12 a "java/lang/String" "value" "[B" .null := (Fld.other W12 (f0_F_a_value.keep K4q nin0) (Or.inr (slot_ne (Or.inr (wd22 hw)) (Or.inr (wd23 hw)) (by decide) (t := (.array .byte)) (t' := .byte) (by decide) (by decide))))
  obtain ⟨T18, h18, X18, e18, W18, st18⟩ := putF X12 hx hZ hown (host := "") (Or.inl (wd26 hw)) Via.refl e12 cx17 cx16 (Or.inr ⟨(wd22 hw), rfl, hnm⟩) (wd8 hw) (ty := (.array .byte)) (by decide) rfl rfl (g := (mkF m 54 A_2 [.ref b4, .ref a])) rfl rfl (hb hby d3_54)
  have sz19 : h12.size ≤ h18.size := Nat.le_of_eq W18.size.symm
  have O20 : Old Z n0 h18 := O14.wr W18 (by omega : n0 ≤ a)
  have N18 := Fr.snoc X18 N12 (by omega : n0 ≤ a)
  have K21 : Keep h0 h18 [a] := K15.wr W18 (Or.inl (List.mem_of_getElem? (i := 0) rfl))
  have Fw18 : Fld Z h18 a "java/lang/String" "value" "[B" (.ref b4) := Fld.same W18 cx17
  refine ov T18 57 A_2 [] st18 ?_
  have cx22 : Fld Z h18 a "java/lang/String" "coder" "B" (.int 1) := (Fld.other W18 Fw12 (Or.inr (slot_ne (Or.inr (wd23 hw)) (Or.inr (wd22 hw)) (by decide) (t := .byte) (t' := (.array .byte)) (by decide) (by decide))))
  have ne_b4_a : b4 ≠ a := by first | exact (Exa.neArv cx10 f4_0 (wd8 hw)).symm | exact Nat.ne_of_lt (by omega) | exact Nat.ne_of_gt (by omega)
  have cx23 : Arv Z h18 b4 kb4 .byte (2 : Int32) (own_L0 v0) (.int 0) := ((f4_0.other W12 ne_b4_a).other W18 ne_b4_a)
  refine own_ret (Q := Q_own_n4_1 Z a bc kc zc v0 h0 n0) (C := rm4_2_3_57.cells) (N := rm4_2_3_57.slots) X18 (v := none) (fun _ => rfl) Bd.notSynchronized ?_ (by decide) (by decide) (fun fs hr => X18.returnOut hx Bd.returns (hb hby d3_57) hr)
  show Q_own_n4_1 Z a bc kc zc v0 h0 n0 _ T18.heap _
  rw [e18]
  exact ⟨b4, kb4, rfl, N18, K21, Fw18, cx22, cx23⟩
def Q_own_n1_1 (Z : State) (a : Addr) (bc : Addr) (kc : ClassId) (zc : Int32) (v0 : Int32) (h0 : Heap) (n0 : Nat) (v : Option Value) (h : Heap) (L : List Loc) : Prop := ∃ tb : Addr, ∃ kb : ClassId, v = none ∧ Fr n0 L ∧ Keep h0 h [a] ∧ Fld Z h a "java/lang/String" "value" "[B" (.ref tb) ∧ Fld Z h a "java/lang/String" "coder" "B" (.int 1) ∧ Arv Z h tb kb .byte (2 : Int32) (own_L0 v0) (.int 0)
set_option maxRecDepth 65536 in
set_option maxHeartbeats 40000000 in
theorem own_n1_1 (l : Launch) (Z : State) (a0 : Array Value) (hw : ∀ d ∈ tables_1, d.before a0 Z = true) (ws : List Jvm.Cond) (a : Addr) (bc : Addr) (kc : ClassId) (zc : Int32) (v0 : Int32) (h0 : Heap) (n0 : Nat) (O0 : Old Z n0 h0) (zfC : Sta Z Z.heap "java/lang/String" "COMPACT_STRINGS" "Z" (.int zc)) (zf_S_java_lang_StringUTF16__assertionsDisabled : Sta Z Z.heap "java/lang/StringUTF16" "$assertionsDisabled" "Z" (.int 1)) (zf_S_java_lang_StringUTF16_HI_BYTE_SHIFT : Sta Z Z.heap "java/lang/StringUTF16" "HI_BYTE_SHIFT" "I" (.int 0)) (zf_S_java_lang_StringUTF16_LO_BYTE_SHIFT : Sta Z Z.heap "java/lang/StringUTF16" "LO_BYTE_SHIFT" "I" (.int 8)) (f0_E_a : Exa Z h0 a "java/lang/String") (f0_F_a_value : Fld Z h0 a "java/lang/String" "value" "[B" .null) (f0_F_a_coder : Fld Z h0 a "java/lang/String" "coder" "B" (.int 0)) (f0_A_bc : Arv Z h0 bc kc .char (1 : Int32) [.int v0] (.int 0)) (hzc : ¬ (zc = (0 : Int32))) (qv0 : ¬ v0 < (1 : Int32) ∧ ¬ (65535 : Int32) < v0) (hU : (255 : Int32) < v0) (g_a : n0 ≤ a) :
    MetFree l mt1 (head1 (Jvm.Cond.code mt1 jdk_42_method_3_code 2 none :: ws) rm5_2_3_74) (fun aq U => aq = #[.ref a, .ref bc] ∧ Z.Warmed39 U.vm ∧ U.heap = h0) (fun _ _ _ _ _ => True) (fun _ U o U' => ∃ v L, o = .returned v ∧ Q_own_n1_1 Z a bc kc zc v0 h0 n0 v U'.heap L ∧ FrameEnd U o U' L rm5_2_3_74.cells rm5_2_3_74.slots) := by
  refine MetFree.of_bodySF (plainFor_of_name pn_java_lang_String) hisR ?_
  intro p e s m args below meth c s₁ Bd hml0 hP hK
  obtain ⟨rfl, hZ, hh⟩ := hP
  have hx := Bd.exec
  have hby := Bd.bytes
  have hml : c.maxLocals = 2 := hml0
  have hown : s.vm.findClass "java/lang/String" = some m.cls := findClass_of_methodNamed Bd.named
  have hnm := (name_of_methodNamed Bd.named Bd.method).1
  have X0 : Stand p l e rm5_2_3_74 s m #[.ref a, .ref bc] below meth c s₁ [] 0 0 := Stand.of_body Bd
  have e0 : s₁.heap = h0 := by rw [← hh, Bd.state]; rfl
  have N0 := Fr.nil n0
  have zO := O0.1
  have zO2 := O0.2.1
  have fl_E_a : h0.size > a := f0_E_a.lt
  have fl_F_a_value : h0.size > a := f0_F_a_value.lt
  have fl_F_a_coder : h0.size > a := f0_F_a_coder.lt
  have fl_A_bc : h0.size > bc := f0_A_bc.lt
  refine own_open (own_via (S' := s₁.setTop (mkF m 0 #[.val (.ref a), .val (.ref bc)] [])) (fun t k => castTop (ef_own_n1_1 m a bc) k) ?_)
  have K0 : Keep h0 h0 [a] := Keep.refl _ _
  have ne_a_bc : a ≠ bc := Exa.neArv f0_E_a f0_A_bc (wd8 hw)
  refine ov s₁ 1 #[.val (.ref a), .val (.ref bc)] [.ref a] (fun t k => XS.aloadN X0.here hx rfl (hb hby d2_0) rfl rfl k) ?_
  refine ov s₁ 2 #[.val (.ref a), .val (.ref bc)] [.ref bc, .ref a] (fun t k => XS.aloadN X0.here hx rfl (hb hby d2_1) rfl rfl k) ?_
  refine ov s₁ 3 #[.val (.ref a), .val (.ref bc)] [.int 0, .ref bc, .ref a] (fun t k => XS.iconst X0.here hx rfl (hb hby d2_2) k) ?_
  refine ov s₁ 4 #[.val (.ref a), .val (.ref bc)] [.ref bc, .int 0, .ref bc, .ref a] (fun t k => XS.aloadN X0.here hx rfl (hb hby d2_3) rfl rfl k) ?_
  obtain ⟨cl1, Ar1, -, S1, N1, -, -⟩ := id f0_A_bc
  refine ov s₁ 5 #[.val (.ref a), .val (.ref bc)] [.int 1, .int 0, .ref bc, .ref a] (fun t k => X0.arraylength hx (by first | (rw [e0]; exact Ar1.1) | exact Ar1.1) (State.isArrayOf_alike hZ.alike Ar1.2.1) (g := (mkF m 4 #[.val (.ref a), .val (.ref bc)] [.ref bc, .int 0, .ref bc, .ref a])) rfl rfl (hb hby d2_4) _ (by rw [len_of S1 N1]; exact k)) ?_
  refine ov s₁ 6 #[.val (.ref a), .val (.ref bc)] [.null, .int 1, .int 0, .ref bc, .ref a] (fun t k => XS.aconstNull X0.here hx rfl (hb hby d2_5) k) ?_
  obtain ⟨_, _, ⟨T2, Lp2, kp2, np2⟩, -, X2, ⟨Lc2, hQ2, l2, y2, z2⟩, st2⟩ := X0.specialBack hx (y := mt0) rfl hown (mvT hZ (wd13 hw)) (mvT hZ (wd14 hw)) (mvT hZ (wd16 hw)) (by decide) (backOf (W := 0) (own_n4_1 l Z a0 hw [] a bc kc zc v0 h0 n0 O0 zfC zf_S_java_lang_StringUTF16__assertionsDisabled zf_S_java_lang_StringUTF16_HI_BYTE_SHIFT zf_S_java_lang_StringUTF16_LO_BYTE_SHIFT f0_E_a f0_F_a_value f0_F_a_coder f0_A_bc hzc qv0 hU g_a) hZ (wd16 hw) (wd9 hw) (by decide) (by decide)) (g := (mkF m 6 #[.val (.ref a), .val (.ref bc)] [.null, .int 1, .int 0, .ref bc, .ref a])) rfl (by rw [hml]; rfl) (Steps.refl _) (a := a) (argsL := [.ref bc, .int 0, .int 1, .null]) (rest := []) (lenOf pd___CIILjava_lang_Void__V_1938 rfl) rfl (by show 2 * 0 + _ ≤ _; exact Nat.le_of_eq rfl) (hb hby d2_6) (fun _ _ => ⟨rfl, e0, (by decide : 0 + 2 ≤ _), (by decide : 0 + 3 ≤ _)⟩)
  dsimp only [Pt.U, Pt.locs, Pt.cells, Pt.slots] at X2 l2 y2 z2 st2 hQ2
  subst Lp2 kp2 np2
  obtain ⟨tb2, kb2, rfl, N2q, K2q, f2_0, f2_1, f2_2⟩ := hQ2
  have N2 := Fr.app N0 N2q
  have sz3 : h0.size ≤ T2.heap.size := K2q.1
  have O4 : Old Z n0 T2.heap := O0.keep K2q (allS (by omega : n0 ≤ a) all0)
  have K5 : Keep h0 T2.heap [a] := K0.trans K2q (allS (P := fun x => x ∈ [a] ∨ h0.size ≤ x) (Or.inl (List.mem_of_getElem? (i := 0) rfl)) all0)
  have lt6_tb2 : T2.heap.size > tb2 := f2_2.lt
  refine own_tr (S' := T2.setTop (mkF m 9 #[.val (.ref a), .val (.ref bc)] [])) st2 ?_
  refine own_ret (Q := Q_own_n1_1 Z a bc kc zc v0 h0 n0) (C := rm5_2_3_74.cells) (N := rm5_2_3_74.slots) X2 (v := none) (fun _ => rfl) Bd.notSynchronized ?_ (by decide) (by decide) (fun fs hr => X2.returnOut hx Bd.returns (hb hby d2_9) hr)
  show Q_own_n1_1 Z a bc kc zc v0 h0 n0 _ T2.heap _
  exact ⟨tb2, kb2, rfl, N2, K5, f2_0, f2_1, f2_2⟩
def Q_own_nbl2 (Z : State)  (h0 : Heap) (n0 : Nat) (v : Option Value) (h : Heap) (L : List Loc) : Prop := v = some (.int 4) ∧ L = [] ∧ h = h0
set_option maxRecDepth 65536 in
set_option maxHeartbeats 40000000 in
theorem own_nbl2 (l : Launch) (Z : State) (a0 : Array Value) (hw : ∀ d ∈ tables_1, d.before a0 Z = true) (ws : List Jvm.Cond)  (h0 : Heap) (n0 : Nat) (O0 : Old Z n0 h0) :
    MetFree l mt4 (head1 (Jvm.Cond.code mt4 jdk_52_method_3_code 1 (some .int) :: ws) rm0_0_0_0) (fun aq U => aq = #[.int 2] ∧ Z.Warmed39 U.vm ∧ U.heap = h0) (fun _ _ _ _ _ => True) (fun _ U o U' => ∃ v L, o = .returned v ∧ Q_own_nbl2 Z  h0 n0 v U'.heap L ∧ FrameEnd U o U' L rm0_0_0_0.cells rm0_0_0_0.slots) := by
  refine MetFree.of_bodySF (plainFor_of_name pn_java_lang_StringUTF16) hisR ?_
  intro p e s m args below meth c s₁ Bd hml0 hP hK
  obtain ⟨rfl, hZ, hh⟩ := hP
  have hx := Bd.exec
  have hby := Bd.bytes
  have hml : c.maxLocals = 1 := hml0
  have hown : s.vm.findClass "java/lang/StringUTF16" = some m.cls := findClass_of_methodNamed Bd.named
  have hnm := (name_of_methodNamed Bd.named Bd.method).1
  have X0 : Stand p l e rm0_0_0_0 s m #[.int 2] below meth c s₁ [] 0 0 := Stand.of_body Bd
  have e0 : s₁.heap = h0 := by rw [← hh, Bd.state]; rfl
  have N0 := Fr.nil n0
  have zO := O0.1
  have zO2 := O0.2.1
  refine own_open (own_via (S' := s₁.setTop (mkF m 0 #[.val (.int 2)] [])) (fun t k => castTop (ef_own_nbl2 m (2 : Int32)) k) ?_)
  refine ov s₁ 1 #[.val (.int 2)] [.int 2] (fun t k => XS.iloadN X0.here hx rfl (hb hby d26_0) rfl k) ?_
  refine ov s₁ 12 #[.val (.int 2)] [] (fun t k => XS.ifYes X0.here hx rfl (pc0 := 1) (pc' := 12) rfl (hb hby d26_1) rfl ((if0 _ _).trans (flt (by decide : ¬ ((2 : Int32) < (0 : Int32)))).2.1) (by decide) (by decide) k) ?_
  refine ov s₁ 13 #[.val (.int 2)] [.int 2] (fun t k => XS.iloadN X0.here hx rfl (hb hby d26_12) rfl k) ?_
  refine ov s₁ 15 #[.val (.int 2)] [.int 1073741823, .int 2] (fun t k => X0.ldcInt hx hown (mvT hZ (wd113 hw)) (g := (mkF m 13 #[.val (.int 2)] [.int 2])) rfl (hb hby d26_13) _ k) ?_
  refine ov s₁ 55 #[.val (.int 2)] [] (fun t k => XS.icmpYes X0.here hx rfl (pc0 := 15) (pc' := 55) rfl (hb hby d26_15) rfl (tlt (by decide : (2 : Int32) < (1073741823 : Int32))).1 (by decide) (by decide) k) ?_
  refine ov s₁ 56 #[.val (.int 2)] [.int 2] (fun t k => XS.iloadN X0.here hx rfl (hb hby d26_55) rfl k) ?_
  refine ov s₁ 57 #[.val (.int 2)] [.int 1, .int 2] (fun t k => XS.iconst X0.here hx rfl (hb hby d26_56) k) ?_
  refine ov s₁ 58 #[.val (.int 2)] [.int 4] (fun t k => XS.ishl X0.here hx rfl (hb hby d26_57) rfl k) ?_
  refine own_ret (Q := Q_own_nbl2 Z  h0 n0) (C := rm0_0_0_0.cells) (N := rm0_0_0_0.slots) X0 (v := some (.int 4)) (fun h => by rw [Bd.returns] at h; cases h) Bd.notSynchronized ?_ (by decide) (by decide) (fun fs hr => retOut X0 hx Bd.returns rfl (Or.inl ⟨rfl, Or.inl rfl, _, rfl⟩) (hb hby d26_58) hr)
  show Q_own_nbl2 Z  h0 n0 _ s₁.heap _
  rw [e0]
  exact ⟨rfl, rfl, rfl⟩
def Q_own_nbf2 (Z : State)  (h0 : Heap) (n0 : Nat) (v : Option Value) (h : Heap) (L : List Loc) : Prop := ∃ b : Addr, ∃ kb : ClassId, v = some (.ref b) ∧ Fr n0 L ∧ Keep h0 h [] ∧ Arv Z h b kb .byte (4 : Int32) (own_L3) (.int 0) ∧ (h0.size ≤ b)
set_option maxRecDepth 65536 in
set_option maxHeartbeats 40000000 in
theorem own_nbf2 (l : Launch) (Z : State) (a0 : Array Value) (hw : ∀ d ∈ tables_1, d.before a0 Z = true) (ws : List Jvm.Cond)  (h0 : Heap) (n0 : Nat) (O0 : Old Z n0 h0) :
    MetFree l mt5 (head1 (Jvm.Cond.code mt5 jdk_52_method_2_code 1 (some (.array .byte)) :: ws) rm1_1_4_12) (fun aq U => aq = #[.int 2] ∧ Z.Warmed39 U.vm ∧ U.heap = h0) (fun _ _ _ _ _ => True) (fun _ U o U' => ∃ v L, o = .returned v ∧ Q_own_nbf2 Z  h0 n0 v U'.heap L ∧ FrameEnd U o U' L rm1_1_4_12.cells rm1_1_4_12.slots) := by
  refine MetFree.of_bodySF (plainFor_of_name pn_java_lang_StringUTF16) hisR ?_
  intro p e s m args below meth c s₁ Bd hml0 hP hK
  obtain ⟨rfl, hZ, hh⟩ := hP
  have hx := Bd.exec
  have hby := Bd.bytes
  have hml : c.maxLocals = 1 := hml0
  have hown : s.vm.findClass "java/lang/StringUTF16" = some m.cls := findClass_of_methodNamed Bd.named
  have hnm := (name_of_methodNamed Bd.named Bd.method).1
  have X0 : Stand p l e rm1_1_4_12 s m #[.int 2] below meth c s₁ [] 0 0 := Stand.of_body Bd
  have e0 : s₁.heap = h0 := by rw [← hh, Bd.state]; rfl
  have N0 := Fr.nil n0
  have zO := O0.1
  have zO2 := O0.2.1
  refine own_open (own_via (S' := s₁.setTop (mkF m 0 #[.val (.int 2)] [])) (fun t k => castTop (ef_own_nbf2 m (2 : Int32)) k) ?_)
  have K0 : Keep h0 h0 [] := Keep.refl _ _
  refine ov s₁ 1 #[.val (.int 2)] [.int 2] (fun t k => XS.iloadN X0.here hx rfl (hb hby d25_0) rfl k) ?_
  obtain ⟨_, _, ⟨T1, Lp1, kp1, np1⟩, -, X1, ⟨Lc1, hQ1, l1, y1, z1⟩, st1⟩ := Jvm.LawKit.callS X0 hx (y := mt4) hown (mvT hZ (wd110 hw)) (mvT hZ (wd111 hw)) (mvT hZ (wd93 hw)) (mvT hZ (wd112 hw)) (by decide) (backOf (W := 0) (own_nbl2 l Z a0 hw []  h0 n0 O0) hZ (wd112 hw) (wd93 hw) (by decide) (by decide)) (g := (mkF m 1 #[.val (.int 2)] [.int 2])) rfl (by rw [hml]; rfl) (argsL := [.int 2]) (rest := []) (lenOf pd__I_I_227 rfl) rfl (by show 2 * 0 + _ ≤ _; exact Nat.le_of_eq rfl) (hb hby d25_1) (fun _ _ => ⟨rfl, e0, (by decide : 0 + 0 ≤ _), (by decide : 0 + 0 ≤ _)⟩)
  dsimp only [Pt.U, Pt.locs, Pt.cells, Pt.slots] at X1 l1 y1 z1 st1 hQ1
  subst Lp1 kp1 np1
  obtain ⟨rfl, rfl, e1⟩ := hQ1
  try rw [List.append_nil] at X1
  refine ov T1 4 #[.val (.int 2)] [.int 4] st1 ?_
  obtain ⟨T2, h2, k2, X2, e2, E2, A2, st2⟩ := newP (aty := .byte) X1 hx hZ (wd21 hw) e1 (g := (mkF m 4 #[.val (.int 2)] [.int 4])) rfl (hb hby d25_4) rfl (by decide : ¬ ((4 : Int32) < (0 : Int32))) (cap := 4) (by decide) (by decide) (by decide) (by decide)
  obtain ⟨b2, g2⟩ : ∃ z, z = h0.size := ⟨_, rfl⟩
  rw [← g2] at A2 st2
  have lt_b2 : h2.size > b2 := A2.lt
  have sz3 : h0.size ≤ h2.size := E2.1
  have O4 : Old Z n0 h2 := O0.ext E2
  have K5 : Keep h0 h2 [] := K0.ext E2
  have V2 : Arv Z h2 b2 k2 .byte (4 : Int32) [.int 0, .int 0, .int 0, .int 0] (.int 0) := (Arv.new A2 (by decide)).pad (pad_rep [] (.int 0) 4)
  refine ov T2 6 #[.val (.int 2)] [.ref b2] st2 ?_
  refine own_ret (Q := Q_own_nbf2 Z  h0 n0) (C := rm1_1_4_12.cells) (N := rm1_1_4_12.slots) X2 (v := some (.ref b2)) (fun h => by rw [Bd.returns] at h; cases h) Bd.notSynchronized ?_ (by decide) (by decide) (fun fs hr => retOut X2 hx Bd.returns rfl (Or.inr (Or.inr (Or.inr (Or.inr ⟨rfl, rfl, rfl⟩)))) (hb hby d25_6) hr)
  show Q_own_nbf2 Z  h0 n0 _ T2.heap _
  rw [e2]
  exact ⟨b2, k2, rfl, N0, K5, V2, (by omega)⟩
def Q_own_cx2 (Z : State) (sa : Addr) (ks : ClassId) (dst : Addr) (kd : ClassId) (v0 : Int32) (v1 : Int32) (h0 : Heap) (n0 : Nat) (v : Option Value) (h : Heap) (L : List Loc) : Prop := ∃ z : Int32, v = some (.int z) ∧ Fr n0 L ∧ Keep h0 h [dst] ∧ ((z = (0 : Int32) ∧ (255 : Int32) < v0) ∨ (z = (1 : Int32) ∧ (255 : Int32) < v1))
set_option maxRecDepth 65536 in
set_option maxHeartbeats 40000000 in
theorem own_cx2 (l : Launch) (Z : State) (a0 : Array Value) (hw : ∀ d ∈ tables_1, d.before a0 Z = true) (ws : List Jvm.Cond) (sa : Addr) (ks : ClassId) (dst : Addr) (kd : ClassId) (v0 : Int32) (v1 : Int32) (h0 : Heap) (n0 : Nat) (O0 : Old Z n0 h0) (f0_A_sa : Arv Z h0 sa ks .char (2 : Int32) [.int v0, .int v1] (.int 0)) (f0_A_dst : Arv Z h0 dst kd .byte (2 : Int32) [.int 0, .int 0] (.int 0)) (hU : (255 : Int32) < v0 ∨ (255 : Int32) < v1) (g_d : n0 ≤ dst) (nsd : sa ≠ dst) :
    MetFree l mt6 (head1 (Jvm.Cond.code mt6 jdk_52_method_21_code 7 (some .int) :: ws) rm0_0_0_0) (fun aq U => aq = #[.ref sa, .int 0, .ref dst, .int 0, .int 2] ∧ Z.Warmed39 U.vm ∧ U.heap = h0) (fun _ _ _ _ _ => True) (fun _ U o U' => ∃ v L, o = .returned v ∧ Q_own_cx2 Z sa ks dst kd v0 v1 h0 n0 v U'.heap L ∧ FrameEnd U o U' L rm0_0_0_0.cells rm0_0_0_0.slots) := by
  refine MetFree.of_bodySF (plainFor_of_name pn_java_lang_StringUTF16) hisR ?_
  intro p e s m args below meth c s₁ Bd hml0 hP hK
  obtain ⟨rfl, hZ, hh⟩ := hP
  have hx := Bd.exec
  have hby := Bd.bytes
  have hml : c.maxLocals = 7 := hml0
  have hown : s.vm.findClass "java/lang/StringUTF16" = some m.cls := findClass_of_methodNamed Bd.named
  have hnm := (name_of_methodNamed Bd.named Bd.method).1
  have X0 : Stand p l e rm0_0_0_0 s m #[.ref sa, .int 0, .ref dst, .int 0, .int 2] below meth c s₁ [] 0 0 := Stand.of_body Bd
  have e0 : s₁.heap = h0 := by rw [← hh, Bd.state]; rfl
  have N0 := Fr.nil n0
  have zO := O0.1
  have zO2 := O0.2.1
  have fl_A_sa : h0.size > sa := f0_A_sa.lt
  have fl_A_dst : h0.size > dst := f0_A_dst.lt
  refine own_open (own_via (S' := s₁.setTop (mkF m 0 #[.val (.ref sa), .val (.int 0), .val (.ref dst), .val (.int 0), .val (.int 2), .unset, .unset] [])) (fun t k => castTop (ef_own_cx2 m sa (0 : Int32) dst (0 : Int32) (2 : Int32)) k) ?_)
  have K0 : Keep h0 h0 [dst] := Keep.refl _ _
  refine ov s₁ 1 #[.val (.ref sa), .val (.int 0), .val (.ref dst), .val (.int 0), .val (.int 2), .unset, .unset] [.int 0] (fun t k => XS.iconst X0.here hx rfl (hb hby d21_0) k) ?_
  let A_1 : Array Slot := #[.val (.ref sa), .val (.int 0), .val (.ref dst), .val (.int 0), .val (.int 2), .val (.int 0), .unset]
  refine ov s₁ 3 A_1 [] (fun t k => XS.istore X0.here hx rfl (hb hby d21_1) rfl (l' := A_1) rfl k) ?_
  refine ov s₁ 5 A_1 [.int 0] (fun t k => XS.iload X0.here hx rfl (hb hby d21_3) rfl k) ?_
  refine ov s₁ 7 A_1 [.int 2, .int 0] (fun t k => XS.iload X0.here hx rfl (hb hby d21_5) rfl k) ?_
  refine ov s₁ 10 A_1 [] (fun t k => XS.icmpNo X0.here hx rfl (hb hby d21_7) rfl (tlt (by decide : (0 : Int32) < (2 : Int32))).2.1 k) ?_
  refine ov s₁ 11 A_1 [.ref sa] (fun t k => XS.aloadN X0.here hx rfl (hb hby d21_10) rfl rfl k) ?_
  refine ov s₁ 12 A_1 [.int 0, .ref sa] (fun t k => XS.iloadN X0.here hx rfl (hb hby d21_11) rfl k) ?_
  obtain ⟨cl1, Ar1, q1, S1, M1, H1, U1⟩ := id f0_A_sa
  have hin1 : ¬ ((0 : Int32) < 0 ∨ cl1.slots.size ≤ ((0 : Int32)).toNatClampNeg) := inb_of S1 ⟨by decide, by decide⟩
  refine ov s₁ 13 A_1 [.int v0] (fun t k => X0.caload hx (j := (0 : Int32)) (v := (.int v0)) (by first | (rw [e0]; exact Ar1.1) | exact Ar1.1) (State.isArrayOf_alike hZ.alike Ar1.2.1) Ar1.2.2 hin1 (Has.at H1 hin1 rfl) (g := (mkF m 12 A_1 [.int 0, .ref sa])) rfl rfl (hb hby d21_12) _ k) ?_
  let A_2 : Array Slot := #[.val (.ref sa), .val (.int 0), .val (.ref dst), .val (.int 0), .val (.int 2), .val (.int 0), .val (.int v0)]
  refine ov s₁ 15 A_2 [] (fun t k => XS.istore X0.here hx rfl (hb hby d21_13) rfl (l' := A_2) rfl k) ?_
  refine ov s₁ 17 A_2 [.int v0] (fun t k => XS.iload X0.here hx rfl (hb hby d21_15) rfl k) ?_
  refine ov s₁ 20 A_2 [.int 255, .int v0] (fun t k => XS.sipush X0.here hx rfl (hb hby d21_17) k) ?_
  by_cases hc20_2 : (255 : Int32) < v0
  · -- yes
    refine ov s₁ 23 A_2 [] (fun t k => XS.icmpNo X0.here hx rfl (hb hby d21_20) rfl (tlt hc20_2).2.2.2 k) ?_
    refine ov s₁ 25 A_2 [.int 0] (fun t k => XS.iload X0.here hx rfl (hb hby d21_23) rfl k) ?_
    refine own_ret (Q := Q_own_cx2 Z sa ks dst kd v0 v1 h0 n0) (C := rm0_0_0_0.cells) (N := rm0_0_0_0.slots) X0 (v := some (.int 0)) (fun h => by rw [Bd.returns] at h; cases h) Bd.notSynchronized ?_ (by decide) (by decide) (fun fs hr => retOut X0 hx Bd.returns rfl (Or.inl ⟨rfl, Or.inl rfl, _, rfl⟩) (hb hby d21_25) hr)
    show Q_own_cx2 Z sa ks dst kd v0 v1 h0 n0 _ s₁.heap _
    rw [e0]
    exact ⟨(0 : Int32), rfl, N0, K0, (Or.inl ⟨rfl, hc20_2⟩)⟩
  · -- no
    refine ov s₁ 26 A_2 [] (fun t k => XS.icmpYes X0.here hx rfl (pc0 := 20) (pc' := 26) rfl (hb hby d21_20) rfl (flt hc20_2).2.2.2 (by decide) (by decide) k) ?_
    refine ov s₁ 27 A_2 [.ref dst] (fun t k => XS.aloadN X0.here hx rfl (hb hby d21_26) rfl rfl k) ?_
    refine ov s₁ 28 A_2 [.int 0, .ref dst] (fun t k => XS.iloadN X0.here hx rfl (hb hby d21_27) rfl k) ?_
    refine ov s₁ 30 A_2 [.int v0, .int 0, .ref dst] (fun t k => XS.iload X0.here hx rfl (hb hby d21_28) rfl k) ?_
    refine ov s₁ 31 A_2 [(.int (v0.toInt8.toInt32)), .int 0, .ref dst] (fun t k => XS.i2b X0.here hx rfl (hb hby d21_30) rfl k) ?_
    obtain ⟨cl3, Ar3, q3, S3, M3, H3, U3⟩ := id f0_A_dst
    obtain ⟨T3, h3, X3, e3, W3, st3⟩ := stB X0 hx hZ e0 Ar3 (j := (0 : Int32)) (inb_of S3 ⟨by decide, by decide⟩) (g := (mkF m 31 A_2 [(.int (v0.toInt8.toInt32)), .int 0, .ref dst])) rfl rfl (hb hby d21_31)
    have sz4 : h0.size ≤ h3.size := Nat.le_of_eq W3.size.symm
    have O5 : Old Z n0 h3 := O0.wr W3 (by omega : n0 ≤ dst)
    have N3 := Fr.snoc X3 N0 (by omega : n0 ≤ dst)
    have K6 : Keep h0 h3 [dst] := K0.wr W3 (Or.inl (List.mem_of_getElem? (i := 0) rfl))
    have V3 : Arv Z h3 dst kd .byte (2 : Int32) [(.int (nar .byte (v0.toInt8.toInt32))), .int 0] (.int 0) := Arv.set Ar3 q3 S3 M3 H3 U3 (fits_nar_byte _) W3 0 rfl (Nat.le_of_ble_eq_true rfl)
    refine ov T3 32 A_2 [] st3 ?_
    refine ov T3 35 #[.val (.ref sa), .val (.int 1), .val (.ref dst), .val (.int 0), .val (.int 2), .val (.int 0), .val (.int v0)] [] (fun t k => XS.iinc X3.here hx rfl (hb hby d21_32) rfl (l' := #[.val (.ref sa), .val (.int 1), .val (.ref dst), .val (.int 0), .val (.int 2), .val (.int 0), .val (.int v0)]) rfl k) ?_
    refine ov T3 38 #[.val (.ref sa), .val (.int 1), .val (.ref dst), .val (.int 1), .val (.int 2), .val (.int 0), .val (.int v0)] [] (fun t k => XS.iinc X3.here hx rfl (hb hby d21_35) rfl (l' := #[.val (.ref sa), .val (.int 1), .val (.ref dst), .val (.int 1), .val (.int 2), .val (.int 0), .val (.int v0)]) rfl k) ?_
    let A_3 : Array Slot := #[.val (.ref sa), .val (.int 1), .val (.ref dst), .val (.int 1), .val (.int 2), .val (.int 1), .val (.int v0)]
    refine ov T3 41 A_3 [] (fun t k => XS.iinc X3.here hx rfl (hb hby d21_38) rfl (l' := A_3) rfl k) ?_
    refine ov T3 3 A_3 [] (fun t k => XS.goto X3.here hx rfl (pc0 := 41) (pc' := 3) rfl (hb hby d21_41) (by decide) (by decide) k) ?_
    refine ov T3 5 A_3 [.int 1] (fun t k => XS.iload X3.here hx rfl (hb hby d21_3) rfl k) ?_
    refine ov T3 7 A_3 [.int 2, .int 1] (fun t k => XS.iload X3.here hx rfl (hb hby d21_5) rfl k) ?_
    refine ov T3 10 A_3 [] (fun t k => XS.icmpNo X3.here hx rfl (hb hby d21_7) rfl (tlt (by decide : (1 : Int32) < (2 : Int32))).2.1 k) ?_
    refine ov T3 11 A_3 [.ref sa] (fun t k => XS.aloadN X3.here hx rfl (hb hby d21_10) rfl rfl k) ?_
    refine ov T3 12 A_3 [.int 1, .ref sa] (fun t k => XS.iloadN X3.here hx rfl (hb hby d21_11) rfl k) ?_
    have cx7 : Arv Z h3 sa ks .char (2 : Int32) [.int v0, .int v1] (.int 0) := (f0_A_sa.other W3 nsd)
    obtain ⟨cl8, Ar8, q8, S8, M8, H8, U8⟩ := id cx7
    have hin8 : ¬ ((1 : Int32) < 0 ∨ cl8.slots.size ≤ ((1 : Int32)).toNatClampNeg) := inb_of S8 ⟨by decide, by decide⟩
    refine ov T3 13 A_3 [.int v1] (fun t k => X3.caload hx (j := (1 : Int32)) (v := (.int v1)) (by first | (rw [e3]; exact Ar8.1) | exact Ar8.1) (State.isArrayOf_alike hZ.alike Ar8.2.1) Ar8.2.2 hin8 (Has.at H8 hin8 rfl) (g := (mkF m 12 A_3 [.int 1, .ref sa])) rfl rfl (hb hby d21_12) _ k) ?_
    let A_4 : Array Slot := #[.val (.ref sa), .val (.int 1), .val (.ref dst), .val (.int 1), .val (.int 2), .val (.int 1), .val (.int v1)]
    refine ov T3 15 A_4 [] (fun t k => XS.istore X3.here hx rfl (hb hby d21_13) rfl (l' := A_4) rfl k) ?_
    refine ov T3 17 A_4 [.int v1] (fun t k => XS.iload X3.here hx rfl (hb hby d21_15) rfl k) ?_
    refine ov T3 20 A_4 [.int 255, .int v1] (fun t k => XS.sipush X3.here hx rfl (hb hby d21_17) k) ?_
    by_cases hc20_9 : (255 : Int32) < v1
    · -- yes
      refine ov T3 23 A_4 [] (fun t k => XS.icmpNo X3.here hx rfl (hb hby d21_20) rfl (tlt hc20_9).2.2.2 k) ?_
      refine ov T3 25 A_4 [.int 1] (fun t k => XS.iload X3.here hx rfl (hb hby d21_23) rfl k) ?_
      refine own_ret (Q := Q_own_cx2 Z sa ks dst kd v0 v1 h0 n0) (C := rm0_0_0_0.cells) (N := rm0_0_0_0.slots) X3 (v := some (.int 1)) (fun h => by rw [Bd.returns] at h; cases h) Bd.notSynchronized ?_ (by decide) (by decide) (fun fs hr => retOut X3 hx Bd.returns rfl (Or.inl ⟨rfl, Or.inl rfl, _, rfl⟩) (hb hby d21_25) hr)
      show Q_own_cx2 Z sa ks dst kd v0 v1 h0 n0 _ T3.heap _
      rw [e3]
      exact ⟨(1 : Int32), rfl, N3, K6, (Or.inr (⟨rfl, hc20_9⟩))⟩
    · -- no
      exact absurd hU (by simp only [not_or]; exact ⟨hc20_2, hc20_9⟩)
def Q_own_tob2 (Z : State) (sa : Addr) (ks : ClassId) (v0 : Int32) (v1 : Int32) (h0 : Heap) (n0 : Nat) (v : Option Value) (h : Heap) (L : List Loc) : Prop := ∃ b : Addr, ∃ kb : ClassId, v = some (.ref b) ∧ Fr n0 L ∧ Keep h0 h [] ∧ Arv Z h b kb .byte (4 : Int32) (own_L2 v0 v1) (.int 0) ∧ (h0.size ≤ b)
set_option maxRecDepth 65536 in
set_option maxHeartbeats 40000000 in
theorem own_tob2 (l : Launch) (Z : State) (a0 : Array Value) (hw : ∀ d ∈ tables_1, d.before a0 Z = true) (ws : List Jvm.Cond) (sa : Addr) (ks : ClassId) (v0 : Int32) (v1 : Int32) (h0 : Heap) (n0 : Nat) (O0 : Old Z n0 h0) (zf_S_java_lang_StringUTF16__assertionsDisabled : Sta Z Z.heap "java/lang/StringUTF16" "$assertionsDisabled" "Z" (.int 1)) (zf_S_java_lang_StringUTF16_HI_BYTE_SHIFT : Sta Z Z.heap "java/lang/StringUTF16" "HI_BYTE_SHIFT" "I" (.int 0)) (zf_S_java_lang_StringUTF16_LO_BYTE_SHIFT : Sta Z Z.heap "java/lang/StringUTF16" "LO_BYTE_SHIFT" "I" (.int 8)) (f0_A_sa : Arv Z h0 sa ks .char (2 : Int32) [.int v0, .int v1] (.int 0)) :
    MetFree l mt7 (head1 (Jvm.Cond.code mt7 jdk_52_method_14_code 5 (some (.array .byte)) :: ws) rm2_1_4_24) (fun aq U => aq = #[.ref sa, .int 0, .int 2] ∧ Z.Warmed39 U.vm ∧ U.heap = h0) (fun _ _ _ _ _ => True) (fun _ U o U' => ∃ v L, o = .returned v ∧ Q_own_tob2 Z sa ks v0 v1 h0 n0 v U'.heap L ∧ FrameEnd U o U' L rm2_1_4_24.cells rm2_1_4_24.slots) := by
  refine MetFree.of_bodySF (plainFor_of_name pn_java_lang_StringUTF16) hisR ?_
  intro p e s m args below meth c s₁ Bd hml0 hP hK
  obtain ⟨rfl, hZ, hh⟩ := hP
  have hx := Bd.exec
  have hby := Bd.bytes
  have hml : c.maxLocals = 5 := hml0
  have hown : s.vm.findClass "java/lang/StringUTF16" = some m.cls := findClass_of_methodNamed Bd.named
  have hnm := (name_of_methodNamed Bd.named Bd.method).1
  have X0 : Stand p l e rm2_1_4_24 s m #[.ref sa, .int 0, .int 2] below meth c s₁ [] 0 0 := Stand.of_body Bd
  have e0 : s₁.heap = h0 := by rw [← hh, Bd.state]; rfl
  have N0 := Fr.nil n0
  have zO := O0.1
  have zO2 := O0.2.1
  have fl_A_sa : h0.size > sa := f0_A_sa.lt
  refine own_open (own_via (S' := s₁.setTop (mkF m 0 #[.val (.ref sa), .val (.int 0), .val (.int 2), .unset, .unset] [])) (fun t k => castTop (ef_own_tob2 m sa (0 : Int32) (2 : Int32)) k) ?_)
  have K0 : Keep h0 h0 [] := Keep.refl _ _
  let A_1 : Array Slot := #[.val (.ref sa), .val (.int 0), .val (.int 2), .unset, .unset]
  refine ov s₁ 1 A_1 [.int 2] (fun t k => XS.iloadN X0.here hx rfl (hb hby d24_0) rfl k) ?_
  obtain ⟨_, _, ⟨T1, Lp1, kp1, np1⟩, -, X1, ⟨Lc1, hQ1, l1, y1, z1⟩, st1⟩ := Jvm.LawKit.callS X0 hx (y := mt5) hown (mvT hZ (wd107 hw)) (mvT hZ (wd108 hw)) (mvT hZ (wd93 hw)) (mvT hZ (wd109 hw)) (by decide) (backOf (W := 0) (own_nbf2 l Z a0 hw []  h0 n0 O0) hZ (wd109 hw) (wd93 hw) (by decide) (by decide)) (g := (mkF m 1 A_1 [.int 2])) rfl (by rw [hml]; rfl) (argsL := [.int 2]) (rest := []) (lenOf pd__I__B_311 rfl) rfl (by show 2 * 0 + _ ≤ _; exact Nat.le_of_eq rfl) (hb hby d24_1) (fun _ _ => ⟨rfl, e0, (by decide : 0 + 1 ≤ _), (by decide : 0 + 4 ≤ _)⟩)
  dsimp only [Pt.U, Pt.locs, Pt.cells, Pt.slots] at X1 l1 y1 z1 st1 hQ1
  subst Lp1 kp1 np1
  obtain ⟨b1, kb1, rfl, N1q, K1q, f1_0, pp1_0⟩ := hQ1
  have N1 := Fr.app N0 N1q
  have sz2 : h0.size ≤ T1.heap.size := K1q.1
  have O3 : Old Z n0 T1.heap := O0.keep K1q all0
  have K4 : Keep h0 T1.heap [] := K0.trans K1q all0
  have lt5_b1 : T1.heap.size > b1 := f1_0.lt
  refine ov T1 4 A_1 [.ref b1] st1 ?_
  let A_2 : Array Slot := #[.val (.ref sa), .val (.int 0), .val (.int 2), .val (.ref b1), .unset]
  refine ov T1 5 A_2 [] (fun t k => XS.astoreN X1.here hx rfl (hb hby d24_4) rfl rfl (l' := A_2) rfl k) ?_
  refine ov T1 6 A_2 [.int 0] (fun t k => XS.iconst X1.here hx rfl (hb hby d24_5) k) ?_
  let A_3 : Array Slot := #[.val (.ref sa), .val (.int 0), .val (.int 2), .val (.ref b1), .val (.int 0)]
  refine ov T1 8 A_3 [] (fun t k => XS.istore X1.here hx rfl (hb hby d24_6) rfl (l' := A_3) rfl k) ?_
  refine ov T1 10 A_3 [.int 0] (fun t k => XS.iload X1.here hx rfl (hb hby d24_8) rfl k) ?_
  refine ov T1 11 A_3 [.int 2, .int 0] (fun t k => XS.iloadN X1.here hx rfl (hb hby d24_10) rfl k) ?_
  refine ov T1 14 A_3 [] (fun t k => XS.icmpNo X1.here hx rfl (hb hby d24_11) rfl (tlt (by decide : (0 : Int32) < (2 : Int32))).2.1 k) ?_
  refine ov T1 15 A_3 [.ref b1] (fun t k => XS.aloadN X1.here hx rfl (hb hby d24_14) rfl rfl k) ?_
  refine ov T1 17 A_3 [.int 0, .ref b1] (fun t k => XS.iload X1.here hx rfl (hb hby d24_15) rfl k) ?_
  refine ov T1 18 A_3 [.ref sa, .int 0, .ref b1] (fun t k => XS.aloadN X1.here hx rfl (hb hby d24_17) rfl rfl k) ?_
  refine ov T1 19 A_3 [.int 0, .ref sa, .int 0, .ref b1] (fun t k => XS.iloadN X1.here hx rfl (hb hby d24_18) rfl k) ?_
  have cx6 : Arv Z T1.heap sa ks .char (2 : Int32) [.int v0, .int v1] (.int 0) := (f0_A_sa.keep K1q nin0)
  obtain ⟨cl7, Ar7, q7, S7, M7, H7, U7⟩ := id cx6
  have hin7 : ¬ ((0 : Int32) < 0 ∨ cl7.slots.size ≤ ((0 : Int32)).toNatClampNeg) := inb_of S7 ⟨by decide, by decide⟩
  refine ov T1 20 A_3 [.int v0, .int 0, .ref b1] (fun t k => X1.caload hx (j := (0 : Int32)) (v := (.int v0)) (by first | (rw [rfl]; exact Ar7.1) | exact Ar7.1) (State.isArrayOf_alike hZ.alike Ar7.2.1) Ar7.2.2 hin7 (Has.at H7 hin7 rfl) (g := (mkF m 19 A_3 [.int 0, .ref sa, .int 0, .ref b1])) rfl rfl (hb hby d24_19) _ k) ?_
  obtain ⟨_, _, ⟨T8, Lp8, kp8, np8⟩, -, X8, ⟨Lc8, hQ8, l8, y8, z8⟩, st8⟩ := Jvm.LawKit.callS X1 hx (y := mt2) hown (mvT hZ (wd114 hw)) (mvT hZ (wd115 hw)) (mvT hZ (wd93 hw)) (mvT hZ (wd116 hw)) (by decide) (backOf (W := 0) (own_put l Z a0 hw [] b1 kb1 (4 : Int32) (own_L3) (0 : Int32) v0 T1.heap n0 O3 zf_S_java_lang_StringUTF16__assertionsDisabled zf_S_java_lang_StringUTF16_HI_BYTE_SHIFT zf_S_java_lang_StringUTF16_LO_BYTE_SHIFT f1_0 (by decide) (by decide) (by decide) (by decide) (Nat.le_of_ble_eq_true rfl) (Nat.le_of_ble_eq_true rfl) (by omega)) hZ (wd116 hw) (wd93 hw) (by decide) (by decide)) (g := (mkF m 20 A_3 [.int v0, .int 0, .ref b1])) rfl (by rw [hml]; rfl) (argsL := [.ref b1, .int 0, .int v0]) (rest := []) (lenOf pd___BII_V_470 rfl) rfl (by show 2 * 0 + _ ≤ _; exact Nat.le_of_eq rfl) (hb hby d24_20) (fun _ _ => ⟨rfl, rfl, (by decide : 1 + 0 ≤ _), (by decide : 4 + 0 ≤ _)⟩)
  dsimp only [Pt.U, Pt.locs, Pt.cells, Pt.slots] at X8 l8 y8 z8 st8 hQ8
  subst Lp8 kp8 np8
  obtain ⟨rfl, N8q, K8q, f8_0⟩ := hQ8
  have N8 := Fr.app N1 N8q
  have sz9 : T1.heap.size ≤ T8.heap.size := K8q.1
  have O10 : Old Z n0 T8.heap := O3.keep K8q (allS (by omega : n0 ≤ b1) all0)
  have K11 : Keep h0 T8.heap [] := K4.trans K8q (allS (P := fun x => x ∈ [] ∨ h0.size ≤ x) (Or.inr (by omega)) all0)
  have f8_0c : Arv Z T8.heap b1 kb1 .byte (4 : Int32) (own_L4 v0) (.int 0) := f8_0
  refine ov T8 23 A_3 [] st8 ?_
  refine ov T8 26 #[.val (.ref sa), .val (.int 1), .val (.int 2), .val (.ref b1), .val (.int 0)] [] (fun t k => XS.iinc X8.here hx rfl (hb hby d24_23) rfl (l' := #[.val (.ref sa), .val (.int 1), .val (.int 2), .val (.ref b1), .val (.int 0)]) rfl k) ?_
  let A_4 : Array Slot := #[.val (.ref sa), .val (.int 1), .val (.int 2), .val (.ref b1), .val (.int 1)]
  refine ov T8 29 A_4 [] (fun t k => XS.iinc X8.here hx rfl (hb hby d24_26) rfl (l' := A_4) rfl k) ?_
  refine ov T8 8 A_4 [] (fun t k => XS.goto X8.here hx rfl (pc0 := 29) (pc' := 8) rfl (hb hby d24_29) (by decide) (by decide) k) ?_
  refine ov T8 10 A_4 [.int 1] (fun t k => XS.iload X8.here hx rfl (hb hby d24_8) rfl k) ?_
  refine ov T8 11 A_4 [.int 2, .int 1] (fun t k => XS.iloadN X8.here hx rfl (hb hby d24_10) rfl k) ?_
  refine ov T8 14 A_4 [] (fun t k => XS.icmpNo X8.here hx rfl (hb hby d24_11) rfl (tlt (by decide : (1 : Int32) < (2 : Int32))).2.1 k) ?_
  refine ov T8 15 A_4 [.ref b1] (fun t k => XS.aloadN X8.here hx rfl (hb hby d24_14) rfl rfl k) ?_
  refine ov T8 17 A_4 [.int 1, .ref b1] (fun t k => XS.iload X8.here hx rfl (hb hby d24_15) rfl k) ?_
  refine ov T8 18 A_4 [.ref sa, .int 1, .ref b1] (fun t k => XS.aloadN X8.here hx rfl (hb hby d24_17) rfl rfl k) ?_
  refine ov T8 19 A_4 [.int 1, .ref sa, .int 1, .ref b1] (fun t k => XS.iloadN X8.here hx rfl (hb hby d24_18) rfl k) ?_
  have ne_sa_b1 : sa ≠ b1 := by first | exact Nat.ne_of_lt (by omega) | exact Nat.ne_of_gt (by omega)
  have cx12 : Arv Z T8.heap sa ks .char (2 : Int32) [.int v0, .int v1] (.int 0) := (cx6.keep K8q (ninS ne_sa_b1 nin0))
  obtain ⟨cl13, Ar13, q13, S13, M13, H13, U13⟩ := id cx12
  have hin13 : ¬ ((1 : Int32) < 0 ∨ cl13.slots.size ≤ ((1 : Int32)).toNatClampNeg) := inb_of S13 ⟨by decide, by decide⟩
  refine ov T8 20 A_4 [.int v1, .int 1, .ref b1] (fun t k => X8.caload hx (j := (1 : Int32)) (v := (.int v1)) (by first | (rw [rfl]; exact Ar13.1) | exact Ar13.1) (State.isArrayOf_alike hZ.alike Ar13.2.1) Ar13.2.2 hin13 (Has.at H13 hin13 rfl) (g := (mkF m 19 A_4 [.int 1, .ref sa, .int 1, .ref b1])) rfl rfl (hb hby d24_19) _ k) ?_
  obtain ⟨_, _, ⟨T14, Lp14, kp14, np14⟩, -, X14, ⟨Lc14, hQ14, l14, y14, z14⟩, st14⟩ := Jvm.LawKit.callS X8 hx (y := mt2) hown (mvT hZ (wd114 hw)) (mvT hZ (wd115 hw)) (mvT hZ (wd93 hw)) (mvT hZ (wd116 hw)) (by decide) (backOf (W := 0) (own_put l Z a0 hw [] b1 kb1 (4 : Int32) (own_L4 v0) (1 : Int32) v1 T8.heap n0 O10 zf_S_java_lang_StringUTF16__assertionsDisabled zf_S_java_lang_StringUTF16_HI_BYTE_SHIFT zf_S_java_lang_StringUTF16_LO_BYTE_SHIFT f8_0c (by decide) (by decide) (by decide) (by decide) (Nat.le_of_ble_eq_true rfl) (Nat.le_of_ble_eq_true rfl) (by omega)) hZ (wd116 hw) (wd93 hw) (by decide) (by decide)) (g := (mkF m 20 A_4 [.int v1, .int 1, .ref b1])) rfl (by rw [hml]; rfl) (argsL := [.ref b1, .int 1, .int v1]) (rest := []) (lenOf pd___BII_V_470 rfl) rfl (by show 2 * 0 + _ ≤ _; exact Nat.le_of_eq rfl) (hb hby d24_20) (fun _ _ => ⟨rfl, rfl, (by decide : 1 + 0 ≤ _), (by decide : 4 + 0 ≤ _)⟩)
  dsimp only [Pt.U, Pt.locs, Pt.cells, Pt.slots] at X14 l14 y14 z14 st14 hQ14
  subst Lp14 kp14 np14
  obtain ⟨rfl, N14q, K14q, f14_0⟩ := hQ14
  have N14 := Fr.app N8 N14q
  have sz15 : T8.heap.size ≤ T14.heap.size := K14q.1
  have O16 : Old Z n0 T14.heap := O10.keep K14q (allS (by omega : n0 ≤ b1) all0)
  have K17 : Keep h0 T14.heap [] := K11.trans K14q (allS (P := fun x => x ∈ [] ∨ h0.size ≤ x) (Or.inr (by omega)) all0)
  have f14_0c : Arv Z T14.heap b1 kb1 .byte (4 : Int32) (own_L2 v0 v1) (.int 0) := f14_0
  refine ov T14 23 A_4 [] st14 ?_
  refine ov T14 26 #[.val (.ref sa), .val (.int 2), .val (.int 2), .val (.ref b1), .val (.int 1)] [] (fun t k => XS.iinc X14.here hx rfl (hb hby d24_23) rfl (l' := #[.val (.ref sa), .val (.int 2), .val (.int 2), .val (.ref b1), .val (.int 1)]) rfl k) ?_
  let A_5 : Array Slot := #[.val (.ref sa), .val (.int 2), .val (.int 2), .val (.ref b1), .val (.int 2)]
  refine ov T14 29 A_5 [] (fun t k => XS.iinc X14.here hx rfl (hb hby d24_26) rfl (l' := A_5) rfl k) ?_
  refine ov T14 8 A_5 [] (fun t k => XS.goto X14.here hx rfl (pc0 := 29) (pc' := 8) rfl (hb hby d24_29) (by decide) (by decide) k) ?_
  refine ov T14 10 A_5 [.int 2] (fun t k => XS.iload X14.here hx rfl (hb hby d24_8) rfl k) ?_
  refine ov T14 11 A_5 [.int 2, .int 2] (fun t k => XS.iloadN X14.here hx rfl (hb hby d24_10) rfl k) ?_
  refine ov T14 32 A_5 [] (fun t k => XS.icmpYes X14.here hx rfl (pc0 := 11) (pc' := 32) rfl (hb hby d24_11) rfl (flt (by decide : ¬ ((2 : Int32) < (2 : Int32)))).2.1 (by decide) (by decide) k) ?_
  refine ov T14 33 A_5 [.ref b1] (fun t k => XS.aloadN X14.here hx rfl (hb hby d24_32) rfl rfl k) ?_
  refine own_ret (Q := Q_own_tob2 Z sa ks v0 v1 h0 n0) (C := rm2_1_4_24.cells) (N := rm2_1_4_24.slots) X14 (v := some (.ref b1)) (fun h => by rw [Bd.returns] at h; cases h) Bd.notSynchronized ?_ (by decide) (by decide) (fun fs hr => retOut X14 hx Bd.returns rfl (Or.inr (Or.inr (Or.inr (Or.inr ⟨rfl, rfl, rfl⟩)))) (hb hby d24_33) hr)
  show Q_own_tob2 Z sa ks v0 v1 h0 n0 _ T14.heap _
  exact ⟨b1, kb1, rfl, N14, K17, f14_0c, (by omega)⟩
def Q_own_c3_2 (Z : State) (sa : Addr) (ks : ClassId) (v0 : Int32) (v1 : Int32) (h0 : Heap) (n0 : Nat) (v : Option Value) (h : Heap) (L : List Loc) : Prop := ∃ b : Addr, ∃ kb : ClassId, v = some (.ref b) ∧ Fr n0 L ∧ Keep h0 h [] ∧ Arv Z h b kb .byte (4 : Int32) (own_L2 v0 v1) (.int 0) ∧ (h0.size ≤ b)
set_option maxRecDepth 65536 in
set_option maxHeartbeats 40000000 in
theorem own_c3_2 (l : Launch) (Z : State) (a0 : Array Value) (hw : ∀ d ∈ tables_1, d.before a0 Z = true) (ws : List Jvm.Cond) (sa : Addr) (ks : ClassId) (v0 : Int32) (v1 : Int32) (h0 : Heap) (n0 : Nat) (O0 : Old Z n0 h0) (zf_S_java_lang_StringUTF16__assertionsDisabled : Sta Z Z.heap "java/lang/StringUTF16" "$assertionsDisabled" "Z" (.int 1)) (zf_S_java_lang_StringUTF16_HI_BYTE_SHIFT : Sta Z Z.heap "java/lang/StringUTF16" "HI_BYTE_SHIFT" "I" (.int 0)) (zf_S_java_lang_StringUTF16_LO_BYTE_SHIFT : Sta Z Z.heap "java/lang/StringUTF16" "LO_BYTE_SHIFT" "I" (.int 8)) (f0_A_sa : Arv Z h0 sa ks .char (2 : Int32) [.int v0, .int v1] (.int 0)) (qv0 : ¬ v0 < (1 : Int32) ∧ ¬ (65535 : Int32) < v0) (qv1 : ¬ v1 < (1 : Int32) ∧ ¬ (65535 : Int32) < v1) (hU : (255 : Int32) < v0 ∨ (255 : Int32) < v1) :
    MetFree l mt8 (head1 (Jvm.Cond.code mt8 jdk_52_method_16_code 6 (some (.array .byte)) :: ws) rm3_2_6_40) (fun aq U => aq = #[.ref sa, .int 0, .int 2] ∧ Z.Warmed39 U.vm ∧ U.heap = h0) (fun _ _ _ _ _ => True) (fun _ U o U' => ∃ v L, o = .returned v ∧ Q_own_c3_2 Z sa ks v0 v1 h0 n0 v U'.heap L ∧ FrameEnd U o U' L rm3_2_6_40.cells rm3_2_6_40.slots) := by
  refine MetFree.of_bodySF (plainFor_of_name pn_java_lang_StringUTF16) hisR ?_
  intro p e s m args below meth c s₁ Bd hml0 hP hK
  obtain ⟨rfl, hZ, hh⟩ := hP
  have hx := Bd.exec
  have hby := Bd.bytes
  have hml : c.maxLocals = 6 := hml0
  have hown : s.vm.findClass "java/lang/StringUTF16" = some m.cls := findClass_of_methodNamed Bd.named
  have hnm := (name_of_methodNamed Bd.named Bd.method).1
  have X0 : Stand p l e rm3_2_6_40 s m #[.ref sa, .int 0, .int 2] below meth c s₁ [] 0 0 := Stand.of_body Bd
  have e0 : s₁.heap = h0 := by rw [← hh, Bd.state]; rfl
  have N0 := Fr.nil n0
  have zO := O0.1
  have zO2 := O0.2.1
  have fl_A_sa : h0.size > sa := f0_A_sa.lt
  refine own_open (own_via (S' := s₁.setTop (mkF m 0 #[.val (.ref sa), .val (.int 0), .val (.int 2), .unset, .unset, .unset] [])) (fun t k => castTop (ef_own_c3_2 m sa (0 : Int32) (2 : Int32)) k) ?_)
  have K0 : Keep h0 h0 [] := Keep.refl _ _
  let A_1 : Array Slot := #[.val (.ref sa), .val (.int 0), .val (.int 2), .unset, .unset, .unset]
  refine ov s₁ 1 A_1 [.int 2] (fun t k => XS.iloadN X0.here hx rfl (hb hby d20_0) rfl k) ?_
  obtain ⟨T1, h1, k1, X1, e1, E1, A1, st1⟩ := newP (aty := .byte) X0 hx hZ (wd21 hw) e0 (g := (mkF m 1 A_1 [.int 2])) rfl (hb hby d20_1) rfl (by decide : ¬ ((2 : Int32) < (0 : Int32))) (cap := 2) (by decide) (by decide) (by decide) (by decide)
  obtain ⟨b1, g1⟩ : ∃ z, z = h0.size := ⟨_, rfl⟩
  rw [← g1] at A1 st1
  have lt_b1 : h1.size > b1 := A1.lt
  have sz2 : h0.size ≤ h1.size := E1.1
  have O3 : Old Z n0 h1 := O0.ext E1
  have K4 : Keep h0 h1 [] := K0.ext E1
  have V1 : Arv Z h1 b1 k1 .byte (2 : Int32) [.int 0, .int 0] (.int 0) := (Arv.new A1 (by decide)).pad (pad_rep [] (.int 0) 2)
  refine ov T1 3 A_1 [.ref b1] st1 ?_
  let A_2 : Array Slot := #[.val (.ref sa), .val (.int 0), .val (.int 2), .val (.ref b1), .unset, .unset]
  refine ov T1 4 A_2 [] (fun t k => XS.astoreN X1.here hx rfl (hb hby d20_3) rfl rfl (l' := A_2) rfl k) ?_
  refine ov T1 5 A_2 [.ref sa] (fun t k => XS.aloadN X1.here hx rfl (hb hby d20_4) rfl rfl k) ?_
  refine ov T1 6 A_2 [.int 0, .ref sa] (fun t k => XS.iloadN X1.here hx rfl (hb hby d20_5) rfl k) ?_
  refine ov T1 7 A_2 [.ref b1, .int 0, .ref sa] (fun t k => XS.aloadN X1.here hx rfl (hb hby d20_6) rfl rfl k) ?_
  refine ov T1 8 A_2 [.int 0, .ref b1, .int 0, .ref sa] (fun t k => XS.iconst X1.here hx rfl (hb hby d20_7) k) ?_
  refine ov T1 9 A_2 [.int 2, .int 0, .ref b1, .int 0, .ref sa] (fun t k => XS.iloadN X1.here hx rfl (hb hby d20_8) rfl k) ?_
  have cx6 : Arv Z h1 sa ks .char (2 : Int32) [.int v0, .int v1] (.int 0) := (f0_A_sa.ext E1)
  obtain ⟨_, _, ⟨T5, Lp5, kp5, np5⟩, -, X5, ⟨Lc5, hQ5, l5, y5, z5⟩, st5⟩ := Jvm.LawKit.callS X1 hx (y := mt6) hown (mvT hZ (wd95 hw)) (mvT hZ (wd96 hw)) (mvT hZ (wd93 hw)) (mvT hZ (wd97 hw)) (by decide) (backOf (W := 0) (own_cx2 l Z a0 hw [] sa ks b1 k1 v0 v1 h1 n0 O3 cx6 V1 hU (by omega) (by first | assumption | exact Ne.symm (by assumption) | omega | exact Nat.ne_of_lt (by omega) | exact Nat.ne_of_gt (by omega) | decide | exact Nat.le_of_ble_eq_true rfl)) hZ (wd97 hw) (wd93 hw) (by decide) (by decide)) (g := (mkF m 9 A_2 [.int 2, .int 0, .ref b1, .int 0, .ref sa])) rfl (by rw [hml]; rfl) (argsL := [.ref sa, .int 0, .ref b1, .int 0, .int 2]) (rest := []) (lenOf pd___CI_BII_I_688 rfl) rfl (by show 2 * 0 + _ ≤ _; exact Nat.le_of_eq rfl) (hb hby d20_9) (fun _ _ => ⟨rfl, e1, (by decide : 1 + 0 ≤ _), (by decide : 2 + 0 ≤ _)⟩)
  dsimp only [Pt.U, Pt.locs, Pt.cells, Pt.slots] at X5 l5 y5 z5 st5 hQ5
  subst Lp5 kp5 np5
  obtain ⟨z5, rfl, N5q, K5q, pp5_0⟩ := hQ5
  have N5 := Fr.app N0 N5q
  have sz7 : h1.size ≤ T5.heap.size := K5q.1
  have O8 : Old Z n0 T5.heap := O3.keep K5q (allS (by omega : n0 ≤ b1) all0)
  have K9 : Keep h0 T5.heap [] := K4.trans K5q (allS (P := fun x => x ∈ [] ∨ h0.size ≤ x) (Or.inr (by omega)) all0)
  refine ov T5 12 A_2 [.int z5] st5 ?_
  rcases pp5_0 with ⟨hz, hv⟩ | ⟨hz, hv⟩
  · -- 0
    rw [hz]
    let A_3 : Array Slot := #[.val (.ref sa), .val (.int 0), .val (.int 2), .val (.ref b1), .val (.int 0), .unset]
    refine ov T5 14 A_3 [] (fun t k => XS.istore X5.here hx rfl (hb hby d20_12) rfl (l' := A_3) rfl k) ?_
    refine ov T5 16 A_3 [.int 0] (fun t k => XS.iload X5.here hx rfl (hb hby d20_14) rfl k) ?_
    refine ov T5 17 A_3 [.int 2, .int 0] (fun t k => XS.iloadN X5.here hx rfl (hb hby d20_16) rfl k) ?_
    refine ov T5 20 A_3 [] (fun t k => XS.icmpNo X5.here hx rfl (hb hby d20_17) rfl (feq (by decide : ¬ ((0 : Int32) = (2 : Int32)))).1 k) ?_
    refine ov T5 21 A_3 [.ref sa] (fun t k => XS.aloadN X5.here hx rfl (hb hby d20_20) rfl rfl k) ?_
    refine ov T5 22 A_3 [.int 0, .ref sa] (fun t k => XS.iloadN X5.here hx rfl (hb hby d20_21) rfl k) ?_
    refine ov T5 23 A_3 [.int 2, .int 0, .ref sa] (fun t k => XS.iloadN X5.here hx rfl (hb hby d20_22) rfl k) ?_
    have ne_sa_b1 : sa ≠ b1 := by first | exact Nat.ne_of_lt (by omega) | exact Nat.ne_of_gt (by omega)
    have cx11 : Arv Z T5.heap sa ks .char (2 : Int32) [.int v0, .int v1] (.int 0) := (cx6.keep K5q (ninS ne_sa_b1 nin0))
    obtain ⟨_, _, ⟨T10, Lp10, kp10, np10⟩, -, X10, ⟨Lc10, hQ10, l10, y10, z10⟩, st10⟩ := Jvm.LawKit.callS X5 hx (y := mt7) hown (mvT hZ (wd104 hw)) (mvT hZ (wd105 hw)) (mvT hZ (wd93 hw)) (mvT hZ (wd106 hw)) (by decide) (backOf (W := 0) (own_tob2 l Z a0 hw [] sa ks v0 v1 T5.heap n0 O8 zf_S_java_lang_StringUTF16__assertionsDisabled zf_S_java_lang_StringUTF16_HI_BYTE_SHIFT zf_S_java_lang_StringUTF16_LO_BYTE_SHIFT cx11) hZ (wd106 hw) (wd93 hw) (by decide) (by decide)) (g := (mkF m 23 A_3 [.int 2, .int 0, .ref sa])) rfl (by rw [hml]; rfl) (argsL := [.ref sa, .int 0, .int 2]) (rest := []) (lenOf pd___CII__B_542 rfl) rfl (by show 2 * 0 + _ ≤ _; exact Nat.le_of_eq rfl) (hb hby d20_23) (fun _ _ => ⟨rfl, rfl, (by decide : 1 + 1 ≤ _), (by decide : 2 + 4 ≤ _)⟩)
    dsimp only [Pt.U, Pt.locs, Pt.cells, Pt.slots] at X10 l10 y10 z10 st10 hQ10
    subst Lp10 kp10 np10
    obtain ⟨b10, kb10, rfl, N10q, K10q, f10_0, pp10_0⟩ := hQ10
    have N10 := Fr.app N5 N10q
    have sz12 : T5.heap.size ≤ T10.heap.size := K10q.1
    have O13 : Old Z n0 T10.heap := O8.keep K10q all0
    have K14 : Keep h0 T10.heap [] := K9.trans K10q all0
    have lt15_b10 : T10.heap.size > b10 := f10_0.lt
    refine ov T10 26 A_3 [.ref b10] st10 ?_
    let A_4 : Array Slot := #[.val (.ref sa), .val (.int 0), .val (.int 2), .val (.ref b1), .val (.int 0), .val (.ref b10)]
    refine ov T10 28 A_4 [] (fun t k => XS.astore X10.here hx rfl (hb hby d20_26) rfl rfl (l' := A_4) rfl k) ?_
    refine ov T10 30 A_4 [.ref b10] (fun t k => XS.aload X10.here hx rfl (hb hby d20_28) rfl rfl k) ?_
    refine ov T10 32 A_4 [.int 0, .ref b10] (fun t k => XS.iload X10.here hx rfl (hb hby d20_30) rfl k) ?_
    obtain ⟨_, _, ⟨T16, Lp16, kp16, np16⟩, -, X16, ⟨Lc16, hQ16, l16, y16, z16⟩, st16⟩ := Jvm.LawKit.callS X10 hx (y := mt3) hown (mvT hZ (wd120 hw)) (mvT hZ (wd121 hw)) (mvT hZ (wd93 hw)) (mvT hZ (wd122 hw)) (by decide) (backOf (W := 0) (own_gc l Z a0 hw [] b10 kb10 (4 : Int32) (own_L2 v0 v1) (0 : Int32) v0 T10.heap n0 O13 zf_S_java_lang_StringUTF16__assertionsDisabled zf_S_java_lang_StringUTF16_HI_BYTE_SHIFT zf_S_java_lang_StringUTF16_LO_BYTE_SHIFT f10_0 (by decide) (by decide) (by decide) (by decide) rfl rfl qv0) hZ (wd122 hw) (wd93 hw) (by decide) (by decide)) (g := (mkF m 32 A_4 [.int 0, .ref b10])) rfl (by rw [hml]; rfl) (argsL := [.ref b10, .int 0]) (rest := []) (lenOf pd___BI_C_378 rfl) rfl (by show 2 * 0 + _ ≤ _; exact Nat.le_of_eq rfl) (hb hby d20_32) (fun _ _ => ⟨rfl, rfl, (by decide : 2 + 0 ≤ _), (by decide : 6 + 0 ≤ _)⟩)
    dsimp only [Pt.U, Pt.locs, Pt.cells, Pt.slots] at X16 l16 y16 z16 st16 hQ16
    subst Lp16 kp16 np16
    obtain ⟨rfl, rfl, e16⟩ := hQ16
    try rw [List.append_nil] at X16
    refine ov T16 35 A_4 [.int v0] st16 ?_
    refine ov T16 38 A_4 [.int 255, .int v0] (fun t k => XS.sipush X16.here hx rfl (hb hby d20_35) k) ?_
    refine ov T16 54 A_4 [] (fun t k => XS.icmpYes X16.here hx rfl (pc0 := 38) (pc' := 54) rfl (hb hby d20_38) rfl (tlt hv).2.2.1 (by decide) (by decide) k) ?_
    refine ov T16 56 A_4 [.ref b10] (fun t k => XS.aload X16.here hx rfl (hb hby d20_54) rfl rfl k) ?_
    refine own_ret (Q := Q_own_c3_2 Z sa ks v0 v1 h0 n0) (C := rm3_2_6_40.cells) (N := rm3_2_6_40.slots) X16 (v := some (.ref b10)) (fun h => by rw [Bd.returns] at h; cases h) Bd.notSynchronized ?_ (by decide) (by decide) (fun fs hr => retOut X16 hx Bd.returns rfl (Or.inr (Or.inr (Or.inr (Or.inr ⟨rfl, rfl, rfl⟩)))) (hb hby d20_56) hr)
    show Q_own_c3_2 Z sa ks v0 v1 h0 n0 _ T16.heap _
    rw [e16]
    exact ⟨b10, kb10, rfl, N10, K14, f10_0, (by omega)⟩
  · -- 1
    rw [hz]
    let A_5 : Array Slot := #[.val (.ref sa), .val (.int 0), .val (.int 2), .val (.ref b1), .val (.int 1), .unset]
    refine ov T5 14 A_5 [] (fun t k => XS.istore X5.here hx rfl (hb hby d20_12) rfl (l' := A_5) rfl k) ?_
    refine ov T5 16 A_5 [.int 1] (fun t k => XS.iload X5.here hx rfl (hb hby d20_14) rfl k) ?_
    refine ov T5 17 A_5 [.int 2, .int 1] (fun t k => XS.iloadN X5.here hx rfl (hb hby d20_16) rfl k) ?_
    refine ov T5 20 A_5 [] (fun t k => XS.icmpNo X5.here hx rfl (hb hby d20_17) rfl (feq (by decide : ¬ ((1 : Int32) = (2 : Int32)))).1 k) ?_
    refine ov T5 21 A_5 [.ref sa] (fun t k => XS.aloadN X5.here hx rfl (hb hby d20_20) rfl rfl k) ?_
    refine ov T5 22 A_5 [.int 0, .ref sa] (fun t k => XS.iloadN X5.here hx rfl (hb hby d20_21) rfl k) ?_
    refine ov T5 23 A_5 [.int 2, .int 0, .ref sa] (fun t k => XS.iloadN X5.here hx rfl (hb hby d20_22) rfl k) ?_
    have ne_sa_b1 : sa ≠ b1 := by first | exact Nat.ne_of_lt (by omega) | exact Nat.ne_of_gt (by omega)
    have cx18 : Arv Z T5.heap sa ks .char (2 : Int32) [.int v0, .int v1] (.int 0) := (cx6.keep K5q (ninS ne_sa_b1 nin0))
    obtain ⟨_, _, ⟨T17, Lp17, kp17, np17⟩, -, X17, ⟨Lc17, hQ17, l17, y17, z17⟩, st17⟩ := Jvm.LawKit.callS X5 hx (y := mt7) hown (mvT hZ (wd104 hw)) (mvT hZ (wd105 hw)) (mvT hZ (wd93 hw)) (mvT hZ (wd106 hw)) (by decide) (backOf (W := 0) (own_tob2 l Z a0 hw [] sa ks v0 v1 T5.heap n0 O8 zf_S_java_lang_StringUTF16__assertionsDisabled zf_S_java_lang_StringUTF16_HI_BYTE_SHIFT zf_S_java_lang_StringUTF16_LO_BYTE_SHIFT cx18) hZ (wd106 hw) (wd93 hw) (by decide) (by decide)) (g := (mkF m 23 A_5 [.int 2, .int 0, .ref sa])) rfl (by rw [hml]; rfl) (argsL := [.ref sa, .int 0, .int 2]) (rest := []) (lenOf pd___CII__B_542 rfl) rfl (by show 2 * 0 + _ ≤ _; exact Nat.le_of_eq rfl) (hb hby d20_23) (fun _ _ => ⟨rfl, rfl, (by decide : 1 + 1 ≤ _), (by decide : 2 + 4 ≤ _)⟩)
    dsimp only [Pt.U, Pt.locs, Pt.cells, Pt.slots] at X17 l17 y17 z17 st17 hQ17
    subst Lp17 kp17 np17
    obtain ⟨b17, kb17, rfl, N17q, K17q, f17_0, pp17_0⟩ := hQ17
    have N17 := Fr.app N5 N17q
    have sz19 : T5.heap.size ≤ T17.heap.size := K17q.1
    have O20 : Old Z n0 T17.heap := O8.keep K17q all0
    have K21 : Keep h0 T17.heap [] := K9.trans K17q all0
    have lt22_b17 : T17.heap.size > b17 := f17_0.lt
    refine ov T17 26 A_5 [.ref b17] st17 ?_
    let A_6 : Array Slot := #[.val (.ref sa), .val (.int 0), .val (.int 2), .val (.ref b1), .val (.int 1), .val (.ref b17)]
    refine ov T17 28 A_6 [] (fun t k => XS.astore X17.here hx rfl (hb hby d20_26) rfl rfl (l' := A_6) rfl k) ?_
    refine ov T17 30 A_6 [.ref b17] (fun t k => XS.aload X17.here hx rfl (hb hby d20_28) rfl rfl k) ?_
    refine ov T17 32 A_6 [.int 1, .ref b17] (fun t k => XS.iload X17.here hx rfl (hb hby d20_30) rfl k) ?_
    obtain ⟨_, _, ⟨T23, Lp23, kp23, np23⟩, -, X23, ⟨Lc23, hQ23, l23, y23, z23⟩, st23⟩ := Jvm.LawKit.callS X17 hx (y := mt3) hown (mvT hZ (wd120 hw)) (mvT hZ (wd121 hw)) (mvT hZ (wd93 hw)) (mvT hZ (wd122 hw)) (by decide) (backOf (W := 0) (own_gc l Z a0 hw [] b17 kb17 (4 : Int32) (own_L2 v0 v1) (1 : Int32) v1 T17.heap n0 O20 zf_S_java_lang_StringUTF16__assertionsDisabled zf_S_java_lang_StringUTF16_HI_BYTE_SHIFT zf_S_java_lang_StringUTF16_LO_BYTE_SHIFT f17_0 (by decide) (by decide) (by decide) (by decide) rfl rfl qv1) hZ (wd122 hw) (wd93 hw) (by decide) (by decide)) (g := (mkF m 32 A_6 [.int 1, .ref b17])) rfl (by rw [hml]; rfl) (argsL := [.ref b17, .int 1]) (rest := []) (lenOf pd___BI_C_378 rfl) rfl (by show 2 * 0 + _ ≤ _; exact Nat.le_of_eq rfl) (hb hby d20_32) (fun _ _ => ⟨rfl, rfl, (by decide : 2 + 0 ≤ _), (by decide : 6 + 0 ≤ _)⟩)
    dsimp only [Pt.U, Pt.locs, Pt.cells, Pt.slots] at X23 l23 y23 z23 st23 hQ23
    subst Lp23 kp23 np23
    obtain ⟨rfl, rfl, e23⟩ := hQ23
    try rw [List.append_nil] at X23
    refine ov T23 35 A_6 [.int v1] st23 ?_
    refine ov T23 38 A_6 [.int 255, .int v1] (fun t k => XS.sipush X23.here hx rfl (hb hby d20_35) k) ?_
    refine ov T23 54 A_6 [] (fun t k => XS.icmpYes X23.here hx rfl (pc0 := 38) (pc' := 54) rfl (hb hby d20_38) rfl (tlt hv).2.2.1 (by decide) (by decide) k) ?_
    refine ov T23 56 A_6 [.ref b17] (fun t k => XS.aload X23.here hx rfl (hb hby d20_54) rfl rfl k) ?_
    refine own_ret (Q := Q_own_c3_2 Z sa ks v0 v1 h0 n0) (C := rm3_2_6_40.cells) (N := rm3_2_6_40.slots) X23 (v := some (.ref b17)) (fun h => by rw [Bd.returns] at h; cases h) Bd.notSynchronized ?_ (by decide) (by decide) (fun fs hr => retOut X23 hx Bd.returns rfl (Or.inr (Or.inr (Or.inr (Or.inr ⟨rfl, rfl, rfl⟩)))) (hb hby d20_56) hr)
    show Q_own_c3_2 Z sa ks v0 v1 h0 n0 _ T23.heap _
    rw [e23]
    exact ⟨b17, kb17, rfl, N17, K21, f17_0, (by omega)⟩
def Q_own_cfa2 (Z : State) (b : Addr) (kb : ClassId) (ys : List Value) (h0 : Heap) (n0 : Nat) (v : Option Value) (h : Heap) (L : List Loc) : Prop := v = some (.int 1) ∧ L = [] ∧ h = h0
set_option maxRecDepth 65536 in
set_option maxHeartbeats 40000000 in
theorem own_cfa2 (l : Launch) (Z : State) (a0 : Array Value) (hw : ∀ d ∈ tables_1, d.before a0 Z = true) (ws : List Jvm.Cond) (b : Addr) (kb : ClassId) (ys : List Value) (h0 : Heap) (n0 : Nat) (O0 : Old Z n0 h0) (f0_A_b : Arv Z h0 b kb .byte (4 : Int32) ys (.int 0)) :
    MetFree l mt9 (head1 (Jvm.Cond.code mt9 jdk_52_method_15_code 2 (some .byte) :: ws) rm0_0_0_0) (fun aq U => aq = #[.ref b, .int 2] ∧ Z.Warmed39 U.vm ∧ U.heap = h0) (fun _ _ _ _ _ => True) (fun _ U o U' => ∃ v L, o = .returned v ∧ Q_own_cfa2 Z b kb ys h0 n0 v U'.heap L ∧ FrameEnd U o U' L rm0_0_0_0.cells rm0_0_0_0.slots) := by
  refine MetFree.of_bodySF (plainFor_of_name pn_java_lang_StringUTF16) hisR ?_
  intro p e s m args below meth c s₁ Bd hml0 hP hK
  obtain ⟨rfl, hZ, hh⟩ := hP
  have hx := Bd.exec
  have hby := Bd.bytes
  have hml : c.maxLocals = 2 := hml0
  have hown : s.vm.findClass "java/lang/StringUTF16" = some m.cls := findClass_of_methodNamed Bd.named
  have hnm := (name_of_methodNamed Bd.named Bd.method).1
  have X0 : Stand p l e rm0_0_0_0 s m #[.ref b, .int 2] below meth c s₁ [] 0 0 := Stand.of_body Bd
  have e0 : s₁.heap = h0 := by rw [← hh, Bd.state]; rfl
  have N0 := Fr.nil n0
  have zO := O0.1
  have zO2 := O0.2.1
  have fl_A_b : h0.size > b := f0_A_b.lt
  refine own_open (own_via (S' := s₁.setTop (mkF m 0 #[.val (.ref b), .val (.int 2)] [])) (fun t k => castTop (ef_own_cfa2 m b (2 : Int32)) k) ?_)
  refine ov s₁ 1 #[.val (.ref b), .val (.int 2)] [.int 2] (fun t k => XS.iloadN X0.here hx rfl (hb hby d22_0) rfl k) ?_
  refine ov s₁ 2 #[.val (.ref b), .val (.int 2)] [.ref b, .int 2] (fun t k => XS.aloadN X0.here hx rfl (hb hby d22_1) rfl rfl k) ?_
  obtain ⟨cl1, Ar1, -, S1, N1, -, -⟩ := id f0_A_b
  refine ov s₁ 3 #[.val (.ref b), .val (.int 2)] [.int 4, .int 2] (fun t k => X0.arraylength hx (by first | (rw [e0]; exact Ar1.1) | exact Ar1.1) (State.isArrayOf_alike hZ.alike Ar1.2.1) (g := (mkF m 2 #[.val (.ref b), .val (.int 2)] [.ref b, .int 2])) rfl rfl (hb hby d22_2) _ (by rw [len_of S1 N1]; exact k)) ?_
  refine ov s₁ 4 #[.val (.ref b), .val (.int 2)] [(.int (-2))] (fun t k => XS.isub X0.here hx rfl (hb hby d22_3) rfl k) ?_
  refine ov s₁ 6 #[.val (.ref b), .val (.int 2)] [.int 31, (.int (-2))] (fun t k => XS.bipush X0.here hx rfl (hb hby d22_4) k) ?_
  refine ov s₁ 7 #[.val (.ref b), .val (.int 2)] [.int 1] (fun t k => XS.iushr X0.here hx rfl (hb hby d22_6) rfl k) ?_
  refine ov s₁ 8 #[.val (.ref b), .val (.int 2)] [.int 1] (fun t k => XS.i2b X0.here hx rfl (hb hby d22_7) rfl k) ?_
  refine own_ret (Q := Q_own_cfa2 Z b kb ys h0 n0) (C := rm0_0_0_0.cells) (N := rm0_0_0_0.slots) X0 (v := some (.int 1)) (fun h => by rw [Bd.returns] at h; cases h) Bd.notSynchronized ?_ (by decide) (by decide) (fun fs hr => retN X0 hx (t := .byte) Bd.returns (by simp) (hb hby d22_8) hr)
  show Q_own_cfa2 Z b kb ys h0 n0 _ s₁.heap _
  rw [e0]
  exact ⟨rfl, rfl, rfl⟩
def Q_own_n4_2 (Z : State) (a : Addr) (bc : Addr) (kc : ClassId) (zc : Int32) (v0 : Int32) (v1 : Int32) (h0 : Heap) (n0 : Nat) (v : Option Value) (h : Heap) (L : List Loc) : Prop := ∃ tb : Addr, ∃ kb : ClassId, v = none ∧ Fr n0 L ∧ Keep h0 h [a] ∧ Fld Z h a "java/lang/String" "value" "[B" (.ref tb) ∧ Fld Z h a "java/lang/String" "coder" "B" (.int 1) ∧ Arv Z h tb kb .byte (4 : Int32) (own_L2 v0 v1) (.int 0)
set_option maxRecDepth 65536 in
set_option maxHeartbeats 40000000 in
theorem own_n4_2 (l : Launch) (Z : State) (a0 : Array Value) (hw : ∀ d ∈ tables_1, d.before a0 Z = true) (ws : List Jvm.Cond) (a : Addr) (bc : Addr) (kc : ClassId) (zc : Int32) (v0 : Int32) (v1 : Int32) (h0 : Heap) (n0 : Nat) (O0 : Old Z n0 h0) (zfC : Sta Z Z.heap "java/lang/String" "COMPACT_STRINGS" "Z" (.int zc)) (zf_S_java_lang_StringUTF16__assertionsDisabled : Sta Z Z.heap "java/lang/StringUTF16" "$assertionsDisabled" "Z" (.int 1)) (zf_S_java_lang_StringUTF16_HI_BYTE_SHIFT : Sta Z Z.heap "java/lang/StringUTF16" "HI_BYTE_SHIFT" "I" (.int 0)) (zf_S_java_lang_StringUTF16_LO_BYTE_SHIFT : Sta Z Z.heap "java/lang/StringUTF16" "LO_BYTE_SHIFT" "I" (.int 8)) (f0_E_a : Exa Z h0 a "java/lang/String") (f0_F_a_value : Fld Z h0 a "java/lang/String" "value" "[B" .null) (f0_F_a_coder : Fld Z h0 a "java/lang/String" "coder" "B" (.int 0)) (f0_A_bc : Arv Z h0 bc kc .char (2 : Int32) [.int v0, .int v1] (.int 0)) (hzc : ¬ (zc = (0 : Int32))) (qv0 : ¬ v0 < (1 : Int32) ∧ ¬ (65535 : Int32) < v0) (qv1 : ¬ v1 < (1 : Int32) ∧ ¬ (65535 : Int32) < v1) (hU : (255 : Int32) < v0 ∨ (255 : Int32) < v1) (g_a : n0 ≤ a) :
    MetFree l mt0 (head1 (Jvm.Cond.code mt0 jdk_42_method_149_code 6 none :: ws) rm4_2_6_57) (fun aq U => aq = #[.ref a, .ref bc, .int 0, .int 2, .null] ∧ Z.Warmed39 U.vm ∧ U.heap = h0) (fun _ _ _ _ _ => True) (fun _ U o U' => ∃ v L, o = .returned v ∧ Q_own_n4_2 Z a bc kc zc v0 v1 h0 n0 v U'.heap L ∧ FrameEnd U o U' L rm4_2_6_57.cells rm4_2_6_57.slots) := by
  refine MetFree.of_bodySF (plainFor_of_name pn_java_lang_String) hisR ?_
  intro p e s m args below meth c s₁ Bd hml0 hP hK
  obtain ⟨rfl, hZ, hh⟩ := hP
  have hx := Bd.exec
  have hby := Bd.bytes
  have hml : c.maxLocals = 6 := hml0
  have hown : s.vm.findClass "java/lang/String" = some m.cls := findClass_of_methodNamed Bd.named
  have hnm := (name_of_methodNamed Bd.named Bd.method).1
  have X0 : Stand p l e rm4_2_6_57 s m #[.ref a, .ref bc, .int 0, .int 2, .null] below meth c s₁ [] 0 0 := Stand.of_body Bd
  have e0 : s₁.heap = h0 := by rw [← hh, Bd.state]; rfl
  have N0 := Fr.nil n0
  have zO := O0.1
  have zO2 := O0.2.1
  have fl_E_a : h0.size > a := f0_E_a.lt
  have fl_F_a_value : h0.size > a := f0_F_a_value.lt
  have fl_F_a_coder : h0.size > a := f0_F_a_coder.lt
  have fl_A_bc : h0.size > bc := f0_A_bc.lt
  refine own_open (own_via (S' := s₁.setTop (mkF m 0 #[.val (.ref a), .val (.ref bc), .val (.int 0), .val (.int 2), .val .null, .unset] [])) (fun t k => castTop (ef_own_n4_2 m a bc (0 : Int32) (2 : Int32)) k) ?_)
  have K0 : Keep h0 h0 [a] := Keep.refl _ _
  have ne_a_bc : a ≠ bc := Exa.neArv f0_E_a f0_A_bc (wd8 hw)
  let A_1 : Array Slot := #[.val (.ref a), .val (.ref bc), .val (.int 0), .val (.int 2), .val .null, .unset]
  refine ov s₁ 1 A_1 [.ref a] (fun t k => XS.aloadN X0.here hx rfl (hb hby d3_0) rfl rfl k) ?_
  obtain ⟨T1, X1, e1, st1⟩ := initO X0 hx hZ hown (wd17 hw) (wd18 hw) (wd19 hw) e0 (g := (mkF m 1 A_1 [.ref a])) rfl (by rw [hml]; rfl) rfl (hb hby d3_1) (by decide) (W := 0) (by show 2 * 0 + _ ≤ _; exact Nat.le_of_eq rfl) (by decide)
  refine ov T1 4 A_1 [] st1 ?_
  refine ov T1 5 A_1 [.int 2] (fun t k => XS.iloadN X1.here hx rfl (hb hby d3_4) rfl k) ?_
  refine ov T1 27 A_1 [] (fun t k => XS.ifYes X1.here hx rfl (pc0 := 5) (pc' := 27) rfl (hb hby d3_5) rfl ((if0 _ _).trans (feq (by decide : ¬ ((2 : Int32) = (0 : Int32)))).2) (by decide) (by decide) k) ?_
  have cx2 : Sta Z h0 "java/lang/String" "COMPACT_STRINGS" "Z" (.int zc) := zfC.ext O0.2
  obtain ⟨T3, X3, e3, st3⟩ := getS2 X1 hx hZ hown (host := "") (Or.inl (wd31 hw)) Via.refl e1 cx2 (g := (mkF m 27 A_1 [])) rfl (hb hby d3_27)
  refine ov T3 30 A_1 [.int zc] st3 ?_
  refine ov T3 33 A_1 [] (fun t k => XS.ifNo X3.here hx rfl (hb hby d3_30) rfl ((if0 _ _).trans (feq hzc).1) k) ?_
  refine ov T3 34 A_1 [.ref bc] (fun t k => XS.aloadN X3.here hx rfl (hb hby d3_33) rfl rfl k) ?_
  refine ov T3 35 A_1 [.int 0, .ref bc] (fun t k => XS.iloadN X3.here hx rfl (hb hby d3_34) rfl k) ?_
  refine ov T3 36 A_1 [.int 2, .int 0, .ref bc] (fun t k => XS.iloadN X3.here hx rfl (hb hby d3_35) rfl k) ?_
  obtain ⟨_, _, ⟨T4, Lp4, kp4, np4⟩, -, X4, ⟨Lc4, hQ4, l4, y4, z4⟩, st4⟩ := Jvm.LawKit.callS X3 hx (y := mt8) hown (mvT hZ (wd91 hw)) (mvT hZ (wd92 hw)) (mvT hZ (wd93 hw)) (mvT hZ (wd94 hw)) (by decide) (backOf (W := 0) (own_c3_2 l Z a0 hw [] bc kc v0 v1 h0 n0 O0 zf_S_java_lang_StringUTF16__assertionsDisabled zf_S_java_lang_StringUTF16_HI_BYTE_SHIFT zf_S_java_lang_StringUTF16_LO_BYTE_SHIFT f0_A_bc qv0 qv1 hU) hZ (wd94 hw) (wd93 hw) (by decide) (by decide)) (g := (mkF m 36 A_1 [.int 2, .int 0, .ref bc])) rfl (by rw [hml]; rfl) (argsL := [.ref bc, .int 0, .int 2]) (rest := []) (lenOf pd___CII__B_542 rfl) rfl (by show 2 * 0 + _ ≤ _; exact Nat.le_of_eq rfl) (hb hby d3_36) (fun _ _ => ⟨rfl, e3, (by decide : 0 + 2 ≤ _), (by decide : 0 + 6 ≤ _)⟩)
  dsimp only [Pt.U, Pt.locs, Pt.cells, Pt.slots] at X4 l4 y4 z4 st4 hQ4
  subst Lp4 kp4 np4
  obtain ⟨b4, kb4, rfl, N4q, K4q, f4_0, pp4_0⟩ := hQ4
  have N4 := Fr.app N0 N4q
  have sz5 : h0.size ≤ T4.heap.size := K4q.1
  have O6 : Old Z n0 T4.heap := O0.keep K4q all0
  have K7 : Keep h0 T4.heap [a] := K0.trans K4q all0
  have lt8_b4 : T4.heap.size > b4 := f4_0.lt
  refine ov T4 39 A_1 [.ref b4] st4 ?_
  let A_2 : Array Slot := #[.val (.ref a), .val (.ref bc), .val (.int 0), .val (.int 2), .val .null, .val (.ref b4)]
  refine ov T4 41 A_2 [] (fun t k => XS.astore X4.here hx rfl (hb hby d3_39) rfl rfl (l' := A_2) rfl k) ?_
  refine ov T4 42 A_2 [.ref a] (fun t k => XS.aloadN X4.here hx rfl (hb hby d3_41) rfl rfl k) ?_
  refine ov T4 44 A_2 [.ref b4, .ref a] (fun t k => XS.aload X4.here hx rfl (hb hby d3_42) rfl rfl k) ?_
  refine ov T4 45 A_2 [.int 2, .ref b4, .ref a] (fun t k => XS.iloadN X4.here hx rfl (hb hby d3_44) rfl k) ?_
  obtain ⟨_, _, ⟨T9, Lp9, kp9, np9⟩, -, X9, ⟨Lc9, hQ9, l9, y9, z9⟩, st9⟩ := Jvm.LawKit.callS X4 hx (y := mt9) hown (mvT hZ (wd98 hw)) (mvT hZ (wd99 hw)) (mvT hZ (wd93 hw)) (mvT hZ (wd100 hw)) (by decide) (backOf (W := 1) (own_cfa2 l Z a0 hw [] b4 kb4 (own_L2 v0 v1) T4.heap n0 O6 f4_0) hZ (wd100 hw) (wd93 hw) (by decide) (by decide)) (g := (mkF m 45 A_2 [.int 2, .ref b4, .ref a])) rfl (by rw [hml]; rfl) (argsL := [.ref b4, .int 2]) (rest := [.ref a]) (lenOf pd___BI_B_377 rfl) rfl (by show 2 * 0 + _ ≤ _; exact Nat.le_of_eq rfl) (hb hby d3_45) (fun _ _ => ⟨rfl, rfl, (by decide : 2 + 0 ≤ _), (by decide : 6 + 0 ≤ _)⟩)
  dsimp only [Pt.U, Pt.locs, Pt.cells, Pt.slots] at X9 l9 y9 z9 st9 hQ9
  subst Lp9 kp9 np9
  obtain ⟨rfl, rfl, e9⟩ := hQ9
  try rw [List.append_nil] at X9
  refine ov T9 48 A_2 [.int 1, .ref a] st9 ?_
  have cx10 : Exa Z T4.heap a "java/lang/String" := (f0_E_a.keep K4q)
  have cx11 : Fld Z T4.heap a "java/lang/String" "coder" "B" (.int 0) := (f0_F_a_coder.keep K4q nin0)
  obtain ⟨T12, h12, X12, e12, W12, st12⟩ := putFN X9 hx hZ hown (wd27 hw) Via.refl e9 cx11 cx10 (Or.inr ⟨(wd23 hw), rfl, hnm⟩) (wd8 hw) (ty := .byte) (v' := (.int 1)) (by decide) rfl rfl (g := (mkF m 48 A_2 [.int 1, .ref a])) rfl rfl (hb hby d3_48)
  have sz13 : T4.heap.size ≤ h12.size := Nat.le_of_eq W12.size.symm
  have O14 : Old Z n0 h12 := O6.wr W12 (by omega : n0 ≤ a)
  have N12 := Fr.snoc X12 N4 (by omega : n0 ≤ a)
  have K15 : Keep h0 h12 [a] := K7.wr W12 (Or.inl (List.mem_of_getElem? (i := 0) rfl))
  have Fw12 : Fld Z h12 a "java/lang/String" "coder" "B" (.int 1) := Fld.same W12 cx11
  refine ov T12 51 A_2 [] st12 ?_
  refine ov T12 52 A_2 [.ref a] (fun t k => XS.aloadN X12.here hx rfl (hb hby d3_51) rfl rfl k) ?_
  refine ov T12 54 A_2 [.ref b4, .ref a] (fun t k => XS.aload X12.here hx rfl (hb hby d3_52) rfl rfl k) ?_
  have cx16 : Exa Z h12 a "java/lang/String" := (Exa.wr W12 cx10)
  have cx17 : Fld Z h12 a "java/lang/String" "value" "[B" .null := (Fld.other W12 (f0_F_a_value.keep K4q nin0) (Or.inr (slot_ne (Or.inr (wd22 hw)) (Or.inr (wd23 hw)) (by decide) (t := (.array .byte)) (t' := .byte) (by decide) (by decide))))
  obtain ⟨T18, h18, X18, e18, W18, st18⟩ := putF X12 hx hZ hown (host := "") (Or.inl (wd26 hw)) Via.refl e12 cx17 cx16 (Or.inr ⟨(wd22 hw), rfl, hnm⟩) (wd8 hw) (ty := (.array .byte)) (by decide) rfl rfl (g := (mkF m 54 A_2 [.ref b4, .ref a])) rfl rfl (hb hby d3_54)
  have sz19 : h12.size ≤ h18.size := Nat.le_of_eq W18.size.symm
  have O20 : Old Z n0 h18 := O14.wr W18 (by omega : n0 ≤ a)
  have N18 := Fr.snoc X18 N12 (by omega : n0 ≤ a)
  have K21 : Keep h0 h18 [a] := K15.wr W18 (Or.inl (List.mem_of_getElem? (i := 0) rfl))
  have Fw18 : Fld Z h18 a "java/lang/String" "value" "[B" (.ref b4) := Fld.same W18 cx17
  refine ov T18 57 A_2 [] st18 ?_
  have cx22 : Fld Z h18 a "java/lang/String" "coder" "B" (.int 1) := (Fld.other W18 Fw12 (Or.inr (slot_ne (Or.inr (wd23 hw)) (Or.inr (wd22 hw)) (by decide) (t := .byte) (t' := (.array .byte)) (by decide) (by decide))))
  have ne_b4_a : b4 ≠ a := by first | exact (Exa.neArv cx10 f4_0 (wd8 hw)).symm | exact Nat.ne_of_lt (by omega) | exact Nat.ne_of_gt (by omega)
  have cx23 : Arv Z h18 b4 kb4 .byte (4 : Int32) (own_L2 v0 v1) (.int 0) := ((f4_0.other W12 ne_b4_a).other W18 ne_b4_a)
  refine own_ret (Q := Q_own_n4_2 Z a bc kc zc v0 v1 h0 n0) (C := rm4_2_6_57.cells) (N := rm4_2_6_57.slots) X18 (v := none) (fun _ => rfl) Bd.notSynchronized ?_ (by decide) (by decide) (fun fs hr => X18.returnOut hx Bd.returns (hb hby d3_57) hr)
  show Q_own_n4_2 Z a bc kc zc v0 v1 h0 n0 _ T18.heap _
  rw [e18]
  exact ⟨b4, kb4, rfl, N18, K21, Fw18, cx22, cx23⟩
def Q_own_n1_2 (Z : State) (a : Addr) (bc : Addr) (kc : ClassId) (zc : Int32) (v0 : Int32) (v1 : Int32) (h0 : Heap) (n0 : Nat) (v : Option Value) (h : Heap) (L : List Loc) : Prop := ∃ tb : Addr, ∃ kb : ClassId, v = none ∧ Fr n0 L ∧ Keep h0 h [a] ∧ Fld Z h a "java/lang/String" "value" "[B" (.ref tb) ∧ Fld Z h a "java/lang/String" "coder" "B" (.int 1) ∧ Arv Z h tb kb .byte (4 : Int32) (own_L2 v0 v1) (.int 0)
set_option maxRecDepth 65536 in
set_option maxHeartbeats 40000000 in
theorem own_n1_2 (l : Launch) (Z : State) (a0 : Array Value) (hw : ∀ d ∈ tables_1, d.before a0 Z = true) (ws : List Jvm.Cond) (a : Addr) (bc : Addr) (kc : ClassId) (zc : Int32) (v0 : Int32) (v1 : Int32) (h0 : Heap) (n0 : Nat) (O0 : Old Z n0 h0) (zfC : Sta Z Z.heap "java/lang/String" "COMPACT_STRINGS" "Z" (.int zc)) (zf_S_java_lang_StringUTF16__assertionsDisabled : Sta Z Z.heap "java/lang/StringUTF16" "$assertionsDisabled" "Z" (.int 1)) (zf_S_java_lang_StringUTF16_HI_BYTE_SHIFT : Sta Z Z.heap "java/lang/StringUTF16" "HI_BYTE_SHIFT" "I" (.int 0)) (zf_S_java_lang_StringUTF16_LO_BYTE_SHIFT : Sta Z Z.heap "java/lang/StringUTF16" "LO_BYTE_SHIFT" "I" (.int 8)) (f0_E_a : Exa Z h0 a "java/lang/String") (f0_F_a_value : Fld Z h0 a "java/lang/String" "value" "[B" .null) (f0_F_a_coder : Fld Z h0 a "java/lang/String" "coder" "B" (.int 0)) (f0_A_bc : Arv Z h0 bc kc .char (2 : Int32) [.int v0, .int v1] (.int 0)) (hzc : ¬ (zc = (0 : Int32))) (qv0 : ¬ v0 < (1 : Int32) ∧ ¬ (65535 : Int32) < v0) (qv1 : ¬ v1 < (1 : Int32) ∧ ¬ (65535 : Int32) < v1) (hU : (255 : Int32) < v0 ∨ (255 : Int32) < v1) (g_a : n0 ≤ a) :
    MetFree l mt1 (head1 (Jvm.Cond.code mt1 jdk_42_method_3_code 2 none :: ws) rm5_2_6_74) (fun aq U => aq = #[.ref a, .ref bc] ∧ Z.Warmed39 U.vm ∧ U.heap = h0) (fun _ _ _ _ _ => True) (fun _ U o U' => ∃ v L, o = .returned v ∧ Q_own_n1_2 Z a bc kc zc v0 v1 h0 n0 v U'.heap L ∧ FrameEnd U o U' L rm5_2_6_74.cells rm5_2_6_74.slots) := by
  refine MetFree.of_bodySF (plainFor_of_name pn_java_lang_String) hisR ?_
  intro p e s m args below meth c s₁ Bd hml0 hP hK
  obtain ⟨rfl, hZ, hh⟩ := hP
  have hx := Bd.exec
  have hby := Bd.bytes
  have hml : c.maxLocals = 2 := hml0
  have hown : s.vm.findClass "java/lang/String" = some m.cls := findClass_of_methodNamed Bd.named
  have hnm := (name_of_methodNamed Bd.named Bd.method).1
  have X0 : Stand p l e rm5_2_6_74 s m #[.ref a, .ref bc] below meth c s₁ [] 0 0 := Stand.of_body Bd
  have e0 : s₁.heap = h0 := by rw [← hh, Bd.state]; rfl
  have N0 := Fr.nil n0
  have zO := O0.1
  have zO2 := O0.2.1
  have fl_E_a : h0.size > a := f0_E_a.lt
  have fl_F_a_value : h0.size > a := f0_F_a_value.lt
  have fl_F_a_coder : h0.size > a := f0_F_a_coder.lt
  have fl_A_bc : h0.size > bc := f0_A_bc.lt
  refine own_open (own_via (S' := s₁.setTop (mkF m 0 #[.val (.ref a), .val (.ref bc)] [])) (fun t k => castTop (ef_own_n1_2 m a bc) k) ?_)
  have K0 : Keep h0 h0 [a] := Keep.refl _ _
  have ne_a_bc : a ≠ bc := Exa.neArv f0_E_a f0_A_bc (wd8 hw)
  refine ov s₁ 1 #[.val (.ref a), .val (.ref bc)] [.ref a] (fun t k => XS.aloadN X0.here hx rfl (hb hby d2_0) rfl rfl k) ?_
  refine ov s₁ 2 #[.val (.ref a), .val (.ref bc)] [.ref bc, .ref a] (fun t k => XS.aloadN X0.here hx rfl (hb hby d2_1) rfl rfl k) ?_
  refine ov s₁ 3 #[.val (.ref a), .val (.ref bc)] [.int 0, .ref bc, .ref a] (fun t k => XS.iconst X0.here hx rfl (hb hby d2_2) k) ?_
  refine ov s₁ 4 #[.val (.ref a), .val (.ref bc)] [.ref bc, .int 0, .ref bc, .ref a] (fun t k => XS.aloadN X0.here hx rfl (hb hby d2_3) rfl rfl k) ?_
  obtain ⟨cl1, Ar1, -, S1, N1, -, -⟩ := id f0_A_bc
  refine ov s₁ 5 #[.val (.ref a), .val (.ref bc)] [.int 2, .int 0, .ref bc, .ref a] (fun t k => X0.arraylength hx (by first | (rw [e0]; exact Ar1.1) | exact Ar1.1) (State.isArrayOf_alike hZ.alike Ar1.2.1) (g := (mkF m 4 #[.val (.ref a), .val (.ref bc)] [.ref bc, .int 0, .ref bc, .ref a])) rfl rfl (hb hby d2_4) _ (by rw [len_of S1 N1]; exact k)) ?_
  refine ov s₁ 6 #[.val (.ref a), .val (.ref bc)] [.null, .int 2, .int 0, .ref bc, .ref a] (fun t k => XS.aconstNull X0.here hx rfl (hb hby d2_5) k) ?_
  obtain ⟨_, _, ⟨T2, Lp2, kp2, np2⟩, -, X2, ⟨Lc2, hQ2, l2, y2, z2⟩, st2⟩ := X0.specialBack hx (y := mt0) rfl hown (mvT hZ (wd13 hw)) (mvT hZ (wd14 hw)) (mvT hZ (wd16 hw)) (by decide) (backOf (W := 0) (own_n4_2 l Z a0 hw [] a bc kc zc v0 v1 h0 n0 O0 zfC zf_S_java_lang_StringUTF16__assertionsDisabled zf_S_java_lang_StringUTF16_HI_BYTE_SHIFT zf_S_java_lang_StringUTF16_LO_BYTE_SHIFT f0_E_a f0_F_a_value f0_F_a_coder f0_A_bc hzc qv0 qv1 hU g_a) hZ (wd16 hw) (wd9 hw) (by decide) (by decide)) (g := (mkF m 6 #[.val (.ref a), .val (.ref bc)] [.null, .int 2, .int 0, .ref bc, .ref a])) rfl (by rw [hml]; rfl) (Steps.refl _) (a := a) (argsL := [.ref bc, .int 0, .int 2, .null]) (rest := []) (lenOf pd___CIILjava_lang_Void__V_1938 rfl) rfl (by show 2 * 0 + _ ≤ _; exact Nat.le_of_eq rfl) (hb hby d2_6) (fun _ _ => ⟨rfl, e0, (by decide : 0 + 2 ≤ _), (by decide : 0 + 6 ≤ _)⟩)
  dsimp only [Pt.U, Pt.locs, Pt.cells, Pt.slots] at X2 l2 y2 z2 st2 hQ2
  subst Lp2 kp2 np2
  obtain ⟨tb2, kb2, rfl, N2q, K2q, f2_0, f2_1, f2_2⟩ := hQ2
  have N2 := Fr.app N0 N2q
  have sz3 : h0.size ≤ T2.heap.size := K2q.1
  have O4 : Old Z n0 T2.heap := O0.keep K2q (allS (by omega : n0 ≤ a) all0)
  have K5 : Keep h0 T2.heap [a] := K0.trans K2q (allS (P := fun x => x ∈ [a] ∨ h0.size ≤ x) (Or.inl (List.mem_of_getElem? (i := 0) rfl)) all0)
  have lt6_tb2 : T2.heap.size > tb2 := f2_2.lt
  refine own_tr (S' := T2.setTop (mkF m 9 #[.val (.ref a), .val (.ref bc)] [])) st2 ?_
  refine own_ret (Q := Q_own_n1_2 Z a bc kc zc v0 v1 h0 n0) (C := rm5_2_6_74.cells) (N := rm5_2_6_74.slots) X2 (v := none) (fun _ => rfl) Bd.notSynchronized ?_ (by decide) (by decide) (fun fs hr => X2.returnOut hx Bd.returns (hb hby d2_9) hr)
  show Q_own_n1_2 Z a bc kc zc v0 v1 h0 n0 _ T2.heap _
  exact ⟨tb2, kb2, rfl, N2, K5, f2_0, f2_1, f2_2⟩
def Q_own_nbl3 (Z : State)  (h0 : Heap) (n0 : Nat) (v : Option Value) (h : Heap) (L : List Loc) : Prop := v = some (.int 6) ∧ L = [] ∧ h = h0
set_option maxRecDepth 65536 in
set_option maxHeartbeats 40000000 in
theorem own_nbl3 (l : Launch) (Z : State) (a0 : Array Value) (hw : ∀ d ∈ tables_1, d.before a0 Z = true) (ws : List Jvm.Cond)  (h0 : Heap) (n0 : Nat) (O0 : Old Z n0 h0) :
    MetFree l mt4 (head1 (Jvm.Cond.code mt4 jdk_52_method_3_code 1 (some .int) :: ws) rm0_0_0_0) (fun aq U => aq = #[.int 3] ∧ Z.Warmed39 U.vm ∧ U.heap = h0) (fun _ _ _ _ _ => True) (fun _ U o U' => ∃ v L, o = .returned v ∧ Q_own_nbl3 Z  h0 n0 v U'.heap L ∧ FrameEnd U o U' L rm0_0_0_0.cells rm0_0_0_0.slots) := by
  refine MetFree.of_bodySF (plainFor_of_name pn_java_lang_StringUTF16) hisR ?_
  intro p e s m args below meth c s₁ Bd hml0 hP hK
  obtain ⟨rfl, hZ, hh⟩ := hP
  have hx := Bd.exec
  have hby := Bd.bytes
  have hml : c.maxLocals = 1 := hml0
  have hown : s.vm.findClass "java/lang/StringUTF16" = some m.cls := findClass_of_methodNamed Bd.named
  have hnm := (name_of_methodNamed Bd.named Bd.method).1
  have X0 : Stand p l e rm0_0_0_0 s m #[.int 3] below meth c s₁ [] 0 0 := Stand.of_body Bd
  have e0 : s₁.heap = h0 := by rw [← hh, Bd.state]; rfl
  have N0 := Fr.nil n0
  have zO := O0.1
  have zO2 := O0.2.1
  refine own_open (own_via (S' := s₁.setTop (mkF m 0 #[.val (.int 3)] [])) (fun t k => castTop (ef_own_nbl3 m (3 : Int32)) k) ?_)
  refine ov s₁ 1 #[.val (.int 3)] [.int 3] (fun t k => XS.iloadN X0.here hx rfl (hb hby d26_0) rfl k) ?_
  refine ov s₁ 12 #[.val (.int 3)] [] (fun t k => XS.ifYes X0.here hx rfl (pc0 := 1) (pc' := 12) rfl (hb hby d26_1) rfl ((if0 _ _).trans (flt (by decide : ¬ ((3 : Int32) < (0 : Int32)))).2.1) (by decide) (by decide) k) ?_
  refine ov s₁ 13 #[.val (.int 3)] [.int 3] (fun t k => XS.iloadN X0.here hx rfl (hb hby d26_12) rfl k) ?_
  refine ov s₁ 15 #[.val (.int 3)] [.int 1073741823, .int 3] (fun t k => X0.ldcInt hx hown (mvT hZ (wd113 hw)) (g := (mkF m 13 #[.val (.int 3)] [.int 3])) rfl (hb hby d26_13) _ k) ?_
  refine ov s₁ 55 #[.val (.int 3)] [] (fun t k => XS.icmpYes X0.here hx rfl (pc0 := 15) (pc' := 55) rfl (hb hby d26_15) rfl (tlt (by decide : (3 : Int32) < (1073741823 : Int32))).1 (by decide) (by decide) k) ?_
  refine ov s₁ 56 #[.val (.int 3)] [.int 3] (fun t k => XS.iloadN X0.here hx rfl (hb hby d26_55) rfl k) ?_
  refine ov s₁ 57 #[.val (.int 3)] [.int 1, .int 3] (fun t k => XS.iconst X0.here hx rfl (hb hby d26_56) k) ?_
  refine ov s₁ 58 #[.val (.int 3)] [.int 6] (fun t k => XS.ishl X0.here hx rfl (hb hby d26_57) rfl k) ?_
  refine own_ret (Q := Q_own_nbl3 Z  h0 n0) (C := rm0_0_0_0.cells) (N := rm0_0_0_0.slots) X0 (v := some (.int 6)) (fun h => by rw [Bd.returns] at h; cases h) Bd.notSynchronized ?_ (by decide) (by decide) (fun fs hr => retOut X0 hx Bd.returns rfl (Or.inl ⟨rfl, Or.inl rfl, _, rfl⟩) (hb hby d26_58) hr)
  show Q_own_nbl3 Z  h0 n0 _ s₁.heap _
  rw [e0]
  exact ⟨rfl, rfl, rfl⟩
def Q_own_nbf3 (Z : State)  (h0 : Heap) (n0 : Nat) (v : Option Value) (h : Heap) (L : List Loc) : Prop := ∃ b : Addr, ∃ kb : ClassId, v = some (.ref b) ∧ Fr n0 L ∧ Keep h0 h [] ∧ Arv Z h b kb .byte (6 : Int32) (own_L6) (.int 0) ∧ (h0.size ≤ b)
set_option maxRecDepth 65536 in
set_option maxHeartbeats 40000000 in
theorem own_nbf3 (l : Launch) (Z : State) (a0 : Array Value) (hw : ∀ d ∈ tables_1, d.before a0 Z = true) (ws : List Jvm.Cond)  (h0 : Heap) (n0 : Nat) (O0 : Old Z n0 h0) :
    MetFree l mt5 (head1 (Jvm.Cond.code mt5 jdk_52_method_2_code 1 (some (.array .byte)) :: ws) rm1_1_6_12) (fun aq U => aq = #[.int 3] ∧ Z.Warmed39 U.vm ∧ U.heap = h0) (fun _ _ _ _ _ => True) (fun _ U o U' => ∃ v L, o = .returned v ∧ Q_own_nbf3 Z  h0 n0 v U'.heap L ∧ FrameEnd U o U' L rm1_1_6_12.cells rm1_1_6_12.slots) := by
  refine MetFree.of_bodySF (plainFor_of_name pn_java_lang_StringUTF16) hisR ?_
  intro p e s m args below meth c s₁ Bd hml0 hP hK
  obtain ⟨rfl, hZ, hh⟩ := hP
  have hx := Bd.exec
  have hby := Bd.bytes
  have hml : c.maxLocals = 1 := hml0
  have hown : s.vm.findClass "java/lang/StringUTF16" = some m.cls := findClass_of_methodNamed Bd.named
  have hnm := (name_of_methodNamed Bd.named Bd.method).1
  have X0 : Stand p l e rm1_1_6_12 s m #[.int 3] below meth c s₁ [] 0 0 := Stand.of_body Bd
  have e0 : s₁.heap = h0 := by rw [← hh, Bd.state]; rfl
  have N0 := Fr.nil n0
  have zO := O0.1
  have zO2 := O0.2.1
  refine own_open (own_via (S' := s₁.setTop (mkF m 0 #[.val (.int 3)] [])) (fun t k => castTop (ef_own_nbf3 m (3 : Int32)) k) ?_)
  have K0 : Keep h0 h0 [] := Keep.refl _ _
  refine ov s₁ 1 #[.val (.int 3)] [.int 3] (fun t k => XS.iloadN X0.here hx rfl (hb hby d25_0) rfl k) ?_
  obtain ⟨_, _, ⟨T1, Lp1, kp1, np1⟩, -, X1, ⟨Lc1, hQ1, l1, y1, z1⟩, st1⟩ := Jvm.LawKit.callS X0 hx (y := mt4) hown (mvT hZ (wd110 hw)) (mvT hZ (wd111 hw)) (mvT hZ (wd93 hw)) (mvT hZ (wd112 hw)) (by decide) (backOf (W := 0) (own_nbl3 l Z a0 hw []  h0 n0 O0) hZ (wd112 hw) (wd93 hw) (by decide) (by decide)) (g := (mkF m 1 #[.val (.int 3)] [.int 3])) rfl (by rw [hml]; rfl) (argsL := [.int 3]) (rest := []) (lenOf pd__I_I_227 rfl) rfl (by show 2 * 0 + _ ≤ _; exact Nat.le_of_eq rfl) (hb hby d25_1) (fun _ _ => ⟨rfl, e0, (by decide : 0 + 0 ≤ _), (by decide : 0 + 0 ≤ _)⟩)
  dsimp only [Pt.U, Pt.locs, Pt.cells, Pt.slots] at X1 l1 y1 z1 st1 hQ1
  subst Lp1 kp1 np1
  obtain ⟨rfl, rfl, e1⟩ := hQ1
  try rw [List.append_nil] at X1
  refine ov T1 4 #[.val (.int 3)] [.int 6] st1 ?_
  obtain ⟨T2, h2, k2, X2, e2, E2, A2, st2⟩ := newP (aty := .byte) X1 hx hZ (wd21 hw) e1 (g := (mkF m 4 #[.val (.int 3)] [.int 6])) rfl (hb hby d25_4) rfl (by decide : ¬ ((6 : Int32) < (0 : Int32))) (cap := 6) (by decide) (by decide) (by decide) (by decide)
  obtain ⟨b2, g2⟩ : ∃ z, z = h0.size := ⟨_, rfl⟩
  rw [← g2] at A2 st2
  have lt_b2 : h2.size > b2 := A2.lt
  have sz3 : h0.size ≤ h2.size := E2.1
  have O4 : Old Z n0 h2 := O0.ext E2
  have K5 : Keep h0 h2 [] := K0.ext E2
  have V2 : Arv Z h2 b2 k2 .byte (6 : Int32) [.int 0, .int 0, .int 0, .int 0, .int 0, .int 0] (.int 0) := (Arv.new A2 (by decide)).pad (pad_rep [] (.int 0) 6)
  refine ov T2 6 #[.val (.int 3)] [.ref b2] st2 ?_
  refine own_ret (Q := Q_own_nbf3 Z  h0 n0) (C := rm1_1_6_12.cells) (N := rm1_1_6_12.slots) X2 (v := some (.ref b2)) (fun h => by rw [Bd.returns] at h; cases h) Bd.notSynchronized ?_ (by decide) (by decide) (fun fs hr => retOut X2 hx Bd.returns rfl (Or.inr (Or.inr (Or.inr (Or.inr ⟨rfl, rfl, rfl⟩)))) (hb hby d25_6) hr)
  show Q_own_nbf3 Z  h0 n0 _ T2.heap _
  rw [e2]
  exact ⟨b2, k2, rfl, N0, K5, V2, (by omega)⟩
def Q_own_cx3 (Z : State) (sa : Addr) (ks : ClassId) (dst : Addr) (kd : ClassId) (v0 : Int32) (v1 : Int32) (v2 : Int32) (h0 : Heap) (n0 : Nat) (v : Option Value) (h : Heap) (L : List Loc) : Prop := ∃ z : Int32, v = some (.int z) ∧ Fr n0 L ∧ Keep h0 h [dst] ∧ ((z = (0 : Int32) ∧ (255 : Int32) < v0) ∨ (z = (1 : Int32) ∧ (255 : Int32) < v1) ∨ (z = (2 : Int32) ∧ (255 : Int32) < v2))
set_option maxRecDepth 65536 in
set_option maxHeartbeats 40000000 in
theorem own_cx3 (l : Launch) (Z : State) (a0 : Array Value) (hw : ∀ d ∈ tables_1, d.before a0 Z = true) (ws : List Jvm.Cond) (sa : Addr) (ks : ClassId) (dst : Addr) (kd : ClassId) (v0 : Int32) (v1 : Int32) (v2 : Int32) (h0 : Heap) (n0 : Nat) (O0 : Old Z n0 h0) (f0_A_sa : Arv Z h0 sa ks .char (3 : Int32) [.int v0, .int v1, .int v2] (.int 0)) (f0_A_dst : Arv Z h0 dst kd .byte (3 : Int32) [.int 0, .int 0, .int 0] (.int 0)) (hU : (255 : Int32) < v0 ∨ (255 : Int32) < v1 ∨ (255 : Int32) < v2) (g_d : n0 ≤ dst) (nsd : sa ≠ dst) :
    MetFree l mt6 (head1 (Jvm.Cond.code mt6 jdk_52_method_21_code 7 (some .int) :: ws) rm0_0_0_0) (fun aq U => aq = #[.ref sa, .int 0, .ref dst, .int 0, .int 3] ∧ Z.Warmed39 U.vm ∧ U.heap = h0) (fun _ _ _ _ _ => True) (fun _ U o U' => ∃ v L, o = .returned v ∧ Q_own_cx3 Z sa ks dst kd v0 v1 v2 h0 n0 v U'.heap L ∧ FrameEnd U o U' L rm0_0_0_0.cells rm0_0_0_0.slots) := by
  refine MetFree.of_bodySF (plainFor_of_name pn_java_lang_StringUTF16) hisR ?_
  intro p e s m args below meth c s₁ Bd hml0 hP hK
  obtain ⟨rfl, hZ, hh⟩ := hP
  have hx := Bd.exec
  have hby := Bd.bytes
  have hml : c.maxLocals = 7 := hml0
  have hown : s.vm.findClass "java/lang/StringUTF16" = some m.cls := findClass_of_methodNamed Bd.named
  have hnm := (name_of_methodNamed Bd.named Bd.method).1
  have X0 : Stand p l e rm0_0_0_0 s m #[.ref sa, .int 0, .ref dst, .int 0, .int 3] below meth c s₁ [] 0 0 := Stand.of_body Bd
  have e0 : s₁.heap = h0 := by rw [← hh, Bd.state]; rfl
  have N0 := Fr.nil n0
  have zO := O0.1
  have zO2 := O0.2.1
  have fl_A_sa : h0.size > sa := f0_A_sa.lt
  have fl_A_dst : h0.size > dst := f0_A_dst.lt
  refine own_open (own_via (S' := s₁.setTop (mkF m 0 #[.val (.ref sa), .val (.int 0), .val (.ref dst), .val (.int 0), .val (.int 3), .unset, .unset] [])) (fun t k => castTop (ef_own_cx3 m sa (0 : Int32) dst (0 : Int32) (3 : Int32)) k) ?_)
  have K0 : Keep h0 h0 [dst] := Keep.refl _ _
  refine ov s₁ 1 #[.val (.ref sa), .val (.int 0), .val (.ref dst), .val (.int 0), .val (.int 3), .unset, .unset] [.int 0] (fun t k => XS.iconst X0.here hx rfl (hb hby d21_0) k) ?_
  let A_1 : Array Slot := #[.val (.ref sa), .val (.int 0), .val (.ref dst), .val (.int 0), .val (.int 3), .val (.int 0), .unset]
  refine ov s₁ 3 A_1 [] (fun t k => XS.istore X0.here hx rfl (hb hby d21_1) rfl (l' := A_1) rfl k) ?_
  refine ov s₁ 5 A_1 [.int 0] (fun t k => XS.iload X0.here hx rfl (hb hby d21_3) rfl k) ?_
  refine ov s₁ 7 A_1 [.int 3, .int 0] (fun t k => XS.iload X0.here hx rfl (hb hby d21_5) rfl k) ?_
  refine ov s₁ 10 A_1 [] (fun t k => XS.icmpNo X0.here hx rfl (hb hby d21_7) rfl (tlt (by decide : (0 : Int32) < (3 : Int32))).2.1 k) ?_
  refine ov s₁ 11 A_1 [.ref sa] (fun t k => XS.aloadN X0.here hx rfl (hb hby d21_10) rfl rfl k) ?_
  refine ov s₁ 12 A_1 [.int 0, .ref sa] (fun t k => XS.iloadN X0.here hx rfl (hb hby d21_11) rfl k) ?_
  obtain ⟨cl1, Ar1, q1, S1, M1, H1, U1⟩ := id f0_A_sa
  have hin1 : ¬ ((0 : Int32) < 0 ∨ cl1.slots.size ≤ ((0 : Int32)).toNatClampNeg) := inb_of S1 ⟨by decide, by decide⟩
  refine ov s₁ 13 A_1 [.int v0] (fun t k => X0.caload hx (j := (0 : Int32)) (v := (.int v0)) (by first | (rw [e0]; exact Ar1.1) | exact Ar1.1) (State.isArrayOf_alike hZ.alike Ar1.2.1) Ar1.2.2 hin1 (Has.at H1 hin1 rfl) (g := (mkF m 12 A_1 [.int 0, .ref sa])) rfl rfl (hb hby d21_12) _ k) ?_
  let A_2 : Array Slot := #[.val (.ref sa), .val (.int 0), .val (.ref dst), .val (.int 0), .val (.int 3), .val (.int 0), .val (.int v0)]
  refine ov s₁ 15 A_2 [] (fun t k => XS.istore X0.here hx rfl (hb hby d21_13) rfl (l' := A_2) rfl k) ?_
  refine ov s₁ 17 A_2 [.int v0] (fun t k => XS.iload X0.here hx rfl (hb hby d21_15) rfl k) ?_
  refine ov s₁ 20 A_2 [.int 255, .int v0] (fun t k => XS.sipush X0.here hx rfl (hb hby d21_17) k) ?_
  by_cases hc20_2 : (255 : Int32) < v0
  · -- yes
    refine ov s₁ 23 A_2 [] (fun t k => XS.icmpNo X0.here hx rfl (hb hby d21_20) rfl (tlt hc20_2).2.2.2 k) ?_
    refine ov s₁ 25 A_2 [.int 0] (fun t k => XS.iload X0.here hx rfl (hb hby d21_23) rfl k) ?_
    refine own_ret (Q := Q_own_cx3 Z sa ks dst kd v0 v1 v2 h0 n0) (C := rm0_0_0_0.cells) (N := rm0_0_0_0.slots) X0 (v := some (.int 0)) (fun h => by rw [Bd.returns] at h; cases h) Bd.notSynchronized ?_ (by decide) (by decide) (fun fs hr => retOut X0 hx Bd.returns rfl (Or.inl ⟨rfl, Or.inl rfl, _, rfl⟩) (hb hby d21_25) hr)
    show Q_own_cx3 Z sa ks dst kd v0 v1 v2 h0 n0 _ s₁.heap _
    rw [e0]
    exact ⟨(0 : Int32), rfl, N0, K0, (Or.inl ⟨rfl, hc20_2⟩)⟩
  · -- no
    refine ov s₁ 26 A_2 [] (fun t k => XS.icmpYes X0.here hx rfl (pc0 := 20) (pc' := 26) rfl (hb hby d21_20) rfl (flt hc20_2).2.2.2 (by decide) (by decide) k) ?_
    refine ov s₁ 27 A_2 [.ref dst] (fun t k => XS.aloadN X0.here hx rfl (hb hby d21_26) rfl rfl k) ?_
    refine ov s₁ 28 A_2 [.int 0, .ref dst] (fun t k => XS.iloadN X0.here hx rfl (hb hby d21_27) rfl k) ?_
    refine ov s₁ 30 A_2 [.int v0, .int 0, .ref dst] (fun t k => XS.iload X0.here hx rfl (hb hby d21_28) rfl k) ?_
    refine ov s₁ 31 A_2 [(.int (v0.toInt8.toInt32)), .int 0, .ref dst] (fun t k => XS.i2b X0.here hx rfl (hb hby d21_30) rfl k) ?_
    obtain ⟨cl3, Ar3, q3, S3, M3, H3, U3⟩ := id f0_A_dst
    obtain ⟨T3, h3, X3, e3, W3, st3⟩ := stB X0 hx hZ e0 Ar3 (j := (0 : Int32)) (inb_of S3 ⟨by decide, by decide⟩) (g := (mkF m 31 A_2 [(.int (v0.toInt8.toInt32)), .int 0, .ref dst])) rfl rfl (hb hby d21_31)
    have sz4 : h0.size ≤ h3.size := Nat.le_of_eq W3.size.symm
    have O5 : Old Z n0 h3 := O0.wr W3 (by omega : n0 ≤ dst)
    have N3 := Fr.snoc X3 N0 (by omega : n0 ≤ dst)
    have K6 : Keep h0 h3 [dst] := K0.wr W3 (Or.inl (List.mem_of_getElem? (i := 0) rfl))
    have V3 : Arv Z h3 dst kd .byte (3 : Int32) [(.int (nar .byte (v0.toInt8.toInt32))), .int 0, .int 0] (.int 0) := Arv.set Ar3 q3 S3 M3 H3 U3 (fits_nar_byte _) W3 0 rfl (Nat.le_of_ble_eq_true rfl)
    refine ov T3 32 A_2 [] st3 ?_
    refine ov T3 35 #[.val (.ref sa), .val (.int 1), .val (.ref dst), .val (.int 0), .val (.int 3), .val (.int 0), .val (.int v0)] [] (fun t k => XS.iinc X3.here hx rfl (hb hby d21_32) rfl (l' := #[.val (.ref sa), .val (.int 1), .val (.ref dst), .val (.int 0), .val (.int 3), .val (.int 0), .val (.int v0)]) rfl k) ?_
    refine ov T3 38 #[.val (.ref sa), .val (.int 1), .val (.ref dst), .val (.int 1), .val (.int 3), .val (.int 0), .val (.int v0)] [] (fun t k => XS.iinc X3.here hx rfl (hb hby d21_35) rfl (l' := #[.val (.ref sa), .val (.int 1), .val (.ref dst), .val (.int 1), .val (.int 3), .val (.int 0), .val (.int v0)]) rfl k) ?_
    let A_3 : Array Slot := #[.val (.ref sa), .val (.int 1), .val (.ref dst), .val (.int 1), .val (.int 3), .val (.int 1), .val (.int v0)]
    refine ov T3 41 A_3 [] (fun t k => XS.iinc X3.here hx rfl (hb hby d21_38) rfl (l' := A_3) rfl k) ?_
    refine ov T3 3 A_3 [] (fun t k => XS.goto X3.here hx rfl (pc0 := 41) (pc' := 3) rfl (hb hby d21_41) (by decide) (by decide) k) ?_
    refine ov T3 5 A_3 [.int 1] (fun t k => XS.iload X3.here hx rfl (hb hby d21_3) rfl k) ?_
    refine ov T3 7 A_3 [.int 3, .int 1] (fun t k => XS.iload X3.here hx rfl (hb hby d21_5) rfl k) ?_
    refine ov T3 10 A_3 [] (fun t k => XS.icmpNo X3.here hx rfl (hb hby d21_7) rfl (tlt (by decide : (1 : Int32) < (3 : Int32))).2.1 k) ?_
    refine ov T3 11 A_3 [.ref sa] (fun t k => XS.aloadN X3.here hx rfl (hb hby d21_10) rfl rfl k) ?_
    refine ov T3 12 A_3 [.int 1, .ref sa] (fun t k => XS.iloadN X3.here hx rfl (hb hby d21_11) rfl k) ?_
    have cx7 : Arv Z h3 sa ks .char (3 : Int32) [.int v0, .int v1, .int v2] (.int 0) := (f0_A_sa.other W3 nsd)
    obtain ⟨cl8, Ar8, q8, S8, M8, H8, U8⟩ := id cx7
    have hin8 : ¬ ((1 : Int32) < 0 ∨ cl8.slots.size ≤ ((1 : Int32)).toNatClampNeg) := inb_of S8 ⟨by decide, by decide⟩
    refine ov T3 13 A_3 [.int v1] (fun t k => X3.caload hx (j := (1 : Int32)) (v := (.int v1)) (by first | (rw [e3]; exact Ar8.1) | exact Ar8.1) (State.isArrayOf_alike hZ.alike Ar8.2.1) Ar8.2.2 hin8 (Has.at H8 hin8 rfl) (g := (mkF m 12 A_3 [.int 1, .ref sa])) rfl rfl (hb hby d21_12) _ k) ?_
    let A_4 : Array Slot := #[.val (.ref sa), .val (.int 1), .val (.ref dst), .val (.int 1), .val (.int 3), .val (.int 1), .val (.int v1)]
    refine ov T3 15 A_4 [] (fun t k => XS.istore X3.here hx rfl (hb hby d21_13) rfl (l' := A_4) rfl k) ?_
    refine ov T3 17 A_4 [.int v1] (fun t k => XS.iload X3.here hx rfl (hb hby d21_15) rfl k) ?_
    refine ov T3 20 A_4 [.int 255, .int v1] (fun t k => XS.sipush X3.here hx rfl (hb hby d21_17) k) ?_
    by_cases hc20_9 : (255 : Int32) < v1
    · -- yes
      refine ov T3 23 A_4 [] (fun t k => XS.icmpNo X3.here hx rfl (hb hby d21_20) rfl (tlt hc20_9).2.2.2 k) ?_
      refine ov T3 25 A_4 [.int 1] (fun t k => XS.iload X3.here hx rfl (hb hby d21_23) rfl k) ?_
      refine own_ret (Q := Q_own_cx3 Z sa ks dst kd v0 v1 v2 h0 n0) (C := rm0_0_0_0.cells) (N := rm0_0_0_0.slots) X3 (v := some (.int 1)) (fun h => by rw [Bd.returns] at h; cases h) Bd.notSynchronized ?_ (by decide) (by decide) (fun fs hr => retOut X3 hx Bd.returns rfl (Or.inl ⟨rfl, Or.inl rfl, _, rfl⟩) (hb hby d21_25) hr)
      show Q_own_cx3 Z sa ks dst kd v0 v1 v2 h0 n0 _ T3.heap _
      rw [e3]
      exact ⟨(1 : Int32), rfl, N3, K6, (Or.inr (Or.inl ⟨rfl, hc20_9⟩))⟩
    · -- no
      refine ov T3 26 A_4 [] (fun t k => XS.icmpYes X3.here hx rfl (pc0 := 20) (pc' := 26) rfl (hb hby d21_20) rfl (flt hc20_9).2.2.2 (by decide) (by decide) k) ?_
      refine ov T3 27 A_4 [.ref dst] (fun t k => XS.aloadN X3.here hx rfl (hb hby d21_26) rfl rfl k) ?_
      refine ov T3 28 A_4 [.int 1, .ref dst] (fun t k => XS.iloadN X3.here hx rfl (hb hby d21_27) rfl k) ?_
      refine ov T3 30 A_4 [.int v1, .int 1, .ref dst] (fun t k => XS.iload X3.here hx rfl (hb hby d21_28) rfl k) ?_
      refine ov T3 31 A_4 [(.int (v1.toInt8.toInt32)), .int 1, .ref dst] (fun t k => XS.i2b X3.here hx rfl (hb hby d21_30) rfl k) ?_
      obtain ⟨cl10, Ar10, q10, S10, M10, H10, U10⟩ := id V3
      obtain ⟨T10, h10, X10, e10, W10, st10⟩ := stB X3 hx hZ e3 Ar10 (j := (1 : Int32)) (inb_of S10 ⟨by decide, by decide⟩) (g := (mkF m 31 A_4 [(.int (v1.toInt8.toInt32)), .int 1, .ref dst])) rfl rfl (hb hby d21_31)
      have sz11 : h3.size ≤ h10.size := Nat.le_of_eq W10.size.symm
      have O12 : Old Z n0 h10 := O5.wr W10 (by omega : n0 ≤ dst)
      have N10 := Fr.snoc X10 N3 (by omega : n0 ≤ dst)
      have K13 : Keep h0 h10 [dst] := K6.wr W10 (Or.inl (List.mem_of_getElem? (i := 0) rfl))
      have V10 : Arv Z h10 dst kd .byte (3 : Int32) [(.int (nar .byte (v0.toInt8.toInt32))), (.int (nar .byte (v1.toInt8.toInt32))), .int 0] (.int 0) := Arv.set Ar10 q10 S10 M10 H10 U10 (fits_nar_byte _) W10 1 rfl (Nat.le_of_ble_eq_true rfl)
      refine ov T10 32 A_4 [] st10 ?_
      refine ov T10 35 #[.val (.ref sa), .val (.int 2), .val (.ref dst), .val (.int 1), .val (.int 3), .val (.int 1), .val (.int v1)] [] (fun t k => XS.iinc X10.here hx rfl (hb hby d21_32) rfl (l' := #[.val (.ref sa), .val (.int 2), .val (.ref dst), .val (.int 1), .val (.int 3), .val (.int 1), .val (.int v1)]) rfl k) ?_
      refine ov T10 38 #[.val (.ref sa), .val (.int 2), .val (.ref dst), .val (.int 2), .val (.int 3), .val (.int 1), .val (.int v1)] [] (fun t k => XS.iinc X10.here hx rfl (hb hby d21_35) rfl (l' := #[.val (.ref sa), .val (.int 2), .val (.ref dst), .val (.int 2), .val (.int 3), .val (.int 1), .val (.int v1)]) rfl k) ?_
      let A_5 : Array Slot := #[.val (.ref sa), .val (.int 2), .val (.ref dst), .val (.int 2), .val (.int 3), .val (.int 2), .val (.int v1)]
      refine ov T10 41 A_5 [] (fun t k => XS.iinc X10.here hx rfl (hb hby d21_38) rfl (l' := A_5) rfl k) ?_
      refine ov T10 3 A_5 [] (fun t k => XS.goto X10.here hx rfl (pc0 := 41) (pc' := 3) rfl (hb hby d21_41) (by decide) (by decide) k) ?_
      refine ov T10 5 A_5 [.int 2] (fun t k => XS.iload X10.here hx rfl (hb hby d21_3) rfl k) ?_
      refine ov T10 7 A_5 [.int 3, .int 2] (fun t k => XS.iload X10.here hx rfl (hb hby d21_5) rfl k) ?_
      refine ov T10 10 A_5 [] (fun t k => XS.icmpNo X10.here hx rfl (hb hby d21_7) rfl (tlt (by decide : (2 : Int32) < (3 : Int32))).2.1 k) ?_
      refine ov T10 11 A_5 [.ref sa] (fun t k => XS.aloadN X10.here hx rfl (hb hby d21_10) rfl rfl k) ?_
      refine ov T10 12 A_5 [.int 2, .ref sa] (fun t k => XS.iloadN X10.here hx rfl (hb hby d21_11) rfl k) ?_
      have cx14 : Arv Z h10 sa ks .char (3 : Int32) [.int v0, .int v1, .int v2] (.int 0) := (cx7.other W10 nsd)
      obtain ⟨cl15, Ar15, q15, S15, M15, H15, U15⟩ := id cx14
      have hin15 : ¬ ((2 : Int32) < 0 ∨ cl15.slots.size ≤ ((2 : Int32)).toNatClampNeg) := inb_of S15 ⟨by decide, by decide⟩
      refine ov T10 13 A_5 [.int v2] (fun t k => X10.caload hx (j := (2 : Int32)) (v := (.int v2)) (by first | (rw [e10]; exact Ar15.1) | exact Ar15.1) (State.isArrayOf_alike hZ.alike Ar15.2.1) Ar15.2.2 hin15 (Has.at H15 hin15 rfl) (g := (mkF m 12 A_5 [.int 2, .ref sa])) rfl rfl (hb hby d21_12) _ k) ?_
      let A_6 : Array Slot := #[.val (.ref sa), .val (.int 2), .val (.ref dst), .val (.int 2), .val (.int 3), .val (.int 2), .val (.int v2)]
      refine ov T10 15 A_6 [] (fun t k => XS.istore X10.here hx rfl (hb hby d21_13) rfl (l' := A_6) rfl k) ?_
      refine ov T10 17 A_6 [.int v2] (fun t k => XS.iload X10.here hx rfl (hb hby d21_15) rfl k) ?_
      refine ov T10 20 A_6 [.int 255, .int v2] (fun t k => XS.sipush X10.here hx rfl (hb hby d21_17) k) ?_
      by_cases hc20_16 : (255 : Int32) < v2
      · -- yes
        refine ov T10 23 A_6 [] (fun t k => XS.icmpNo X10.here hx rfl (hb hby d21_20) rfl (tlt hc20_16).2.2.2 k) ?_
        refine ov T10 25 A_6 [.int 2] (fun t k => XS.iload X10.here hx rfl (hb hby d21_23) rfl k) ?_
        refine own_ret (Q := Q_own_cx3 Z sa ks dst kd v0 v1 v2 h0 n0) (C := rm0_0_0_0.cells) (N := rm0_0_0_0.slots) X10 (v := some (.int 2)) (fun h => by rw [Bd.returns] at h; cases h) Bd.notSynchronized ?_ (by decide) (by decide) (fun fs hr => retOut X10 hx Bd.returns rfl (Or.inl ⟨rfl, Or.inl rfl, _, rfl⟩) (hb hby d21_25) hr)
        show Q_own_cx3 Z sa ks dst kd v0 v1 v2 h0 n0 _ T10.heap _
        rw [e10]
        exact ⟨(2 : Int32), rfl, N10, K13, (Or.inr (Or.inr (⟨rfl, hc20_16⟩)))⟩
      · -- no
        exact absurd hU (by simp only [not_or]; exact ⟨hc20_2, hc20_9, hc20_16⟩)
def Q_own_tob3 (Z : State) (sa : Addr) (ks : ClassId) (v0 : Int32) (v1 : Int32) (v2 : Int32) (h0 : Heap) (n0 : Nat) (v : Option Value) (h : Heap) (L : List Loc) : Prop := ∃ b : Addr, ∃ kb : ClassId, v = some (.ref b) ∧ Fr n0 L ∧ Keep h0 h [] ∧ Arv Z h b kb .byte (6 : Int32) (own_L5 v0 v1 v2) (.int 0) ∧ (h0.size ≤ b)
set_option maxRecDepth 65536 in
set_option maxHeartbeats 40000000 in
theorem own_tob3 (l : Launch) (Z : State) (a0 : Array Value) (hw : ∀ d ∈ tables_1, d.before a0 Z = true) (ws : List Jvm.Cond) (sa : Addr) (ks : ClassId) (v0 : Int32) (v1 : Int32) (v2 : Int32) (h0 : Heap) (n0 : Nat) (O0 : Old Z n0 h0) (zf_S_java_lang_StringUTF16__assertionsDisabled : Sta Z Z.heap "java/lang/StringUTF16" "$assertionsDisabled" "Z" (.int 1)) (zf_S_java_lang_StringUTF16_HI_BYTE_SHIFT : Sta Z Z.heap "java/lang/StringUTF16" "HI_BYTE_SHIFT" "I" (.int 0)) (zf_S_java_lang_StringUTF16_LO_BYTE_SHIFT : Sta Z Z.heap "java/lang/StringUTF16" "LO_BYTE_SHIFT" "I" (.int 8)) (f0_A_sa : Arv Z h0 sa ks .char (3 : Int32) [.int v0, .int v1, .int v2] (.int 0)) :
    MetFree l mt7 (head1 (Jvm.Cond.code mt7 jdk_52_method_14_code 5 (some (.array .byte)) :: ws) rm2_1_6_24) (fun aq U => aq = #[.ref sa, .int 0, .int 3] ∧ Z.Warmed39 U.vm ∧ U.heap = h0) (fun _ _ _ _ _ => True) (fun _ U o U' => ∃ v L, o = .returned v ∧ Q_own_tob3 Z sa ks v0 v1 v2 h0 n0 v U'.heap L ∧ FrameEnd U o U' L rm2_1_6_24.cells rm2_1_6_24.slots) := by
  refine MetFree.of_bodySF (plainFor_of_name pn_java_lang_StringUTF16) hisR ?_
  intro p e s m args below meth c s₁ Bd hml0 hP hK
  obtain ⟨rfl, hZ, hh⟩ := hP
  have hx := Bd.exec
  have hby := Bd.bytes
  have hml : c.maxLocals = 5 := hml0
  have hown : s.vm.findClass "java/lang/StringUTF16" = some m.cls := findClass_of_methodNamed Bd.named
  have hnm := (name_of_methodNamed Bd.named Bd.method).1
  have X0 : Stand p l e rm2_1_6_24 s m #[.ref sa, .int 0, .int 3] below meth c s₁ [] 0 0 := Stand.of_body Bd
  have e0 : s₁.heap = h0 := by rw [← hh, Bd.state]; rfl
  have N0 := Fr.nil n0
  have zO := O0.1
  have zO2 := O0.2.1
  have fl_A_sa : h0.size > sa := f0_A_sa.lt
  refine own_open (own_via (S' := s₁.setTop (mkF m 0 #[.val (.ref sa), .val (.int 0), .val (.int 3), .unset, .unset] [])) (fun t k => castTop (ef_own_tob3 m sa (0 : Int32) (3 : Int32)) k) ?_)
  have K0 : Keep h0 h0 [] := Keep.refl _ _
  let A_1 : Array Slot := #[.val (.ref sa), .val (.int 0), .val (.int 3), .unset, .unset]
  refine ov s₁ 1 A_1 [.int 3] (fun t k => XS.iloadN X0.here hx rfl (hb hby d24_0) rfl k) ?_
  obtain ⟨_, _, ⟨T1, Lp1, kp1, np1⟩, -, X1, ⟨Lc1, hQ1, l1, y1, z1⟩, st1⟩ := Jvm.LawKit.callS X0 hx (y := mt5) hown (mvT hZ (wd107 hw)) (mvT hZ (wd108 hw)) (mvT hZ (wd93 hw)) (mvT hZ (wd109 hw)) (by decide) (backOf (W := 0) (own_nbf3 l Z a0 hw []  h0 n0 O0) hZ (wd109 hw) (wd93 hw) (by decide) (by decide)) (g := (mkF m 1 A_1 [.int 3])) rfl (by rw [hml]; rfl) (argsL := [.int 3]) (rest := []) (lenOf pd__I__B_311 rfl) rfl (by show 2 * 0 + _ ≤ _; exact Nat.le_of_eq rfl) (hb hby d24_1) (fun _ _ => ⟨rfl, e0, (by decide : 0 + 1 ≤ _), (by decide : 0 + 6 ≤ _)⟩)
  dsimp only [Pt.U, Pt.locs, Pt.cells, Pt.slots] at X1 l1 y1 z1 st1 hQ1
  subst Lp1 kp1 np1
  obtain ⟨b1, kb1, rfl, N1q, K1q, f1_0, pp1_0⟩ := hQ1
  have N1 := Fr.app N0 N1q
  have sz2 : h0.size ≤ T1.heap.size := K1q.1
  have O3 : Old Z n0 T1.heap := O0.keep K1q all0
  have K4 : Keep h0 T1.heap [] := K0.trans K1q all0
  have lt5_b1 : T1.heap.size > b1 := f1_0.lt
  refine ov T1 4 A_1 [.ref b1] st1 ?_
  let A_2 : Array Slot := #[.val (.ref sa), .val (.int 0), .val (.int 3), .val (.ref b1), .unset]
  refine ov T1 5 A_2 [] (fun t k => XS.astoreN X1.here hx rfl (hb hby d24_4) rfl rfl (l' := A_2) rfl k) ?_
  refine ov T1 6 A_2 [.int 0] (fun t k => XS.iconst X1.here hx rfl (hb hby d24_5) k) ?_
  let A_3 : Array Slot := #[.val (.ref sa), .val (.int 0), .val (.int 3), .val (.ref b1), .val (.int 0)]
  refine ov T1 8 A_3 [] (fun t k => XS.istore X1.here hx rfl (hb hby d24_6) rfl (l' := A_3) rfl k) ?_
  refine ov T1 10 A_3 [.int 0] (fun t k => XS.iload X1.here hx rfl (hb hby d24_8) rfl k) ?_
  refine ov T1 11 A_3 [.int 3, .int 0] (fun t k => XS.iloadN X1.here hx rfl (hb hby d24_10) rfl k) ?_
  refine ov T1 14 A_3 [] (fun t k => XS.icmpNo X1.here hx rfl (hb hby d24_11) rfl (tlt (by decide : (0 : Int32) < (3 : Int32))).2.1 k) ?_
  refine ov T1 15 A_3 [.ref b1] (fun t k => XS.aloadN X1.here hx rfl (hb hby d24_14) rfl rfl k) ?_
  refine ov T1 17 A_3 [.int 0, .ref b1] (fun t k => XS.iload X1.here hx rfl (hb hby d24_15) rfl k) ?_
  refine ov T1 18 A_3 [.ref sa, .int 0, .ref b1] (fun t k => XS.aloadN X1.here hx rfl (hb hby d24_17) rfl rfl k) ?_
  refine ov T1 19 A_3 [.int 0, .ref sa, .int 0, .ref b1] (fun t k => XS.iloadN X1.here hx rfl (hb hby d24_18) rfl k) ?_
  have cx6 : Arv Z T1.heap sa ks .char (3 : Int32) [.int v0, .int v1, .int v2] (.int 0) := (f0_A_sa.keep K1q nin0)
  obtain ⟨cl7, Ar7, q7, S7, M7, H7, U7⟩ := id cx6
  have hin7 : ¬ ((0 : Int32) < 0 ∨ cl7.slots.size ≤ ((0 : Int32)).toNatClampNeg) := inb_of S7 ⟨by decide, by decide⟩
  refine ov T1 20 A_3 [.int v0, .int 0, .ref b1] (fun t k => X1.caload hx (j := (0 : Int32)) (v := (.int v0)) (by first | (rw [rfl]; exact Ar7.1) | exact Ar7.1) (State.isArrayOf_alike hZ.alike Ar7.2.1) Ar7.2.2 hin7 (Has.at H7 hin7 rfl) (g := (mkF m 19 A_3 [.int 0, .ref sa, .int 0, .ref b1])) rfl rfl (hb hby d24_19) _ k) ?_
  obtain ⟨_, _, ⟨T8, Lp8, kp8, np8⟩, -, X8, ⟨Lc8, hQ8, l8, y8, z8⟩, st8⟩ := Jvm.LawKit.callS X1 hx (y := mt2) hown (mvT hZ (wd114 hw)) (mvT hZ (wd115 hw)) (mvT hZ (wd93 hw)) (mvT hZ (wd116 hw)) (by decide) (backOf (W := 0) (own_put l Z a0 hw [] b1 kb1 (6 : Int32) (own_L6) (0 : Int32) v0 T1.heap n0 O3 zf_S_java_lang_StringUTF16__assertionsDisabled zf_S_java_lang_StringUTF16_HI_BYTE_SHIFT zf_S_java_lang_StringUTF16_LO_BYTE_SHIFT f1_0 (by decide) (by decide) (by decide) (by decide) (Nat.le_of_ble_eq_true rfl) (Nat.le_of_ble_eq_true rfl) (by omega)) hZ (wd116 hw) (wd93 hw) (by decide) (by decide)) (g := (mkF m 20 A_3 [.int v0, .int 0, .ref b1])) rfl (by rw [hml]; rfl) (argsL := [.ref b1, .int 0, .int v0]) (rest := []) (lenOf pd___BII_V_470 rfl) rfl (by show 2 * 0 + _ ≤ _; exact Nat.le_of_eq rfl) (hb hby d24_20) (fun _ _ => ⟨rfl, rfl, (by decide : 1 + 0 ≤ _), (by decide : 6 + 0 ≤ _)⟩)
  dsimp only [Pt.U, Pt.locs, Pt.cells, Pt.slots] at X8 l8 y8 z8 st8 hQ8
  subst Lp8 kp8 np8
  obtain ⟨rfl, N8q, K8q, f8_0⟩ := hQ8
  have N8 := Fr.app N1 N8q
  have sz9 : T1.heap.size ≤ T8.heap.size := K8q.1
  have O10 : Old Z n0 T8.heap := O3.keep K8q (allS (by omega : n0 ≤ b1) all0)
  have K11 : Keep h0 T8.heap [] := K4.trans K8q (allS (P := fun x => x ∈ [] ∨ h0.size ≤ x) (Or.inr (by omega)) all0)
  have f8_0c : Arv Z T8.heap b1 kb1 .byte (6 : Int32) (own_L7 v0) (.int 0) := f8_0
  refine ov T8 23 A_3 [] st8 ?_
  refine ov T8 26 #[.val (.ref sa), .val (.int 1), .val (.int 3), .val (.ref b1), .val (.int 0)] [] (fun t k => XS.iinc X8.here hx rfl (hb hby d24_23) rfl (l' := #[.val (.ref sa), .val (.int 1), .val (.int 3), .val (.ref b1), .val (.int 0)]) rfl k) ?_
  let A_4 : Array Slot := #[.val (.ref sa), .val (.int 1), .val (.int 3), .val (.ref b1), .val (.int 1)]
  refine ov T8 29 A_4 [] (fun t k => XS.iinc X8.here hx rfl (hb hby d24_26) rfl (l' := A_4) rfl k) ?_
  refine ov T8 8 A_4 [] (fun t k => XS.goto X8.here hx rfl (pc0 := 29) (pc' := 8) rfl (hb hby d24_29) (by decide) (by decide) k) ?_
  refine ov T8 10 A_4 [.int 1] (fun t k => XS.iload X8.here hx rfl (hb hby d24_8) rfl k) ?_
  refine ov T8 11 A_4 [.int 3, .int 1] (fun t k => XS.iloadN X8.here hx rfl (hb hby d24_10) rfl k) ?_
  refine ov T8 14 A_4 [] (fun t k => XS.icmpNo X8.here hx rfl (hb hby d24_11) rfl (tlt (by decide : (1 : Int32) < (3 : Int32))).2.1 k) ?_
  refine ov T8 15 A_4 [.ref b1] (fun t k => XS.aloadN X8.here hx rfl (hb hby d24_14) rfl rfl k) ?_
  refine ov T8 17 A_4 [.int 1, .ref b1] (fun t k => XS.iload X8.here hx rfl (hb hby d24_15) rfl k) ?_
  refine ov T8 18 A_4 [.ref sa, .int 1, .ref b1] (fun t k => XS.aloadN X8.here hx rfl (hb hby d24_17) rfl rfl k) ?_
  refine ov T8 19 A_4 [.int 1, .ref sa, .int 1, .ref b1] (fun t k => XS.iloadN X8.here hx rfl (hb hby d24_18) rfl k) ?_
  have ne_sa_b1 : sa ≠ b1 := by first | exact Nat.ne_of_lt (by omega) | exact Nat.ne_of_gt (by omega)
  have cx12 : Arv Z T8.heap sa ks .char (3 : Int32) [.int v0, .int v1, .int v2] (.int 0) := (cx6.keep K8q (ninS ne_sa_b1 nin0))
  obtain ⟨cl13, Ar13, q13, S13, M13, H13, U13⟩ := id cx12
  have hin13 : ¬ ((1 : Int32) < 0 ∨ cl13.slots.size ≤ ((1 : Int32)).toNatClampNeg) := inb_of S13 ⟨by decide, by decide⟩
  refine ov T8 20 A_4 [.int v1, .int 1, .ref b1] (fun t k => X8.caload hx (j := (1 : Int32)) (v := (.int v1)) (by first | (rw [rfl]; exact Ar13.1) | exact Ar13.1) (State.isArrayOf_alike hZ.alike Ar13.2.1) Ar13.2.2 hin13 (Has.at H13 hin13 rfl) (g := (mkF m 19 A_4 [.int 1, .ref sa, .int 1, .ref b1])) rfl rfl (hb hby d24_19) _ k) ?_
  obtain ⟨_, _, ⟨T14, Lp14, kp14, np14⟩, -, X14, ⟨Lc14, hQ14, l14, y14, z14⟩, st14⟩ := Jvm.LawKit.callS X8 hx (y := mt2) hown (mvT hZ (wd114 hw)) (mvT hZ (wd115 hw)) (mvT hZ (wd93 hw)) (mvT hZ (wd116 hw)) (by decide) (backOf (W := 0) (own_put l Z a0 hw [] b1 kb1 (6 : Int32) (own_L7 v0) (1 : Int32) v1 T8.heap n0 O10 zf_S_java_lang_StringUTF16__assertionsDisabled zf_S_java_lang_StringUTF16_HI_BYTE_SHIFT zf_S_java_lang_StringUTF16_LO_BYTE_SHIFT f8_0c (by decide) (by decide) (by decide) (by decide) (Nat.le_of_ble_eq_true rfl) (Nat.le_of_ble_eq_true rfl) (by omega)) hZ (wd116 hw) (wd93 hw) (by decide) (by decide)) (g := (mkF m 20 A_4 [.int v1, .int 1, .ref b1])) rfl (by rw [hml]; rfl) (argsL := [.ref b1, .int 1, .int v1]) (rest := []) (lenOf pd___BII_V_470 rfl) rfl (by show 2 * 0 + _ ≤ _; exact Nat.le_of_eq rfl) (hb hby d24_20) (fun _ _ => ⟨rfl, rfl, (by decide : 1 + 0 ≤ _), (by decide : 6 + 0 ≤ _)⟩)
  dsimp only [Pt.U, Pt.locs, Pt.cells, Pt.slots] at X14 l14 y14 z14 st14 hQ14
  subst Lp14 kp14 np14
  obtain ⟨rfl, N14q, K14q, f14_0⟩ := hQ14
  have N14 := Fr.app N8 N14q
  have sz15 : T8.heap.size ≤ T14.heap.size := K14q.1
  have O16 : Old Z n0 T14.heap := O10.keep K14q (allS (by omega : n0 ≤ b1) all0)
  have K17 : Keep h0 T14.heap [] := K11.trans K14q (allS (P := fun x => x ∈ [] ∨ h0.size ≤ x) (Or.inr (by omega)) all0)
  have f14_0c : Arv Z T14.heap b1 kb1 .byte (6 : Int32) (own_L8 v0 v1) (.int 0) := f14_0
  refine ov T14 23 A_4 [] st14 ?_
  refine ov T14 26 #[.val (.ref sa), .val (.int 2), .val (.int 3), .val (.ref b1), .val (.int 1)] [] (fun t k => XS.iinc X14.here hx rfl (hb hby d24_23) rfl (l' := #[.val (.ref sa), .val (.int 2), .val (.int 3), .val (.ref b1), .val (.int 1)]) rfl k) ?_
  let A_5 : Array Slot := #[.val (.ref sa), .val (.int 2), .val (.int 3), .val (.ref b1), .val (.int 2)]
  refine ov T14 29 A_5 [] (fun t k => XS.iinc X14.here hx rfl (hb hby d24_26) rfl (l' := A_5) rfl k) ?_
  refine ov T14 8 A_5 [] (fun t k => XS.goto X14.here hx rfl (pc0 := 29) (pc' := 8) rfl (hb hby d24_29) (by decide) (by decide) k) ?_
  refine ov T14 10 A_5 [.int 2] (fun t k => XS.iload X14.here hx rfl (hb hby d24_8) rfl k) ?_
  refine ov T14 11 A_5 [.int 3, .int 2] (fun t k => XS.iloadN X14.here hx rfl (hb hby d24_10) rfl k) ?_
  refine ov T14 14 A_5 [] (fun t k => XS.icmpNo X14.here hx rfl (hb hby d24_11) rfl (tlt (by decide : (2 : Int32) < (3 : Int32))).2.1 k) ?_
  refine ov T14 15 A_5 [.ref b1] (fun t k => XS.aloadN X14.here hx rfl (hb hby d24_14) rfl rfl k) ?_
  refine ov T14 17 A_5 [.int 2, .ref b1] (fun t k => XS.iload X14.here hx rfl (hb hby d24_15) rfl k) ?_
  refine ov T14 18 A_5 [.ref sa, .int 2, .ref b1] (fun t k => XS.aloadN X14.here hx rfl (hb hby d24_17) rfl rfl k) ?_
  refine ov T14 19 A_5 [.int 2, .ref sa, .int 2, .ref b1] (fun t k => XS.iloadN X14.here hx rfl (hb hby d24_18) rfl k) ?_
  have cx18 : Arv Z T14.heap sa ks .char (3 : Int32) [.int v0, .int v1, .int v2] (.int 0) := (cx12.keep K14q (ninS ne_sa_b1 nin0))
  obtain ⟨cl19, Ar19, q19, S19, M19, H19, U19⟩ := id cx18
  have hin19 : ¬ ((2 : Int32) < 0 ∨ cl19.slots.size ≤ ((2 : Int32)).toNatClampNeg) := inb_of S19 ⟨by decide, by decide⟩
  refine ov T14 20 A_5 [.int v2, .int 2, .ref b1] (fun t k => X14.caload hx (j := (2 : Int32)) (v := (.int v2)) (by first | (rw [rfl]; exact Ar19.1) | exact Ar19.1) (State.isArrayOf_alike hZ.alike Ar19.2.1) Ar19.2.2 hin19 (Has.at H19 hin19 rfl) (g := (mkF m 19 A_5 [.int 2, .ref sa, .int 2, .ref b1])) rfl rfl (hb hby d24_19) _ k) ?_
  obtain ⟨_, _, ⟨T20, Lp20, kp20, np20⟩, -, X20, ⟨Lc20, hQ20, l20, y20, z20⟩, st20⟩ := Jvm.LawKit.callS X14 hx (y := mt2) hown (mvT hZ (wd114 hw)) (mvT hZ (wd115 hw)) (mvT hZ (wd93 hw)) (mvT hZ (wd116 hw)) (by decide) (backOf (W := 0) (own_put l Z a0 hw [] b1 kb1 (6 : Int32) (own_L8 v0 v1) (2 : Int32) v2 T14.heap n0 O16 zf_S_java_lang_StringUTF16__assertionsDisabled zf_S_java_lang_StringUTF16_HI_BYTE_SHIFT zf_S_java_lang_StringUTF16_LO_BYTE_SHIFT f14_0c (by decide) (by decide) (by decide) (by decide) (Nat.le_of_ble_eq_true rfl) (Nat.le_of_ble_eq_true rfl) (by omega)) hZ (wd116 hw) (wd93 hw) (by decide) (by decide)) (g := (mkF m 20 A_5 [.int v2, .int 2, .ref b1])) rfl (by rw [hml]; rfl) (argsL := [.ref b1, .int 2, .int v2]) (rest := []) (lenOf pd___BII_V_470 rfl) rfl (by show 2 * 0 + _ ≤ _; exact Nat.le_of_eq rfl) (hb hby d24_20) (fun _ _ => ⟨rfl, rfl, (by decide : 1 + 0 ≤ _), (by decide : 6 + 0 ≤ _)⟩)
  dsimp only [Pt.U, Pt.locs, Pt.cells, Pt.slots] at X20 l20 y20 z20 st20 hQ20
  subst Lp20 kp20 np20
  obtain ⟨rfl, N20q, K20q, f20_0⟩ := hQ20
  have N20 := Fr.app N14 N20q
  have sz21 : T14.heap.size ≤ T20.heap.size := K20q.1
  have O22 : Old Z n0 T20.heap := O16.keep K20q (allS (by omega : n0 ≤ b1) all0)
  have K23 : Keep h0 T20.heap [] := K17.trans K20q (allS (P := fun x => x ∈ [] ∨ h0.size ≤ x) (Or.inr (by omega)) all0)
  have f20_0c : Arv Z T20.heap b1 kb1 .byte (6 : Int32) (own_L5 v0 v1 v2) (.int 0) := f20_0
  refine ov T20 23 A_5 [] st20 ?_
  refine ov T20 26 #[.val (.ref sa), .val (.int 3), .val (.int 3), .val (.ref b1), .val (.int 2)] [] (fun t k => XS.iinc X20.here hx rfl (hb hby d24_23) rfl (l' := #[.val (.ref sa), .val (.int 3), .val (.int 3), .val (.ref b1), .val (.int 2)]) rfl k) ?_
  let A_6 : Array Slot := #[.val (.ref sa), .val (.int 3), .val (.int 3), .val (.ref b1), .val (.int 3)]
  refine ov T20 29 A_6 [] (fun t k => XS.iinc X20.here hx rfl (hb hby d24_26) rfl (l' := A_6) rfl k) ?_
  refine ov T20 8 A_6 [] (fun t k => XS.goto X20.here hx rfl (pc0 := 29) (pc' := 8) rfl (hb hby d24_29) (by decide) (by decide) k) ?_
  refine ov T20 10 A_6 [.int 3] (fun t k => XS.iload X20.here hx rfl (hb hby d24_8) rfl k) ?_
  refine ov T20 11 A_6 [.int 3, .int 3] (fun t k => XS.iloadN X20.here hx rfl (hb hby d24_10) rfl k) ?_
  refine ov T20 32 A_6 [] (fun t k => XS.icmpYes X20.here hx rfl (pc0 := 11) (pc' := 32) rfl (hb hby d24_11) rfl (flt (by decide : ¬ ((3 : Int32) < (3 : Int32)))).2.1 (by decide) (by decide) k) ?_
  refine ov T20 33 A_6 [.ref b1] (fun t k => XS.aloadN X20.here hx rfl (hb hby d24_32) rfl rfl k) ?_
  refine own_ret (Q := Q_own_tob3 Z sa ks v0 v1 v2 h0 n0) (C := rm2_1_6_24.cells) (N := rm2_1_6_24.slots) X20 (v := some (.ref b1)) (fun h => by rw [Bd.returns] at h; cases h) Bd.notSynchronized ?_ (by decide) (by decide) (fun fs hr => retOut X20 hx Bd.returns rfl (Or.inr (Or.inr (Or.inr (Or.inr ⟨rfl, rfl, rfl⟩)))) (hb hby d24_33) hr)
  show Q_own_tob3 Z sa ks v0 v1 v2 h0 n0 _ T20.heap _
  exact ⟨b1, kb1, rfl, N20, K23, f20_0c, (by omega)⟩
def Q_own_c3_3 (Z : State) (sa : Addr) (ks : ClassId) (v0 : Int32) (v1 : Int32) (v2 : Int32) (h0 : Heap) (n0 : Nat) (v : Option Value) (h : Heap) (L : List Loc) : Prop := ∃ b : Addr, ∃ kb : ClassId, v = some (.ref b) ∧ Fr n0 L ∧ Keep h0 h [] ∧ Arv Z h b kb .byte (6 : Int32) (own_L5 v0 v1 v2) (.int 0) ∧ (h0.size ≤ b)
set_option maxRecDepth 65536 in
set_option maxHeartbeats 40000000 in
theorem own_c3_3 (l : Launch) (Z : State) (a0 : Array Value) (hw : ∀ d ∈ tables_1, d.before a0 Z = true) (ws : List Jvm.Cond) (sa : Addr) (ks : ClassId) (v0 : Int32) (v1 : Int32) (v2 : Int32) (h0 : Heap) (n0 : Nat) (O0 : Old Z n0 h0) (zf_S_java_lang_StringUTF16__assertionsDisabled : Sta Z Z.heap "java/lang/StringUTF16" "$assertionsDisabled" "Z" (.int 1)) (zf_S_java_lang_StringUTF16_HI_BYTE_SHIFT : Sta Z Z.heap "java/lang/StringUTF16" "HI_BYTE_SHIFT" "I" (.int 0)) (zf_S_java_lang_StringUTF16_LO_BYTE_SHIFT : Sta Z Z.heap "java/lang/StringUTF16" "LO_BYTE_SHIFT" "I" (.int 8)) (f0_A_sa : Arv Z h0 sa ks .char (3 : Int32) [.int v0, .int v1, .int v2] (.int 0)) (qv0 : ¬ v0 < (1 : Int32) ∧ ¬ (65535 : Int32) < v0) (qv1 : ¬ v1 < (1 : Int32) ∧ ¬ (65535 : Int32) < v1) (qv2 : ¬ v2 < (1 : Int32) ∧ ¬ (65535 : Int32) < v2) (hU : (255 : Int32) < v0 ∨ (255 : Int32) < v1 ∨ (255 : Int32) < v2) :
    MetFree l mt8 (head1 (Jvm.Cond.code mt8 jdk_52_method_16_code 6 (some (.array .byte)) :: ws) rm3_2_9_40) (fun aq U => aq = #[.ref sa, .int 0, .int 3] ∧ Z.Warmed39 U.vm ∧ U.heap = h0) (fun _ _ _ _ _ => True) (fun _ U o U' => ∃ v L, o = .returned v ∧ Q_own_c3_3 Z sa ks v0 v1 v2 h0 n0 v U'.heap L ∧ FrameEnd U o U' L rm3_2_9_40.cells rm3_2_9_40.slots) := by
  refine MetFree.of_bodySF (plainFor_of_name pn_java_lang_StringUTF16) hisR ?_
  intro p e s m args below meth c s₁ Bd hml0 hP hK
  obtain ⟨rfl, hZ, hh⟩ := hP
  have hx := Bd.exec
  have hby := Bd.bytes
  have hml : c.maxLocals = 6 := hml0
  have hown : s.vm.findClass "java/lang/StringUTF16" = some m.cls := findClass_of_methodNamed Bd.named
  have hnm := (name_of_methodNamed Bd.named Bd.method).1
  have X0 : Stand p l e rm3_2_9_40 s m #[.ref sa, .int 0, .int 3] below meth c s₁ [] 0 0 := Stand.of_body Bd
  have e0 : s₁.heap = h0 := by rw [← hh, Bd.state]; rfl
  have N0 := Fr.nil n0
  have zO := O0.1
  have zO2 := O0.2.1
  have fl_A_sa : h0.size > sa := f0_A_sa.lt
  refine own_open (own_via (S' := s₁.setTop (mkF m 0 #[.val (.ref sa), .val (.int 0), .val (.int 3), .unset, .unset, .unset] [])) (fun t k => castTop (ef_own_c3_3 m sa (0 : Int32) (3 : Int32)) k) ?_)
  have K0 : Keep h0 h0 [] := Keep.refl _ _
  let A_1 : Array Slot := #[.val (.ref sa), .val (.int 0), .val (.int 3), .unset, .unset, .unset]
  refine ov s₁ 1 A_1 [.int 3] (fun t k => XS.iloadN X0.here hx rfl (hb hby d20_0) rfl k) ?_
  obtain ⟨T1, h1, k1, X1, e1, E1, A1, st1⟩ := newP (aty := .byte) X0 hx hZ (wd21 hw) e0 (g := (mkF m 1 A_1 [.int 3])) rfl (hb hby d20_1) rfl (by decide : ¬ ((3 : Int32) < (0 : Int32))) (cap := 3) (by decide) (by decide) (by decide) (by decide)
  obtain ⟨b1, g1⟩ : ∃ z, z = h0.size := ⟨_, rfl⟩
  rw [← g1] at A1 st1
  have lt_b1 : h1.size > b1 := A1.lt
  have sz2 : h0.size ≤ h1.size := E1.1
  have O3 : Old Z n0 h1 := O0.ext E1
  have K4 : Keep h0 h1 [] := K0.ext E1
  have V1 : Arv Z h1 b1 k1 .byte (3 : Int32) [.int 0, .int 0, .int 0] (.int 0) := (Arv.new A1 (by decide)).pad (pad_rep [] (.int 0) 3)
  refine ov T1 3 A_1 [.ref b1] st1 ?_
  let A_2 : Array Slot := #[.val (.ref sa), .val (.int 0), .val (.int 3), .val (.ref b1), .unset, .unset]
  refine ov T1 4 A_2 [] (fun t k => XS.astoreN X1.here hx rfl (hb hby d20_3) rfl rfl (l' := A_2) rfl k) ?_
  refine ov T1 5 A_2 [.ref sa] (fun t k => XS.aloadN X1.here hx rfl (hb hby d20_4) rfl rfl k) ?_
  refine ov T1 6 A_2 [.int 0, .ref sa] (fun t k => XS.iloadN X1.here hx rfl (hb hby d20_5) rfl k) ?_
  refine ov T1 7 A_2 [.ref b1, .int 0, .ref sa] (fun t k => XS.aloadN X1.here hx rfl (hb hby d20_6) rfl rfl k) ?_
  refine ov T1 8 A_2 [.int 0, .ref b1, .int 0, .ref sa] (fun t k => XS.iconst X1.here hx rfl (hb hby d20_7) k) ?_
  refine ov T1 9 A_2 [.int 3, .int 0, .ref b1, .int 0, .ref sa] (fun t k => XS.iloadN X1.here hx rfl (hb hby d20_8) rfl k) ?_
  have cx6 : Arv Z h1 sa ks .char (3 : Int32) [.int v0, .int v1, .int v2] (.int 0) := (f0_A_sa.ext E1)
  obtain ⟨_, _, ⟨T5, Lp5, kp5, np5⟩, -, X5, ⟨Lc5, hQ5, l5, y5, z5⟩, st5⟩ := Jvm.LawKit.callS X1 hx (y := mt6) hown (mvT hZ (wd95 hw)) (mvT hZ (wd96 hw)) (mvT hZ (wd93 hw)) (mvT hZ (wd97 hw)) (by decide) (backOf (W := 0) (own_cx3 l Z a0 hw [] sa ks b1 k1 v0 v1 v2 h1 n0 O3 cx6 V1 hU (by omega) (by first | assumption | exact Ne.symm (by assumption) | omega | exact Nat.ne_of_lt (by omega) | exact Nat.ne_of_gt (by omega) | decide | exact Nat.le_of_ble_eq_true rfl)) hZ (wd97 hw) (wd93 hw) (by decide) (by decide)) (g := (mkF m 9 A_2 [.int 3, .int 0, .ref b1, .int 0, .ref sa])) rfl (by rw [hml]; rfl) (argsL := [.ref sa, .int 0, .ref b1, .int 0, .int 3]) (rest := []) (lenOf pd___CI_BII_I_688 rfl) rfl (by show 2 * 0 + _ ≤ _; exact Nat.le_of_eq rfl) (hb hby d20_9) (fun _ _ => ⟨rfl, e1, (by decide : 1 + 0 ≤ _), (by decide : 3 + 0 ≤ _)⟩)
  dsimp only [Pt.U, Pt.locs, Pt.cells, Pt.slots] at X5 l5 y5 z5 st5 hQ5
  subst Lp5 kp5 np5
  obtain ⟨z5, rfl, N5q, K5q, pp5_0⟩ := hQ5
  have N5 := Fr.app N0 N5q
  have sz7 : h1.size ≤ T5.heap.size := K5q.1
  have O8 : Old Z n0 T5.heap := O3.keep K5q (allS (by omega : n0 ≤ b1) all0)
  have K9 : Keep h0 T5.heap [] := K4.trans K5q (allS (P := fun x => x ∈ [] ∨ h0.size ≤ x) (Or.inr (by omega)) all0)
  refine ov T5 12 A_2 [.int z5] st5 ?_
  rcases pp5_0 with ⟨hz, hv⟩ | ⟨hz, hv⟩ | ⟨hz, hv⟩
  · -- 0
    rw [hz]
    let A_3 : Array Slot := #[.val (.ref sa), .val (.int 0), .val (.int 3), .val (.ref b1), .val (.int 0), .unset]
    refine ov T5 14 A_3 [] (fun t k => XS.istore X5.here hx rfl (hb hby d20_12) rfl (l' := A_3) rfl k) ?_
    refine ov T5 16 A_3 [.int 0] (fun t k => XS.iload X5.here hx rfl (hb hby d20_14) rfl k) ?_
    refine ov T5 17 A_3 [.int 3, .int 0] (fun t k => XS.iloadN X5.here hx rfl (hb hby d20_16) rfl k) ?_
    refine ov T5 20 A_3 [] (fun t k => XS.icmpNo X5.here hx rfl (hb hby d20_17) rfl (feq (by decide : ¬ ((0 : Int32) = (3 : Int32)))).1 k) ?_
    refine ov T5 21 A_3 [.ref sa] (fun t k => XS.aloadN X5.here hx rfl (hb hby d20_20) rfl rfl k) ?_
    refine ov T5 22 A_3 [.int 0, .ref sa] (fun t k => XS.iloadN X5.here hx rfl (hb hby d20_21) rfl k) ?_
    refine ov T5 23 A_3 [.int 3, .int 0, .ref sa] (fun t k => XS.iloadN X5.here hx rfl (hb hby d20_22) rfl k) ?_
    have ne_sa_b1 : sa ≠ b1 := by first | exact Nat.ne_of_lt (by omega) | exact Nat.ne_of_gt (by omega)
    have cx11 : Arv Z T5.heap sa ks .char (3 : Int32) [.int v0, .int v1, .int v2] (.int 0) := (cx6.keep K5q (ninS ne_sa_b1 nin0))
    obtain ⟨_, _, ⟨T10, Lp10, kp10, np10⟩, -, X10, ⟨Lc10, hQ10, l10, y10, z10⟩, st10⟩ := Jvm.LawKit.callS X5 hx (y := mt7) hown (mvT hZ (wd104 hw)) (mvT hZ (wd105 hw)) (mvT hZ (wd93 hw)) (mvT hZ (wd106 hw)) (by decide) (backOf (W := 0) (own_tob3 l Z a0 hw [] sa ks v0 v1 v2 T5.heap n0 O8 zf_S_java_lang_StringUTF16__assertionsDisabled zf_S_java_lang_StringUTF16_HI_BYTE_SHIFT zf_S_java_lang_StringUTF16_LO_BYTE_SHIFT cx11) hZ (wd106 hw) (wd93 hw) (by decide) (by decide)) (g := (mkF m 23 A_3 [.int 3, .int 0, .ref sa])) rfl (by rw [hml]; rfl) (argsL := [.ref sa, .int 0, .int 3]) (rest := []) (lenOf pd___CII__B_542 rfl) rfl (by show 2 * 0 + _ ≤ _; exact Nat.le_of_eq rfl) (hb hby d20_23) (fun _ _ => ⟨rfl, rfl, (by decide : 1 + 1 ≤ _), (by decide : 3 + 6 ≤ _)⟩)
    dsimp only [Pt.U, Pt.locs, Pt.cells, Pt.slots] at X10 l10 y10 z10 st10 hQ10
    subst Lp10 kp10 np10
    obtain ⟨b10, kb10, rfl, N10q, K10q, f10_0, pp10_0⟩ := hQ10
    have N10 := Fr.app N5 N10q
    have sz12 : T5.heap.size ≤ T10.heap.size := K10q.1
    have O13 : Old Z n0 T10.heap := O8.keep K10q all0
    have K14 : Keep h0 T10.heap [] := K9.trans K10q all0
    have lt15_b10 : T10.heap.size > b10 := f10_0.lt
    refine ov T10 26 A_3 [.ref b10] st10 ?_
    let A_4 : Array Slot := #[.val (.ref sa), .val (.int 0), .val (.int 3), .val (.ref b1), .val (.int 0), .val (.ref b10)]
    refine ov T10 28 A_4 [] (fun t k => XS.astore X10.here hx rfl (hb hby d20_26) rfl rfl (l' := A_4) rfl k) ?_
    refine ov T10 30 A_4 [.ref b10] (fun t k => XS.aload X10.here hx rfl (hb hby d20_28) rfl rfl k) ?_
    refine ov T10 32 A_4 [.int 0, .ref b10] (fun t k => XS.iload X10.here hx rfl (hb hby d20_30) rfl k) ?_
    obtain ⟨_, _, ⟨T16, Lp16, kp16, np16⟩, -, X16, ⟨Lc16, hQ16, l16, y16, z16⟩, st16⟩ := Jvm.LawKit.callS X10 hx (y := mt3) hown (mvT hZ (wd120 hw)) (mvT hZ (wd121 hw)) (mvT hZ (wd93 hw)) (mvT hZ (wd122 hw)) (by decide) (backOf (W := 0) (own_gc l Z a0 hw [] b10 kb10 (6 : Int32) (own_L5 v0 v1 v2) (0 : Int32) v0 T10.heap n0 O13 zf_S_java_lang_StringUTF16__assertionsDisabled zf_S_java_lang_StringUTF16_HI_BYTE_SHIFT zf_S_java_lang_StringUTF16_LO_BYTE_SHIFT f10_0 (by decide) (by decide) (by decide) (by decide) rfl rfl qv0) hZ (wd122 hw) (wd93 hw) (by decide) (by decide)) (g := (mkF m 32 A_4 [.int 0, .ref b10])) rfl (by rw [hml]; rfl) (argsL := [.ref b10, .int 0]) (rest := []) (lenOf pd___BI_C_378 rfl) rfl (by show 2 * 0 + _ ≤ _; exact Nat.le_of_eq rfl) (hb hby d20_32) (fun _ _ => ⟨rfl, rfl, (by decide : 2 + 0 ≤ _), (by decide : 9 + 0 ≤ _)⟩)
    dsimp only [Pt.U, Pt.locs, Pt.cells, Pt.slots] at X16 l16 y16 z16 st16 hQ16
    subst Lp16 kp16 np16
    obtain ⟨rfl, rfl, e16⟩ := hQ16
    try rw [List.append_nil] at X16
    refine ov T16 35 A_4 [.int v0] st16 ?_
    refine ov T16 38 A_4 [.int 255, .int v0] (fun t k => XS.sipush X16.here hx rfl (hb hby d20_35) k) ?_
    refine ov T16 54 A_4 [] (fun t k => XS.icmpYes X16.here hx rfl (pc0 := 38) (pc' := 54) rfl (hb hby d20_38) rfl (tlt hv).2.2.1 (by decide) (by decide) k) ?_
    refine ov T16 56 A_4 [.ref b10] (fun t k => XS.aload X16.here hx rfl (hb hby d20_54) rfl rfl k) ?_
    refine own_ret (Q := Q_own_c3_3 Z sa ks v0 v1 v2 h0 n0) (C := rm3_2_9_40.cells) (N := rm3_2_9_40.slots) X16 (v := some (.ref b10)) (fun h => by rw [Bd.returns] at h; cases h) Bd.notSynchronized ?_ (by decide) (by decide) (fun fs hr => retOut X16 hx Bd.returns rfl (Or.inr (Or.inr (Or.inr (Or.inr ⟨rfl, rfl, rfl⟩)))) (hb hby d20_56) hr)
    show Q_own_c3_3 Z sa ks v0 v1 v2 h0 n0 _ T16.heap _
    rw [e16]
    exact ⟨b10, kb10, rfl, N10, K14, f10_0, (by omega)⟩
  · -- 1
    rw [hz]
    let A_5 : Array Slot := #[.val (.ref sa), .val (.int 0), .val (.int 3), .val (.ref b1), .val (.int 1), .unset]
    refine ov T5 14 A_5 [] (fun t k => XS.istore X5.here hx rfl (hb hby d20_12) rfl (l' := A_5) rfl k) ?_
    refine ov T5 16 A_5 [.int 1] (fun t k => XS.iload X5.here hx rfl (hb hby d20_14) rfl k) ?_
    refine ov T5 17 A_5 [.int 3, .int 1] (fun t k => XS.iloadN X5.here hx rfl (hb hby d20_16) rfl k) ?_
    refine ov T5 20 A_5 [] (fun t k => XS.icmpNo X5.here hx rfl (hb hby d20_17) rfl (feq (by decide : ¬ ((1 : Int32) = (3 : Int32)))).1 k) ?_
    refine ov T5 21 A_5 [.ref sa] (fun t k => XS.aloadN X5.here hx rfl (hb hby d20_20) rfl rfl k) ?_
    refine ov T5 22 A_5 [.int 0, .ref sa] (fun t k => XS.iloadN X5.here hx rfl (hb hby d20_21) rfl k) ?_
    refine ov T5 23 A_5 [.int 3, .int 0, .ref sa] (fun t k => XS.iloadN X5.here hx rfl (hb hby d20_22) rfl k) ?_
    have ne_sa_b1 : sa ≠ b1 := by first | exact Nat.ne_of_lt (by omega) | exact Nat.ne_of_gt (by omega)
    have cx18 : Arv Z T5.heap sa ks .char (3 : Int32) [.int v0, .int v1, .int v2] (.int 0) := (cx6.keep K5q (ninS ne_sa_b1 nin0))
    obtain ⟨_, _, ⟨T17, Lp17, kp17, np17⟩, -, X17, ⟨Lc17, hQ17, l17, y17, z17⟩, st17⟩ := Jvm.LawKit.callS X5 hx (y := mt7) hown (mvT hZ (wd104 hw)) (mvT hZ (wd105 hw)) (mvT hZ (wd93 hw)) (mvT hZ (wd106 hw)) (by decide) (backOf (W := 0) (own_tob3 l Z a0 hw [] sa ks v0 v1 v2 T5.heap n0 O8 zf_S_java_lang_StringUTF16__assertionsDisabled zf_S_java_lang_StringUTF16_HI_BYTE_SHIFT zf_S_java_lang_StringUTF16_LO_BYTE_SHIFT cx18) hZ (wd106 hw) (wd93 hw) (by decide) (by decide)) (g := (mkF m 23 A_5 [.int 3, .int 0, .ref sa])) rfl (by rw [hml]; rfl) (argsL := [.ref sa, .int 0, .int 3]) (rest := []) (lenOf pd___CII__B_542 rfl) rfl (by show 2 * 0 + _ ≤ _; exact Nat.le_of_eq rfl) (hb hby d20_23) (fun _ _ => ⟨rfl, rfl, (by decide : 1 + 1 ≤ _), (by decide : 3 + 6 ≤ _)⟩)
    dsimp only [Pt.U, Pt.locs, Pt.cells, Pt.slots] at X17 l17 y17 z17 st17 hQ17
    subst Lp17 kp17 np17
    obtain ⟨b17, kb17, rfl, N17q, K17q, f17_0, pp17_0⟩ := hQ17
    have N17 := Fr.app N5 N17q
    have sz19 : T5.heap.size ≤ T17.heap.size := K17q.1
    have O20 : Old Z n0 T17.heap := O8.keep K17q all0
    have K21 : Keep h0 T17.heap [] := K9.trans K17q all0
    have lt22_b17 : T17.heap.size > b17 := f17_0.lt
    refine ov T17 26 A_5 [.ref b17] st17 ?_
    let A_6 : Array Slot := #[.val (.ref sa), .val (.int 0), .val (.int 3), .val (.ref b1), .val (.int 1), .val (.ref b17)]
    refine ov T17 28 A_6 [] (fun t k => XS.astore X17.here hx rfl (hb hby d20_26) rfl rfl (l' := A_6) rfl k) ?_
    refine ov T17 30 A_6 [.ref b17] (fun t k => XS.aload X17.here hx rfl (hb hby d20_28) rfl rfl k) ?_
    refine ov T17 32 A_6 [.int 1, .ref b17] (fun t k => XS.iload X17.here hx rfl (hb hby d20_30) rfl k) ?_
    obtain ⟨_, _, ⟨T23, Lp23, kp23, np23⟩, -, X23, ⟨Lc23, hQ23, l23, y23, z23⟩, st23⟩ := Jvm.LawKit.callS X17 hx (y := mt3) hown (mvT hZ (wd120 hw)) (mvT hZ (wd121 hw)) (mvT hZ (wd93 hw)) (mvT hZ (wd122 hw)) (by decide) (backOf (W := 0) (own_gc l Z a0 hw [] b17 kb17 (6 : Int32) (own_L5 v0 v1 v2) (1 : Int32) v1 T17.heap n0 O20 zf_S_java_lang_StringUTF16__assertionsDisabled zf_S_java_lang_StringUTF16_HI_BYTE_SHIFT zf_S_java_lang_StringUTF16_LO_BYTE_SHIFT f17_0 (by decide) (by decide) (by decide) (by decide) rfl rfl qv1) hZ (wd122 hw) (wd93 hw) (by decide) (by decide)) (g := (mkF m 32 A_6 [.int 1, .ref b17])) rfl (by rw [hml]; rfl) (argsL := [.ref b17, .int 1]) (rest := []) (lenOf pd___BI_C_378 rfl) rfl (by show 2 * 0 + _ ≤ _; exact Nat.le_of_eq rfl) (hb hby d20_32) (fun _ _ => ⟨rfl, rfl, (by decide : 2 + 0 ≤ _), (by decide : 9 + 0 ≤ _)⟩)
    dsimp only [Pt.U, Pt.locs, Pt.cells, Pt.slots] at X23 l23 y23 z23 st23 hQ23
    subst Lp23 kp23 np23
    obtain ⟨rfl, rfl, e23⟩ := hQ23
    try rw [List.append_nil] at X23
    refine ov T23 35 A_6 [.int v1] st23 ?_
    refine ov T23 38 A_6 [.int 255, .int v1] (fun t k => XS.sipush X23.here hx rfl (hb hby d20_35) k) ?_
    refine ov T23 54 A_6 [] (fun t k => XS.icmpYes X23.here hx rfl (pc0 := 38) (pc' := 54) rfl (hb hby d20_38) rfl (tlt hv).2.2.1 (by decide) (by decide) k) ?_
    refine ov T23 56 A_6 [.ref b17] (fun t k => XS.aload X23.here hx rfl (hb hby d20_54) rfl rfl k) ?_
    refine own_ret (Q := Q_own_c3_3 Z sa ks v0 v1 v2 h0 n0) (C := rm3_2_9_40.cells) (N := rm3_2_9_40.slots) X23 (v := some (.ref b17)) (fun h => by rw [Bd.returns] at h; cases h) Bd.notSynchronized ?_ (by decide) (by decide) (fun fs hr => retOut X23 hx Bd.returns rfl (Or.inr (Or.inr (Or.inr (Or.inr ⟨rfl, rfl, rfl⟩)))) (hb hby d20_56) hr)
    show Q_own_c3_3 Z sa ks v0 v1 v2 h0 n0 _ T23.heap _
    rw [e23]
    exact ⟨b17, kb17, rfl, N17, K21, f17_0, (by omega)⟩
  · -- 2
    rw [hz]
    let A_7 : Array Slot := #[.val (.ref sa), .val (.int 0), .val (.int 3), .val (.ref b1), .val (.int 2), .unset]
    refine ov T5 14 A_7 [] (fun t k => XS.istore X5.here hx rfl (hb hby d20_12) rfl (l' := A_7) rfl k) ?_
    refine ov T5 16 A_7 [.int 2] (fun t k => XS.iload X5.here hx rfl (hb hby d20_14) rfl k) ?_
    refine ov T5 17 A_7 [.int 3, .int 2] (fun t k => XS.iloadN X5.here hx rfl (hb hby d20_16) rfl k) ?_
    refine ov T5 20 A_7 [] (fun t k => XS.icmpNo X5.here hx rfl (hb hby d20_17) rfl (feq (by decide : ¬ ((2 : Int32) = (3 : Int32)))).1 k) ?_
    refine ov T5 21 A_7 [.ref sa] (fun t k => XS.aloadN X5.here hx rfl (hb hby d20_20) rfl rfl k) ?_
    refine ov T5 22 A_7 [.int 0, .ref sa] (fun t k => XS.iloadN X5.here hx rfl (hb hby d20_21) rfl k) ?_
    refine ov T5 23 A_7 [.int 3, .int 0, .ref sa] (fun t k => XS.iloadN X5.here hx rfl (hb hby d20_22) rfl k) ?_
    have ne_sa_b1 : sa ≠ b1 := by first | exact Nat.ne_of_lt (by omega) | exact Nat.ne_of_gt (by omega)
    have cx25 : Arv Z T5.heap sa ks .char (3 : Int32) [.int v0, .int v1, .int v2] (.int 0) := (cx6.keep K5q (ninS ne_sa_b1 nin0))
    obtain ⟨_, _, ⟨T24, Lp24, kp24, np24⟩, -, X24, ⟨Lc24, hQ24, l24, y24, z24⟩, st24⟩ := Jvm.LawKit.callS X5 hx (y := mt7) hown (mvT hZ (wd104 hw)) (mvT hZ (wd105 hw)) (mvT hZ (wd93 hw)) (mvT hZ (wd106 hw)) (by decide) (backOf (W := 0) (own_tob3 l Z a0 hw [] sa ks v0 v1 v2 T5.heap n0 O8 zf_S_java_lang_StringUTF16__assertionsDisabled zf_S_java_lang_StringUTF16_HI_BYTE_SHIFT zf_S_java_lang_StringUTF16_LO_BYTE_SHIFT cx25) hZ (wd106 hw) (wd93 hw) (by decide) (by decide)) (g := (mkF m 23 A_7 [.int 3, .int 0, .ref sa])) rfl (by rw [hml]; rfl) (argsL := [.ref sa, .int 0, .int 3]) (rest := []) (lenOf pd___CII__B_542 rfl) rfl (by show 2 * 0 + _ ≤ _; exact Nat.le_of_eq rfl) (hb hby d20_23) (fun _ _ => ⟨rfl, rfl, (by decide : 1 + 1 ≤ _), (by decide : 3 + 6 ≤ _)⟩)
    dsimp only [Pt.U, Pt.locs, Pt.cells, Pt.slots] at X24 l24 y24 z24 st24 hQ24
    subst Lp24 kp24 np24
    obtain ⟨b24, kb24, rfl, N24q, K24q, f24_0, pp24_0⟩ := hQ24
    have N24 := Fr.app N5 N24q
    have sz26 : T5.heap.size ≤ T24.heap.size := K24q.1
    have O27 : Old Z n0 T24.heap := O8.keep K24q all0
    have K28 : Keep h0 T24.heap [] := K9.trans K24q all0
    have lt29_b24 : T24.heap.size > b24 := f24_0.lt
    refine ov T24 26 A_7 [.ref b24] st24 ?_
    let A_8 : Array Slot := #[.val (.ref sa), .val (.int 0), .val (.int 3), .val (.ref b1), .val (.int 2), .val (.ref b24)]
    refine ov T24 28 A_8 [] (fun t k => XS.astore X24.here hx rfl (hb hby d20_26) rfl rfl (l' := A_8) rfl k) ?_
    refine ov T24 30 A_8 [.ref b24] (fun t k => XS.aload X24.here hx rfl (hb hby d20_28) rfl rfl k) ?_
    refine ov T24 32 A_8 [.int 2, .ref b24] (fun t k => XS.iload X24.here hx rfl (hb hby d20_30) rfl k) ?_
    obtain ⟨_, _, ⟨T30, Lp30, kp30, np30⟩, -, X30, ⟨Lc30, hQ30, l30, y30, z30⟩, st30⟩ := Jvm.LawKit.callS X24 hx (y := mt3) hown (mvT hZ (wd120 hw)) (mvT hZ (wd121 hw)) (mvT hZ (wd93 hw)) (mvT hZ (wd122 hw)) (by decide) (backOf (W := 0) (own_gc l Z a0 hw [] b24 kb24 (6 : Int32) (own_L5 v0 v1 v2) (2 : Int32) v2 T24.heap n0 O27 zf_S_java_lang_StringUTF16__assertionsDisabled zf_S_java_lang_StringUTF16_HI_BYTE_SHIFT zf_S_java_lang_StringUTF16_LO_BYTE_SHIFT f24_0 (by decide) (by decide) (by decide) (by decide) rfl rfl qv2) hZ (wd122 hw) (wd93 hw) (by decide) (by decide)) (g := (mkF m 32 A_8 [.int 2, .ref b24])) rfl (by rw [hml]; rfl) (argsL := [.ref b24, .int 2]) (rest := []) (lenOf pd___BI_C_378 rfl) rfl (by show 2 * 0 + _ ≤ _; exact Nat.le_of_eq rfl) (hb hby d20_32) (fun _ _ => ⟨rfl, rfl, (by decide : 2 + 0 ≤ _), (by decide : 9 + 0 ≤ _)⟩)
    dsimp only [Pt.U, Pt.locs, Pt.cells, Pt.slots] at X30 l30 y30 z30 st30 hQ30
    subst Lp30 kp30 np30
    obtain ⟨rfl, rfl, e30⟩ := hQ30
    try rw [List.append_nil] at X30
    refine ov T30 35 A_8 [.int v2] st30 ?_
    refine ov T30 38 A_8 [.int 255, .int v2] (fun t k => XS.sipush X30.here hx rfl (hb hby d20_35) k) ?_
    refine ov T30 54 A_8 [] (fun t k => XS.icmpYes X30.here hx rfl (pc0 := 38) (pc' := 54) rfl (hb hby d20_38) rfl (tlt hv).2.2.1 (by decide) (by decide) k) ?_
    refine ov T30 56 A_8 [.ref b24] (fun t k => XS.aload X30.here hx rfl (hb hby d20_54) rfl rfl k) ?_
    refine own_ret (Q := Q_own_c3_3 Z sa ks v0 v1 v2 h0 n0) (C := rm3_2_9_40.cells) (N := rm3_2_9_40.slots) X30 (v := some (.ref b24)) (fun h => by rw [Bd.returns] at h; cases h) Bd.notSynchronized ?_ (by decide) (by decide) (fun fs hr => retOut X30 hx Bd.returns rfl (Or.inr (Or.inr (Or.inr (Or.inr ⟨rfl, rfl, rfl⟩)))) (hb hby d20_56) hr)
    show Q_own_c3_3 Z sa ks v0 v1 v2 h0 n0 _ T30.heap _
    rw [e30]
    exact ⟨b24, kb24, rfl, N24, K28, f24_0, (by omega)⟩
def Q_own_cfa3 (Z : State) (b : Addr) (kb : ClassId) (ys : List Value) (h0 : Heap) (n0 : Nat) (v : Option Value) (h : Heap) (L : List Loc) : Prop := v = some (.int 1) ∧ L = [] ∧ h = h0
set_option maxRecDepth 65536 in
set_option maxHeartbeats 40000000 in
theorem own_cfa3 (l : Launch) (Z : State) (a0 : Array Value) (hw : ∀ d ∈ tables_1, d.before a0 Z = true) (ws : List Jvm.Cond) (b : Addr) (kb : ClassId) (ys : List Value) (h0 : Heap) (n0 : Nat) (O0 : Old Z n0 h0) (f0_A_b : Arv Z h0 b kb .byte (6 : Int32) ys (.int 0)) :
    MetFree l mt9 (head1 (Jvm.Cond.code mt9 jdk_52_method_15_code 2 (some .byte) :: ws) rm0_0_0_0) (fun aq U => aq = #[.ref b, .int 3] ∧ Z.Warmed39 U.vm ∧ U.heap = h0) (fun _ _ _ _ _ => True) (fun _ U o U' => ∃ v L, o = .returned v ∧ Q_own_cfa3 Z b kb ys h0 n0 v U'.heap L ∧ FrameEnd U o U' L rm0_0_0_0.cells rm0_0_0_0.slots) := by
  refine MetFree.of_bodySF (plainFor_of_name pn_java_lang_StringUTF16) hisR ?_
  intro p e s m args below meth c s₁ Bd hml0 hP hK
  obtain ⟨rfl, hZ, hh⟩ := hP
  have hx := Bd.exec
  have hby := Bd.bytes
  have hml : c.maxLocals = 2 := hml0
  have hown : s.vm.findClass "java/lang/StringUTF16" = some m.cls := findClass_of_methodNamed Bd.named
  have hnm := (name_of_methodNamed Bd.named Bd.method).1
  have X0 : Stand p l e rm0_0_0_0 s m #[.ref b, .int 3] below meth c s₁ [] 0 0 := Stand.of_body Bd
  have e0 : s₁.heap = h0 := by rw [← hh, Bd.state]; rfl
  have N0 := Fr.nil n0
  have zO := O0.1
  have zO2 := O0.2.1
  have fl_A_b : h0.size > b := f0_A_b.lt
  refine own_open (own_via (S' := s₁.setTop (mkF m 0 #[.val (.ref b), .val (.int 3)] [])) (fun t k => castTop (ef_own_cfa3 m b (3 : Int32)) k) ?_)
  refine ov s₁ 1 #[.val (.ref b), .val (.int 3)] [.int 3] (fun t k => XS.iloadN X0.here hx rfl (hb hby d22_0) rfl k) ?_
  refine ov s₁ 2 #[.val (.ref b), .val (.int 3)] [.ref b, .int 3] (fun t k => XS.aloadN X0.here hx rfl (hb hby d22_1) rfl rfl k) ?_
  obtain ⟨cl1, Ar1, -, S1, N1, -, -⟩ := id f0_A_b
  refine ov s₁ 3 #[.val (.ref b), .val (.int 3)] [.int 6, .int 3] (fun t k => X0.arraylength hx (by first | (rw [e0]; exact Ar1.1) | exact Ar1.1) (State.isArrayOf_alike hZ.alike Ar1.2.1) (g := (mkF m 2 #[.val (.ref b), .val (.int 3)] [.ref b, .int 3])) rfl rfl (hb hby d22_2) _ (by rw [len_of S1 N1]; exact k)) ?_
  refine ov s₁ 4 #[.val (.ref b), .val (.int 3)] [(.int (-3))] (fun t k => XS.isub X0.here hx rfl (hb hby d22_3) rfl k) ?_
  refine ov s₁ 6 #[.val (.ref b), .val (.int 3)] [.int 31, (.int (-3))] (fun t k => XS.bipush X0.here hx rfl (hb hby d22_4) k) ?_
  refine ov s₁ 7 #[.val (.ref b), .val (.int 3)] [.int 1] (fun t k => XS.iushr X0.here hx rfl (hb hby d22_6) rfl k) ?_
  refine ov s₁ 8 #[.val (.ref b), .val (.int 3)] [.int 1] (fun t k => XS.i2b X0.here hx rfl (hb hby d22_7) rfl k) ?_
  refine own_ret (Q := Q_own_cfa3 Z b kb ys h0 n0) (C := rm0_0_0_0.cells) (N := rm0_0_0_0.slots) X0 (v := some (.int 1)) (fun h => by rw [Bd.returns] at h; cases h) Bd.notSynchronized ?_ (by decide) (by decide) (fun fs hr => retN X0 hx (t := .byte) Bd.returns (by simp) (hb hby d22_8) hr)
  show Q_own_cfa3 Z b kb ys h0 n0 _ s₁.heap _
  rw [e0]
  exact ⟨rfl, rfl, rfl⟩
def Q_own_n4_3 (Z : State) (a : Addr) (bc : Addr) (kc : ClassId) (zc : Int32) (v0 : Int32) (v1 : Int32) (v2 : Int32) (h0 : Heap) (n0 : Nat) (v : Option Value) (h : Heap) (L : List Loc) : Prop := ∃ tb : Addr, ∃ kb : ClassId, v = none ∧ Fr n0 L ∧ Keep h0 h [a] ∧ Fld Z h a "java/lang/String" "value" "[B" (.ref tb) ∧ Fld Z h a "java/lang/String" "coder" "B" (.int 1) ∧ Arv Z h tb kb .byte (6 : Int32) (own_L5 v0 v1 v2) (.int 0)
set_option maxRecDepth 65536 in
set_option maxHeartbeats 40000000 in
theorem own_n4_3 (l : Launch) (Z : State) (a0 : Array Value) (hw : ∀ d ∈ tables_1, d.before a0 Z = true) (ws : List Jvm.Cond) (a : Addr) (bc : Addr) (kc : ClassId) (zc : Int32) (v0 : Int32) (v1 : Int32) (v2 : Int32) (h0 : Heap) (n0 : Nat) (O0 : Old Z n0 h0) (zfC : Sta Z Z.heap "java/lang/String" "COMPACT_STRINGS" "Z" (.int zc)) (zf_S_java_lang_StringUTF16__assertionsDisabled : Sta Z Z.heap "java/lang/StringUTF16" "$assertionsDisabled" "Z" (.int 1)) (zf_S_java_lang_StringUTF16_HI_BYTE_SHIFT : Sta Z Z.heap "java/lang/StringUTF16" "HI_BYTE_SHIFT" "I" (.int 0)) (zf_S_java_lang_StringUTF16_LO_BYTE_SHIFT : Sta Z Z.heap "java/lang/StringUTF16" "LO_BYTE_SHIFT" "I" (.int 8)) (f0_E_a : Exa Z h0 a "java/lang/String") (f0_F_a_value : Fld Z h0 a "java/lang/String" "value" "[B" .null) (f0_F_a_coder : Fld Z h0 a "java/lang/String" "coder" "B" (.int 0)) (f0_A_bc : Arv Z h0 bc kc .char (3 : Int32) [.int v0, .int v1, .int v2] (.int 0)) (hzc : ¬ (zc = (0 : Int32))) (qv0 : ¬ v0 < (1 : Int32) ∧ ¬ (65535 : Int32) < v0) (qv1 : ¬ v1 < (1 : Int32) ∧ ¬ (65535 : Int32) < v1) (qv2 : ¬ v2 < (1 : Int32) ∧ ¬ (65535 : Int32) < v2) (hU : (255 : Int32) < v0 ∨ (255 : Int32) < v1 ∨ (255 : Int32) < v2) (g_a : n0 ≤ a) :
    MetFree l mt0 (head1 (Jvm.Cond.code mt0 jdk_42_method_149_code 6 none :: ws) rm4_2_9_57) (fun aq U => aq = #[.ref a, .ref bc, .int 0, .int 3, .null] ∧ Z.Warmed39 U.vm ∧ U.heap = h0) (fun _ _ _ _ _ => True) (fun _ U o U' => ∃ v L, o = .returned v ∧ Q_own_n4_3 Z a bc kc zc v0 v1 v2 h0 n0 v U'.heap L ∧ FrameEnd U o U' L rm4_2_9_57.cells rm4_2_9_57.slots) := by
  refine MetFree.of_bodySF (plainFor_of_name pn_java_lang_String) hisR ?_
  intro p e s m args below meth c s₁ Bd hml0 hP hK
  obtain ⟨rfl, hZ, hh⟩ := hP
  have hx := Bd.exec
  have hby := Bd.bytes
  have hml : c.maxLocals = 6 := hml0
  have hown : s.vm.findClass "java/lang/String" = some m.cls := findClass_of_methodNamed Bd.named
  have hnm := (name_of_methodNamed Bd.named Bd.method).1
  have X0 : Stand p l e rm4_2_9_57 s m #[.ref a, .ref bc, .int 0, .int 3, .null] below meth c s₁ [] 0 0 := Stand.of_body Bd
  have e0 : s₁.heap = h0 := by rw [← hh, Bd.state]; rfl
  have N0 := Fr.nil n0
  have zO := O0.1
  have zO2 := O0.2.1
  have fl_E_a : h0.size > a := f0_E_a.lt
  have fl_F_a_value : h0.size > a := f0_F_a_value.lt
  have fl_F_a_coder : h0.size > a := f0_F_a_coder.lt
  have fl_A_bc : h0.size > bc := f0_A_bc.lt
  refine own_open (own_via (S' := s₁.setTop (mkF m 0 #[.val (.ref a), .val (.ref bc), .val (.int 0), .val (.int 3), .val .null, .unset] [])) (fun t k => castTop (ef_own_n4_3 m a bc (0 : Int32) (3 : Int32)) k) ?_)
  have K0 : Keep h0 h0 [a] := Keep.refl _ _
  have ne_a_bc : a ≠ bc := Exa.neArv f0_E_a f0_A_bc (wd8 hw)
  let A_1 : Array Slot := #[.val (.ref a), .val (.ref bc), .val (.int 0), .val (.int 3), .val .null, .unset]
  refine ov s₁ 1 A_1 [.ref a] (fun t k => XS.aloadN X0.here hx rfl (hb hby d3_0) rfl rfl k) ?_
  obtain ⟨T1, X1, e1, st1⟩ := initO X0 hx hZ hown (wd17 hw) (wd18 hw) (wd19 hw) e0 (g := (mkF m 1 A_1 [.ref a])) rfl (by rw [hml]; rfl) rfl (hb hby d3_1) (by decide) (W := 0) (by show 2 * 0 + _ ≤ _; exact Nat.le_of_eq rfl) (by decide)
  refine ov T1 4 A_1 [] st1 ?_
  refine ov T1 5 A_1 [.int 3] (fun t k => XS.iloadN X1.here hx rfl (hb hby d3_4) rfl k) ?_
  refine ov T1 27 A_1 [] (fun t k => XS.ifYes X1.here hx rfl (pc0 := 5) (pc' := 27) rfl (hb hby d3_5) rfl ((if0 _ _).trans (feq (by decide : ¬ ((3 : Int32) = (0 : Int32)))).2) (by decide) (by decide) k) ?_
  have cx2 : Sta Z h0 "java/lang/String" "COMPACT_STRINGS" "Z" (.int zc) := zfC.ext O0.2
  obtain ⟨T3, X3, e3, st3⟩ := getS2 X1 hx hZ hown (host := "") (Or.inl (wd31 hw)) Via.refl e1 cx2 (g := (mkF m 27 A_1 [])) rfl (hb hby d3_27)
  refine ov T3 30 A_1 [.int zc] st3 ?_
  refine ov T3 33 A_1 [] (fun t k => XS.ifNo X3.here hx rfl (hb hby d3_30) rfl ((if0 _ _).trans (feq hzc).1) k) ?_
  refine ov T3 34 A_1 [.ref bc] (fun t k => XS.aloadN X3.here hx rfl (hb hby d3_33) rfl rfl k) ?_
  refine ov T3 35 A_1 [.int 0, .ref bc] (fun t k => XS.iloadN X3.here hx rfl (hb hby d3_34) rfl k) ?_
  refine ov T3 36 A_1 [.int 3, .int 0, .ref bc] (fun t k => XS.iloadN X3.here hx rfl (hb hby d3_35) rfl k) ?_
  obtain ⟨_, _, ⟨T4, Lp4, kp4, np4⟩, -, X4, ⟨Lc4, hQ4, l4, y4, z4⟩, st4⟩ := Jvm.LawKit.callS X3 hx (y := mt8) hown (mvT hZ (wd91 hw)) (mvT hZ (wd92 hw)) (mvT hZ (wd93 hw)) (mvT hZ (wd94 hw)) (by decide) (backOf (W := 0) (own_c3_3 l Z a0 hw [] bc kc v0 v1 v2 h0 n0 O0 zf_S_java_lang_StringUTF16__assertionsDisabled zf_S_java_lang_StringUTF16_HI_BYTE_SHIFT zf_S_java_lang_StringUTF16_LO_BYTE_SHIFT f0_A_bc qv0 qv1 qv2 hU) hZ (wd94 hw) (wd93 hw) (by decide) (by decide)) (g := (mkF m 36 A_1 [.int 3, .int 0, .ref bc])) rfl (by rw [hml]; rfl) (argsL := [.ref bc, .int 0, .int 3]) (rest := []) (lenOf pd___CII__B_542 rfl) rfl (by show 2 * 0 + _ ≤ _; exact Nat.le_of_eq rfl) (hb hby d3_36) (fun _ _ => ⟨rfl, e3, (by decide : 0 + 2 ≤ _), (by decide : 0 + 9 ≤ _)⟩)
  dsimp only [Pt.U, Pt.locs, Pt.cells, Pt.slots] at X4 l4 y4 z4 st4 hQ4
  subst Lp4 kp4 np4
  obtain ⟨b4, kb4, rfl, N4q, K4q, f4_0, pp4_0⟩ := hQ4
  have N4 := Fr.app N0 N4q
  have sz5 : h0.size ≤ T4.heap.size := K4q.1
  have O6 : Old Z n0 T4.heap := O0.keep K4q all0
  have K7 : Keep h0 T4.heap [a] := K0.trans K4q all0
  have lt8_b4 : T4.heap.size > b4 := f4_0.lt
  refine ov T4 39 A_1 [.ref b4] st4 ?_
  let A_2 : Array Slot := #[.val (.ref a), .val (.ref bc), .val (.int 0), .val (.int 3), .val .null, .val (.ref b4)]
  refine ov T4 41 A_2 [] (fun t k => XS.astore X4.here hx rfl (hb hby d3_39) rfl rfl (l' := A_2) rfl k) ?_
  refine ov T4 42 A_2 [.ref a] (fun t k => XS.aloadN X4.here hx rfl (hb hby d3_41) rfl rfl k) ?_
  refine ov T4 44 A_2 [.ref b4, .ref a] (fun t k => XS.aload X4.here hx rfl (hb hby d3_42) rfl rfl k) ?_
  refine ov T4 45 A_2 [.int 3, .ref b4, .ref a] (fun t k => XS.iloadN X4.here hx rfl (hb hby d3_44) rfl k) ?_
  obtain ⟨_, _, ⟨T9, Lp9, kp9, np9⟩, -, X9, ⟨Lc9, hQ9, l9, y9, z9⟩, st9⟩ := Jvm.LawKit.callS X4 hx (y := mt9) hown (mvT hZ (wd98 hw)) (mvT hZ (wd99 hw)) (mvT hZ (wd93 hw)) (mvT hZ (wd100 hw)) (by decide) (backOf (W := 1) (own_cfa3 l Z a0 hw [] b4 kb4 (own_L5 v0 v1 v2) T4.heap n0 O6 f4_0) hZ (wd100 hw) (wd93 hw) (by decide) (by decide)) (g := (mkF m 45 A_2 [.int 3, .ref b4, .ref a])) rfl (by rw [hml]; rfl) (argsL := [.ref b4, .int 3]) (rest := [.ref a]) (lenOf pd___BI_B_377 rfl) rfl (by show 2 * 0 + _ ≤ _; exact Nat.le_of_eq rfl) (hb hby d3_45) (fun _ _ => ⟨rfl, rfl, (by decide : 2 + 0 ≤ _), (by decide : 9 + 0 ≤ _)⟩)
  dsimp only [Pt.U, Pt.locs, Pt.cells, Pt.slots] at X9 l9 y9 z9 st9 hQ9
  subst Lp9 kp9 np9
  obtain ⟨rfl, rfl, e9⟩ := hQ9
  try rw [List.append_nil] at X9
  refine ov T9 48 A_2 [.int 1, .ref a] st9 ?_
  have cx10 : Exa Z T4.heap a "java/lang/String" := (f0_E_a.keep K4q)
  have cx11 : Fld Z T4.heap a "java/lang/String" "coder" "B" (.int 0) := (f0_F_a_coder.keep K4q nin0)
  obtain ⟨T12, h12, X12, e12, W12, st12⟩ := putFN X9 hx hZ hown (wd27 hw) Via.refl e9 cx11 cx10 (Or.inr ⟨(wd23 hw), rfl, hnm⟩) (wd8 hw) (ty := .byte) (v' := (.int 1)) (by decide) rfl rfl (g := (mkF m 48 A_2 [.int 1, .ref a])) rfl rfl (hb hby d3_48)
  have sz13 : T4.heap.size ≤ h12.size := Nat.le_of_eq W12.size.symm
  have O14 : Old Z n0 h12 := O6.wr W12 (by omega : n0 ≤ a)
  have N12 := Fr.snoc X12 N4 (by omega : n0 ≤ a)
  have K15 : Keep h0 h12 [a] := K7.wr W12 (Or.inl (List.mem_of_getElem? (i := 0) rfl))
  have Fw12 : Fld Z h12 a "java/lang/String" "coder" "B" (.int 1) := Fld.same W12 cx11
  refine ov T12 51 A_2 [] st12 ?_
  refine ov T12 52 A_2 [.ref a] (fun t k => XS.aloadN X12.here hx rfl (hb hby d3_51) rfl rfl k) ?_
  refine ov T12 54 A_2 [.ref b4, .ref a] (fun t k => XS.aload X12.here hx rfl (hb hby d3_52) rfl rfl k) ?_
  have cx16 : Exa Z h12 a "java/lang/String" := (Exa.wr W12 cx10)
  have cx17 : Fld Z h12 a "java/lang/String" "value" "[B" .null := (Fld.other W12 (f0_F_a_value.keep K4q nin0) (Or.inr (slot_ne (Or.inr (wd22 hw)) (Or.inr (wd23 hw)) (by decide) (t := (.array .byte)) (t' := .byte) (by decide) (by decide))))
  obtain ⟨T18, h18, X18, e18, W18, st18⟩ := putF X12 hx hZ hown (host := "") (Or.inl (wd26 hw)) Via.refl e12 cx17 cx16 (Or.inr ⟨(wd22 hw), rfl, hnm⟩) (wd8 hw) (ty := (.array .byte)) (by decide) rfl rfl (g := (mkF m 54 A_2 [.ref b4, .ref a])) rfl rfl (hb hby d3_54)
  have sz19 : h12.size ≤ h18.size := Nat.le_of_eq W18.size.symm
  have O20 : Old Z n0 h18 := O14.wr W18 (by omega : n0 ≤ a)
  have N18 := Fr.snoc X18 N12 (by omega : n0 ≤ a)
  have K21 : Keep h0 h18 [a] := K15.wr W18 (Or.inl (List.mem_of_getElem? (i := 0) rfl))
  have Fw18 : Fld Z h18 a "java/lang/String" "value" "[B" (.ref b4) := Fld.same W18 cx17
  refine ov T18 57 A_2 [] st18 ?_
  have cx22 : Fld Z h18 a "java/lang/String" "coder" "B" (.int 1) := (Fld.other W18 Fw12 (Or.inr (slot_ne (Or.inr (wd23 hw)) (Or.inr (wd22 hw)) (by decide) (t := .byte) (t' := (.array .byte)) (by decide) (by decide))))
  have ne_b4_a : b4 ≠ a := by first | exact (Exa.neArv cx10 f4_0 (wd8 hw)).symm | exact Nat.ne_of_lt (by omega) | exact Nat.ne_of_gt (by omega)
  have cx23 : Arv Z h18 b4 kb4 .byte (6 : Int32) (own_L5 v0 v1 v2) (.int 0) := ((f4_0.other W12 ne_b4_a).other W18 ne_b4_a)
  refine own_ret (Q := Q_own_n4_3 Z a bc kc zc v0 v1 v2 h0 n0) (C := rm4_2_9_57.cells) (N := rm4_2_9_57.slots) X18 (v := none) (fun _ => rfl) Bd.notSynchronized ?_ (by decide) (by decide) (fun fs hr => X18.returnOut hx Bd.returns (hb hby d3_57) hr)
  show Q_own_n4_3 Z a bc kc zc v0 v1 v2 h0 n0 _ T18.heap _
  rw [e18]
  exact ⟨b4, kb4, rfl, N18, K21, Fw18, cx22, cx23⟩
def Q_own_n1_3 (Z : State) (a : Addr) (bc : Addr) (kc : ClassId) (zc : Int32) (v0 : Int32) (v1 : Int32) (v2 : Int32) (h0 : Heap) (n0 : Nat) (v : Option Value) (h : Heap) (L : List Loc) : Prop := ∃ tb : Addr, ∃ kb : ClassId, v = none ∧ Fr n0 L ∧ Keep h0 h [a] ∧ Fld Z h a "java/lang/String" "value" "[B" (.ref tb) ∧ Fld Z h a "java/lang/String" "coder" "B" (.int 1) ∧ Arv Z h tb kb .byte (6 : Int32) (own_L5 v0 v1 v2) (.int 0)
set_option maxRecDepth 65536 in
set_option maxHeartbeats 40000000 in
theorem own_n1_3 (l : Launch) (Z : State) (a0 : Array Value) (hw : ∀ d ∈ tables_1, d.before a0 Z = true) (ws : List Jvm.Cond) (a : Addr) (bc : Addr) (kc : ClassId) (zc : Int32) (v0 : Int32) (v1 : Int32) (v2 : Int32) (h0 : Heap) (n0 : Nat) (O0 : Old Z n0 h0) (zfC : Sta Z Z.heap "java/lang/String" "COMPACT_STRINGS" "Z" (.int zc)) (zf_S_java_lang_StringUTF16__assertionsDisabled : Sta Z Z.heap "java/lang/StringUTF16" "$assertionsDisabled" "Z" (.int 1)) (zf_S_java_lang_StringUTF16_HI_BYTE_SHIFT : Sta Z Z.heap "java/lang/StringUTF16" "HI_BYTE_SHIFT" "I" (.int 0)) (zf_S_java_lang_StringUTF16_LO_BYTE_SHIFT : Sta Z Z.heap "java/lang/StringUTF16" "LO_BYTE_SHIFT" "I" (.int 8)) (f0_E_a : Exa Z h0 a "java/lang/String") (f0_F_a_value : Fld Z h0 a "java/lang/String" "value" "[B" .null) (f0_F_a_coder : Fld Z h0 a "java/lang/String" "coder" "B" (.int 0)) (f0_A_bc : Arv Z h0 bc kc .char (3 : Int32) [.int v0, .int v1, .int v2] (.int 0)) (hzc : ¬ (zc = (0 : Int32))) (qv0 : ¬ v0 < (1 : Int32) ∧ ¬ (65535 : Int32) < v0) (qv1 : ¬ v1 < (1 : Int32) ∧ ¬ (65535 : Int32) < v1) (qv2 : ¬ v2 < (1 : Int32) ∧ ¬ (65535 : Int32) < v2) (hU : (255 : Int32) < v0 ∨ (255 : Int32) < v1 ∨ (255 : Int32) < v2) (g_a : n0 ≤ a) :
    MetFree l mt1 (head1 (Jvm.Cond.code mt1 jdk_42_method_3_code 2 none :: ws) rm5_2_9_74) (fun aq U => aq = #[.ref a, .ref bc] ∧ Z.Warmed39 U.vm ∧ U.heap = h0) (fun _ _ _ _ _ => True) (fun _ U o U' => ∃ v L, o = .returned v ∧ Q_own_n1_3 Z a bc kc zc v0 v1 v2 h0 n0 v U'.heap L ∧ FrameEnd U o U' L rm5_2_9_74.cells rm5_2_9_74.slots) := by
  refine MetFree.of_bodySF (plainFor_of_name pn_java_lang_String) hisR ?_
  intro p e s m args below meth c s₁ Bd hml0 hP hK
  obtain ⟨rfl, hZ, hh⟩ := hP
  have hx := Bd.exec
  have hby := Bd.bytes
  have hml : c.maxLocals = 2 := hml0
  have hown : s.vm.findClass "java/lang/String" = some m.cls := findClass_of_methodNamed Bd.named
  have hnm := (name_of_methodNamed Bd.named Bd.method).1
  have X0 : Stand p l e rm5_2_9_74 s m #[.ref a, .ref bc] below meth c s₁ [] 0 0 := Stand.of_body Bd
  have e0 : s₁.heap = h0 := by rw [← hh, Bd.state]; rfl
  have N0 := Fr.nil n0
  have zO := O0.1
  have zO2 := O0.2.1
  have fl_E_a : h0.size > a := f0_E_a.lt
  have fl_F_a_value : h0.size > a := f0_F_a_value.lt
  have fl_F_a_coder : h0.size > a := f0_F_a_coder.lt
  have fl_A_bc : h0.size > bc := f0_A_bc.lt
  refine own_open (own_via (S' := s₁.setTop (mkF m 0 #[.val (.ref a), .val (.ref bc)] [])) (fun t k => castTop (ef_own_n1_3 m a bc) k) ?_)
  have K0 : Keep h0 h0 [a] := Keep.refl _ _
  have ne_a_bc : a ≠ bc := Exa.neArv f0_E_a f0_A_bc (wd8 hw)
  refine ov s₁ 1 #[.val (.ref a), .val (.ref bc)] [.ref a] (fun t k => XS.aloadN X0.here hx rfl (hb hby d2_0) rfl rfl k) ?_
  refine ov s₁ 2 #[.val (.ref a), .val (.ref bc)] [.ref bc, .ref a] (fun t k => XS.aloadN X0.here hx rfl (hb hby d2_1) rfl rfl k) ?_
  refine ov s₁ 3 #[.val (.ref a), .val (.ref bc)] [.int 0, .ref bc, .ref a] (fun t k => XS.iconst X0.here hx rfl (hb hby d2_2) k) ?_
  refine ov s₁ 4 #[.val (.ref a), .val (.ref bc)] [.ref bc, .int 0, .ref bc, .ref a] (fun t k => XS.aloadN X0.here hx rfl (hb hby d2_3) rfl rfl k) ?_
  obtain ⟨cl1, Ar1, -, S1, N1, -, -⟩ := id f0_A_bc
  refine ov s₁ 5 #[.val (.ref a), .val (.ref bc)] [.int 3, .int 0, .ref bc, .ref a] (fun t k => X0.arraylength hx (by first | (rw [e0]; exact Ar1.1) | exact Ar1.1) (State.isArrayOf_alike hZ.alike Ar1.2.1) (g := (mkF m 4 #[.val (.ref a), .val (.ref bc)] [.ref bc, .int 0, .ref bc, .ref a])) rfl rfl (hb hby d2_4) _ (by rw [len_of S1 N1]; exact k)) ?_
  refine ov s₁ 6 #[.val (.ref a), .val (.ref bc)] [.null, .int 3, .int 0, .ref bc, .ref a] (fun t k => XS.aconstNull X0.here hx rfl (hb hby d2_5) k) ?_
  obtain ⟨_, _, ⟨T2, Lp2, kp2, np2⟩, -, X2, ⟨Lc2, hQ2, l2, y2, z2⟩, st2⟩ := X0.specialBack hx (y := mt0) rfl hown (mvT hZ (wd13 hw)) (mvT hZ (wd14 hw)) (mvT hZ (wd16 hw)) (by decide) (backOf (W := 0) (own_n4_3 l Z a0 hw [] a bc kc zc v0 v1 v2 h0 n0 O0 zfC zf_S_java_lang_StringUTF16__assertionsDisabled zf_S_java_lang_StringUTF16_HI_BYTE_SHIFT zf_S_java_lang_StringUTF16_LO_BYTE_SHIFT f0_E_a f0_F_a_value f0_F_a_coder f0_A_bc hzc qv0 qv1 qv2 hU g_a) hZ (wd16 hw) (wd9 hw) (by decide) (by decide)) (g := (mkF m 6 #[.val (.ref a), .val (.ref bc)] [.null, .int 3, .int 0, .ref bc, .ref a])) rfl (by rw [hml]; rfl) (Steps.refl _) (a := a) (argsL := [.ref bc, .int 0, .int 3, .null]) (rest := []) (lenOf pd___CIILjava_lang_Void__V_1938 rfl) rfl (by show 2 * 0 + _ ≤ _; exact Nat.le_of_eq rfl) (hb hby d2_6) (fun _ _ => ⟨rfl, e0, (by decide : 0 + 2 ≤ _), (by decide : 0 + 9 ≤ _)⟩)
  dsimp only [Pt.U, Pt.locs, Pt.cells, Pt.slots] at X2 l2 y2 z2 st2 hQ2
  subst Lp2 kp2 np2
  obtain ⟨tb2, kb2, rfl, N2q, K2q, f2_0, f2_1, f2_2⟩ := hQ2
  have N2 := Fr.app N0 N2q
  have sz3 : h0.size ≤ T2.heap.size := K2q.1
  have O4 : Old Z n0 T2.heap := O0.keep K2q (allS (by omega : n0 ≤ a) all0)
  have K5 : Keep h0 T2.heap [a] := K0.trans K2q (allS (P := fun x => x ∈ [a] ∨ h0.size ≤ x) (Or.inl (List.mem_of_getElem? (i := 0) rfl)) all0)
  have lt6_tb2 : T2.heap.size > tb2 := f2_2.lt
  refine own_tr (S' := T2.setTop (mkF m 9 #[.val (.ref a), .val (.ref bc)] [])) st2 ?_
  refine own_ret (Q := Q_own_n1_3 Z a bc kc zc v0 v1 v2 h0 n0) (C := rm5_2_9_74.cells) (N := rm5_2_9_74.slots) X2 (v := none) (fun _ => rfl) Bd.notSynchronized ?_ (by decide) (by decide) (fun fs hr => X2.returnOut hx Bd.returns (hb hby d2_9) hr)
  show Q_own_n1_3 Z a bc kc zc v0 v1 v2 h0 n0 _ T2.heap _
  exact ⟨tb2, kb2, rfl, N2, K5, f2_0, f2_1, f2_2⟩
def Q_own_nbl4 (Z : State)  (h0 : Heap) (n0 : Nat) (v : Option Value) (h : Heap) (L : List Loc) : Prop := v = some (.int 8) ∧ L = [] ∧ h = h0
set_option maxRecDepth 65536 in
set_option maxHeartbeats 40000000 in
theorem own_nbl4 (l : Launch) (Z : State) (a0 : Array Value) (hw : ∀ d ∈ tables_1, d.before a0 Z = true) (ws : List Jvm.Cond)  (h0 : Heap) (n0 : Nat) (O0 : Old Z n0 h0) :
    MetFree l mt4 (head1 (Jvm.Cond.code mt4 jdk_52_method_3_code 1 (some .int) :: ws) rm0_0_0_0) (fun aq U => aq = #[.int 4] ∧ Z.Warmed39 U.vm ∧ U.heap = h0) (fun _ _ _ _ _ => True) (fun _ U o U' => ∃ v L, o = .returned v ∧ Q_own_nbl4 Z  h0 n0 v U'.heap L ∧ FrameEnd U o U' L rm0_0_0_0.cells rm0_0_0_0.slots) := by
  refine MetFree.of_bodySF (plainFor_of_name pn_java_lang_StringUTF16) hisR ?_
  intro p e s m args below meth c s₁ Bd hml0 hP hK
  obtain ⟨rfl, hZ, hh⟩ := hP
  have hx := Bd.exec
  have hby := Bd.bytes
  have hml : c.maxLocals = 1 := hml0
  have hown : s.vm.findClass "java/lang/StringUTF16" = some m.cls := findClass_of_methodNamed Bd.named
  have hnm := (name_of_methodNamed Bd.named Bd.method).1
  have X0 : Stand p l e rm0_0_0_0 s m #[.int 4] below meth c s₁ [] 0 0 := Stand.of_body Bd
  have e0 : s₁.heap = h0 := by rw [← hh, Bd.state]; rfl
  have N0 := Fr.nil n0
  have zO := O0.1
  have zO2 := O0.2.1
  refine own_open (own_via (S' := s₁.setTop (mkF m 0 #[.val (.int 4)] [])) (fun t k => castTop (ef_own_nbl4 m (4 : Int32)) k) ?_)
  refine ov s₁ 1 #[.val (.int 4)] [.int 4] (fun t k => XS.iloadN X0.here hx rfl (hb hby d26_0) rfl k) ?_
  refine ov s₁ 12 #[.val (.int 4)] [] (fun t k => XS.ifYes X0.here hx rfl (pc0 := 1) (pc' := 12) rfl (hb hby d26_1) rfl ((if0 _ _).trans (flt (by decide : ¬ ((4 : Int32) < (0 : Int32)))).2.1) (by decide) (by decide) k) ?_
  refine ov s₁ 13 #[.val (.int 4)] [.int 4] (fun t k => XS.iloadN X0.here hx rfl (hb hby d26_12) rfl k) ?_
  refine ov s₁ 15 #[.val (.int 4)] [.int 1073741823, .int 4] (fun t k => X0.ldcInt hx hown (mvT hZ (wd113 hw)) (g := (mkF m 13 #[.val (.int 4)] [.int 4])) rfl (hb hby d26_13) _ k) ?_
  refine ov s₁ 55 #[.val (.int 4)] [] (fun t k => XS.icmpYes X0.here hx rfl (pc0 := 15) (pc' := 55) rfl (hb hby d26_15) rfl (tlt (by decide : (4 : Int32) < (1073741823 : Int32))).1 (by decide) (by decide) k) ?_
  refine ov s₁ 56 #[.val (.int 4)] [.int 4] (fun t k => XS.iloadN X0.here hx rfl (hb hby d26_55) rfl k) ?_
  refine ov s₁ 57 #[.val (.int 4)] [.int 1, .int 4] (fun t k => XS.iconst X0.here hx rfl (hb hby d26_56) k) ?_
  refine ov s₁ 58 #[.val (.int 4)] [.int 8] (fun t k => XS.ishl X0.here hx rfl (hb hby d26_57) rfl k) ?_
  refine own_ret (Q := Q_own_nbl4 Z  h0 n0) (C := rm0_0_0_0.cells) (N := rm0_0_0_0.slots) X0 (v := some (.int 8)) (fun h => by rw [Bd.returns] at h; cases h) Bd.notSynchronized ?_ (by decide) (by decide) (fun fs hr => retOut X0 hx Bd.returns rfl (Or.inl ⟨rfl, Or.inl rfl, _, rfl⟩) (hb hby d26_58) hr)
  show Q_own_nbl4 Z  h0 n0 _ s₁.heap _
  rw [e0]
  exact ⟨rfl, rfl, rfl⟩
def Q_own_nbf4 (Z : State)  (h0 : Heap) (n0 : Nat) (v : Option Value) (h : Heap) (L : List Loc) : Prop := ∃ b : Addr, ∃ kb : ClassId, v = some (.ref b) ∧ Fr n0 L ∧ Keep h0 h [] ∧ Arv Z h b kb .byte (8 : Int32) (own_L10) (.int 0) ∧ (h0.size ≤ b)
set_option maxRecDepth 65536 in
set_option maxHeartbeats 40000000 in
theorem own_nbf4 (l : Launch) (Z : State) (a0 : Array Value) (hw : ∀ d ∈ tables_1, d.before a0 Z = true) (ws : List Jvm.Cond)  (h0 : Heap) (n0 : Nat) (O0 : Old Z n0 h0) :
    MetFree l mt5 (head1 (Jvm.Cond.code mt5 jdk_52_method_2_code 1 (some (.array .byte)) :: ws) rm1_1_8_12) (fun aq U => aq = #[.int 4] ∧ Z.Warmed39 U.vm ∧ U.heap = h0) (fun _ _ _ _ _ => True) (fun _ U o U' => ∃ v L, o = .returned v ∧ Q_own_nbf4 Z  h0 n0 v U'.heap L ∧ FrameEnd U o U' L rm1_1_8_12.cells rm1_1_8_12.slots) := by
  refine MetFree.of_bodySF (plainFor_of_name pn_java_lang_StringUTF16) hisR ?_
  intro p e s m args below meth c s₁ Bd hml0 hP hK
  obtain ⟨rfl, hZ, hh⟩ := hP
  have hx := Bd.exec
  have hby := Bd.bytes
  have hml : c.maxLocals = 1 := hml0
  have hown : s.vm.findClass "java/lang/StringUTF16" = some m.cls := findClass_of_methodNamed Bd.named
  have hnm := (name_of_methodNamed Bd.named Bd.method).1
  have X0 : Stand p l e rm1_1_8_12 s m #[.int 4] below meth c s₁ [] 0 0 := Stand.of_body Bd
  have e0 : s₁.heap = h0 := by rw [← hh, Bd.state]; rfl
  have N0 := Fr.nil n0
  have zO := O0.1
  have zO2 := O0.2.1
  refine own_open (own_via (S' := s₁.setTop (mkF m 0 #[.val (.int 4)] [])) (fun t k => castTop (ef_own_nbf4 m (4 : Int32)) k) ?_)
  have K0 : Keep h0 h0 [] := Keep.refl _ _
  refine ov s₁ 1 #[.val (.int 4)] [.int 4] (fun t k => XS.iloadN X0.here hx rfl (hb hby d25_0) rfl k) ?_
  obtain ⟨_, _, ⟨T1, Lp1, kp1, np1⟩, -, X1, ⟨Lc1, hQ1, l1, y1, z1⟩, st1⟩ := Jvm.LawKit.callS X0 hx (y := mt4) hown (mvT hZ (wd110 hw)) (mvT hZ (wd111 hw)) (mvT hZ (wd93 hw)) (mvT hZ (wd112 hw)) (by decide) (backOf (W := 0) (own_nbl4 l Z a0 hw []  h0 n0 O0) hZ (wd112 hw) (wd93 hw) (by decide) (by decide)) (g := (mkF m 1 #[.val (.int 4)] [.int 4])) rfl (by rw [hml]; rfl) (argsL := [.int 4]) (rest := []) (lenOf pd__I_I_227 rfl) rfl (by show 2 * 0 + _ ≤ _; exact Nat.le_of_eq rfl) (hb hby d25_1) (fun _ _ => ⟨rfl, e0, (by decide : 0 + 0 ≤ _), (by decide : 0 + 0 ≤ _)⟩)
  dsimp only [Pt.U, Pt.locs, Pt.cells, Pt.slots] at X1 l1 y1 z1 st1 hQ1
  subst Lp1 kp1 np1
  obtain ⟨rfl, rfl, e1⟩ := hQ1
  try rw [List.append_nil] at X1
  refine ov T1 4 #[.val (.int 4)] [.int 8] st1 ?_
  obtain ⟨T2, h2, k2, X2, e2, E2, A2, st2⟩ := newP (aty := .byte) X1 hx hZ (wd21 hw) e1 (g := (mkF m 4 #[.val (.int 4)] [.int 8])) rfl (hb hby d25_4) rfl (by decide : ¬ ((8 : Int32) < (0 : Int32))) (cap := 8) (by decide) (by decide) (by decide) (by decide)
  obtain ⟨b2, g2⟩ : ∃ z, z = h0.size := ⟨_, rfl⟩
  rw [← g2] at A2 st2
  have lt_b2 : h2.size > b2 := A2.lt
  have sz3 : h0.size ≤ h2.size := E2.1
  have O4 : Old Z n0 h2 := O0.ext E2
  have K5 : Keep h0 h2 [] := K0.ext E2
  have V2 : Arv Z h2 b2 k2 .byte (8 : Int32) [.int 0, .int 0, .int 0, .int 0, .int 0, .int 0, .int 0, .int 0] (.int 0) := (Arv.new A2 (by decide)).pad (pad_rep [] (.int 0) 8)
  refine ov T2 6 #[.val (.int 4)] [.ref b2] st2 ?_
  refine own_ret (Q := Q_own_nbf4 Z  h0 n0) (C := rm1_1_8_12.cells) (N := rm1_1_8_12.slots) X2 (v := some (.ref b2)) (fun h => by rw [Bd.returns] at h; cases h) Bd.notSynchronized ?_ (by decide) (by decide) (fun fs hr => retOut X2 hx Bd.returns rfl (Or.inr (Or.inr (Or.inr (Or.inr ⟨rfl, rfl, rfl⟩)))) (hb hby d25_6) hr)
  show Q_own_nbf4 Z  h0 n0 _ T2.heap _
  rw [e2]
  exact ⟨b2, k2, rfl, N0, K5, V2, (by omega)⟩
def Q_own_cx4 (Z : State) (sa : Addr) (ks : ClassId) (dst : Addr) (kd : ClassId) (v0 : Int32) (v1 : Int32) (v2 : Int32) (v3 : Int32) (h0 : Heap) (n0 : Nat) (v : Option Value) (h : Heap) (L : List Loc) : Prop := ∃ z : Int32, v = some (.int z) ∧ Fr n0 L ∧ Keep h0 h [dst] ∧ ((z = (0 : Int32) ∧ (255 : Int32) < v0) ∨ (z = (1 : Int32) ∧ (255 : Int32) < v1) ∨ (z = (2 : Int32) ∧ (255 : Int32) < v2) ∨ (z = (3 : Int32) ∧ (255 : Int32) < v3))
set_option maxRecDepth 65536 in
set_option maxHeartbeats 40000000 in
theorem own_cx4 (l : Launch) (Z : State) (a0 : Array Value) (hw : ∀ d ∈ tables_1, d.before a0 Z = true) (ws : List Jvm.Cond) (sa : Addr) (ks : ClassId) (dst : Addr) (kd : ClassId) (v0 : Int32) (v1 : Int32) (v2 : Int32) (v3 : Int32) (h0 : Heap) (n0 : Nat) (O0 : Old Z n0 h0) (f0_A_sa : Arv Z h0 sa ks .char (4 : Int32) [.int v0, .int v1, .int v2, .int v3] (.int 0)) (f0_A_dst : Arv Z h0 dst kd .byte (4 : Int32) [.int 0, .int 0, .int 0, .int 0] (.int 0)) (hU : (255 : Int32) < v0 ∨ (255 : Int32) < v1 ∨ (255 : Int32) < v2 ∨ (255 : Int32) < v3) (g_d : n0 ≤ dst) (nsd : sa ≠ dst) :
    MetFree l mt6 (head1 (Jvm.Cond.code mt6 jdk_52_method_21_code 7 (some .int) :: ws) rm0_0_0_0) (fun aq U => aq = #[.ref sa, .int 0, .ref dst, .int 0, .int 4] ∧ Z.Warmed39 U.vm ∧ U.heap = h0) (fun _ _ _ _ _ => True) (fun _ U o U' => ∃ v L, o = .returned v ∧ Q_own_cx4 Z sa ks dst kd v0 v1 v2 v3 h0 n0 v U'.heap L ∧ FrameEnd U o U' L rm0_0_0_0.cells rm0_0_0_0.slots) := by
  refine MetFree.of_bodySF (plainFor_of_name pn_java_lang_StringUTF16) hisR ?_
  intro p e s m args below meth c s₁ Bd hml0 hP hK
  obtain ⟨rfl, hZ, hh⟩ := hP
  have hx := Bd.exec
  have hby := Bd.bytes
  have hml : c.maxLocals = 7 := hml0
  have hown : s.vm.findClass "java/lang/StringUTF16" = some m.cls := findClass_of_methodNamed Bd.named
  have hnm := (name_of_methodNamed Bd.named Bd.method).1
  have X0 : Stand p l e rm0_0_0_0 s m #[.ref sa, .int 0, .ref dst, .int 0, .int 4] below meth c s₁ [] 0 0 := Stand.of_body Bd
  have e0 : s₁.heap = h0 := by rw [← hh, Bd.state]; rfl
  have N0 := Fr.nil n0
  have zO := O0.1
  have zO2 := O0.2.1
  have fl_A_sa : h0.size > sa := f0_A_sa.lt
  have fl_A_dst : h0.size > dst := f0_A_dst.lt
  refine own_open (own_via (S' := s₁.setTop (mkF m 0 #[.val (.ref sa), .val (.int 0), .val (.ref dst), .val (.int 0), .val (.int 4), .unset, .unset] [])) (fun t k => castTop (ef_own_cx4 m sa (0 : Int32) dst (0 : Int32) (4 : Int32)) k) ?_)
  have K0 : Keep h0 h0 [dst] := Keep.refl _ _
  refine ov s₁ 1 #[.val (.ref sa), .val (.int 0), .val (.ref dst), .val (.int 0), .val (.int 4), .unset, .unset] [.int 0] (fun t k => XS.iconst X0.here hx rfl (hb hby d21_0) k) ?_
  let A_1 : Array Slot := #[.val (.ref sa), .val (.int 0), .val (.ref dst), .val (.int 0), .val (.int 4), .val (.int 0), .unset]
  refine ov s₁ 3 A_1 [] (fun t k => XS.istore X0.here hx rfl (hb hby d21_1) rfl (l' := A_1) rfl k) ?_
  refine ov s₁ 5 A_1 [.int 0] (fun t k => XS.iload X0.here hx rfl (hb hby d21_3) rfl k) ?_
  refine ov s₁ 7 A_1 [.int 4, .int 0] (fun t k => XS.iload X0.here hx rfl (hb hby d21_5) rfl k) ?_
  refine ov s₁ 10 A_1 [] (fun t k => XS.icmpNo X0.here hx rfl (hb hby d21_7) rfl (tlt (by decide : (0 : Int32) < (4 : Int32))).2.1 k) ?_
  refine ov s₁ 11 A_1 [.ref sa] (fun t k => XS.aloadN X0.here hx rfl (hb hby d21_10) rfl rfl k) ?_
  refine ov s₁ 12 A_1 [.int 0, .ref sa] (fun t k => XS.iloadN X0.here hx rfl (hb hby d21_11) rfl k) ?_
  obtain ⟨cl1, Ar1, q1, S1, M1, H1, U1⟩ := id f0_A_sa
  have hin1 : ¬ ((0 : Int32) < 0 ∨ cl1.slots.size ≤ ((0 : Int32)).toNatClampNeg) := inb_of S1 ⟨by decide, by decide⟩
  refine ov s₁ 13 A_1 [.int v0] (fun t k => X0.caload hx (j := (0 : Int32)) (v := (.int v0)) (by first | (rw [e0]; exact Ar1.1) | exact Ar1.1) (State.isArrayOf_alike hZ.alike Ar1.2.1) Ar1.2.2 hin1 (Has.at H1 hin1 rfl) (g := (mkF m 12 A_1 [.int 0, .ref sa])) rfl rfl (hb hby d21_12) _ k) ?_
  let A_2 : Array Slot := #[.val (.ref sa), .val (.int 0), .val (.ref dst), .val (.int 0), .val (.int 4), .val (.int 0), .val (.int v0)]
  refine ov s₁ 15 A_2 [] (fun t k => XS.istore X0.here hx rfl (hb hby d21_13) rfl (l' := A_2) rfl k) ?_
  refine ov s₁ 17 A_2 [.int v0] (fun t k => XS.iload X0.here hx rfl (hb hby d21_15) rfl k) ?_
  refine ov s₁ 20 A_2 [.int 255, .int v0] (fun t k => XS.sipush X0.here hx rfl (hb hby d21_17) k) ?_
  by_cases hc20_2 : (255 : Int32) < v0
  · -- yes
    refine ov s₁ 23 A_2 [] (fun t k => XS.icmpNo X0.here hx rfl (hb hby d21_20) rfl (tlt hc20_2).2.2.2 k) ?_
    refine ov s₁ 25 A_2 [.int 0] (fun t k => XS.iload X0.here hx rfl (hb hby d21_23) rfl k) ?_
    refine own_ret (Q := Q_own_cx4 Z sa ks dst kd v0 v1 v2 v3 h0 n0) (C := rm0_0_0_0.cells) (N := rm0_0_0_0.slots) X0 (v := some (.int 0)) (fun h => by rw [Bd.returns] at h; cases h) Bd.notSynchronized ?_ (by decide) (by decide) (fun fs hr => retOut X0 hx Bd.returns rfl (Or.inl ⟨rfl, Or.inl rfl, _, rfl⟩) (hb hby d21_25) hr)
    show Q_own_cx4 Z sa ks dst kd v0 v1 v2 v3 h0 n0 _ s₁.heap _
    rw [e0]
    exact ⟨(0 : Int32), rfl, N0, K0, (Or.inl ⟨rfl, hc20_2⟩)⟩
  · -- no
    refine ov s₁ 26 A_2 [] (fun t k => XS.icmpYes X0.here hx rfl (pc0 := 20) (pc' := 26) rfl (hb hby d21_20) rfl (flt hc20_2).2.2.2 (by decide) (by decide) k) ?_
    refine ov s₁ 27 A_2 [.ref dst] (fun t k => XS.aloadN X0.here hx rfl (hb hby d21_26) rfl rfl k) ?_
    refine ov s₁ 28 A_2 [.int 0, .ref dst] (fun t k => XS.iloadN X0.here hx rfl (hb hby d21_27) rfl k) ?_
    refine ov s₁ 30 A_2 [.int v0, .int 0, .ref dst] (fun t k => XS.iload X0.here hx rfl (hb hby d21_28) rfl k) ?_
    refine ov s₁ 31 A_2 [(.int (v0.toInt8.toInt32)), .int 0, .ref dst] (fun t k => XS.i2b X0.here hx rfl (hb hby d21_30) rfl k) ?_
    obtain ⟨cl3, Ar3, q3, S3, M3, H3, U3⟩ := id f0_A_dst
    obtain ⟨T3, h3, X3, e3, W3, st3⟩ := stB X0 hx hZ e0 Ar3 (j := (0 : Int32)) (inb_of S3 ⟨by decide, by decide⟩) (g := (mkF m 31 A_2 [(.int (v0.toInt8.toInt32)), .int 0, .ref dst])) rfl rfl (hb hby d21_31)
    have sz4 : h0.size ≤ h3.size := Nat.le_of_eq W3.size.symm
    have O5 : Old Z n0 h3 := O0.wr W3 (by omega : n0 ≤ dst)
    have N3 := Fr.snoc X3 N0 (by omega : n0 ≤ dst)
    have K6 : Keep h0 h3 [dst] := K0.wr W3 (Or.inl (List.mem_of_getElem? (i := 0) rfl))
    have V3 : Arv Z h3 dst kd .byte (4 : Int32) [(.int (nar .byte (v0.toInt8.toInt32))), .int 0, .int 0, .int 0] (.int 0) := Arv.set Ar3 q3 S3 M3 H3 U3 (fits_nar_byte _) W3 0 rfl (Nat.le_of_ble_eq_true rfl)
    refine ov T3 32 A_2 [] st3 ?_
    refine ov T3 35 #[.val (.ref sa), .val (.int 1), .val (.ref dst), .val (.int 0), .val (.int 4), .val (.int 0), .val (.int v0)] [] (fun t k => XS.iinc X3.here hx rfl (hb hby d21_32) rfl (l' := #[.val (.ref sa), .val (.int 1), .val (.ref dst), .val (.int 0), .val (.int 4), .val (.int 0), .val (.int v0)]) rfl k) ?_
    refine ov T3 38 #[.val (.ref sa), .val (.int 1), .val (.ref dst), .val (.int 1), .val (.int 4), .val (.int 0), .val (.int v0)] [] (fun t k => XS.iinc X3.here hx rfl (hb hby d21_35) rfl (l' := #[.val (.ref sa), .val (.int 1), .val (.ref dst), .val (.int 1), .val (.int 4), .val (.int 0), .val (.int v0)]) rfl k) ?_
    let A_3 : Array Slot := #[.val (.ref sa), .val (.int 1), .val (.ref dst), .val (.int 1), .val (.int 4), .val (.int 1), .val (.int v0)]
    refine ov T3 41 A_3 [] (fun t k => XS.iinc X3.here hx rfl (hb hby d21_38) rfl (l' := A_3) rfl k) ?_
    refine ov T3 3 A_3 [] (fun t k => XS.goto X3.here hx rfl (pc0 := 41) (pc' := 3) rfl (hb hby d21_41) (by decide) (by decide) k) ?_
    refine ov T3 5 A_3 [.int 1] (fun t k => XS.iload X3.here hx rfl (hb hby d21_3) rfl k) ?_
    refine ov T3 7 A_3 [.int 4, .int 1] (fun t k => XS.iload X3.here hx rfl (hb hby d21_5) rfl k) ?_
    refine ov T3 10 A_3 [] (fun t k => XS.icmpNo X3.here hx rfl (hb hby d21_7) rfl (tlt (by decide : (1 : Int32) < (4 : Int32))).2.1 k) ?_
    refine ov T3 11 A_3 [.ref sa] (fun t k => XS.aloadN X3.here hx rfl (hb hby d21_10) rfl rfl k) ?_
    refine ov T3 12 A_3 [.int 1, .ref sa] (fun t k => XS.iloadN X3.here hx rfl (hb hby d21_11) rfl k) ?_
    have cx7 : Arv Z h3 sa ks .char (4 : Int32) [.int v0, .int v1, .int v2, .int v3] (.int 0) := (f0_A_sa.other W3 nsd)
    obtain ⟨cl8, Ar8, q8, S8, M8, H8, U8⟩ := id cx7
    have hin8 : ¬ ((1 : Int32) < 0 ∨ cl8.slots.size ≤ ((1 : Int32)).toNatClampNeg) := inb_of S8 ⟨by decide, by decide⟩
    refine ov T3 13 A_3 [.int v1] (fun t k => X3.caload hx (j := (1 : Int32)) (v := (.int v1)) (by first | (rw [e3]; exact Ar8.1) | exact Ar8.1) (State.isArrayOf_alike hZ.alike Ar8.2.1) Ar8.2.2 hin8 (Has.at H8 hin8 rfl) (g := (mkF m 12 A_3 [.int 1, .ref sa])) rfl rfl (hb hby d21_12) _ k) ?_
    let A_4 : Array Slot := #[.val (.ref sa), .val (.int 1), .val (.ref dst), .val (.int 1), .val (.int 4), .val (.int 1), .val (.int v1)]
    refine ov T3 15 A_4 [] (fun t k => XS.istore X3.here hx rfl (hb hby d21_13) rfl (l' := A_4) rfl k) ?_
    refine ov T3 17 A_4 [.int v1] (fun t k => XS.iload X3.here hx rfl (hb hby d21_15) rfl k) ?_
    refine ov T3 20 A_4 [.int 255, .int v1] (fun t k => XS.sipush X3.here hx rfl (hb hby d21_17) k) ?_
    by_cases hc20_9 : (255 : Int32) < v1
    · -- yes
      refine ov T3 23 A_4 [] (fun t k => XS.icmpNo X3.here hx rfl (hb hby d21_20) rfl (tlt hc20_9).2.2.2 k) ?_
      refine ov T3 25 A_4 [.int 1] (fun t k => XS.iload X3.here hx rfl (hb hby d21_23) rfl k) ?_
      refine own_ret (Q := Q_own_cx4 Z sa ks dst kd v0 v1 v2 v3 h0 n0) (C := rm0_0_0_0.cells) (N := rm0_0_0_0.slots) X3 (v := some (.int 1)) (fun h => by rw [Bd.returns] at h; cases h) Bd.notSynchronized ?_ (by decide) (by decide) (fun fs hr => retOut X3 hx Bd.returns rfl (Or.inl ⟨rfl, Or.inl rfl, _, rfl⟩) (hb hby d21_25) hr)
      show Q_own_cx4 Z sa ks dst kd v0 v1 v2 v3 h0 n0 _ T3.heap _
      rw [e3]
      exact ⟨(1 : Int32), rfl, N3, K6, (Or.inr (Or.inl ⟨rfl, hc20_9⟩))⟩
    · -- no
      refine ov T3 26 A_4 [] (fun t k => XS.icmpYes X3.here hx rfl (pc0 := 20) (pc' := 26) rfl (hb hby d21_20) rfl (flt hc20_9).2.2.2 (by decide) (by decide) k) ?_
      refine ov T3 27 A_4 [.ref dst] (fun t k => XS.aloadN X3.here hx rfl (hb hby d21_26) rfl rfl k) ?_
      refine ov T3 28 A_4 [.int 1, .ref dst] (fun t k => XS.iloadN X3.here hx rfl (hb hby d21_27) rfl k) ?_
      refine ov T3 30 A_4 [.int v1, .int 1, .ref dst] (fun t k => XS.iload X3.here hx rfl (hb hby d21_28) rfl k) ?_
      refine ov T3 31 A_4 [(.int (v1.toInt8.toInt32)), .int 1, .ref dst] (fun t k => XS.i2b X3.here hx rfl (hb hby d21_30) rfl k) ?_
      obtain ⟨cl10, Ar10, q10, S10, M10, H10, U10⟩ := id V3
      obtain ⟨T10, h10, X10, e10, W10, st10⟩ := stB X3 hx hZ e3 Ar10 (j := (1 : Int32)) (inb_of S10 ⟨by decide, by decide⟩) (g := (mkF m 31 A_4 [(.int (v1.toInt8.toInt32)), .int 1, .ref dst])) rfl rfl (hb hby d21_31)
      have sz11 : h3.size ≤ h10.size := Nat.le_of_eq W10.size.symm
      have O12 : Old Z n0 h10 := O5.wr W10 (by omega : n0 ≤ dst)
      have N10 := Fr.snoc X10 N3 (by omega : n0 ≤ dst)
      have K13 : Keep h0 h10 [dst] := K6.wr W10 (Or.inl (List.mem_of_getElem? (i := 0) rfl))
      have V10 : Arv Z h10 dst kd .byte (4 : Int32) [(.int (nar .byte (v0.toInt8.toInt32))), (.int (nar .byte (v1.toInt8.toInt32))), .int 0, .int 0] (.int 0) := Arv.set Ar10 q10 S10 M10 H10 U10 (fits_nar_byte _) W10 1 rfl (Nat.le_of_ble_eq_true rfl)
      refine ov T10 32 A_4 [] st10 ?_
      refine ov T10 35 #[.val (.ref sa), .val (.int 2), .val (.ref dst), .val (.int 1), .val (.int 4), .val (.int 1), .val (.int v1)] [] (fun t k => XS.iinc X10.here hx rfl (hb hby d21_32) rfl (l' := #[.val (.ref sa), .val (.int 2), .val (.ref dst), .val (.int 1), .val (.int 4), .val (.int 1), .val (.int v1)]) rfl k) ?_
      refine ov T10 38 #[.val (.ref sa), .val (.int 2), .val (.ref dst), .val (.int 2), .val (.int 4), .val (.int 1), .val (.int v1)] [] (fun t k => XS.iinc X10.here hx rfl (hb hby d21_35) rfl (l' := #[.val (.ref sa), .val (.int 2), .val (.ref dst), .val (.int 2), .val (.int 4), .val (.int 1), .val (.int v1)]) rfl k) ?_
      let A_5 : Array Slot := #[.val (.ref sa), .val (.int 2), .val (.ref dst), .val (.int 2), .val (.int 4), .val (.int 2), .val (.int v1)]
      refine ov T10 41 A_5 [] (fun t k => XS.iinc X10.here hx rfl (hb hby d21_38) rfl (l' := A_5) rfl k) ?_
      refine ov T10 3 A_5 [] (fun t k => XS.goto X10.here hx rfl (pc0 := 41) (pc' := 3) rfl (hb hby d21_41) (by decide) (by decide) k) ?_
      refine ov T10 5 A_5 [.int 2] (fun t k => XS.iload X10.here hx rfl (hb hby d21_3) rfl k) ?_
      refine ov T10 7 A_5 [.int 4, .int 2] (fun t k => XS.iload X10.here hx rfl (hb hby d21_5) rfl k) ?_
      refine ov T10 10 A_5 [] (fun t k => XS.icmpNo X10.here hx rfl (hb hby d21_7) rfl (tlt (by decide : (2 : Int32) < (4 : Int32))).2.1 k) ?_
      refine ov T10 11 A_5 [.ref sa] (fun t k => XS.aloadN X10.here hx rfl (hb hby d21_10) rfl rfl k) ?_
      refine ov T10 12 A_5 [.int 2, .ref sa] (fun t k => XS.iloadN X10.here hx rfl (hb hby d21_11) rfl k) ?_
      have cx14 : Arv Z h10 sa ks .char (4 : Int32) [.int v0, .int v1, .int v2, .int v3] (.int 0) := (cx7.other W10 nsd)
      obtain ⟨cl15, Ar15, q15, S15, M15, H15, U15⟩ := id cx14
      have hin15 : ¬ ((2 : Int32) < 0 ∨ cl15.slots.size ≤ ((2 : Int32)).toNatClampNeg) := inb_of S15 ⟨by decide, by decide⟩
      refine ov T10 13 A_5 [.int v2] (fun t k => X10.caload hx (j := (2 : Int32)) (v := (.int v2)) (by first | (rw [e10]; exact Ar15.1) | exact Ar15.1) (State.isArrayOf_alike hZ.alike Ar15.2.1) Ar15.2.2 hin15 (Has.at H15 hin15 rfl) (g := (mkF m 12 A_5 [.int 2, .ref sa])) rfl rfl (hb hby d21_12) _ k) ?_
      let A_6 : Array Slot := #[.val (.ref sa), .val (.int 2), .val (.ref dst), .val (.int 2), .val (.int 4), .val (.int 2), .val (.int v2)]
      refine ov T10 15 A_6 [] (fun t k => XS.istore X10.here hx rfl (hb hby d21_13) rfl (l' := A_6) rfl k) ?_
      refine ov T10 17 A_6 [.int v2] (fun t k => XS.iload X10.here hx rfl (hb hby d21_15) rfl k) ?_
      refine ov T10 20 A_6 [.int 255, .int v2] (fun t k => XS.sipush X10.here hx rfl (hb hby d21_17) k) ?_
      by_cases hc20_16 : (255 : Int32) < v2
      · -- yes
        refine ov T10 23 A_6 [] (fun t k => XS.icmpNo X10.here hx rfl (hb hby d21_20) rfl (tlt hc20_16).2.2.2 k) ?_
        refine ov T10 25 A_6 [.int 2] (fun t k => XS.iload X10.here hx rfl (hb hby d21_23) rfl k) ?_
        refine own_ret (Q := Q_own_cx4 Z sa ks dst kd v0 v1 v2 v3 h0 n0) (C := rm0_0_0_0.cells) (N := rm0_0_0_0.slots) X10 (v := some (.int 2)) (fun h => by rw [Bd.returns] at h; cases h) Bd.notSynchronized ?_ (by decide) (by decide) (fun fs hr => retOut X10 hx Bd.returns rfl (Or.inl ⟨rfl, Or.inl rfl, _, rfl⟩) (hb hby d21_25) hr)
        show Q_own_cx4 Z sa ks dst kd v0 v1 v2 v3 h0 n0 _ T10.heap _
        rw [e10]
        exact ⟨(2 : Int32), rfl, N10, K13, (Or.inr (Or.inr (Or.inl ⟨rfl, hc20_16⟩)))⟩
      · -- no
        refine ov T10 26 A_6 [] (fun t k => XS.icmpYes X10.here hx rfl (pc0 := 20) (pc' := 26) rfl (hb hby d21_20) rfl (flt hc20_16).2.2.2 (by decide) (by decide) k) ?_
        refine ov T10 27 A_6 [.ref dst] (fun t k => XS.aloadN X10.here hx rfl (hb hby d21_26) rfl rfl k) ?_
        refine ov T10 28 A_6 [.int 2, .ref dst] (fun t k => XS.iloadN X10.here hx rfl (hb hby d21_27) rfl k) ?_
        refine ov T10 30 A_6 [.int v2, .int 2, .ref dst] (fun t k => XS.iload X10.here hx rfl (hb hby d21_28) rfl k) ?_
        refine ov T10 31 A_6 [(.int (v2.toInt8.toInt32)), .int 2, .ref dst] (fun t k => XS.i2b X10.here hx rfl (hb hby d21_30) rfl k) ?_
        obtain ⟨cl17, Ar17, q17, S17, M17, H17, U17⟩ := id V10
        obtain ⟨T17, h17, X17, e17, W17, st17⟩ := stB X10 hx hZ e10 Ar17 (j := (2 : Int32)) (inb_of S17 ⟨by decide, by decide⟩) (g := (mkF m 31 A_6 [(.int (v2.toInt8.toInt32)), .int 2, .ref dst])) rfl rfl (hb hby d21_31)
        have sz18 : h10.size ≤ h17.size := Nat.le_of_eq W17.size.symm
        have O19 : Old Z n0 h17 := O12.wr W17 (by omega : n0 ≤ dst)
        have N17 := Fr.snoc X17 N10 (by omega : n0 ≤ dst)
        have K20 : Keep h0 h17 [dst] := K13.wr W17 (Or.inl (List.mem_of_getElem? (i := 0) rfl))
        have V17 : Arv Z h17 dst kd .byte (4 : Int32) [(.int (nar .byte (v0.toInt8.toInt32))), (.int (nar .byte (v1.toInt8.toInt32))), (.int (nar .byte (v2.toInt8.toInt32))), .int 0] (.int 0) := Arv.set Ar17 q17 S17 M17 H17 U17 (fits_nar_byte _) W17 2 rfl (Nat.le_of_ble_eq_true rfl)
        refine ov T17 32 A_6 [] st17 ?_
        refine ov T17 35 #[.val (.ref sa), .val (.int 3), .val (.ref dst), .val (.int 2), .val (.int 4), .val (.int 2), .val (.int v2)] [] (fun t k => XS.iinc X17.here hx rfl (hb hby d21_32) rfl (l' := #[.val (.ref sa), .val (.int 3), .val (.ref dst), .val (.int 2), .val (.int 4), .val (.int 2), .val (.int v2)]) rfl k) ?_
        refine ov T17 38 #[.val (.ref sa), .val (.int 3), .val (.ref dst), .val (.int 3), .val (.int 4), .val (.int 2), .val (.int v2)] [] (fun t k => XS.iinc X17.here hx rfl (hb hby d21_35) rfl (l' := #[.val (.ref sa), .val (.int 3), .val (.ref dst), .val (.int 3), .val (.int 4), .val (.int 2), .val (.int v2)]) rfl k) ?_
        let A_7 : Array Slot := #[.val (.ref sa), .val (.int 3), .val (.ref dst), .val (.int 3), .val (.int 4), .val (.int 3), .val (.int v2)]
        refine ov T17 41 A_7 [] (fun t k => XS.iinc X17.here hx rfl (hb hby d21_38) rfl (l' := A_7) rfl k) ?_
        refine ov T17 3 A_7 [] (fun t k => XS.goto X17.here hx rfl (pc0 := 41) (pc' := 3) rfl (hb hby d21_41) (by decide) (by decide) k) ?_
        refine ov T17 5 A_7 [.int 3] (fun t k => XS.iload X17.here hx rfl (hb hby d21_3) rfl k) ?_
        refine ov T17 7 A_7 [.int 4, .int 3] (fun t k => XS.iload X17.here hx rfl (hb hby d21_5) rfl k) ?_
        refine ov T17 10 A_7 [] (fun t k => XS.icmpNo X17.here hx rfl (hb hby d21_7) rfl (tlt (by decide : (3 : Int32) < (4 : Int32))).2.1 k) ?_
        refine ov T17 11 A_7 [.ref sa] (fun t k => XS.aloadN X17.here hx rfl (hb hby d21_10) rfl rfl k) ?_
        refine ov T17 12 A_7 [.int 3, .ref sa] (fun t k => XS.iloadN X17.here hx rfl (hb hby d21_11) rfl k) ?_
        have cx21 : Arv Z h17 sa ks .char (4 : Int32) [.int v0, .int v1, .int v2, .int v3] (.int 0) := (cx14.other W17 nsd)
        obtain ⟨cl22, Ar22, q22, S22, M22, H22, U22⟩ := id cx21
        have hin22 : ¬ ((3 : Int32) < 0 ∨ cl22.slots.size ≤ ((3 : Int32)).toNatClampNeg) := inb_of S22 ⟨by decide, by decide⟩
        refine ov T17 13 A_7 [.int v3] (fun t k => X17.caload hx (j := (3 : Int32)) (v := (.int v3)) (by first | (rw [e17]; exact Ar22.1) | exact Ar22.1) (State.isArrayOf_alike hZ.alike Ar22.2.1) Ar22.2.2 hin22 (Has.at H22 hin22 rfl) (g := (mkF m 12 A_7 [.int 3, .ref sa])) rfl rfl (hb hby d21_12) _ k) ?_
        let A_8 : Array Slot := #[.val (.ref sa), .val (.int 3), .val (.ref dst), .val (.int 3), .val (.int 4), .val (.int 3), .val (.int v3)]
        refine ov T17 15 A_8 [] (fun t k => XS.istore X17.here hx rfl (hb hby d21_13) rfl (l' := A_8) rfl k) ?_
        refine ov T17 17 A_8 [.int v3] (fun t k => XS.iload X17.here hx rfl (hb hby d21_15) rfl k) ?_
        refine ov T17 20 A_8 [.int 255, .int v3] (fun t k => XS.sipush X17.here hx rfl (hb hby d21_17) k) ?_
        by_cases hc20_23 : (255 : Int32) < v3
        · -- yes
          refine ov T17 23 A_8 [] (fun t k => XS.icmpNo X17.here hx rfl (hb hby d21_20) rfl (tlt hc20_23).2.2.2 k) ?_
          refine ov T17 25 A_8 [.int 3] (fun t k => XS.iload X17.here hx rfl (hb hby d21_23) rfl k) ?_
          refine own_ret (Q := Q_own_cx4 Z sa ks dst kd v0 v1 v2 v3 h0 n0) (C := rm0_0_0_0.cells) (N := rm0_0_0_0.slots) X17 (v := some (.int 3)) (fun h => by rw [Bd.returns] at h; cases h) Bd.notSynchronized ?_ (by decide) (by decide) (fun fs hr => retOut X17 hx Bd.returns rfl (Or.inl ⟨rfl, Or.inl rfl, _, rfl⟩) (hb hby d21_25) hr)
          show Q_own_cx4 Z sa ks dst kd v0 v1 v2 v3 h0 n0 _ T17.heap _
          rw [e17]
          exact ⟨(3 : Int32), rfl, N17, K20, (Or.inr (Or.inr (Or.inr (⟨rfl, hc20_23⟩))))⟩
        · -- no
          exact absurd hU (by simp only [not_or]; exact ⟨hc20_2, hc20_9, hc20_16, hc20_23⟩)
def Q_own_tob4 (Z : State) (sa : Addr) (ks : ClassId) (v0 : Int32) (v1 : Int32) (v2 : Int32) (v3 : Int32) (h0 : Heap) (n0 : Nat) (v : Option Value) (h : Heap) (L : List Loc) : Prop := ∃ b : Addr, ∃ kb : ClassId, v = some (.ref b) ∧ Fr n0 L ∧ Keep h0 h [] ∧ Arv Z h b kb .byte (8 : Int32) (own_L9 v0 v1 v2 v3) (.int 0) ∧ (h0.size ≤ b)
set_option maxRecDepth 65536 in
set_option maxHeartbeats 40000000 in
theorem own_tob4 (l : Launch) (Z : State) (a0 : Array Value) (hw : ∀ d ∈ tables_1, d.before a0 Z = true) (ws : List Jvm.Cond) (sa : Addr) (ks : ClassId) (v0 : Int32) (v1 : Int32) (v2 : Int32) (v3 : Int32) (h0 : Heap) (n0 : Nat) (O0 : Old Z n0 h0) (zf_S_java_lang_StringUTF16__assertionsDisabled : Sta Z Z.heap "java/lang/StringUTF16" "$assertionsDisabled" "Z" (.int 1)) (zf_S_java_lang_StringUTF16_HI_BYTE_SHIFT : Sta Z Z.heap "java/lang/StringUTF16" "HI_BYTE_SHIFT" "I" (.int 0)) (zf_S_java_lang_StringUTF16_LO_BYTE_SHIFT : Sta Z Z.heap "java/lang/StringUTF16" "LO_BYTE_SHIFT" "I" (.int 8)) (f0_A_sa : Arv Z h0 sa ks .char (4 : Int32) [.int v0, .int v1, .int v2, .int v3] (.int 0)) :
    MetFree l mt7 (head1 (Jvm.Cond.code mt7 jdk_52_method_14_code 5 (some (.array .byte)) :: ws) rm2_1_8_24) (fun aq U => aq = #[.ref sa, .int 0, .int 4] ∧ Z.Warmed39 U.vm ∧ U.heap = h0) (fun _ _ _ _ _ => True) (fun _ U o U' => ∃ v L, o = .returned v ∧ Q_own_tob4 Z sa ks v0 v1 v2 v3 h0 n0 v U'.heap L ∧ FrameEnd U o U' L rm2_1_8_24.cells rm2_1_8_24.slots) := by
  refine MetFree.of_bodySF (plainFor_of_name pn_java_lang_StringUTF16) hisR ?_
  intro p e s m args below meth c s₁ Bd hml0 hP hK
  obtain ⟨rfl, hZ, hh⟩ := hP
  have hx := Bd.exec
  have hby := Bd.bytes
  have hml : c.maxLocals = 5 := hml0
  have hown : s.vm.findClass "java/lang/StringUTF16" = some m.cls := findClass_of_methodNamed Bd.named
  have hnm := (name_of_methodNamed Bd.named Bd.method).1
  have X0 : Stand p l e rm2_1_8_24 s m #[.ref sa, .int 0, .int 4] below meth c s₁ [] 0 0 := Stand.of_body Bd
  have e0 : s₁.heap = h0 := by rw [← hh, Bd.state]; rfl
  have N0 := Fr.nil n0
  have zO := O0.1
  have zO2 := O0.2.1
  have fl_A_sa : h0.size > sa := f0_A_sa.lt
  refine own_open (own_via (S' := s₁.setTop (mkF m 0 #[.val (.ref sa), .val (.int 0), .val (.int 4), .unset, .unset] [])) (fun t k => castTop (ef_own_tob4 m sa (0 : Int32) (4 : Int32)) k) ?_)
  have K0 : Keep h0 h0 [] := Keep.refl _ _
  let A_1 : Array Slot := #[.val (.ref sa), .val (.int 0), .val (.int 4), .unset, .unset]
  refine ov s₁ 1 A_1 [.int 4] (fun t k => XS.iloadN X0.here hx rfl (hb hby d24_0) rfl k) ?_
  obtain ⟨_, _, ⟨T1, Lp1, kp1, np1⟩, -, X1, ⟨Lc1, hQ1, l1, y1, z1⟩, st1⟩ := Jvm.LawKit.callS X0 hx (y := mt5) hown (mvT hZ (wd107 hw)) (mvT hZ (wd108 hw)) (mvT hZ (wd93 hw)) (mvT hZ (wd109 hw)) (by decide) (backOf (W := 0) (own_nbf4 l Z a0 hw []  h0 n0 O0) hZ (wd109 hw) (wd93 hw) (by decide) (by decide)) (g := (mkF m 1 A_1 [.int 4])) rfl (by rw [hml]; rfl) (argsL := [.int 4]) (rest := []) (lenOf pd__I__B_311 rfl) rfl (by show 2 * 0 + _ ≤ _; exact Nat.le_of_eq rfl) (hb hby d24_1) (fun _ _ => ⟨rfl, e0, (by decide : 0 + 1 ≤ _), (by decide : 0 + 8 ≤ _)⟩)
  dsimp only [Pt.U, Pt.locs, Pt.cells, Pt.slots] at X1 l1 y1 z1 st1 hQ1
  subst Lp1 kp1 np1
  obtain ⟨b1, kb1, rfl, N1q, K1q, f1_0, pp1_0⟩ := hQ1
  have N1 := Fr.app N0 N1q
  have sz2 : h0.size ≤ T1.heap.size := K1q.1
  have O3 : Old Z n0 T1.heap := O0.keep K1q all0
  have K4 : Keep h0 T1.heap [] := K0.trans K1q all0
  have lt5_b1 : T1.heap.size > b1 := f1_0.lt
  refine ov T1 4 A_1 [.ref b1] st1 ?_
  let A_2 : Array Slot := #[.val (.ref sa), .val (.int 0), .val (.int 4), .val (.ref b1), .unset]
  refine ov T1 5 A_2 [] (fun t k => XS.astoreN X1.here hx rfl (hb hby d24_4) rfl rfl (l' := A_2) rfl k) ?_
  refine ov T1 6 A_2 [.int 0] (fun t k => XS.iconst X1.here hx rfl (hb hby d24_5) k) ?_
  let A_3 : Array Slot := #[.val (.ref sa), .val (.int 0), .val (.int 4), .val (.ref b1), .val (.int 0)]
  refine ov T1 8 A_3 [] (fun t k => XS.istore X1.here hx rfl (hb hby d24_6) rfl (l' := A_3) rfl k) ?_
  refine ov T1 10 A_3 [.int 0] (fun t k => XS.iload X1.here hx rfl (hb hby d24_8) rfl k) ?_
  refine ov T1 11 A_3 [.int 4, .int 0] (fun t k => XS.iloadN X1.here hx rfl (hb hby d24_10) rfl k) ?_
  refine ov T1 14 A_3 [] (fun t k => XS.icmpNo X1.here hx rfl (hb hby d24_11) rfl (tlt (by decide : (0 : Int32) < (4 : Int32))).2.1 k) ?_
  refine ov T1 15 A_3 [.ref b1] (fun t k => XS.aloadN X1.here hx rfl (hb hby d24_14) rfl rfl k) ?_
  refine ov T1 17 A_3 [.int 0, .ref b1] (fun t k => XS.iload X1.here hx rfl (hb hby d24_15) rfl k) ?_
  refine ov T1 18 A_3 [.ref sa, .int 0, .ref b1] (fun t k => XS.aloadN X1.here hx rfl (hb hby d24_17) rfl rfl k) ?_
  refine ov T1 19 A_3 [.int 0, .ref sa, .int 0, .ref b1] (fun t k => XS.iloadN X1.here hx rfl (hb hby d24_18) rfl k) ?_
  have cx6 : Arv Z T1.heap sa ks .char (4 : Int32) [.int v0, .int v1, .int v2, .int v3] (.int 0) := (f0_A_sa.keep K1q nin0)
  obtain ⟨cl7, Ar7, q7, S7, M7, H7, U7⟩ := id cx6
  have hin7 : ¬ ((0 : Int32) < 0 ∨ cl7.slots.size ≤ ((0 : Int32)).toNatClampNeg) := inb_of S7 ⟨by decide, by decide⟩
  refine ov T1 20 A_3 [.int v0, .int 0, .ref b1] (fun t k => X1.caload hx (j := (0 : Int32)) (v := (.int v0)) (by first | (rw [rfl]; exact Ar7.1) | exact Ar7.1) (State.isArrayOf_alike hZ.alike Ar7.2.1) Ar7.2.2 hin7 (Has.at H7 hin7 rfl) (g := (mkF m 19 A_3 [.int 0, .ref sa, .int 0, .ref b1])) rfl rfl (hb hby d24_19) _ k) ?_
  obtain ⟨_, _, ⟨T8, Lp8, kp8, np8⟩, -, X8, ⟨Lc8, hQ8, l8, y8, z8⟩, st8⟩ := Jvm.LawKit.callS X1 hx (y := mt2) hown (mvT hZ (wd114 hw)) (mvT hZ (wd115 hw)) (mvT hZ (wd93 hw)) (mvT hZ (wd116 hw)) (by decide) (backOf (W := 0) (own_put l Z a0 hw [] b1 kb1 (8 : Int32) (own_L10) (0 : Int32) v0 T1.heap n0 O3 zf_S_java_lang_StringUTF16__assertionsDisabled zf_S_java_lang_StringUTF16_HI_BYTE_SHIFT zf_S_java_lang_StringUTF16_LO_BYTE_SHIFT f1_0 (by decide) (by decide) (by decide) (by decide) (Nat.le_of_ble_eq_true rfl) (Nat.le_of_ble_eq_true rfl) (by omega)) hZ (wd116 hw) (wd93 hw) (by decide) (by decide)) (g := (mkF m 20 A_3 [.int v0, .int 0, .ref b1])) rfl (by rw [hml]; rfl) (argsL := [.ref b1, .int 0, .int v0]) (rest := []) (lenOf pd___BII_V_470 rfl) rfl (by show 2 * 0 + _ ≤ _; exact Nat.le_of_eq rfl) (hb hby d24_20) (fun _ _ => ⟨rfl, rfl, (by decide : 1 + 0 ≤ _), (by decide : 8 + 0 ≤ _)⟩)
  dsimp only [Pt.U, Pt.locs, Pt.cells, Pt.slots] at X8 l8 y8 z8 st8 hQ8
  subst Lp8 kp8 np8
  obtain ⟨rfl, N8q, K8q, f8_0⟩ := hQ8
  have N8 := Fr.app N1 N8q
  have sz9 : T1.heap.size ≤ T8.heap.size := K8q.1
  have O10 : Old Z n0 T8.heap := O3.keep K8q (allS (by omega : n0 ≤ b1) all0)
  have K11 : Keep h0 T8.heap [] := K4.trans K8q (allS (P := fun x => x ∈ [] ∨ h0.size ≤ x) (Or.inr (by omega)) all0)
  have f8_0c : Arv Z T8.heap b1 kb1 .byte (8 : Int32) (own_L11 v0) (.int 0) := f8_0
  refine ov T8 23 A_3 [] st8 ?_
  refine ov T8 26 #[.val (.ref sa), .val (.int 1), .val (.int 4), .val (.ref b1), .val (.int 0)] [] (fun t k => XS.iinc X8.here hx rfl (hb hby d24_23) rfl (l' := #[.val (.ref sa), .val (.int 1), .val (.int 4), .val (.ref b1), .val (.int 0)]) rfl k) ?_
  let A_4 : Array Slot := #[.val (.ref sa), .val (.int 1), .val (.int 4), .val (.ref b1), .val (.int 1)]
  refine ov T8 29 A_4 [] (fun t k => XS.iinc X8.here hx rfl (hb hby d24_26) rfl (l' := A_4) rfl k) ?_
  refine ov T8 8 A_4 [] (fun t k => XS.goto X8.here hx rfl (pc0 := 29) (pc' := 8) rfl (hb hby d24_29) (by decide) (by decide) k) ?_
  refine ov T8 10 A_4 [.int 1] (fun t k => XS.iload X8.here hx rfl (hb hby d24_8) rfl k) ?_
  refine ov T8 11 A_4 [.int 4, .int 1] (fun t k => XS.iloadN X8.here hx rfl (hb hby d24_10) rfl k) ?_
  refine ov T8 14 A_4 [] (fun t k => XS.icmpNo X8.here hx rfl (hb hby d24_11) rfl (tlt (by decide : (1 : Int32) < (4 : Int32))).2.1 k) ?_
  refine ov T8 15 A_4 [.ref b1] (fun t k => XS.aloadN X8.here hx rfl (hb hby d24_14) rfl rfl k) ?_
  refine ov T8 17 A_4 [.int 1, .ref b1] (fun t k => XS.iload X8.here hx rfl (hb hby d24_15) rfl k) ?_
  refine ov T8 18 A_4 [.ref sa, .int 1, .ref b1] (fun t k => XS.aloadN X8.here hx rfl (hb hby d24_17) rfl rfl k) ?_
  refine ov T8 19 A_4 [.int 1, .ref sa, .int 1, .ref b1] (fun t k => XS.iloadN X8.here hx rfl (hb hby d24_18) rfl k) ?_
  have ne_sa_b1 : sa ≠ b1 := by first | exact Nat.ne_of_lt (by omega) | exact Nat.ne_of_gt (by omega)
  have cx12 : Arv Z T8.heap sa ks .char (4 : Int32) [.int v0, .int v1, .int v2, .int v3] (.int 0) := (cx6.keep K8q (ninS ne_sa_b1 nin0))
  obtain ⟨cl13, Ar13, q13, S13, M13, H13, U13⟩ := id cx12
  have hin13 : ¬ ((1 : Int32) < 0 ∨ cl13.slots.size ≤ ((1 : Int32)).toNatClampNeg) := inb_of S13 ⟨by decide, by decide⟩
  refine ov T8 20 A_4 [.int v1, .int 1, .ref b1] (fun t k => X8.caload hx (j := (1 : Int32)) (v := (.int v1)) (by first | (rw [rfl]; exact Ar13.1) | exact Ar13.1) (State.isArrayOf_alike hZ.alike Ar13.2.1) Ar13.2.2 hin13 (Has.at H13 hin13 rfl) (g := (mkF m 19 A_4 [.int 1, .ref sa, .int 1, .ref b1])) rfl rfl (hb hby d24_19) _ k) ?_
  obtain ⟨_, _, ⟨T14, Lp14, kp14, np14⟩, -, X14, ⟨Lc14, hQ14, l14, y14, z14⟩, st14⟩ := Jvm.LawKit.callS X8 hx (y := mt2) hown (mvT hZ (wd114 hw)) (mvT hZ (wd115 hw)) (mvT hZ (wd93 hw)) (mvT hZ (wd116 hw)) (by decide) (backOf (W := 0) (own_put l Z a0 hw [] b1 kb1 (8 : Int32) (own_L11 v0) (1 : Int32) v1 T8.heap n0 O10 zf_S_java_lang_StringUTF16__assertionsDisabled zf_S_java_lang_StringUTF16_HI_BYTE_SHIFT zf_S_java_lang_StringUTF16_LO_BYTE_SHIFT f8_0c (by decide) (by decide) (by decide) (by decide) (Nat.le_of_ble_eq_true rfl) (Nat.le_of_ble_eq_true rfl) (by omega)) hZ (wd116 hw) (wd93 hw) (by decide) (by decide)) (g := (mkF m 20 A_4 [.int v1, .int 1, .ref b1])) rfl (by rw [hml]; rfl) (argsL := [.ref b1, .int 1, .int v1]) (rest := []) (lenOf pd___BII_V_470 rfl) rfl (by show 2 * 0 + _ ≤ _; exact Nat.le_of_eq rfl) (hb hby d24_20) (fun _ _ => ⟨rfl, rfl, (by decide : 1 + 0 ≤ _), (by decide : 8 + 0 ≤ _)⟩)
  dsimp only [Pt.U, Pt.locs, Pt.cells, Pt.slots] at X14 l14 y14 z14 st14 hQ14
  subst Lp14 kp14 np14
  obtain ⟨rfl, N14q, K14q, f14_0⟩ := hQ14
  have N14 := Fr.app N8 N14q
  have sz15 : T8.heap.size ≤ T14.heap.size := K14q.1
  have O16 : Old Z n0 T14.heap := O10.keep K14q (allS (by omega : n0 ≤ b1) all0)
  have K17 : Keep h0 T14.heap [] := K11.trans K14q (allS (P := fun x => x ∈ [] ∨ h0.size ≤ x) (Or.inr (by omega)) all0)
  have f14_0c : Arv Z T14.heap b1 kb1 .byte (8 : Int32) (own_L12 v0 v1) (.int 0) := f14_0
  refine ov T14 23 A_4 [] st14 ?_
  refine ov T14 26 #[.val (.ref sa), .val (.int 2), .val (.int 4), .val (.ref b1), .val (.int 1)] [] (fun t k => XS.iinc X14.here hx rfl (hb hby d24_23) rfl (l' := #[.val (.ref sa), .val (.int 2), .val (.int 4), .val (.ref b1), .val (.int 1)]) rfl k) ?_
  let A_5 : Array Slot := #[.val (.ref sa), .val (.int 2), .val (.int 4), .val (.ref b1), .val (.int 2)]
  refine ov T14 29 A_5 [] (fun t k => XS.iinc X14.here hx rfl (hb hby d24_26) rfl (l' := A_5) rfl k) ?_
  refine ov T14 8 A_5 [] (fun t k => XS.goto X14.here hx rfl (pc0 := 29) (pc' := 8) rfl (hb hby d24_29) (by decide) (by decide) k) ?_
  refine ov T14 10 A_5 [.int 2] (fun t k => XS.iload X14.here hx rfl (hb hby d24_8) rfl k) ?_
  refine ov T14 11 A_5 [.int 4, .int 2] (fun t k => XS.iloadN X14.here hx rfl (hb hby d24_10) rfl k) ?_
  refine ov T14 14 A_5 [] (fun t k => XS.icmpNo X14.here hx rfl (hb hby d24_11) rfl (tlt (by decide : (2 : Int32) < (4 : Int32))).2.1 k) ?_
  refine ov T14 15 A_5 [.ref b1] (fun t k => XS.aloadN X14.here hx rfl (hb hby d24_14) rfl rfl k) ?_
  refine ov T14 17 A_5 [.int 2, .ref b1] (fun t k => XS.iload X14.here hx rfl (hb hby d24_15) rfl k) ?_
  refine ov T14 18 A_5 [.ref sa, .int 2, .ref b1] (fun t k => XS.aloadN X14.here hx rfl (hb hby d24_17) rfl rfl k) ?_
  refine ov T14 19 A_5 [.int 2, .ref sa, .int 2, .ref b1] (fun t k => XS.iloadN X14.here hx rfl (hb hby d24_18) rfl k) ?_
  have cx18 : Arv Z T14.heap sa ks .char (4 : Int32) [.int v0, .int v1, .int v2, .int v3] (.int 0) := (cx12.keep K14q (ninS ne_sa_b1 nin0))
  obtain ⟨cl19, Ar19, q19, S19, M19, H19, U19⟩ := id cx18
  have hin19 : ¬ ((2 : Int32) < 0 ∨ cl19.slots.size ≤ ((2 : Int32)).toNatClampNeg) := inb_of S19 ⟨by decide, by decide⟩
  refine ov T14 20 A_5 [.int v2, .int 2, .ref b1] (fun t k => X14.caload hx (j := (2 : Int32)) (v := (.int v2)) (by first | (rw [rfl]; exact Ar19.1) | exact Ar19.1) (State.isArrayOf_alike hZ.alike Ar19.2.1) Ar19.2.2 hin19 (Has.at H19 hin19 rfl) (g := (mkF m 19 A_5 [.int 2, .ref sa, .int 2, .ref b1])) rfl rfl (hb hby d24_19) _ k) ?_
  obtain ⟨_, _, ⟨T20, Lp20, kp20, np20⟩, -, X20, ⟨Lc20, hQ20, l20, y20, z20⟩, st20⟩ := Jvm.LawKit.callS X14 hx (y := mt2) hown (mvT hZ (wd114 hw)) (mvT hZ (wd115 hw)) (mvT hZ (wd93 hw)) (mvT hZ (wd116 hw)) (by decide) (backOf (W := 0) (own_put l Z a0 hw [] b1 kb1 (8 : Int32) (own_L12 v0 v1) (2 : Int32) v2 T14.heap n0 O16 zf_S_java_lang_StringUTF16__assertionsDisabled zf_S_java_lang_StringUTF16_HI_BYTE_SHIFT zf_S_java_lang_StringUTF16_LO_BYTE_SHIFT f14_0c (by decide) (by decide) (by decide) (by decide) (Nat.le_of_ble_eq_true rfl) (Nat.le_of_ble_eq_true rfl) (by omega)) hZ (wd116 hw) (wd93 hw) (by decide) (by decide)) (g := (mkF m 20 A_5 [.int v2, .int 2, .ref b1])) rfl (by rw [hml]; rfl) (argsL := [.ref b1, .int 2, .int v2]) (rest := []) (lenOf pd___BII_V_470 rfl) rfl (by show 2 * 0 + _ ≤ _; exact Nat.le_of_eq rfl) (hb hby d24_20) (fun _ _ => ⟨rfl, rfl, (by decide : 1 + 0 ≤ _), (by decide : 8 + 0 ≤ _)⟩)
  dsimp only [Pt.U, Pt.locs, Pt.cells, Pt.slots] at X20 l20 y20 z20 st20 hQ20
  subst Lp20 kp20 np20
  obtain ⟨rfl, N20q, K20q, f20_0⟩ := hQ20
  have N20 := Fr.app N14 N20q
  have sz21 : T14.heap.size ≤ T20.heap.size := K20q.1
  have O22 : Old Z n0 T20.heap := O16.keep K20q (allS (by omega : n0 ≤ b1) all0)
  have K23 : Keep h0 T20.heap [] := K17.trans K20q (allS (P := fun x => x ∈ [] ∨ h0.size ≤ x) (Or.inr (by omega)) all0)
  have f20_0c : Arv Z T20.heap b1 kb1 .byte (8 : Int32) (own_L13 v0 v1 v2) (.int 0) := f20_0
  refine ov T20 23 A_5 [] st20 ?_
  refine ov T20 26 #[.val (.ref sa), .val (.int 3), .val (.int 4), .val (.ref b1), .val (.int 2)] [] (fun t k => XS.iinc X20.here hx rfl (hb hby d24_23) rfl (l' := #[.val (.ref sa), .val (.int 3), .val (.int 4), .val (.ref b1), .val (.int 2)]) rfl k) ?_
  let A_6 : Array Slot := #[.val (.ref sa), .val (.int 3), .val (.int 4), .val (.ref b1), .val (.int 3)]
  refine ov T20 29 A_6 [] (fun t k => XS.iinc X20.here hx rfl (hb hby d24_26) rfl (l' := A_6) rfl k) ?_
  refine ov T20 8 A_6 [] (fun t k => XS.goto X20.here hx rfl (pc0 := 29) (pc' := 8) rfl (hb hby d24_29) (by decide) (by decide) k) ?_
  refine ov T20 10 A_6 [.int 3] (fun t k => XS.iload X20.here hx rfl (hb hby d24_8) rfl k) ?_
  refine ov T20 11 A_6 [.int 4, .int 3] (fun t k => XS.iloadN X20.here hx rfl (hb hby d24_10) rfl k) ?_
  refine ov T20 14 A_6 [] (fun t k => XS.icmpNo X20.here hx rfl (hb hby d24_11) rfl (tlt (by decide : (3 : Int32) < (4 : Int32))).2.1 k) ?_
  refine ov T20 15 A_6 [.ref b1] (fun t k => XS.aloadN X20.here hx rfl (hb hby d24_14) rfl rfl k) ?_
  refine ov T20 17 A_6 [.int 3, .ref b1] (fun t k => XS.iload X20.here hx rfl (hb hby d24_15) rfl k) ?_
  refine ov T20 18 A_6 [.ref sa, .int 3, .ref b1] (fun t k => XS.aloadN X20.here hx rfl (hb hby d24_17) rfl rfl k) ?_
  refine ov T20 19 A_6 [.int 3, .ref sa, .int 3, .ref b1] (fun t k => XS.iloadN X20.here hx rfl (hb hby d24_18) rfl k) ?_
  have cx24 : Arv Z T20.heap sa ks .char (4 : Int32) [.int v0, .int v1, .int v2, .int v3] (.int 0) := (cx18.keep K20q (ninS ne_sa_b1 nin0))
  obtain ⟨cl25, Ar25, q25, S25, M25, H25, U25⟩ := id cx24
  have hin25 : ¬ ((3 : Int32) < 0 ∨ cl25.slots.size ≤ ((3 : Int32)).toNatClampNeg) := inb_of S25 ⟨by decide, by decide⟩
  refine ov T20 20 A_6 [.int v3, .int 3, .ref b1] (fun t k => X20.caload hx (j := (3 : Int32)) (v := (.int v3)) (by first | (rw [rfl]; exact Ar25.1) | exact Ar25.1) (State.isArrayOf_alike hZ.alike Ar25.2.1) Ar25.2.2 hin25 (Has.at H25 hin25 rfl) (g := (mkF m 19 A_6 [.int 3, .ref sa, .int 3, .ref b1])) rfl rfl (hb hby d24_19) _ k) ?_
  obtain ⟨_, _, ⟨T26, Lp26, kp26, np26⟩, -, X26, ⟨Lc26, hQ26, l26, y26, z26⟩, st26⟩ := Jvm.LawKit.callS X20 hx (y := mt2) hown (mvT hZ (wd114 hw)) (mvT hZ (wd115 hw)) (mvT hZ (wd93 hw)) (mvT hZ (wd116 hw)) (by decide) (backOf (W := 0) (own_put l Z a0 hw [] b1 kb1 (8 : Int32) (own_L13 v0 v1 v2) (3 : Int32) v3 T20.heap n0 O22 zf_S_java_lang_StringUTF16__assertionsDisabled zf_S_java_lang_StringUTF16_HI_BYTE_SHIFT zf_S_java_lang_StringUTF16_LO_BYTE_SHIFT f20_0c (by decide) (by decide) (by decide) (by decide) (Nat.le_of_ble_eq_true rfl) (Nat.le_of_ble_eq_true rfl) (by omega)) hZ (wd116 hw) (wd93 hw) (by decide) (by decide)) (g := (mkF m 20 A_6 [.int v3, .int 3, .ref b1])) rfl (by rw [hml]; rfl) (argsL := [.ref b1, .int 3, .int v3]) (rest := []) (lenOf pd___BII_V_470 rfl) rfl (by show 2 * 0 + _ ≤ _; exact Nat.le_of_eq rfl) (hb hby d24_20) (fun _ _ => ⟨rfl, rfl, (by decide : 1 + 0 ≤ _), (by decide : 8 + 0 ≤ _)⟩)
  dsimp only [Pt.U, Pt.locs, Pt.cells, Pt.slots] at X26 l26 y26 z26 st26 hQ26
  subst Lp26 kp26 np26
  obtain ⟨rfl, N26q, K26q, f26_0⟩ := hQ26
  have N26 := Fr.app N20 N26q
  have sz27 : T20.heap.size ≤ T26.heap.size := K26q.1
  have O28 : Old Z n0 T26.heap := O22.keep K26q (allS (by omega : n0 ≤ b1) all0)
  have K29 : Keep h0 T26.heap [] := K23.trans K26q (allS (P := fun x => x ∈ [] ∨ h0.size ≤ x) (Or.inr (by omega)) all0)
  have f26_0c : Arv Z T26.heap b1 kb1 .byte (8 : Int32) (own_L9 v0 v1 v2 v3) (.int 0) := f26_0
  refine ov T26 23 A_6 [] st26 ?_
  refine ov T26 26 #[.val (.ref sa), .val (.int 4), .val (.int 4), .val (.ref b1), .val (.int 3)] [] (fun t k => XS.iinc X26.here hx rfl (hb hby d24_23) rfl (l' := #[.val (.ref sa), .val (.int 4), .val (.int 4), .val (.ref b1), .val (.int 3)]) rfl k) ?_
  let A_7 : Array Slot := #[.val (.ref sa), .val (.int 4), .val (.int 4), .val (.ref b1), .val (.int 4)]
  refine ov T26 29 A_7 [] (fun t k => XS.iinc X26.here hx rfl (hb hby d24_26) rfl (l' := A_7) rfl k) ?_
  refine ov T26 8 A_7 [] (fun t k => XS.goto X26.here hx rfl (pc0 := 29) (pc' := 8) rfl (hb hby d24_29) (by decide) (by decide) k) ?_
  refine ov T26 10 A_7 [.int 4] (fun t k => XS.iload X26.here hx rfl (hb hby d24_8) rfl k) ?_
  refine ov T26 11 A_7 [.int 4, .int 4] (fun t k => XS.iloadN X26.here hx rfl (hb hby d24_10) rfl k) ?_
  refine ov T26 32 A_7 [] (fun t k => XS.icmpYes X26.here hx rfl (pc0 := 11) (pc' := 32) rfl (hb hby d24_11) rfl (flt (by decide : ¬ ((4 : Int32) < (4 : Int32)))).2.1 (by decide) (by decide) k) ?_
  refine ov T26 33 A_7 [.ref b1] (fun t k => XS.aloadN X26.here hx rfl (hb hby d24_32) rfl rfl k) ?_
  refine own_ret (Q := Q_own_tob4 Z sa ks v0 v1 v2 v3 h0 n0) (C := rm2_1_8_24.cells) (N := rm2_1_8_24.slots) X26 (v := some (.ref b1)) (fun h => by rw [Bd.returns] at h; cases h) Bd.notSynchronized ?_ (by decide) (by decide) (fun fs hr => retOut X26 hx Bd.returns rfl (Or.inr (Or.inr (Or.inr (Or.inr ⟨rfl, rfl, rfl⟩)))) (hb hby d24_33) hr)
  show Q_own_tob4 Z sa ks v0 v1 v2 v3 h0 n0 _ T26.heap _
  exact ⟨b1, kb1, rfl, N26, K29, f26_0c, (by omega)⟩
def Q_own_c3_4 (Z : State) (sa : Addr) (ks : ClassId) (v0 : Int32) (v1 : Int32) (v2 : Int32) (v3 : Int32) (h0 : Heap) (n0 : Nat) (v : Option Value) (h : Heap) (L : List Loc) : Prop := ∃ b : Addr, ∃ kb : ClassId, v = some (.ref b) ∧ Fr n0 L ∧ Keep h0 h [] ∧ Arv Z h b kb .byte (8 : Int32) (own_L9 v0 v1 v2 v3) (.int 0) ∧ (h0.size ≤ b)
set_option maxRecDepth 65536 in
set_option maxHeartbeats 40000000 in
theorem own_c3_4 (l : Launch) (Z : State) (a0 : Array Value) (hw : ∀ d ∈ tables_1, d.before a0 Z = true) (ws : List Jvm.Cond) (sa : Addr) (ks : ClassId) (v0 : Int32) (v1 : Int32) (v2 : Int32) (v3 : Int32) (h0 : Heap) (n0 : Nat) (O0 : Old Z n0 h0) (zf_S_java_lang_StringUTF16__assertionsDisabled : Sta Z Z.heap "java/lang/StringUTF16" "$assertionsDisabled" "Z" (.int 1)) (zf_S_java_lang_StringUTF16_HI_BYTE_SHIFT : Sta Z Z.heap "java/lang/StringUTF16" "HI_BYTE_SHIFT" "I" (.int 0)) (zf_S_java_lang_StringUTF16_LO_BYTE_SHIFT : Sta Z Z.heap "java/lang/StringUTF16" "LO_BYTE_SHIFT" "I" (.int 8)) (f0_A_sa : Arv Z h0 sa ks .char (4 : Int32) [.int v0, .int v1, .int v2, .int v3] (.int 0)) (qv0 : ¬ v0 < (1 : Int32) ∧ ¬ (65535 : Int32) < v0) (qv1 : ¬ v1 < (1 : Int32) ∧ ¬ (65535 : Int32) < v1) (qv2 : ¬ v2 < (1 : Int32) ∧ ¬ (65535 : Int32) < v2) (qv3 : ¬ v3 < (1 : Int32) ∧ ¬ (65535 : Int32) < v3) (hU : (255 : Int32) < v0 ∨ (255 : Int32) < v1 ∨ (255 : Int32) < v2 ∨ (255 : Int32) < v3) :
    MetFree l mt8 (head1 (Jvm.Cond.code mt8 jdk_52_method_16_code 6 (some (.array .byte)) :: ws) rm3_2_12_40) (fun aq U => aq = #[.ref sa, .int 0, .int 4] ∧ Z.Warmed39 U.vm ∧ U.heap = h0) (fun _ _ _ _ _ => True) (fun _ U o U' => ∃ v L, o = .returned v ∧ Q_own_c3_4 Z sa ks v0 v1 v2 v3 h0 n0 v U'.heap L ∧ FrameEnd U o U' L rm3_2_12_40.cells rm3_2_12_40.slots) := by
  refine MetFree.of_bodySF (plainFor_of_name pn_java_lang_StringUTF16) hisR ?_
  intro p e s m args below meth c s₁ Bd hml0 hP hK
  obtain ⟨rfl, hZ, hh⟩ := hP
  have hx := Bd.exec
  have hby := Bd.bytes
  have hml : c.maxLocals = 6 := hml0
  have hown : s.vm.findClass "java/lang/StringUTF16" = some m.cls := findClass_of_methodNamed Bd.named
  have hnm := (name_of_methodNamed Bd.named Bd.method).1
  have X0 : Stand p l e rm3_2_12_40 s m #[.ref sa, .int 0, .int 4] below meth c s₁ [] 0 0 := Stand.of_body Bd
  have e0 : s₁.heap = h0 := by rw [← hh, Bd.state]; rfl
  have N0 := Fr.nil n0
  have zO := O0.1
  have zO2 := O0.2.1
  have fl_A_sa : h0.size > sa := f0_A_sa.lt
  refine own_open (own_via (S' := s₁.setTop (mkF m 0 #[.val (.ref sa), .val (.int 0), .val (.int 4), .unset, .unset, .unset] [])) (fun t k => castTop (ef_own_c3_4 m sa (0 : Int32) (4 : Int32)) k) ?_)
  have K0 : Keep h0 h0 [] := Keep.refl _ _
  let A_1 : Array Slot := #[.val (.ref sa), .val (.int 0), .val (.int 4), .unset, .unset, .unset]
  refine ov s₁ 1 A_1 [.int 4] (fun t k => XS.iloadN X0.here hx rfl (hb hby d20_0) rfl k) ?_
  obtain ⟨T1, h1, k1, X1, e1, E1, A1, st1⟩ := newP (aty := .byte) X0 hx hZ (wd21 hw) e0 (g := (mkF m 1 A_1 [.int 4])) rfl (hb hby d20_1) rfl (by decide : ¬ ((4 : Int32) < (0 : Int32))) (cap := 4) (by decide) (by decide) (by decide) (by decide)
  obtain ⟨b1, g1⟩ : ∃ z, z = h0.size := ⟨_, rfl⟩
  rw [← g1] at A1 st1
  have lt_b1 : h1.size > b1 := A1.lt
  have sz2 : h0.size ≤ h1.size := E1.1
  have O3 : Old Z n0 h1 := O0.ext E1
  have K4 : Keep h0 h1 [] := K0.ext E1
  have V1 : Arv Z h1 b1 k1 .byte (4 : Int32) [.int 0, .int 0, .int 0, .int 0] (.int 0) := (Arv.new A1 (by decide)).pad (pad_rep [] (.int 0) 4)
  refine ov T1 3 A_1 [.ref b1] st1 ?_
  let A_2 : Array Slot := #[.val (.ref sa), .val (.int 0), .val (.int 4), .val (.ref b1), .unset, .unset]
  refine ov T1 4 A_2 [] (fun t k => XS.astoreN X1.here hx rfl (hb hby d20_3) rfl rfl (l' := A_2) rfl k) ?_
  refine ov T1 5 A_2 [.ref sa] (fun t k => XS.aloadN X1.here hx rfl (hb hby d20_4) rfl rfl k) ?_
  refine ov T1 6 A_2 [.int 0, .ref sa] (fun t k => XS.iloadN X1.here hx rfl (hb hby d20_5) rfl k) ?_
  refine ov T1 7 A_2 [.ref b1, .int 0, .ref sa] (fun t k => XS.aloadN X1.here hx rfl (hb hby d20_6) rfl rfl k) ?_
  refine ov T1 8 A_2 [.int 0, .ref b1, .int 0, .ref sa] (fun t k => XS.iconst X1.here hx rfl (hb hby d20_7) k) ?_
  refine ov T1 9 A_2 [.int 4, .int 0, .ref b1, .int 0, .ref sa] (fun t k => XS.iloadN X1.here hx rfl (hb hby d20_8) rfl k) ?_
  have cx6 : Arv Z h1 sa ks .char (4 : Int32) [.int v0, .int v1, .int v2, .int v3] (.int 0) := (f0_A_sa.ext E1)
  obtain ⟨_, _, ⟨T5, Lp5, kp5, np5⟩, -, X5, ⟨Lc5, hQ5, l5, y5, z5⟩, st5⟩ := Jvm.LawKit.callS X1 hx (y := mt6) hown (mvT hZ (wd95 hw)) (mvT hZ (wd96 hw)) (mvT hZ (wd93 hw)) (mvT hZ (wd97 hw)) (by decide) (backOf (W := 0) (own_cx4 l Z a0 hw [] sa ks b1 k1 v0 v1 v2 v3 h1 n0 O3 cx6 V1 hU (by omega) (by first | assumption | exact Ne.symm (by assumption) | omega | exact Nat.ne_of_lt (by omega) | exact Nat.ne_of_gt (by omega) | decide | exact Nat.le_of_ble_eq_true rfl)) hZ (wd97 hw) (wd93 hw) (by decide) (by decide)) (g := (mkF m 9 A_2 [.int 4, .int 0, .ref b1, .int 0, .ref sa])) rfl (by rw [hml]; rfl) (argsL := [.ref sa, .int 0, .ref b1, .int 0, .int 4]) (rest := []) (lenOf pd___CI_BII_I_688 rfl) rfl (by show 2 * 0 + _ ≤ _; exact Nat.le_of_eq rfl) (hb hby d20_9) (fun _ _ => ⟨rfl, e1, (by decide : 1 + 0 ≤ _), (by decide : 4 + 0 ≤ _)⟩)
  dsimp only [Pt.U, Pt.locs, Pt.cells, Pt.slots] at X5 l5 y5 z5 st5 hQ5
  subst Lp5 kp5 np5
  obtain ⟨z5, rfl, N5q, K5q, pp5_0⟩ := hQ5
  have N5 := Fr.app N0 N5q
  have sz7 : h1.size ≤ T5.heap.size := K5q.1
  have O8 : Old Z n0 T5.heap := O3.keep K5q (allS (by omega : n0 ≤ b1) all0)
  have K9 : Keep h0 T5.heap [] := K4.trans K5q (allS (P := fun x => x ∈ [] ∨ h0.size ≤ x) (Or.inr (by omega)) all0)
  refine ov T5 12 A_2 [.int z5] st5 ?_
  rcases pp5_0 with ⟨hz, hv⟩ | ⟨hz, hv⟩ | ⟨hz, hv⟩ | ⟨hz, hv⟩
  · -- 0
    rw [hz]
    let A_3 : Array Slot := #[.val (.ref sa), .val (.int 0), .val (.int 4), .val (.ref b1), .val (.int 0), .unset]
    refine ov T5 14 A_3 [] (fun t k => XS.istore X5.here hx rfl (hb hby d20_12) rfl (l' := A_3) rfl k) ?_
    refine ov T5 16 A_3 [.int 0] (fun t k => XS.iload X5.here hx rfl (hb hby d20_14) rfl k) ?_
    refine ov T5 17 A_3 [.int 4, .int 0] (fun t k => XS.iloadN X5.here hx rfl (hb hby d20_16) rfl k) ?_
    refine ov T5 20 A_3 [] (fun t k => XS.icmpNo X5.here hx rfl (hb hby d20_17) rfl (feq (by decide : ¬ ((0 : Int32) = (4 : Int32)))).1 k) ?_
    refine ov T5 21 A_3 [.ref sa] (fun t k => XS.aloadN X5.here hx rfl (hb hby d20_20) rfl rfl k) ?_
    refine ov T5 22 A_3 [.int 0, .ref sa] (fun t k => XS.iloadN X5.here hx rfl (hb hby d20_21) rfl k) ?_
    refine ov T5 23 A_3 [.int 4, .int 0, .ref sa] (fun t k => XS.iloadN X5.here hx rfl (hb hby d20_22) rfl k) ?_
    have ne_sa_b1 : sa ≠ b1 := by first | exact Nat.ne_of_lt (by omega) | exact Nat.ne_of_gt (by omega)
    have cx11 : Arv Z T5.heap sa ks .char (4 : Int32) [.int v0, .int v1, .int v2, .int v3] (.int 0) := (cx6.keep K5q (ninS ne_sa_b1 nin0))
    obtain ⟨_, _, ⟨T10, Lp10, kp10, np10⟩, -, X10, ⟨Lc10, hQ10, l10, y10, z10⟩, st10⟩ := Jvm.LawKit.callS X5 hx (y := mt7) hown (mvT hZ (wd104 hw)) (mvT hZ (wd105 hw)) (mvT hZ (wd93 hw)) (mvT hZ (wd106 hw)) (by decide) (backOf (W := 0) (own_tob4 l Z a0 hw [] sa ks v0 v1 v2 v3 T5.heap n0 O8 zf_S_java_lang_StringUTF16__assertionsDisabled zf_S_java_lang_StringUTF16_HI_BYTE_SHIFT zf_S_java_lang_StringUTF16_LO_BYTE_SHIFT cx11) hZ (wd106 hw) (wd93 hw) (by decide) (by decide)) (g := (mkF m 23 A_3 [.int 4, .int 0, .ref sa])) rfl (by rw [hml]; rfl) (argsL := [.ref sa, .int 0, .int 4]) (rest := []) (lenOf pd___CII__B_542 rfl) rfl (by show 2 * 0 + _ ≤ _; exact Nat.le_of_eq rfl) (hb hby d20_23) (fun _ _ => ⟨rfl, rfl, (by decide : 1 + 1 ≤ _), (by decide : 4 + 8 ≤ _)⟩)
    dsimp only [Pt.U, Pt.locs, Pt.cells, Pt.slots] at X10 l10 y10 z10 st10 hQ10
    subst Lp10 kp10 np10
    obtain ⟨b10, kb10, rfl, N10q, K10q, f10_0, pp10_0⟩ := hQ10
    have N10 := Fr.app N5 N10q
    have sz12 : T5.heap.size ≤ T10.heap.size := K10q.1
    have O13 : Old Z n0 T10.heap := O8.keep K10q all0
    have K14 : Keep h0 T10.heap [] := K9.trans K10q all0
    have lt15_b10 : T10.heap.size > b10 := f10_0.lt
    refine ov T10 26 A_3 [.ref b10] st10 ?_
    let A_4 : Array Slot := #[.val (.ref sa), .val (.int 0), .val (.int 4), .val (.ref b1), .val (.int 0), .val (.ref b10)]
    refine ov T10 28 A_4 [] (fun t k => XS.astore X10.here hx rfl (hb hby d20_26) rfl rfl (l' := A_4) rfl k) ?_
    refine ov T10 30 A_4 [.ref b10] (fun t k => XS.aload X10.here hx rfl (hb hby d20_28) rfl rfl k) ?_
    refine ov T10 32 A_4 [.int 0, .ref b10] (fun t k => XS.iload X10.here hx rfl (hb hby d20_30) rfl k) ?_
    obtain ⟨_, _, ⟨T16, Lp16, kp16, np16⟩, -, X16, ⟨Lc16, hQ16, l16, y16, z16⟩, st16⟩ := Jvm.LawKit.callS X10 hx (y := mt3) hown (mvT hZ (wd120 hw)) (mvT hZ (wd121 hw)) (mvT hZ (wd93 hw)) (mvT hZ (wd122 hw)) (by decide) (backOf (W := 0) (own_gc l Z a0 hw [] b10 kb10 (8 : Int32) (own_L9 v0 v1 v2 v3) (0 : Int32) v0 T10.heap n0 O13 zf_S_java_lang_StringUTF16__assertionsDisabled zf_S_java_lang_StringUTF16_HI_BYTE_SHIFT zf_S_java_lang_StringUTF16_LO_BYTE_SHIFT f10_0 (by decide) (by decide) (by decide) (by decide) rfl rfl qv0) hZ (wd122 hw) (wd93 hw) (by decide) (by decide)) (g := (mkF m 32 A_4 [.int 0, .ref b10])) rfl (by rw [hml]; rfl) (argsL := [.ref b10, .int 0]) (rest := []) (lenOf pd___BI_C_378 rfl) rfl (by show 2 * 0 + _ ≤ _; exact Nat.le_of_eq rfl) (hb hby d20_32) (fun _ _ => ⟨rfl, rfl, (by decide : 2 + 0 ≤ _), (by decide : 12 + 0 ≤ _)⟩)
    dsimp only [Pt.U, Pt.locs, Pt.cells, Pt.slots] at X16 l16 y16 z16 st16 hQ16
    subst Lp16 kp16 np16
    obtain ⟨rfl, rfl, e16⟩ := hQ16
    try rw [List.append_nil] at X16
    refine ov T16 35 A_4 [.int v0] st16 ?_
    refine ov T16 38 A_4 [.int 255, .int v0] (fun t k => XS.sipush X16.here hx rfl (hb hby d20_35) k) ?_
    refine ov T16 54 A_4 [] (fun t k => XS.icmpYes X16.here hx rfl (pc0 := 38) (pc' := 54) rfl (hb hby d20_38) rfl (tlt hv).2.2.1 (by decide) (by decide) k) ?_
    refine ov T16 56 A_4 [.ref b10] (fun t k => XS.aload X16.here hx rfl (hb hby d20_54) rfl rfl k) ?_
    refine own_ret (Q := Q_own_c3_4 Z sa ks v0 v1 v2 v3 h0 n0) (C := rm3_2_12_40.cells) (N := rm3_2_12_40.slots) X16 (v := some (.ref b10)) (fun h => by rw [Bd.returns] at h; cases h) Bd.notSynchronized ?_ (by decide) (by decide) (fun fs hr => retOut X16 hx Bd.returns rfl (Or.inr (Or.inr (Or.inr (Or.inr ⟨rfl, rfl, rfl⟩)))) (hb hby d20_56) hr)
    show Q_own_c3_4 Z sa ks v0 v1 v2 v3 h0 n0 _ T16.heap _
    rw [e16]
    exact ⟨b10, kb10, rfl, N10, K14, f10_0, (by omega)⟩
  · -- 1
    rw [hz]
    let A_5 : Array Slot := #[.val (.ref sa), .val (.int 0), .val (.int 4), .val (.ref b1), .val (.int 1), .unset]
    refine ov T5 14 A_5 [] (fun t k => XS.istore X5.here hx rfl (hb hby d20_12) rfl (l' := A_5) rfl k) ?_
    refine ov T5 16 A_5 [.int 1] (fun t k => XS.iload X5.here hx rfl (hb hby d20_14) rfl k) ?_
    refine ov T5 17 A_5 [.int 4, .int 1] (fun t k => XS.iloadN X5.here hx rfl (hb hby d20_16) rfl k) ?_
    refine ov T5 20 A_5 [] (fun t k => XS.icmpNo X5.here hx rfl (hb hby d20_17) rfl (feq (by decide : ¬ ((1 : Int32) = (4 : Int32)))).1 k) ?_
    refine ov T5 21 A_5 [.ref sa] (fun t k => XS.aloadN X5.here hx rfl (hb hby d20_20) rfl rfl k) ?_
    refine ov T5 22 A_5 [.int 0, .ref sa] (fun t k => XS.iloadN X5.here hx rfl (hb hby d20_21) rfl k) ?_
    refine ov T5 23 A_5 [.int 4, .int 0, .ref sa] (fun t k => XS.iloadN X5.here hx rfl (hb hby d20_22) rfl k) ?_
    have ne_sa_b1 : sa ≠ b1 := by first | exact Nat.ne_of_lt (by omega) | exact Nat.ne_of_gt (by omega)
    have cx18 : Arv Z T5.heap sa ks .char (4 : Int32) [.int v0, .int v1, .int v2, .int v3] (.int 0) := (cx6.keep K5q (ninS ne_sa_b1 nin0))
    obtain ⟨_, _, ⟨T17, Lp17, kp17, np17⟩, -, X17, ⟨Lc17, hQ17, l17, y17, z17⟩, st17⟩ := Jvm.LawKit.callS X5 hx (y := mt7) hown (mvT hZ (wd104 hw)) (mvT hZ (wd105 hw)) (mvT hZ (wd93 hw)) (mvT hZ (wd106 hw)) (by decide) (backOf (W := 0) (own_tob4 l Z a0 hw [] sa ks v0 v1 v2 v3 T5.heap n0 O8 zf_S_java_lang_StringUTF16__assertionsDisabled zf_S_java_lang_StringUTF16_HI_BYTE_SHIFT zf_S_java_lang_StringUTF16_LO_BYTE_SHIFT cx18) hZ (wd106 hw) (wd93 hw) (by decide) (by decide)) (g := (mkF m 23 A_5 [.int 4, .int 0, .ref sa])) rfl (by rw [hml]; rfl) (argsL := [.ref sa, .int 0, .int 4]) (rest := []) (lenOf pd___CII__B_542 rfl) rfl (by show 2 * 0 + _ ≤ _; exact Nat.le_of_eq rfl) (hb hby d20_23) (fun _ _ => ⟨rfl, rfl, (by decide : 1 + 1 ≤ _), (by decide : 4 + 8 ≤ _)⟩)
    dsimp only [Pt.U, Pt.locs, Pt.cells, Pt.slots] at X17 l17 y17 z17 st17 hQ17
    subst Lp17 kp17 np17
    obtain ⟨b17, kb17, rfl, N17q, K17q, f17_0, pp17_0⟩ := hQ17
    have N17 := Fr.app N5 N17q
    have sz19 : T5.heap.size ≤ T17.heap.size := K17q.1
    have O20 : Old Z n0 T17.heap := O8.keep K17q all0
    have K21 : Keep h0 T17.heap [] := K9.trans K17q all0
    have lt22_b17 : T17.heap.size > b17 := f17_0.lt
    refine ov T17 26 A_5 [.ref b17] st17 ?_
    let A_6 : Array Slot := #[.val (.ref sa), .val (.int 0), .val (.int 4), .val (.ref b1), .val (.int 1), .val (.ref b17)]
    refine ov T17 28 A_6 [] (fun t k => XS.astore X17.here hx rfl (hb hby d20_26) rfl rfl (l' := A_6) rfl k) ?_
    refine ov T17 30 A_6 [.ref b17] (fun t k => XS.aload X17.here hx rfl (hb hby d20_28) rfl rfl k) ?_
    refine ov T17 32 A_6 [.int 1, .ref b17] (fun t k => XS.iload X17.here hx rfl (hb hby d20_30) rfl k) ?_
    obtain ⟨_, _, ⟨T23, Lp23, kp23, np23⟩, -, X23, ⟨Lc23, hQ23, l23, y23, z23⟩, st23⟩ := Jvm.LawKit.callS X17 hx (y := mt3) hown (mvT hZ (wd120 hw)) (mvT hZ (wd121 hw)) (mvT hZ (wd93 hw)) (mvT hZ (wd122 hw)) (by decide) (backOf (W := 0) (own_gc l Z a0 hw [] b17 kb17 (8 : Int32) (own_L9 v0 v1 v2 v3) (1 : Int32) v1 T17.heap n0 O20 zf_S_java_lang_StringUTF16__assertionsDisabled zf_S_java_lang_StringUTF16_HI_BYTE_SHIFT zf_S_java_lang_StringUTF16_LO_BYTE_SHIFT f17_0 (by decide) (by decide) (by decide) (by decide) rfl rfl qv1) hZ (wd122 hw) (wd93 hw) (by decide) (by decide)) (g := (mkF m 32 A_6 [.int 1, .ref b17])) rfl (by rw [hml]; rfl) (argsL := [.ref b17, .int 1]) (rest := []) (lenOf pd___BI_C_378 rfl) rfl (by show 2 * 0 + _ ≤ _; exact Nat.le_of_eq rfl) (hb hby d20_32) (fun _ _ => ⟨rfl, rfl, (by decide : 2 + 0 ≤ _), (by decide : 12 + 0 ≤ _)⟩)
    dsimp only [Pt.U, Pt.locs, Pt.cells, Pt.slots] at X23 l23 y23 z23 st23 hQ23
    subst Lp23 kp23 np23
    obtain ⟨rfl, rfl, e23⟩ := hQ23
    try rw [List.append_nil] at X23
    refine ov T23 35 A_6 [.int v1] st23 ?_
    refine ov T23 38 A_6 [.int 255, .int v1] (fun t k => XS.sipush X23.here hx rfl (hb hby d20_35) k) ?_
    refine ov T23 54 A_6 [] (fun t k => XS.icmpYes X23.here hx rfl (pc0 := 38) (pc' := 54) rfl (hb hby d20_38) rfl (tlt hv).2.2.1 (by decide) (by decide) k) ?_
    refine ov T23 56 A_6 [.ref b17] (fun t k => XS.aload X23.here hx rfl (hb hby d20_54) rfl rfl k) ?_
    refine own_ret (Q := Q_own_c3_4 Z sa ks v0 v1 v2 v3 h0 n0) (C := rm3_2_12_40.cells) (N := rm3_2_12_40.slots) X23 (v := some (.ref b17)) (fun h => by rw [Bd.returns] at h; cases h) Bd.notSynchronized ?_ (by decide) (by decide) (fun fs hr => retOut X23 hx Bd.returns rfl (Or.inr (Or.inr (Or.inr (Or.inr ⟨rfl, rfl, rfl⟩)))) (hb hby d20_56) hr)
    show Q_own_c3_4 Z sa ks v0 v1 v2 v3 h0 n0 _ T23.heap _
    rw [e23]
    exact ⟨b17, kb17, rfl, N17, K21, f17_0, (by omega)⟩
  · -- 2
    rw [hz]
    let A_7 : Array Slot := #[.val (.ref sa), .val (.int 0), .val (.int 4), .val (.ref b1), .val (.int 2), .unset]
    refine ov T5 14 A_7 [] (fun t k => XS.istore X5.here hx rfl (hb hby d20_12) rfl (l' := A_7) rfl k) ?_
    refine ov T5 16 A_7 [.int 2] (fun t k => XS.iload X5.here hx rfl (hb hby d20_14) rfl k) ?_
    refine ov T5 17 A_7 [.int 4, .int 2] (fun t k => XS.iloadN X5.here hx rfl (hb hby d20_16) rfl k) ?_
    refine ov T5 20 A_7 [] (fun t k => XS.icmpNo X5.here hx rfl (hb hby d20_17) rfl (feq (by decide : ¬ ((2 : Int32) = (4 : Int32)))).1 k) ?_
    refine ov T5 21 A_7 [.ref sa] (fun t k => XS.aloadN X5.here hx rfl (hb hby d20_20) rfl rfl k) ?_
    refine ov T5 22 A_7 [.int 0, .ref sa] (fun t k => XS.iloadN X5.here hx rfl (hb hby d20_21) rfl k) ?_
    refine ov T5 23 A_7 [.int 4, .int 0, .ref sa] (fun t k => XS.iloadN X5.here hx rfl (hb hby d20_22) rfl k) ?_
    have ne_sa_b1 : sa ≠ b1 := by first | exact Nat.ne_of_lt (by omega) | exact Nat.ne_of_gt (by omega)
    have cx25 : Arv Z T5.heap sa ks .char (4 : Int32) [.int v0, .int v1, .int v2, .int v3] (.int 0) := (cx6.keep K5q (ninS ne_sa_b1 nin0))
    obtain ⟨_, _, ⟨T24, Lp24, kp24, np24⟩, -, X24, ⟨Lc24, hQ24, l24, y24, z24⟩, st24⟩ := Jvm.LawKit.callS X5 hx (y := mt7) hown (mvT hZ (wd104 hw)) (mvT hZ (wd105 hw)) (mvT hZ (wd93 hw)) (mvT hZ (wd106 hw)) (by decide) (backOf (W := 0) (own_tob4 l Z a0 hw [] sa ks v0 v1 v2 v3 T5.heap n0 O8 zf_S_java_lang_StringUTF16__assertionsDisabled zf_S_java_lang_StringUTF16_HI_BYTE_SHIFT zf_S_java_lang_StringUTF16_LO_BYTE_SHIFT cx25) hZ (wd106 hw) (wd93 hw) (by decide) (by decide)) (g := (mkF m 23 A_7 [.int 4, .int 0, .ref sa])) rfl (by rw [hml]; rfl) (argsL := [.ref sa, .int 0, .int 4]) (rest := []) (lenOf pd___CII__B_542 rfl) rfl (by show 2 * 0 + _ ≤ _; exact Nat.le_of_eq rfl) (hb hby d20_23) (fun _ _ => ⟨rfl, rfl, (by decide : 1 + 1 ≤ _), (by decide : 4 + 8 ≤ _)⟩)
    dsimp only [Pt.U, Pt.locs, Pt.cells, Pt.slots] at X24 l24 y24 z24 st24 hQ24
    subst Lp24 kp24 np24
    obtain ⟨b24, kb24, rfl, N24q, K24q, f24_0, pp24_0⟩ := hQ24
    have N24 := Fr.app N5 N24q
    have sz26 : T5.heap.size ≤ T24.heap.size := K24q.1
    have O27 : Old Z n0 T24.heap := O8.keep K24q all0
    have K28 : Keep h0 T24.heap [] := K9.trans K24q all0
    have lt29_b24 : T24.heap.size > b24 := f24_0.lt
    refine ov T24 26 A_7 [.ref b24] st24 ?_
    let A_8 : Array Slot := #[.val (.ref sa), .val (.int 0), .val (.int 4), .val (.ref b1), .val (.int 2), .val (.ref b24)]
    refine ov T24 28 A_8 [] (fun t k => XS.astore X24.here hx rfl (hb hby d20_26) rfl rfl (l' := A_8) rfl k) ?_
    refine ov T24 30 A_8 [.ref b24] (fun t k => XS.aload X24.here hx rfl (hb hby d20_28) rfl rfl k) ?_
    refine ov T24 32 A_8 [.int 2, .ref b24] (fun t k => XS.iload X24.here hx rfl (hb hby d20_30) rfl k) ?_
    obtain ⟨_, _, ⟨T30, Lp30, kp30, np30⟩, -, X30, ⟨Lc30, hQ30, l30, y30, z30⟩, st30⟩ := Jvm.LawKit.callS X24 hx (y := mt3) hown (mvT hZ (wd120 hw)) (mvT hZ (wd121 hw)) (mvT hZ (wd93 hw)) (mvT hZ (wd122 hw)) (by decide) (backOf (W := 0) (own_gc l Z a0 hw [] b24 kb24 (8 : Int32) (own_L9 v0 v1 v2 v3) (2 : Int32) v2 T24.heap n0 O27 zf_S_java_lang_StringUTF16__assertionsDisabled zf_S_java_lang_StringUTF16_HI_BYTE_SHIFT zf_S_java_lang_StringUTF16_LO_BYTE_SHIFT f24_0 (by decide) (by decide) (by decide) (by decide) rfl rfl qv2) hZ (wd122 hw) (wd93 hw) (by decide) (by decide)) (g := (mkF m 32 A_8 [.int 2, .ref b24])) rfl (by rw [hml]; rfl) (argsL := [.ref b24, .int 2]) (rest := []) (lenOf pd___BI_C_378 rfl) rfl (by show 2 * 0 + _ ≤ _; exact Nat.le_of_eq rfl) (hb hby d20_32) (fun _ _ => ⟨rfl, rfl, (by decide : 2 + 0 ≤ _), (by decide : 12 + 0 ≤ _)⟩)
    dsimp only [Pt.U, Pt.locs, Pt.cells, Pt.slots] at X30 l30 y30 z30 st30 hQ30
    subst Lp30 kp30 np30
    obtain ⟨rfl, rfl, e30⟩ := hQ30
    try rw [List.append_nil] at X30
    refine ov T30 35 A_8 [.int v2] st30 ?_
    refine ov T30 38 A_8 [.int 255, .int v2] (fun t k => XS.sipush X30.here hx rfl (hb hby d20_35) k) ?_
    refine ov T30 54 A_8 [] (fun t k => XS.icmpYes X30.here hx rfl (pc0 := 38) (pc' := 54) rfl (hb hby d20_38) rfl (tlt hv).2.2.1 (by decide) (by decide) k) ?_
    refine ov T30 56 A_8 [.ref b24] (fun t k => XS.aload X30.here hx rfl (hb hby d20_54) rfl rfl k) ?_
    refine own_ret (Q := Q_own_c3_4 Z sa ks v0 v1 v2 v3 h0 n0) (C := rm3_2_12_40.cells) (N := rm3_2_12_40.slots) X30 (v := some (.ref b24)) (fun h => by rw [Bd.returns] at h; cases h) Bd.notSynchronized ?_ (by decide) (by decide) (fun fs hr => retOut X30 hx Bd.returns rfl (Or.inr (Or.inr (Or.inr (Or.inr ⟨rfl, rfl, rfl⟩)))) (hb hby d20_56) hr)
    show Q_own_c3_4 Z sa ks v0 v1 v2 v3 h0 n0 _ T30.heap _
    rw [e30]
    exact ⟨b24, kb24, rfl, N24, K28, f24_0, (by omega)⟩
  · -- 3
    rw [hz]
    let A_9 : Array Slot := #[.val (.ref sa), .val (.int 0), .val (.int 4), .val (.ref b1), .val (.int 3), .unset]
    refine ov T5 14 A_9 [] (fun t k => XS.istore X5.here hx rfl (hb hby d20_12) rfl (l' := A_9) rfl k) ?_
    refine ov T5 16 A_9 [.int 3] (fun t k => XS.iload X5.here hx rfl (hb hby d20_14) rfl k) ?_
    refine ov T5 17 A_9 [.int 4, .int 3] (fun t k => XS.iloadN X5.here hx rfl (hb hby d20_16) rfl k) ?_
    refine ov T5 20 A_9 [] (fun t k => XS.icmpNo X5.here hx rfl (hb hby d20_17) rfl (feq (by decide : ¬ ((3 : Int32) = (4 : Int32)))).1 k) ?_
    refine ov T5 21 A_9 [.ref sa] (fun t k => XS.aloadN X5.here hx rfl (hb hby d20_20) rfl rfl k) ?_
    refine ov T5 22 A_9 [.int 0, .ref sa] (fun t k => XS.iloadN X5.here hx rfl (hb hby d20_21) rfl k) ?_
    refine ov T5 23 A_9 [.int 4, .int 0, .ref sa] (fun t k => XS.iloadN X5.here hx rfl (hb hby d20_22) rfl k) ?_
    have ne_sa_b1 : sa ≠ b1 := by first | exact Nat.ne_of_lt (by omega) | exact Nat.ne_of_gt (by omega)
    have cx32 : Arv Z T5.heap sa ks .char (4 : Int32) [.int v0, .int v1, .int v2, .int v3] (.int 0) := (cx6.keep K5q (ninS ne_sa_b1 nin0))
    obtain ⟨_, _, ⟨T31, Lp31, kp31, np31⟩, -, X31, ⟨Lc31, hQ31, l31, y31, z31⟩, st31⟩ := Jvm.LawKit.callS X5 hx (y := mt7) hown (mvT hZ (wd104 hw)) (mvT hZ (wd105 hw)) (mvT hZ (wd93 hw)) (mvT hZ (wd106 hw)) (by decide) (backOf (W := 0) (own_tob4 l Z a0 hw [] sa ks v0 v1 v2 v3 T5.heap n0 O8 zf_S_java_lang_StringUTF16__assertionsDisabled zf_S_java_lang_StringUTF16_HI_BYTE_SHIFT zf_S_java_lang_StringUTF16_LO_BYTE_SHIFT cx32) hZ (wd106 hw) (wd93 hw) (by decide) (by decide)) (g := (mkF m 23 A_9 [.int 4, .int 0, .ref sa])) rfl (by rw [hml]; rfl) (argsL := [.ref sa, .int 0, .int 4]) (rest := []) (lenOf pd___CII__B_542 rfl) rfl (by show 2 * 0 + _ ≤ _; exact Nat.le_of_eq rfl) (hb hby d20_23) (fun _ _ => ⟨rfl, rfl, (by decide : 1 + 1 ≤ _), (by decide : 4 + 8 ≤ _)⟩)
    dsimp only [Pt.U, Pt.locs, Pt.cells, Pt.slots] at X31 l31 y31 z31 st31 hQ31
    subst Lp31 kp31 np31
    obtain ⟨b31, kb31, rfl, N31q, K31q, f31_0, pp31_0⟩ := hQ31
    have N31 := Fr.app N5 N31q
    have sz33 : T5.heap.size ≤ T31.heap.size := K31q.1
    have O34 : Old Z n0 T31.heap := O8.keep K31q all0
    have K35 : Keep h0 T31.heap [] := K9.trans K31q all0
    have lt36_b31 : T31.heap.size > b31 := f31_0.lt
    refine ov T31 26 A_9 [.ref b31] st31 ?_
    let A_10 : Array Slot := #[.val (.ref sa), .val (.int 0), .val (.int 4), .val (.ref b1), .val (.int 3), .val (.ref b31)]
    refine ov T31 28 A_10 [] (fun t k => XS.astore X31.here hx rfl (hb hby d20_26) rfl rfl (l' := A_10) rfl k) ?_
    refine ov T31 30 A_10 [.ref b31] (fun t k => XS.aload X31.here hx rfl (hb hby d20_28) rfl rfl k) ?_
    refine ov T31 32 A_10 [.int 3, .ref b31] (fun t k => XS.iload X31.here hx rfl (hb hby d20_30) rfl k) ?_
    obtain ⟨_, _, ⟨T37, Lp37, kp37, np37⟩, -, X37, ⟨Lc37, hQ37, l37, y37, z37⟩, st37⟩ := Jvm.LawKit.callS X31 hx (y := mt3) hown (mvT hZ (wd120 hw)) (mvT hZ (wd121 hw)) (mvT hZ (wd93 hw)) (mvT hZ (wd122 hw)) (by decide) (backOf (W := 0) (own_gc l Z a0 hw [] b31 kb31 (8 : Int32) (own_L9 v0 v1 v2 v3) (3 : Int32) v3 T31.heap n0 O34 zf_S_java_lang_StringUTF16__assertionsDisabled zf_S_java_lang_StringUTF16_HI_BYTE_SHIFT zf_S_java_lang_StringUTF16_LO_BYTE_SHIFT f31_0 (by decide) (by decide) (by decide) (by decide) rfl rfl qv3) hZ (wd122 hw) (wd93 hw) (by decide) (by decide)) (g := (mkF m 32 A_10 [.int 3, .ref b31])) rfl (by rw [hml]; rfl) (argsL := [.ref b31, .int 3]) (rest := []) (lenOf pd___BI_C_378 rfl) rfl (by show 2 * 0 + _ ≤ _; exact Nat.le_of_eq rfl) (hb hby d20_32) (fun _ _ => ⟨rfl, rfl, (by decide : 2 + 0 ≤ _), (by decide : 12 + 0 ≤ _)⟩)
    dsimp only [Pt.U, Pt.locs, Pt.cells, Pt.slots] at X37 l37 y37 z37 st37 hQ37
    subst Lp37 kp37 np37
    obtain ⟨rfl, rfl, e37⟩ := hQ37
    try rw [List.append_nil] at X37
    refine ov T37 35 A_10 [.int v3] st37 ?_
    refine ov T37 38 A_10 [.int 255, .int v3] (fun t k => XS.sipush X37.here hx rfl (hb hby d20_35) k) ?_
    refine ov T37 54 A_10 [] (fun t k => XS.icmpYes X37.here hx rfl (pc0 := 38) (pc' := 54) rfl (hb hby d20_38) rfl (tlt hv).2.2.1 (by decide) (by decide) k) ?_
    refine ov T37 56 A_10 [.ref b31] (fun t k => XS.aload X37.here hx rfl (hb hby d20_54) rfl rfl k) ?_
    refine own_ret (Q := Q_own_c3_4 Z sa ks v0 v1 v2 v3 h0 n0) (C := rm3_2_12_40.cells) (N := rm3_2_12_40.slots) X37 (v := some (.ref b31)) (fun h => by rw [Bd.returns] at h; cases h) Bd.notSynchronized ?_ (by decide) (by decide) (fun fs hr => retOut X37 hx Bd.returns rfl (Or.inr (Or.inr (Or.inr (Or.inr ⟨rfl, rfl, rfl⟩)))) (hb hby d20_56) hr)
    show Q_own_c3_4 Z sa ks v0 v1 v2 v3 h0 n0 _ T37.heap _
    rw [e37]
    exact ⟨b31, kb31, rfl, N31, K35, f31_0, (by omega)⟩
def Q_own_cfa4 (Z : State) (b : Addr) (kb : ClassId) (ys : List Value) (h0 : Heap) (n0 : Nat) (v : Option Value) (h : Heap) (L : List Loc) : Prop := v = some (.int 1) ∧ L = [] ∧ h = h0
set_option maxRecDepth 65536 in
set_option maxHeartbeats 40000000 in
theorem own_cfa4 (l : Launch) (Z : State) (a0 : Array Value) (hw : ∀ d ∈ tables_1, d.before a0 Z = true) (ws : List Jvm.Cond) (b : Addr) (kb : ClassId) (ys : List Value) (h0 : Heap) (n0 : Nat) (O0 : Old Z n0 h0) (f0_A_b : Arv Z h0 b kb .byte (8 : Int32) ys (.int 0)) :
    MetFree l mt9 (head1 (Jvm.Cond.code mt9 jdk_52_method_15_code 2 (some .byte) :: ws) rm0_0_0_0) (fun aq U => aq = #[.ref b, .int 4] ∧ Z.Warmed39 U.vm ∧ U.heap = h0) (fun _ _ _ _ _ => True) (fun _ U o U' => ∃ v L, o = .returned v ∧ Q_own_cfa4 Z b kb ys h0 n0 v U'.heap L ∧ FrameEnd U o U' L rm0_0_0_0.cells rm0_0_0_0.slots) := by
  refine MetFree.of_bodySF (plainFor_of_name pn_java_lang_StringUTF16) hisR ?_
  intro p e s m args below meth c s₁ Bd hml0 hP hK
  obtain ⟨rfl, hZ, hh⟩ := hP
  have hx := Bd.exec
  have hby := Bd.bytes
  have hml : c.maxLocals = 2 := hml0
  have hown : s.vm.findClass "java/lang/StringUTF16" = some m.cls := findClass_of_methodNamed Bd.named
  have hnm := (name_of_methodNamed Bd.named Bd.method).1
  have X0 : Stand p l e rm0_0_0_0 s m #[.ref b, .int 4] below meth c s₁ [] 0 0 := Stand.of_body Bd
  have e0 : s₁.heap = h0 := by rw [← hh, Bd.state]; rfl
  have N0 := Fr.nil n0
  have zO := O0.1
  have zO2 := O0.2.1
  have fl_A_b : h0.size > b := f0_A_b.lt
  refine own_open (own_via (S' := s₁.setTop (mkF m 0 #[.val (.ref b), .val (.int 4)] [])) (fun t k => castTop (ef_own_cfa4 m b (4 : Int32)) k) ?_)
  refine ov s₁ 1 #[.val (.ref b), .val (.int 4)] [.int 4] (fun t k => XS.iloadN X0.here hx rfl (hb hby d22_0) rfl k) ?_
  refine ov s₁ 2 #[.val (.ref b), .val (.int 4)] [.ref b, .int 4] (fun t k => XS.aloadN X0.here hx rfl (hb hby d22_1) rfl rfl k) ?_
  obtain ⟨cl1, Ar1, -, S1, N1, -, -⟩ := id f0_A_b
  refine ov s₁ 3 #[.val (.ref b), .val (.int 4)] [.int 8, .int 4] (fun t k => X0.arraylength hx (by first | (rw [e0]; exact Ar1.1) | exact Ar1.1) (State.isArrayOf_alike hZ.alike Ar1.2.1) (g := (mkF m 2 #[.val (.ref b), .val (.int 4)] [.ref b, .int 4])) rfl rfl (hb hby d22_2) _ (by rw [len_of S1 N1]; exact k)) ?_
  refine ov s₁ 4 #[.val (.ref b), .val (.int 4)] [(.int (-4))] (fun t k => XS.isub X0.here hx rfl (hb hby d22_3) rfl k) ?_
  refine ov s₁ 6 #[.val (.ref b), .val (.int 4)] [.int 31, (.int (-4))] (fun t k => XS.bipush X0.here hx rfl (hb hby d22_4) k) ?_
  refine ov s₁ 7 #[.val (.ref b), .val (.int 4)] [.int 1] (fun t k => XS.iushr X0.here hx rfl (hb hby d22_6) rfl k) ?_
  refine ov s₁ 8 #[.val (.ref b), .val (.int 4)] [.int 1] (fun t k => XS.i2b X0.here hx rfl (hb hby d22_7) rfl k) ?_
  refine own_ret (Q := Q_own_cfa4 Z b kb ys h0 n0) (C := rm0_0_0_0.cells) (N := rm0_0_0_0.slots) X0 (v := some (.int 1)) (fun h => by rw [Bd.returns] at h; cases h) Bd.notSynchronized ?_ (by decide) (by decide) (fun fs hr => retN X0 hx (t := .byte) Bd.returns (by simp) (hb hby d22_8) hr)
  show Q_own_cfa4 Z b kb ys h0 n0 _ s₁.heap _
  rw [e0]
  exact ⟨rfl, rfl, rfl⟩
def Q_own_n4_4 (Z : State) (a : Addr) (bc : Addr) (kc : ClassId) (zc : Int32) (v0 : Int32) (v1 : Int32) (v2 : Int32) (v3 : Int32) (h0 : Heap) (n0 : Nat) (v : Option Value) (h : Heap) (L : List Loc) : Prop := ∃ tb : Addr, ∃ kb : ClassId, v = none ∧ Fr n0 L ∧ Keep h0 h [a] ∧ Fld Z h a "java/lang/String" "value" "[B" (.ref tb) ∧ Fld Z h a "java/lang/String" "coder" "B" (.int 1) ∧ Arv Z h tb kb .byte (8 : Int32) (own_L9 v0 v1 v2 v3) (.int 0)
set_option maxRecDepth 65536 in
set_option maxHeartbeats 40000000 in
theorem own_n4_4 (l : Launch) (Z : State) (a0 : Array Value) (hw : ∀ d ∈ tables_1, d.before a0 Z = true) (ws : List Jvm.Cond) (a : Addr) (bc : Addr) (kc : ClassId) (zc : Int32) (v0 : Int32) (v1 : Int32) (v2 : Int32) (v3 : Int32) (h0 : Heap) (n0 : Nat) (O0 : Old Z n0 h0) (zfC : Sta Z Z.heap "java/lang/String" "COMPACT_STRINGS" "Z" (.int zc)) (zf_S_java_lang_StringUTF16__assertionsDisabled : Sta Z Z.heap "java/lang/StringUTF16" "$assertionsDisabled" "Z" (.int 1)) (zf_S_java_lang_StringUTF16_HI_BYTE_SHIFT : Sta Z Z.heap "java/lang/StringUTF16" "HI_BYTE_SHIFT" "I" (.int 0)) (zf_S_java_lang_StringUTF16_LO_BYTE_SHIFT : Sta Z Z.heap "java/lang/StringUTF16" "LO_BYTE_SHIFT" "I" (.int 8)) (f0_E_a : Exa Z h0 a "java/lang/String") (f0_F_a_value : Fld Z h0 a "java/lang/String" "value" "[B" .null) (f0_F_a_coder : Fld Z h0 a "java/lang/String" "coder" "B" (.int 0)) (f0_A_bc : Arv Z h0 bc kc .char (4 : Int32) [.int v0, .int v1, .int v2, .int v3] (.int 0)) (hzc : ¬ (zc = (0 : Int32))) (qv0 : ¬ v0 < (1 : Int32) ∧ ¬ (65535 : Int32) < v0) (qv1 : ¬ v1 < (1 : Int32) ∧ ¬ (65535 : Int32) < v1) (qv2 : ¬ v2 < (1 : Int32) ∧ ¬ (65535 : Int32) < v2) (qv3 : ¬ v3 < (1 : Int32) ∧ ¬ (65535 : Int32) < v3) (hU : (255 : Int32) < v0 ∨ (255 : Int32) < v1 ∨ (255 : Int32) < v2 ∨ (255 : Int32) < v3) (g_a : n0 ≤ a) :
    MetFree l mt0 (head1 (Jvm.Cond.code mt0 jdk_42_method_149_code 6 none :: ws) rm4_2_12_57) (fun aq U => aq = #[.ref a, .ref bc, .int 0, .int 4, .null] ∧ Z.Warmed39 U.vm ∧ U.heap = h0) (fun _ _ _ _ _ => True) (fun _ U o U' => ∃ v L, o = .returned v ∧ Q_own_n4_4 Z a bc kc zc v0 v1 v2 v3 h0 n0 v U'.heap L ∧ FrameEnd U o U' L rm4_2_12_57.cells rm4_2_12_57.slots) := by
  refine MetFree.of_bodySF (plainFor_of_name pn_java_lang_String) hisR ?_
  intro p e s m args below meth c s₁ Bd hml0 hP hK
  obtain ⟨rfl, hZ, hh⟩ := hP
  have hx := Bd.exec
  have hby := Bd.bytes
  have hml : c.maxLocals = 6 := hml0
  have hown : s.vm.findClass "java/lang/String" = some m.cls := findClass_of_methodNamed Bd.named
  have hnm := (name_of_methodNamed Bd.named Bd.method).1
  have X0 : Stand p l e rm4_2_12_57 s m #[.ref a, .ref bc, .int 0, .int 4, .null] below meth c s₁ [] 0 0 := Stand.of_body Bd
  have e0 : s₁.heap = h0 := by rw [← hh, Bd.state]; rfl
  have N0 := Fr.nil n0
  have zO := O0.1
  have zO2 := O0.2.1
  have fl_E_a : h0.size > a := f0_E_a.lt
  have fl_F_a_value : h0.size > a := f0_F_a_value.lt
  have fl_F_a_coder : h0.size > a := f0_F_a_coder.lt
  have fl_A_bc : h0.size > bc := f0_A_bc.lt
  refine own_open (own_via (S' := s₁.setTop (mkF m 0 #[.val (.ref a), .val (.ref bc), .val (.int 0), .val (.int 4), .val .null, .unset] [])) (fun t k => castTop (ef_own_n4_4 m a bc (0 : Int32) (4 : Int32)) k) ?_)
  have K0 : Keep h0 h0 [a] := Keep.refl _ _
  have ne_a_bc : a ≠ bc := Exa.neArv f0_E_a f0_A_bc (wd8 hw)
  let A_1 : Array Slot := #[.val (.ref a), .val (.ref bc), .val (.int 0), .val (.int 4), .val .null, .unset]
  refine ov s₁ 1 A_1 [.ref a] (fun t k => XS.aloadN X0.here hx rfl (hb hby d3_0) rfl rfl k) ?_
  obtain ⟨T1, X1, e1, st1⟩ := initO X0 hx hZ hown (wd17 hw) (wd18 hw) (wd19 hw) e0 (g := (mkF m 1 A_1 [.ref a])) rfl (by rw [hml]; rfl) rfl (hb hby d3_1) (by decide) (W := 0) (by show 2 * 0 + _ ≤ _; exact Nat.le_of_eq rfl) (by decide)
  refine ov T1 4 A_1 [] st1 ?_
  refine ov T1 5 A_1 [.int 4] (fun t k => XS.iloadN X1.here hx rfl (hb hby d3_4) rfl k) ?_
  refine ov T1 27 A_1 [] (fun t k => XS.ifYes X1.here hx rfl (pc0 := 5) (pc' := 27) rfl (hb hby d3_5) rfl ((if0 _ _).trans (feq (by decide : ¬ ((4 : Int32) = (0 : Int32)))).2) (by decide) (by decide) k) ?_
  have cx2 : Sta Z h0 "java/lang/String" "COMPACT_STRINGS" "Z" (.int zc) := zfC.ext O0.2
  obtain ⟨T3, X3, e3, st3⟩ := getS2 X1 hx hZ hown (host := "") (Or.inl (wd31 hw)) Via.refl e1 cx2 (g := (mkF m 27 A_1 [])) rfl (hb hby d3_27)
  refine ov T3 30 A_1 [.int zc] st3 ?_
  refine ov T3 33 A_1 [] (fun t k => XS.ifNo X3.here hx rfl (hb hby d3_30) rfl ((if0 _ _).trans (feq hzc).1) k) ?_
  refine ov T3 34 A_1 [.ref bc] (fun t k => XS.aloadN X3.here hx rfl (hb hby d3_33) rfl rfl k) ?_
  refine ov T3 35 A_1 [.int 0, .ref bc] (fun t k => XS.iloadN X3.here hx rfl (hb hby d3_34) rfl k) ?_
  refine ov T3 36 A_1 [.int 4, .int 0, .ref bc] (fun t k => XS.iloadN X3.here hx rfl (hb hby d3_35) rfl k) ?_
  obtain ⟨_, _, ⟨T4, Lp4, kp4, np4⟩, -, X4, ⟨Lc4, hQ4, l4, y4, z4⟩, st4⟩ := Jvm.LawKit.callS X3 hx (y := mt8) hown (mvT hZ (wd91 hw)) (mvT hZ (wd92 hw)) (mvT hZ (wd93 hw)) (mvT hZ (wd94 hw)) (by decide) (backOf (W := 0) (own_c3_4 l Z a0 hw [] bc kc v0 v1 v2 v3 h0 n0 O0 zf_S_java_lang_StringUTF16__assertionsDisabled zf_S_java_lang_StringUTF16_HI_BYTE_SHIFT zf_S_java_lang_StringUTF16_LO_BYTE_SHIFT f0_A_bc qv0 qv1 qv2 qv3 hU) hZ (wd94 hw) (wd93 hw) (by decide) (by decide)) (g := (mkF m 36 A_1 [.int 4, .int 0, .ref bc])) rfl (by rw [hml]; rfl) (argsL := [.ref bc, .int 0, .int 4]) (rest := []) (lenOf pd___CII__B_542 rfl) rfl (by show 2 * 0 + _ ≤ _; exact Nat.le_of_eq rfl) (hb hby d3_36) (fun _ _ => ⟨rfl, e3, (by decide : 0 + 2 ≤ _), (by decide : 0 + 12 ≤ _)⟩)
  dsimp only [Pt.U, Pt.locs, Pt.cells, Pt.slots] at X4 l4 y4 z4 st4 hQ4
  subst Lp4 kp4 np4
  obtain ⟨b4, kb4, rfl, N4q, K4q, f4_0, pp4_0⟩ := hQ4
  have N4 := Fr.app N0 N4q
  have sz5 : h0.size ≤ T4.heap.size := K4q.1
  have O6 : Old Z n0 T4.heap := O0.keep K4q all0
  have K7 : Keep h0 T4.heap [a] := K0.trans K4q all0
  have lt8_b4 : T4.heap.size > b4 := f4_0.lt
  refine ov T4 39 A_1 [.ref b4] st4 ?_
  let A_2 : Array Slot := #[.val (.ref a), .val (.ref bc), .val (.int 0), .val (.int 4), .val .null, .val (.ref b4)]
  refine ov T4 41 A_2 [] (fun t k => XS.astore X4.here hx rfl (hb hby d3_39) rfl rfl (l' := A_2) rfl k) ?_
  refine ov T4 42 A_2 [.ref a] (fun t k => XS.aloadN X4.here hx rfl (hb hby d3_41) rfl rfl k) ?_
  refine ov T4 44 A_2 [.ref b4, .ref a] (fun t k => XS.aload X4.here hx rfl (hb hby d3_42) rfl rfl k) ?_
  refine ov T4 45 A_2 [.int 4, .ref b4, .ref a] (fun t k => XS.iloadN X4.here hx rfl (hb hby d3_44) rfl k) ?_
  obtain ⟨_, _, ⟨T9, Lp9, kp9, np9⟩, -, X9, ⟨Lc9, hQ9, l9, y9, z9⟩, st9⟩ := Jvm.LawKit.callS X4 hx (y := mt9) hown (mvT hZ (wd98 hw)) (mvT hZ (wd99 hw)) (mvT hZ (wd93 hw)) (mvT hZ (wd100 hw)) (by decide) (backOf (W := 1) (own_cfa4 l Z a0 hw [] b4 kb4 (own_L9 v0 v1 v2 v3) T4.heap n0 O6 f4_0) hZ (wd100 hw) (wd93 hw) (by decide) (by decide)) (g := (mkF m 45 A_2 [.int 4, .ref b4, .ref a])) rfl (by rw [hml]; rfl) (argsL := [.ref b4, .int 4]) (rest := [.ref a]) (lenOf pd___BI_B_377 rfl) rfl (by show 2 * 0 + _ ≤ _; exact Nat.le_of_eq rfl) (hb hby d3_45) (fun _ _ => ⟨rfl, rfl, (by decide : 2 + 0 ≤ _), (by decide : 12 + 0 ≤ _)⟩)
  dsimp only [Pt.U, Pt.locs, Pt.cells, Pt.slots] at X9 l9 y9 z9 st9 hQ9
  subst Lp9 kp9 np9
  obtain ⟨rfl, rfl, e9⟩ := hQ9
  try rw [List.append_nil] at X9
  refine ov T9 48 A_2 [.int 1, .ref a] st9 ?_
  have cx10 : Exa Z T4.heap a "java/lang/String" := (f0_E_a.keep K4q)
  have cx11 : Fld Z T4.heap a "java/lang/String" "coder" "B" (.int 0) := (f0_F_a_coder.keep K4q nin0)
  obtain ⟨T12, h12, X12, e12, W12, st12⟩ := putFN X9 hx hZ hown (wd27 hw) Via.refl e9 cx11 cx10 (Or.inr ⟨(wd23 hw), rfl, hnm⟩) (wd8 hw) (ty := .byte) (v' := (.int 1)) (by decide) rfl rfl (g := (mkF m 48 A_2 [.int 1, .ref a])) rfl rfl (hb hby d3_48)
  have sz13 : T4.heap.size ≤ h12.size := Nat.le_of_eq W12.size.symm
  have O14 : Old Z n0 h12 := O6.wr W12 (by omega : n0 ≤ a)
  have N12 := Fr.snoc X12 N4 (by omega : n0 ≤ a)
  have K15 : Keep h0 h12 [a] := K7.wr W12 (Or.inl (List.mem_of_getElem? (i := 0) rfl))
  have Fw12 : Fld Z h12 a "java/lang/String" "coder" "B" (.int 1) := Fld.same W12 cx11
  refine ov T12 51 A_2 [] st12 ?_
  refine ov T12 52 A_2 [.ref a] (fun t k => XS.aloadN X12.here hx rfl (hb hby d3_51) rfl rfl k) ?_
  refine ov T12 54 A_2 [.ref b4, .ref a] (fun t k => XS.aload X12.here hx rfl (hb hby d3_52) rfl rfl k) ?_
  have cx16 : Exa Z h12 a "java/lang/String" := (Exa.wr W12 cx10)
  have cx17 : Fld Z h12 a "java/lang/String" "value" "[B" .null := (Fld.other W12 (f0_F_a_value.keep K4q nin0) (Or.inr (slot_ne (Or.inr (wd22 hw)) (Or.inr (wd23 hw)) (by decide) (t := (.array .byte)) (t' := .byte) (by decide) (by decide))))
  obtain ⟨T18, h18, X18, e18, W18, st18⟩ := putF X12 hx hZ hown (host := "") (Or.inl (wd26 hw)) Via.refl e12 cx17 cx16 (Or.inr ⟨(wd22 hw), rfl, hnm⟩) (wd8 hw) (ty := (.array .byte)) (by decide) rfl rfl (g := (mkF m 54 A_2 [.ref b4, .ref a])) rfl rfl (hb hby d3_54)
  have sz19 : h12.size ≤ h18.size := Nat.le_of_eq W18.size.symm
  have O20 : Old Z n0 h18 := O14.wr W18 (by omega : n0 ≤ a)
  have N18 := Fr.snoc X18 N12 (by omega : n0 ≤ a)
  have K21 : Keep h0 h18 [a] := K15.wr W18 (Or.inl (List.mem_of_getElem? (i := 0) rfl))
  have Fw18 : Fld Z h18 a "java/lang/String" "value" "[B" (.ref b4) := Fld.same W18 cx17
  refine ov T18 57 A_2 [] st18 ?_
  have cx22 : Fld Z h18 a "java/lang/String" "coder" "B" (.int 1) := (Fld.other W18 Fw12 (Or.inr (slot_ne (Or.inr (wd23 hw)) (Or.inr (wd22 hw)) (by decide) (t := .byte) (t' := (.array .byte)) (by decide) (by decide))))
  have ne_b4_a : b4 ≠ a := by first | exact (Exa.neArv cx10 f4_0 (wd8 hw)).symm | exact Nat.ne_of_lt (by omega) | exact Nat.ne_of_gt (by omega)
  have cx23 : Arv Z h18 b4 kb4 .byte (8 : Int32) (own_L9 v0 v1 v2 v3) (.int 0) := ((f4_0.other W12 ne_b4_a).other W18 ne_b4_a)
  refine own_ret (Q := Q_own_n4_4 Z a bc kc zc v0 v1 v2 v3 h0 n0) (C := rm4_2_12_57.cells) (N := rm4_2_12_57.slots) X18 (v := none) (fun _ => rfl) Bd.notSynchronized ?_ (by decide) (by decide) (fun fs hr => X18.returnOut hx Bd.returns (hb hby d3_57) hr)
  show Q_own_n4_4 Z a bc kc zc v0 v1 v2 v3 h0 n0 _ T18.heap _
  rw [e18]
  exact ⟨b4, kb4, rfl, N18, K21, Fw18, cx22, cx23⟩
def Q_own_n1_4 (Z : State) (a : Addr) (bc : Addr) (kc : ClassId) (zc : Int32) (v0 : Int32) (v1 : Int32) (v2 : Int32) (v3 : Int32) (h0 : Heap) (n0 : Nat) (v : Option Value) (h : Heap) (L : List Loc) : Prop := ∃ tb : Addr, ∃ kb : ClassId, v = none ∧ Fr n0 L ∧ Keep h0 h [a] ∧ Fld Z h a "java/lang/String" "value" "[B" (.ref tb) ∧ Fld Z h a "java/lang/String" "coder" "B" (.int 1) ∧ Arv Z h tb kb .byte (8 : Int32) (own_L9 v0 v1 v2 v3) (.int 0)
set_option maxRecDepth 65536 in
set_option maxHeartbeats 40000000 in
theorem own_n1_4 (l : Launch) (Z : State) (a0 : Array Value) (hw : ∀ d ∈ tables_1, d.before a0 Z = true) (ws : List Jvm.Cond) (a : Addr) (bc : Addr) (kc : ClassId) (zc : Int32) (v0 : Int32) (v1 : Int32) (v2 : Int32) (v3 : Int32) (h0 : Heap) (n0 : Nat) (O0 : Old Z n0 h0) (zfC : Sta Z Z.heap "java/lang/String" "COMPACT_STRINGS" "Z" (.int zc)) (zf_S_java_lang_StringUTF16__assertionsDisabled : Sta Z Z.heap "java/lang/StringUTF16" "$assertionsDisabled" "Z" (.int 1)) (zf_S_java_lang_StringUTF16_HI_BYTE_SHIFT : Sta Z Z.heap "java/lang/StringUTF16" "HI_BYTE_SHIFT" "I" (.int 0)) (zf_S_java_lang_StringUTF16_LO_BYTE_SHIFT : Sta Z Z.heap "java/lang/StringUTF16" "LO_BYTE_SHIFT" "I" (.int 8)) (f0_E_a : Exa Z h0 a "java/lang/String") (f0_F_a_value : Fld Z h0 a "java/lang/String" "value" "[B" .null) (f0_F_a_coder : Fld Z h0 a "java/lang/String" "coder" "B" (.int 0)) (f0_A_bc : Arv Z h0 bc kc .char (4 : Int32) [.int v0, .int v1, .int v2, .int v3] (.int 0)) (hzc : ¬ (zc = (0 : Int32))) (qv0 : ¬ v0 < (1 : Int32) ∧ ¬ (65535 : Int32) < v0) (qv1 : ¬ v1 < (1 : Int32) ∧ ¬ (65535 : Int32) < v1) (qv2 : ¬ v2 < (1 : Int32) ∧ ¬ (65535 : Int32) < v2) (qv3 : ¬ v3 < (1 : Int32) ∧ ¬ (65535 : Int32) < v3) (hU : (255 : Int32) < v0 ∨ (255 : Int32) < v1 ∨ (255 : Int32) < v2 ∨ (255 : Int32) < v3) (g_a : n0 ≤ a) :
    MetFree l mt1 (head1 (Jvm.Cond.code mt1 jdk_42_method_3_code 2 none :: ws) rm5_2_12_74) (fun aq U => aq = #[.ref a, .ref bc] ∧ Z.Warmed39 U.vm ∧ U.heap = h0) (fun _ _ _ _ _ => True) (fun _ U o U' => ∃ v L, o = .returned v ∧ Q_own_n1_4 Z a bc kc zc v0 v1 v2 v3 h0 n0 v U'.heap L ∧ FrameEnd U o U' L rm5_2_12_74.cells rm5_2_12_74.slots) := by
  refine MetFree.of_bodySF (plainFor_of_name pn_java_lang_String) hisR ?_
  intro p e s m args below meth c s₁ Bd hml0 hP hK
  obtain ⟨rfl, hZ, hh⟩ := hP
  have hx := Bd.exec
  have hby := Bd.bytes
  have hml : c.maxLocals = 2 := hml0
  have hown : s.vm.findClass "java/lang/String" = some m.cls := findClass_of_methodNamed Bd.named
  have hnm := (name_of_methodNamed Bd.named Bd.method).1
  have X0 : Stand p l e rm5_2_12_74 s m #[.ref a, .ref bc] below meth c s₁ [] 0 0 := Stand.of_body Bd
  have e0 : s₁.heap = h0 := by rw [← hh, Bd.state]; rfl
  have N0 := Fr.nil n0
  have zO := O0.1
  have zO2 := O0.2.1
  have fl_E_a : h0.size > a := f0_E_a.lt
  have fl_F_a_value : h0.size > a := f0_F_a_value.lt
  have fl_F_a_coder : h0.size > a := f0_F_a_coder.lt
  have fl_A_bc : h0.size > bc := f0_A_bc.lt
  refine own_open (own_via (S' := s₁.setTop (mkF m 0 #[.val (.ref a), .val (.ref bc)] [])) (fun t k => castTop (ef_own_n1_4 m a bc) k) ?_)
  have K0 : Keep h0 h0 [a] := Keep.refl _ _
  have ne_a_bc : a ≠ bc := Exa.neArv f0_E_a f0_A_bc (wd8 hw)
  refine ov s₁ 1 #[.val (.ref a), .val (.ref bc)] [.ref a] (fun t k => XS.aloadN X0.here hx rfl (hb hby d2_0) rfl rfl k) ?_
  refine ov s₁ 2 #[.val (.ref a), .val (.ref bc)] [.ref bc, .ref a] (fun t k => XS.aloadN X0.here hx rfl (hb hby d2_1) rfl rfl k) ?_
  refine ov s₁ 3 #[.val (.ref a), .val (.ref bc)] [.int 0, .ref bc, .ref a] (fun t k => XS.iconst X0.here hx rfl (hb hby d2_2) k) ?_
  refine ov s₁ 4 #[.val (.ref a), .val (.ref bc)] [.ref bc, .int 0, .ref bc, .ref a] (fun t k => XS.aloadN X0.here hx rfl (hb hby d2_3) rfl rfl k) ?_
  obtain ⟨cl1, Ar1, -, S1, N1, -, -⟩ := id f0_A_bc
  refine ov s₁ 5 #[.val (.ref a), .val (.ref bc)] [.int 4, .int 0, .ref bc, .ref a] (fun t k => X0.arraylength hx (by first | (rw [e0]; exact Ar1.1) | exact Ar1.1) (State.isArrayOf_alike hZ.alike Ar1.2.1) (g := (mkF m 4 #[.val (.ref a), .val (.ref bc)] [.ref bc, .int 0, .ref bc, .ref a])) rfl rfl (hb hby d2_4) _ (by rw [len_of S1 N1]; exact k)) ?_
  refine ov s₁ 6 #[.val (.ref a), .val (.ref bc)] [.null, .int 4, .int 0, .ref bc, .ref a] (fun t k => XS.aconstNull X0.here hx rfl (hb hby d2_5) k) ?_
  obtain ⟨_, _, ⟨T2, Lp2, kp2, np2⟩, -, X2, ⟨Lc2, hQ2, l2, y2, z2⟩, st2⟩ := X0.specialBack hx (y := mt0) rfl hown (mvT hZ (wd13 hw)) (mvT hZ (wd14 hw)) (mvT hZ (wd16 hw)) (by decide) (backOf (W := 0) (own_n4_4 l Z a0 hw [] a bc kc zc v0 v1 v2 v3 h0 n0 O0 zfC zf_S_java_lang_StringUTF16__assertionsDisabled zf_S_java_lang_StringUTF16_HI_BYTE_SHIFT zf_S_java_lang_StringUTF16_LO_BYTE_SHIFT f0_E_a f0_F_a_value f0_F_a_coder f0_A_bc hzc qv0 qv1 qv2 qv3 hU g_a) hZ (wd16 hw) (wd9 hw) (by decide) (by decide)) (g := (mkF m 6 #[.val (.ref a), .val (.ref bc)] [.null, .int 4, .int 0, .ref bc, .ref a])) rfl (by rw [hml]; rfl) (Steps.refl _) (a := a) (argsL := [.ref bc, .int 0, .int 4, .null]) (rest := []) (lenOf pd___CIILjava_lang_Void__V_1938 rfl) rfl (by show 2 * 0 + _ ≤ _; exact Nat.le_of_eq rfl) (hb hby d2_6) (fun _ _ => ⟨rfl, e0, (by decide : 0 + 2 ≤ _), (by decide : 0 + 12 ≤ _)⟩)
  dsimp only [Pt.U, Pt.locs, Pt.cells, Pt.slots] at X2 l2 y2 z2 st2 hQ2
  subst Lp2 kp2 np2
  obtain ⟨tb2, kb2, rfl, N2q, K2q, f2_0, f2_1, f2_2⟩ := hQ2
  have N2 := Fr.app N0 N2q
  have sz3 : h0.size ≤ T2.heap.size := K2q.1
  have O4 : Old Z n0 T2.heap := O0.keep K2q (allS (by omega : n0 ≤ a) all0)
  have K5 : Keep h0 T2.heap [a] := K0.trans K2q (allS (P := fun x => x ∈ [a] ∨ h0.size ≤ x) (Or.inl (List.mem_of_getElem? (i := 0) rfl)) all0)
  have lt6_tb2 : T2.heap.size > tb2 := f2_2.lt
  refine own_tr (S' := T2.setTop (mkF m 9 #[.val (.ref a), .val (.ref bc)] [])) st2 ?_
  refine own_ret (Q := Q_own_n1_4 Z a bc kc zc v0 v1 v2 v3 h0 n0) (C := rm5_2_12_74.cells) (N := rm5_2_12_74.slots) X2 (v := none) (fun _ => rfl) Bd.notSynchronized ?_ (by decide) (by decide) (fun fs hr => X2.returnOut hx Bd.returns (hb hby d2_9) hr)
  show Q_own_n1_4 Z a bc kc zc v0 v1 v2 v3 h0 n0 _ T2.heap _
  exact ⟨tb2, kb2, rfl, N2, K5, f2_0, f2_1, f2_2⟩
def Q_own_isLs (Z : State) (xs : Addr) (zc : Int32) (h0 : Heap) (n0 : Nat) (v : Option Value) (h : Heap) (L : List Loc) : Prop := v = some (.int 1) ∧ L = [] ∧ h = h0
set_option maxRecDepth 65536 in
set_option maxHeartbeats 40000000 in
theorem own_isLs (l : Launch) (Z : State) (a0 : Array Value) (hw : ∀ d ∈ tables_1, d.before a0 Z = true) (ws : List Jvm.Cond) (xs : Addr) (zc : Int32) (h0 : Heap) (n0 : Nat) (O0 : Old Z n0 h0) (zfC : Sta Z Z.heap "java/lang/String" "COMPACT_STRINGS" "Z" (.int zc)) (f0_F_xs_coder : Fld Z h0 xs "java/lang/String" "coder" "B" (.int 0)) (hzc : ¬ (zc = (0 : Int32))) :
    MetFree l mt10 (head1 (Jvm.Cond.code mt10 jdk_42_method_154_code 1 (some .boolean) :: ws) rm0_0_0_0) (fun aq U => aq = #[.ref xs] ∧ Z.Warmed39 U.vm ∧ U.heap = h0) (fun _ _ _ _ _ => True) (fun _ U o U' => ∃ v L, o = .returned v ∧ Q_own_isLs Z xs zc h0 n0 v U'.heap L ∧ FrameEnd U o U' L rm0_0_0_0.cells rm0_0_0_0.slots) := by
  refine MetFree.of_bodySF (plainFor_of_name pn_java_lang_String) hisR ?_
  intro p e s m args below meth c s₁ Bd hml0 hP hK
  obtain ⟨rfl, hZ, hh⟩ := hP
  have hx := Bd.exec
  have hby := Bd.bytes
  have hml : c.maxLocals = 1 := hml0
  have hown : s.vm.findClass "java/lang/String" = some m.cls := findClass_of_methodNamed Bd.named
  have hnm := (name_of_methodNamed Bd.named Bd.method).1
  have X0 : Stand p l e rm0_0_0_0 s m #[.ref xs] below meth c s₁ [] 0 0 := Stand.of_body Bd
  have e0 : s₁.heap = h0 := by rw [← hh, Bd.state]; rfl
  have N0 := Fr.nil n0
  have zO := O0.1
  have zO2 := O0.2.1
  have fl_F_xs_coder : h0.size > xs := f0_F_xs_coder.lt
  refine own_open (own_via (S' := s₁.setTop (mkF m 0 #[.val (.ref xs)] [])) (fun t k => castTop (ef_own_isLs m xs) k) ?_)
  have cx1 : Sta Z h0 "java/lang/String" "COMPACT_STRINGS" "Z" (.int zc) := zfC.ext O0.2
  obtain ⟨T2, X2, e2, st2⟩ := getS2 X0 hx hZ hown (host := "") (Or.inl (wd31 hw)) Via.refl e0 cx1 (g := (mkF m 0 #[.val (.ref xs)] [])) rfl (hb hby d12_0)
  refine ov T2 3 #[.val (.ref xs)] [.int zc] st2 ?_
  refine ov T2 6 #[.val (.ref xs)] [] (fun t k => XS.ifNo X2.here hx rfl (hb hby d12_3) rfl ((if0 _ _).trans (feq hzc).1) k) ?_
  refine ov T2 7 #[.val (.ref xs)] [.ref xs] (fun t k => XS.aloadN X2.here hx rfl (hb hby d12_6) rfl rfl k) ?_
  obtain ⟨T3, X3, e3, st3⟩ := getF X2 hx hZ hown (host := "") (Or.inl (wd27 hw)) Via.refl e2 f0_F_xs_coder (g := (mkF m 7 #[.val (.ref xs)] [.ref xs])) rfl rfl (hb hby d12_7)
  refine ov T3 10 #[.val (.ref xs)] [.int 0] st3 ?_
  refine ov T3 13 #[.val (.ref xs)] [] (fun t k => XS.ifNo X3.here hx rfl (hb hby d12_10) rfl ((if0 _ _).trans (teq (by decide : (0 : Int32) = (0 : Int32))).2) k) ?_
  refine ov T3 14 #[.val (.ref xs)] [.int 1] (fun t k => XS.iconst X3.here hx rfl (hb hby d12_13) k) ?_
  refine ov T3 18 #[.val (.ref xs)] [.int 1] (fun t k => XS.goto X3.here hx rfl (pc0 := 14) (pc' := 18) rfl (hb hby d12_14) (by decide) (by decide) k) ?_
  refine own_ret (Q := Q_own_isLs Z xs zc h0 n0) (C := rm0_0_0_0.cells) (N := rm0_0_0_0.slots) X3 (v := some (.int 1)) (fun h => by rw [Bd.returns] at h; cases h) Bd.notSynchronized ?_ (by decide) (by decide) (fun fs hr => retN X3 hx (t := .boolean) Bd.returns (by simp) (hb hby d12_18) hr)
  show Q_own_isLs Z xs zc h0 n0 _ T3.heap _
  rw [e3]
  exact ⟨rfl, rfl, rfl⟩
def Q_own_isLu (Z : State) (xs : Addr) (zc : Int32) (h0 : Heap) (n0 : Nat) (v : Option Value) (h : Heap) (L : List Loc) : Prop := v = some (.int 0) ∧ L = [] ∧ h = h0
set_option maxRecDepth 65536 in
set_option maxHeartbeats 40000000 in
theorem own_isLu (l : Launch) (Z : State) (a0 : Array Value) (hw : ∀ d ∈ tables_1, d.before a0 Z = true) (ws : List Jvm.Cond) (xs : Addr) (zc : Int32) (h0 : Heap) (n0 : Nat) (O0 : Old Z n0 h0) (zfC : Sta Z Z.heap "java/lang/String" "COMPACT_STRINGS" "Z" (.int zc)) (f0_F_xs_coder : Fld Z h0 xs "java/lang/String" "coder" "B" (.int 1)) (hzc : ¬ (zc = (0 : Int32))) :
    MetFree l mt10 (head1 (Jvm.Cond.code mt10 jdk_42_method_154_code 1 (some .boolean) :: ws) rm0_0_0_0) (fun aq U => aq = #[.ref xs] ∧ Z.Warmed39 U.vm ∧ U.heap = h0) (fun _ _ _ _ _ => True) (fun _ U o U' => ∃ v L, o = .returned v ∧ Q_own_isLu Z xs zc h0 n0 v U'.heap L ∧ FrameEnd U o U' L rm0_0_0_0.cells rm0_0_0_0.slots) := by
  refine MetFree.of_bodySF (plainFor_of_name pn_java_lang_String) hisR ?_
  intro p e s m args below meth c s₁ Bd hml0 hP hK
  obtain ⟨rfl, hZ, hh⟩ := hP
  have hx := Bd.exec
  have hby := Bd.bytes
  have hml : c.maxLocals = 1 := hml0
  have hown : s.vm.findClass "java/lang/String" = some m.cls := findClass_of_methodNamed Bd.named
  have hnm := (name_of_methodNamed Bd.named Bd.method).1
  have X0 : Stand p l e rm0_0_0_0 s m #[.ref xs] below meth c s₁ [] 0 0 := Stand.of_body Bd
  have e0 : s₁.heap = h0 := by rw [← hh, Bd.state]; rfl
  have N0 := Fr.nil n0
  have zO := O0.1
  have zO2 := O0.2.1
  have fl_F_xs_coder : h0.size > xs := f0_F_xs_coder.lt
  refine own_open (own_via (S' := s₁.setTop (mkF m 0 #[.val (.ref xs)] [])) (fun t k => castTop (ef_own_isLu m xs) k) ?_)
  have cx1 : Sta Z h0 "java/lang/String" "COMPACT_STRINGS" "Z" (.int zc) := zfC.ext O0.2
  obtain ⟨T2, X2, e2, st2⟩ := getS2 X0 hx hZ hown (host := "") (Or.inl (wd31 hw)) Via.refl e0 cx1 (g := (mkF m 0 #[.val (.ref xs)] [])) rfl (hb hby d12_0)
  refine ov T2 3 #[.val (.ref xs)] [.int zc] st2 ?_
  refine ov T2 6 #[.val (.ref xs)] [] (fun t k => XS.ifNo X2.here hx rfl (hb hby d12_3) rfl ((if0 _ _).trans (feq hzc).1) k) ?_
  refine ov T2 7 #[.val (.ref xs)] [.ref xs] (fun t k => XS.aloadN X2.here hx rfl (hb hby d12_6) rfl rfl k) ?_
  obtain ⟨T3, X3, e3, st3⟩ := getF X2 hx hZ hown (host := "") (Or.inl (wd27 hw)) Via.refl e2 f0_F_xs_coder (g := (mkF m 7 #[.val (.ref xs)] [.ref xs])) rfl rfl (hb hby d12_7)
  refine ov T3 10 #[.val (.ref xs)] [.int 1] st3 ?_
  refine ov T3 17 #[.val (.ref xs)] [] (fun t k => XS.ifYes X3.here hx rfl (pc0 := 10) (pc' := 17) rfl (hb hby d12_10) rfl ((if0 _ _).trans (feq (by decide : ¬ ((1 : Int32) = (0 : Int32)))).2) (by decide) (by decide) k) ?_
  refine ov T3 18 #[.val (.ref xs)] [.int 0] (fun t k => XS.iconst X3.here hx rfl (hb hby d12_17) k) ?_
  refine own_ret (Q := Q_own_isLu Z xs zc h0 n0) (C := rm0_0_0_0.cells) (N := rm0_0_0_0.slots) X3 (v := some (.int 0)) (fun h => by rw [Bd.returns] at h; cases h) Bd.notSynchronized ?_ (by decide) (by decide) (fun fs hr => retN X3 hx (t := .boolean) Bd.returns (by simp) (hb hby d12_18) hr)
  show Q_own_isLu Z xs zc h0 n0 _ T3.heap _
  rw [e3]
  exact ⟨rfl, rfl, rfl⟩
def Q_own_coder0 (Z : State) (xs : Addr) (zc : Int32) (h0 : Heap) (n0 : Nat) (v : Option Value) (h : Heap) (L : List Loc) : Prop := v = some (.int 0) ∧ L = [] ∧ h = h0
set_option maxRecDepth 65536 in
set_option maxHeartbeats 40000000 in
theorem own_coder0 (l : Launch) (Z : State) (a0 : Array Value) (hw : ∀ d ∈ tables_1, d.before a0 Z = true) (ws : List Jvm.Cond) (xs : Addr) (zc : Int32) (h0 : Heap) (n0 : Nat) (O0 : Old Z n0 h0) (zfC : Sta Z Z.heap "java/lang/String" "COMPACT_STRINGS" "Z" (.int zc)) (f0_F_xs_coder : Fld Z h0 xs "java/lang/String" "coder" "B" (.int 0)) (hzc : ¬ (zc = (0 : Int32))) :
    MetFree l mt11 (head1 (Jvm.Cond.code mt11 jdk_42_method_152_code 1 (some .byte) :: ws) rm0_0_0_0) (fun aq U => aq = #[.ref xs] ∧ Z.Warmed39 U.vm ∧ U.heap = h0) (fun _ _ _ _ _ => True) (fun _ U o U' => ∃ v L, o = .returned v ∧ Q_own_coder0 Z xs zc h0 n0 v U'.heap L ∧ FrameEnd U o U' L rm0_0_0_0.cells rm0_0_0_0.slots) := by
  refine MetFree.of_bodySF (plainFor_of_name pn_java_lang_String) hisR ?_
  intro p e s m args below meth c s₁ Bd hml0 hP hK
  obtain ⟨rfl, hZ, hh⟩ := hP
  have hx := Bd.exec
  have hby := Bd.bytes
  have hml : c.maxLocals = 1 := hml0
  have hown : s.vm.findClass "java/lang/String" = some m.cls := findClass_of_methodNamed Bd.named
  have hnm := (name_of_methodNamed Bd.named Bd.method).1
  have X0 : Stand p l e rm0_0_0_0 s m #[.ref xs] below meth c s₁ [] 0 0 := Stand.of_body Bd
  have e0 : s₁.heap = h0 := by rw [← hh, Bd.state]; rfl
  have N0 := Fr.nil n0
  have zO := O0.1
  have zO2 := O0.2.1
  have fl_F_xs_coder : h0.size > xs := f0_F_xs_coder.lt
  refine own_open (own_via (S' := s₁.setTop (mkF m 0 #[.val (.ref xs)] [])) (fun t k => castTop (ef_own_coder0 m xs) k) ?_)
  have cx1 : Sta Z h0 "java/lang/String" "COMPACT_STRINGS" "Z" (.int zc) := zfC.ext O0.2
  obtain ⟨T2, X2, e2, st2⟩ := getS2 X0 hx hZ hown (host := "") (Or.inl (wd31 hw)) Via.refl e0 cx1 (g := (mkF m 0 #[.val (.ref xs)] [])) rfl (hb hby d14_0)
  refine ov T2 3 #[.val (.ref xs)] [.int zc] st2 ?_
  refine ov T2 6 #[.val (.ref xs)] [] (fun t k => XS.ifNo X2.here hx rfl (hb hby d14_3) rfl ((if0 _ _).trans (feq hzc).1) k) ?_
  refine ov T2 7 #[.val (.ref xs)] [.ref xs] (fun t k => XS.aloadN X2.here hx rfl (hb hby d14_6) rfl rfl k) ?_
  obtain ⟨T3, X3, e3, st3⟩ := getF X2 hx hZ hown (host := "") (Or.inl (wd27 hw)) Via.refl e2 f0_F_xs_coder (g := (mkF m 7 #[.val (.ref xs)] [.ref xs])) rfl rfl (hb hby d14_7)
  refine ov T3 10 #[.val (.ref xs)] [.int 0] st3 ?_
  refine ov T3 14 #[.val (.ref xs)] [.int 0] (fun t k => XS.goto X3.here hx rfl (pc0 := 10) (pc' := 14) rfl (hb hby d14_10) (by decide) (by decide) k) ?_
  refine own_ret (Q := Q_own_coder0 Z xs zc h0 n0) (C := rm0_0_0_0.cells) (N := rm0_0_0_0.slots) X3 (v := some (.int 0)) (fun h => by rw [Bd.returns] at h; cases h) Bd.notSynchronized ?_ (by decide) (by decide) (fun fs hr => retN X3 hx (t := .byte) Bd.returns (by simp) (hb hby d14_14) hr)
  show Q_own_coder0 Z xs zc h0 n0 _ T3.heap _
  rw [e3]
  exact ⟨rfl, rfl, rfl⟩
def Q_own_coder1 (Z : State) (xs : Addr) (zc : Int32) (h0 : Heap) (n0 : Nat) (v : Option Value) (h : Heap) (L : List Loc) : Prop := v = some (.int 1) ∧ L = [] ∧ h = h0
set_option maxRecDepth 65536 in
set_option maxHeartbeats 40000000 in
theorem own_coder1 (l : Launch) (Z : State) (a0 : Array Value) (hw : ∀ d ∈ tables_1, d.before a0 Z = true) (ws : List Jvm.Cond) (xs : Addr) (zc : Int32) (h0 : Heap) (n0 : Nat) (O0 : Old Z n0 h0) (zfC : Sta Z Z.heap "java/lang/String" "COMPACT_STRINGS" "Z" (.int zc)) (f0_F_xs_coder : Fld Z h0 xs "java/lang/String" "coder" "B" (.int 1)) (hzc : ¬ (zc = (0 : Int32))) :
    MetFree l mt11 (head1 (Jvm.Cond.code mt11 jdk_42_method_152_code 1 (some .byte) :: ws) rm0_0_0_0) (fun aq U => aq = #[.ref xs] ∧ Z.Warmed39 U.vm ∧ U.heap = h0) (fun _ _ _ _ _ => True) (fun _ U o U' => ∃ v L, o = .returned v ∧ Q_own_coder1 Z xs zc h0 n0 v U'.heap L ∧ FrameEnd U o U' L rm0_0_0_0.cells rm0_0_0_0.slots) := by
  refine MetFree.of_bodySF (plainFor_of_name pn_java_lang_String) hisR ?_
  intro p e s m args below meth c s₁ Bd hml0 hP hK
  obtain ⟨rfl, hZ, hh⟩ := hP
  have hx := Bd.exec
  have hby := Bd.bytes
  have hml : c.maxLocals = 1 := hml0
  have hown : s.vm.findClass "java/lang/String" = some m.cls := findClass_of_methodNamed Bd.named
  have hnm := (name_of_methodNamed Bd.named Bd.method).1
  have X0 : Stand p l e rm0_0_0_0 s m #[.ref xs] below meth c s₁ [] 0 0 := Stand.of_body Bd
  have e0 : s₁.heap = h0 := by rw [← hh, Bd.state]; rfl
  have N0 := Fr.nil n0
  have zO := O0.1
  have zO2 := O0.2.1
  have fl_F_xs_coder : h0.size > xs := f0_F_xs_coder.lt
  refine own_open (own_via (S' := s₁.setTop (mkF m 0 #[.val (.ref xs)] [])) (fun t k => castTop (ef_own_coder1 m xs) k) ?_)
  have cx1 : Sta Z h0 "java/lang/String" "COMPACT_STRINGS" "Z" (.int zc) := zfC.ext O0.2
  obtain ⟨T2, X2, e2, st2⟩ := getS2 X0 hx hZ hown (host := "") (Or.inl (wd31 hw)) Via.refl e0 cx1 (g := (mkF m 0 #[.val (.ref xs)] [])) rfl (hb hby d14_0)
  refine ov T2 3 #[.val (.ref xs)] [.int zc] st2 ?_
  refine ov T2 6 #[.val (.ref xs)] [] (fun t k => XS.ifNo X2.here hx rfl (hb hby d14_3) rfl ((if0 _ _).trans (feq hzc).1) k) ?_
  refine ov T2 7 #[.val (.ref xs)] [.ref xs] (fun t k => XS.aloadN X2.here hx rfl (hb hby d14_6) rfl rfl k) ?_
  obtain ⟨T3, X3, e3, st3⟩ := getF X2 hx hZ hown (host := "") (Or.inl (wd27 hw)) Via.refl e2 f0_F_xs_coder (g := (mkF m 7 #[.val (.ref xs)] [.ref xs])) rfl rfl (hb hby d14_7)
  refine ov T3 10 #[.val (.ref xs)] [.int 1] st3 ?_
  refine ov T3 14 #[.val (.ref xs)] [.int 1] (fun t k => XS.goto X3.here hx rfl (pc0 := 10) (pc' := 14) rfl (hb hby d14_10) (by decide) (by decide) k) ?_
  refine own_ret (Q := Q_own_coder1 Z xs zc h0 n0) (C := rm0_0_0_0.cells) (N := rm0_0_0_0.slots) X3 (v := some (.int 1)) (fun h => by rw [Bd.returns] at h; cases h) Bd.notSynchronized ?_ (by decide) (by decide) (fun fs hr => retN X3 hx (t := .byte) Bd.returns (by simp) (hb hby d14_14) hr)
  show Q_own_coder1 Z xs zc h0 n0 _ T3.heap _
  rw [e3]
  exact ⟨rfl, rfl, rfl⟩
def Q_own_ceI (Z : State)  (h0 : Heap) (n0 : Nat) (v : Option Value) (h : Heap) (L : List Loc) : Prop := v = some (.int 1) ∧ L = [] ∧ h = h0
set_option maxRecDepth 65536 in
set_option maxHeartbeats 40000000 in
theorem own_ceI (l : Launch) (Z : State) (a0 : Array Value) (hw : ∀ d ∈ tables_1, d.before a0 Z = true) (ws : List Jvm.Cond)  (h0 : Heap) (n0 : Nat) (O0 : Old Z n0 h0) :
    MetFree l mt12 (head1 (Jvm.Cond.code mt12 jdk_43_method_4_code 1 (some .boolean) :: ws) rm0_0_0_0) (fun aq U => aq = #[.int 0] ∧ Z.Warmed39 U.vm ∧ U.heap = h0) (fun _ _ _ _ _ => True) (fun _ U o U' => ∃ v L, o = .returned v ∧ Q_own_ceI Z  h0 n0 v U'.heap L ∧ FrameEnd U o U' L rm0_0_0_0.cells rm0_0_0_0.slots) := by
  refine MetFree.of_bodySF (plainFor_of_name pn_java_lang_StringLatin1) hisR ?_
  intro p e s m args below meth c s₁ Bd hml0 hP hK
  obtain ⟨rfl, hZ, hh⟩ := hP
  have hx := Bd.exec
  have hby := Bd.bytes
  have hml : c.maxLocals = 1 := hml0
  have hown : s.vm.findClass "java/lang/StringLatin1" = some m.cls := findClass_of_methodNamed Bd.named
  have hnm := (name_of_methodNamed Bd.named Bd.method).1
  have X0 : Stand p l e rm0_0_0_0 s m #[.int 0] below meth c s₁ [] 0 0 := Stand.of_body Bd
  have e0 : s₁.heap = h0 := by rw [← hh, Bd.state]; rfl
  have N0 := Fr.nil n0
  have zO := O0.1
  have zO2 := O0.2.1
  refine own_open (own_via (S' := s₁.setTop (mkF m 0 #[.val (.int 0)] [])) (fun t k => castTop (ef_own_ceI m (0 : Int32)) k) ?_)
  refine ov s₁ 1 #[.val (.int 0)] [.int 0] (fun t k => XS.iloadN X0.here hx rfl (hb hby d16_0) rfl k) ?_
  refine ov s₁ 4 #[.val (.int 0)] [] (fun t k => XS.ifNo X0.here hx rfl (hb hby d16_1) rfl ((if0 _ _).trans (flt (by decide : ¬ ((0 : Int32) < (0 : Int32)))).1) k) ?_
  refine ov s₁ 5 #[.val (.int 0)] [.int 0] (fun t k => XS.iloadN X0.here hx rfl (hb hby d16_4) rfl k) ?_
  refine ov s₁ 8 #[.val (.int 0)] [.int 255, .int 0] (fun t k => XS.sipush X0.here hx rfl (hb hby d16_5) k) ?_
  refine ov s₁ 11 #[.val (.int 0)] [] (fun t k => XS.icmpNo X0.here hx rfl (hb hby d16_8) rfl (flt (by decide : ¬ ((255 : Int32) < (0 : Int32)))).2.2.1 k) ?_
  refine ov s₁ 12 #[.val (.int 0)] [.int 1] (fun t k => XS.iconst X0.here hx rfl (hb hby d16_11) k) ?_
  refine ov s₁ 16 #[.val (.int 0)] [.int 1] (fun t k => XS.goto X0.here hx rfl (pc0 := 12) (pc' := 16) rfl (hb hby d16_12) (by decide) (by decide) k) ?_
  refine own_ret (Q := Q_own_ceI Z  h0 n0) (C := rm0_0_0_0.cells) (N := rm0_0_0_0.slots) X0 (v := some (.int 1)) (fun h => by rw [Bd.returns] at h; cases h) Bd.notSynchronized ?_ (by decide) (by decide) (fun fs hr => retN X0 hx (t := .boolean) Bd.returns (by simp) (hb hby d16_16) hr)
  show Q_own_ceI Z  h0 n0 _ s₁.heap _
  rw [e0]
  exact ⟨rfl, rfl, rfl⟩
def Q_own_mx (Z : State)  (h0 : Heap) (n0 : Nat) (v : Option Value) (h : Heap) (L : List Loc) : Prop := v = some (.int 0) ∧ L = [] ∧ h = h0
set_option maxRecDepth 65536 in
set_option maxHeartbeats 40000000 in
theorem own_mx (l : Launch) (Z : State) (a0 : Array Value) (hw : ∀ d ∈ tables_1, d.before a0 Z = true) (ws : List Jvm.Cond)  (h0 : Heap) (n0 : Nat) (O0 : Old Z n0 h0) :
    MetFree l mt13 (head1 (Jvm.Cond.code mt13 jdk_29_method_65_code 2 (some .int) :: ws) rm0_0_0_0) (fun aq U => aq = #[.int 0, .int 0] ∧ Z.Warmed39 U.vm ∧ U.heap = h0) (fun _ _ _ _ _ => True) (fun _ U o U' => ∃ v L, o = .returned v ∧ Q_own_mx Z  h0 n0 v U'.heap L ∧ FrameEnd U o U' L rm0_0_0_0.cells rm0_0_0_0.slots) := by
  refine MetFree.of_bodySF (Jvm.Free.JP.mathPlain rfl (by decide +kernel)) hisR ?_
  intro p e s m args below meth c s₁ Bd hml0 hP hK
  obtain ⟨rfl, hZ, hh⟩ := hP
  have hx := Bd.exec
  have hby := Bd.bytes
  have hml : c.maxLocals = 2 := hml0
  have hown : s.vm.findClass "java/lang/Math" = some m.cls := findClass_of_methodNamed Bd.named
  have hnm := (name_of_methodNamed Bd.named Bd.method).1
  have X0 : Stand p l e rm0_0_0_0 s m #[.int 0, .int 0] below meth c s₁ [] 0 0 := Stand.of_body Bd
  have e0 : s₁.heap = h0 := by rw [← hh, Bd.state]; rfl
  have N0 := Fr.nil n0
  have zO := O0.1
  have zO2 := O0.2.1
  refine own_open (own_via (S' := s₁.setTop (mkF m 0 #[.val (.int 0), .val (.int 0)] [])) (fun t k => castTop (ef_own_mx m (0 : Int32) (0 : Int32)) k) ?_)
  refine ov s₁ 1 #[.val (.int 0), .val (.int 0)] [.int 0] (fun t k => XS.iloadN X0.here hx rfl (hb hby d17_0) rfl k) ?_
  refine ov s₁ 2 #[.val (.int 0), .val (.int 0)] [.int 0, .int 0] (fun t k => XS.iloadN X0.here hx rfl (hb hby d17_1) rfl k) ?_
  refine ov s₁ 5 #[.val (.int 0), .val (.int 0)] [] (fun t k => XS.icmpNo X0.here hx rfl (hb hby d17_2) rfl (flt (by decide : ¬ ((0 : Int32) < (0 : Int32)))).1 k) ?_
  refine ov s₁ 6 #[.val (.int 0), .val (.int 0)] [.int 0] (fun t k => XS.iloadN X0.here hx rfl (hb hby d17_5) rfl k) ?_
  refine ov s₁ 10 #[.val (.int 0), .val (.int 0)] [.int 0] (fun t k => XS.goto X0.here hx rfl (pc0 := 6) (pc' := 10) rfl (hb hby d17_6) (by decide) (by decide) k) ?_
  refine own_ret (Q := Q_own_mx Z  h0 n0) (C := rm0_0_0_0.cells) (N := rm0_0_0_0.slots) X0 (v := some (.int 0)) (fun h => by rw [Bd.returns] at h; cases h) Bd.notSynchronized ?_ (by decide) (by decide) (fun fs hr => retOut X0 hx Bd.returns rfl (Or.inl ⟨rfl, Or.inl rfl, _, rfl⟩) (hb hby d17_10) hr)
  show Q_own_mx Z  h0 n0 _ s₁.heap _
  rw [e0]
  exact ⟨rfl, rfl, rfl⟩
def Q_own_mn (Z : State) (u1 : Int32) (h0 : Heap) (n0 : Nat) (v : Option Value) (h : Heap) (L : List Loc) : Prop := v = some (.int u1) ∧ L = [] ∧ h = h0
set_option maxRecDepth 65536 in
set_option maxHeartbeats 40000000 in
theorem own_mn (l : Launch) (Z : State) (a0 : Array Value) (hw : ∀ d ∈ tables_1, d.before a0 Z = true) (ws : List Jvm.Cond) (u1 : Int32) (h0 : Heap) (n0 : Nat) (O0 : Old Z n0 h0) (irr : ¬ (u1 < u1)) :
    MetFree l mt14 (head1 (Jvm.Cond.code mt14 jdk_29_method_69_code 2 (some .int) :: ws) rm0_0_0_0) (fun aq U => aq = #[.int u1, .int u1] ∧ Z.Warmed39 U.vm ∧ U.heap = h0) (fun _ _ _ _ _ => True) (fun _ U o U' => ∃ v L, o = .returned v ∧ Q_own_mn Z u1 h0 n0 v U'.heap L ∧ FrameEnd U o U' L rm0_0_0_0.cells rm0_0_0_0.slots) := by
  refine MetFree.of_bodySF (Jvm.Free.JP.mathPlain rfl (by decide +kernel)) hisR ?_
  intro p e s m args below meth c s₁ Bd hml0 hP hK
  obtain ⟨rfl, hZ, hh⟩ := hP
  have hx := Bd.exec
  have hby := Bd.bytes
  have hml : c.maxLocals = 2 := hml0
  have hown : s.vm.findClass "java/lang/Math" = some m.cls := findClass_of_methodNamed Bd.named
  have hnm := (name_of_methodNamed Bd.named Bd.method).1
  have X0 : Stand p l e rm0_0_0_0 s m #[.int u1, .int u1] below meth c s₁ [] 0 0 := Stand.of_body Bd
  have e0 : s₁.heap = h0 := by rw [← hh, Bd.state]; rfl
  have N0 := Fr.nil n0
  have zO := O0.1
  have zO2 := O0.2.1
  refine own_open (own_via (S' := s₁.setTop (mkF m 0 #[.val (.int u1), .val (.int u1)] [])) (fun t k => castTop (ef_own_mn m u1 u1) k) ?_)
  refine ov s₁ 1 #[.val (.int u1), .val (.int u1)] [.int u1] (fun t k => XS.iloadN X0.here hx rfl (hb hby d18_0) rfl k) ?_
  refine ov s₁ 2 #[.val (.int u1), .val (.int u1)] [.int u1, .int u1] (fun t k => XS.iloadN X0.here hx rfl (hb hby d18_1) rfl k) ?_
  refine ov s₁ 5 #[.val (.int u1), .val (.int u1)] [] (fun t k => XS.icmpNo X0.here hx rfl (hb hby d18_2) rfl (flt irr).2.2.1 k) ?_
  refine ov s₁ 6 #[.val (.int u1), .val (.int u1)] [.int u1] (fun t k => XS.iloadN X0.here hx rfl (hb hby d18_5) rfl k) ?_
  refine ov s₁ 10 #[.val (.int u1), .val (.int u1)] [.int u1] (fun t k => XS.goto X0.here hx rfl (pc0 := 6) (pc' := 10) rfl (hb hby d18_6) (by decide) (by decide) k) ?_
  refine own_ret (Q := Q_own_mn Z u1 h0 n0) (C := rm0_0_0_0.cells) (N := rm0_0_0_0.slots) X0 (v := some (.int u1)) (fun h => by rw [Bd.returns] at h; cases h) Bd.notSynchronized ?_ (by decide) (by decide) (fun fs hr => retOut X0 hx Bd.returns rfl (Or.inl ⟨rfl, Or.inl rfl, _, rfl⟩) (hb hby d18_10) hr)
  show Q_own_mn Z u1 h0 n0 _ s₁.heap _
  rw [e0]
  exact ⟨rfl, rfl, rfl⟩
def Q_own_cfiN (Z : State) (ti : Int32) (h0 : Heap) (n0 : Nat) (v : Option Value) (h : Heap) (L : List Loc) : Prop := v = some (.int 0) ∧ L = [] ∧ h = h0
set_option maxRecDepth 65536 in
set_option maxHeartbeats 40000000 in
theorem own_cfiN (l : Launch) (Z : State) (a0 : Array Value) (hw : ∀ d ∈ tables_1, d.before a0 Z = true) (ws : List Jvm.Cond) (ti : Int32) (h0 : Heap) (n0 : Nat) (O0 : Old Z n0 h0) (hti : ¬ (ti < (0 : Int32))) (hirr : ¬ (ti < ti)) :
    MetFree l mt15 (head1 (Jvm.Cond.code mt15 jdk_41_method_12_code 4 (some .int) :: ws) rm0_0_0_0) (fun aq U => aq = #[.int 0, .int ti, .int ti, .null] ∧ Z.Warmed39 U.vm ∧ U.heap = h0) (fun _ _ _ _ _ => True) (fun _ U o U' => ∃ v L, o = .returned v ∧ Q_own_cfiN Z ti h0 n0 v U'.heap L ∧ FrameEnd U o U' L rm0_0_0_0.cells rm0_0_0_0.slots) := by
  refine MetFree.of_bodySF (plainFor_of_name pn_jdk_internal_util_Preconditions) hisR ?_
  intro p e s m args below meth c s₁ Bd hml0 hP hK
  obtain ⟨rfl, hZ, hh⟩ := hP
  have hx := Bd.exec
  have hby := Bd.bytes
  have hml : c.maxLocals = 4 := hml0
  have hown : s.vm.findClass "jdk/internal/util/Preconditions" = some m.cls := findClass_of_methodNamed Bd.named
  have hnm := (name_of_methodNamed Bd.named Bd.method).1
  have X0 : Stand p l e rm0_0_0_0 s m #[.int 0, .int ti, .int ti, .null] below meth c s₁ [] 0 0 := Stand.of_body Bd
  have e0 : s₁.heap = h0 := by rw [← hh, Bd.state]; rfl
  have N0 := Fr.nil n0
  have zO := O0.1
  have zO2 := O0.2.1
  refine own_open (own_via (S' := s₁.setTop (mkF m 0 #[.val (.int 0), .val (.int ti), .val (.int ti), .val .null] [])) (fun t k => castTop (ef_own_cfiN m (0 : Int32) ti ti) k) ?_)
  refine ov s₁ 1 #[.val (.int 0), .val (.int ti), .val (.int ti), .val .null] [.int 0] (fun t k => XS.iloadN X0.here hx rfl (hb hby d34_0) rfl k) ?_
  refine ov s₁ 4 #[.val (.int 0), .val (.int ti), .val (.int ti), .val .null] [] (fun t k => XS.ifNo X0.here hx rfl (hb hby d34_1) rfl ((if0 _ _).trans (flt (by decide : ¬ ((0 : Int32) < (0 : Int32)))).1) k) ?_
  refine ov s₁ 5 #[.val (.int 0), .val (.int ti), .val (.int ti), .val .null] [.int 0] (fun t k => XS.iloadN X0.here hx rfl (hb hby d34_4) rfl k) ?_
  refine ov s₁ 6 #[.val (.int 0), .val (.int ti), .val (.int ti), .val .null] [.int ti, .int 0] (fun t k => XS.iloadN X0.here hx rfl (hb hby d34_5) rfl k) ?_
  refine ov s₁ 9 #[.val (.int 0), .val (.int ti), .val (.int ti), .val .null] [] (fun t k => XS.icmpNo X0.here hx rfl (hb hby d34_6) rfl (flt hti).2.2.1 k) ?_
  refine ov s₁ 10 #[.val (.int 0), .val (.int ti), .val (.int ti), .val .null] [.int ti] (fun t k => XS.iloadN X0.here hx rfl (hb hby d34_9) rfl k) ?_
  refine ov s₁ 11 #[.val (.int 0), .val (.int ti), .val (.int ti), .val .null] [.int ti, .int ti] (fun t k => XS.iloadN X0.here hx rfl (hb hby d34_10) rfl k) ?_
  refine ov s₁ 22 #[.val (.int 0), .val (.int ti), .val (.int ti), .val .null] [] (fun t k => XS.icmpYes X0.here hx rfl (pc0 := 11) (pc' := 22) rfl (hb hby d34_11) rfl (flt hirr).2.2.2 (by decide) (by decide) k) ?_
  refine ov s₁ 23 #[.val (.int 0), .val (.int ti), .val (.int ti), .val .null] [.int 0] (fun t k => XS.iloadN X0.here hx rfl (hb hby d34_22) rfl k) ?_
  refine own_ret (Q := Q_own_cfiN Z ti h0 n0) (C := rm0_0_0_0.cells) (N := rm0_0_0_0.slots) X0 (v := some (.int 0)) (fun h => by rw [Bd.returns] at h; cases h) Bd.notSynchronized ?_ (by decide) (by decide) (fun fs hr => retOut X0 hx Bd.returns rfl (Or.inl ⟨rfl, Or.inl rfl, _, rfl⟩) (hb hby d34_23) hr)
  show Q_own_cfiN Z ti h0 n0 _ s₁.heap _
  rw [e0]
  exact ⟨rfl, rfl, rfl⟩
def Q_own_cfiR (Z : State) (ti : Int32) (fa : Addr) (h0 : Heap) (n0 : Nat) (v : Option Value) (h : Heap) (L : List Loc) : Prop := v = some (.int 0) ∧ L = [] ∧ h = h0
set_option maxRecDepth 65536 in
set_option maxHeartbeats 40000000 in
theorem own_cfiR (l : Launch) (Z : State) (a0 : Array Value) (hw : ∀ d ∈ tables_1, d.before a0 Z = true) (ws : List Jvm.Cond) (ti : Int32) (fa : Addr) (h0 : Heap) (n0 : Nat) (O0 : Old Z n0 h0) (hti : ¬ (ti < (0 : Int32))) (hirr : ¬ (ti < ti)) :
    MetFree l mt15 (head1 (Jvm.Cond.code mt15 jdk_41_method_12_code 4 (some .int) :: ws) rm0_0_0_0) (fun aq U => aq = #[.int 0, .int ti, .int ti, .ref fa] ∧ Z.Warmed39 U.vm ∧ U.heap = h0) (fun _ _ _ _ _ => True) (fun _ U o U' => ∃ v L, o = .returned v ∧ Q_own_cfiR Z ti fa h0 n0 v U'.heap L ∧ FrameEnd U o U' L rm0_0_0_0.cells rm0_0_0_0.slots) := by
  refine MetFree.of_bodySF (plainFor_of_name pn_jdk_internal_util_Preconditions) hisR ?_
  intro p e s m args below meth c s₁ Bd hml0 hP hK
  obtain ⟨rfl, hZ, hh⟩ := hP
  have hx := Bd.exec
  have hby := Bd.bytes
  have hml : c.maxLocals = 4 := hml0
  have hown : s.vm.findClass "jdk/internal/util/Preconditions" = some m.cls := findClass_of_methodNamed Bd.named
  have hnm := (name_of_methodNamed Bd.named Bd.method).1
  have X0 : Stand p l e rm0_0_0_0 s m #[.int 0, .int ti, .int ti, .ref fa] below meth c s₁ [] 0 0 := Stand.of_body Bd
  have e0 : s₁.heap = h0 := by rw [← hh, Bd.state]; rfl
  have N0 := Fr.nil n0
  have zO := O0.1
  have zO2 := O0.2.1
  refine own_open (own_via (S' := s₁.setTop (mkF m 0 #[.val (.int 0), .val (.int ti), .val (.int ti), .val (.ref fa)] [])) (fun t k => castTop (ef_own_cfiR m (0 : Int32) ti ti fa) k) ?_)
  refine ov s₁ 1 #[.val (.int 0), .val (.int ti), .val (.int ti), .val (.ref fa)] [.int 0] (fun t k => XS.iloadN X0.here hx rfl (hb hby d34_0) rfl k) ?_
  refine ov s₁ 4 #[.val (.int 0), .val (.int ti), .val (.int ti), .val (.ref fa)] [] (fun t k => XS.ifNo X0.here hx rfl (hb hby d34_1) rfl ((if0 _ _).trans (flt (by decide : ¬ ((0 : Int32) < (0 : Int32)))).1) k) ?_
  refine ov s₁ 5 #[.val (.int 0), .val (.int ti), .val (.int ti), .val (.ref fa)] [.int 0] (fun t k => XS.iloadN X0.here hx rfl (hb hby d34_4) rfl k) ?_
  refine ov s₁ 6 #[.val (.int 0), .val (.int ti), .val (.int ti), .val (.ref fa)] [.int ti, .int 0] (fun t k => XS.iloadN X0.here hx rfl (hb hby d34_5) rfl k) ?_
  refine ov s₁ 9 #[.val (.int 0), .val (.int ti), .val (.int ti), .val (.ref fa)] [] (fun t k => XS.icmpNo X0.here hx rfl (hb hby d34_6) rfl (flt hti).2.2.1 k) ?_
  refine ov s₁ 10 #[.val (.int 0), .val (.int ti), .val (.int ti), .val (.ref fa)] [.int ti] (fun t k => XS.iloadN X0.here hx rfl (hb hby d34_9) rfl k) ?_
  refine ov s₁ 11 #[.val (.int 0), .val (.int ti), .val (.int ti), .val (.ref fa)] [.int ti, .int ti] (fun t k => XS.iloadN X0.here hx rfl (hb hby d34_10) rfl k) ?_
  refine ov s₁ 22 #[.val (.int 0), .val (.int ti), .val (.int ti), .val (.ref fa)] [] (fun t k => XS.icmpYes X0.here hx rfl (pc0 := 11) (pc' := 22) rfl (hb hby d34_11) rfl (flt hirr).2.2.2 (by decide) (by decide) k) ?_
  refine ov s₁ 23 #[.val (.int 0), .val (.int ti), .val (.int ti), .val (.ref fa)] [.int 0] (fun t k => XS.iloadN X0.here hx rfl (hb hby d34_22) rfl k) ?_
  refine own_ret (Q := Q_own_cfiR Z ti fa h0 n0) (C := rm0_0_0_0.cells) (N := rm0_0_0_0.slots) X0 (v := some (.int 0)) (fun h => by rw [Bd.returns] at h; cases h) Bd.notSynchronized ?_ (by decide) (by decide) (fun fs hr => retOut X0 hx Bd.returns rfl (Or.inl ⟨rfl, Or.inl rfl, _, rfl⟩) (hb hby d34_23) hr)
  show Q_own_cfiR Z ti fa h0 n0 _ s₁.heap _
  rw [e0]
  exact ⟨rfl, rfl, rfl⟩
def Q_own_cbs (Z : State) (ti : Int32) (fm : Value) (h0 : Heap) (n0 : Nat) (v : Option Value) (h : Heap) (L : List Loc) : Prop := v = none ∧ L = [] ∧ h = h0
set_option maxRecDepth 65536 in
set_option maxHeartbeats 40000000 in
theorem own_cbs (l : Launch) (Z : State) (a0 : Array Value) (hw : ∀ d ∈ tables_1, d.before a0 Z = true) (ws : List Jvm.Cond) (ti : Int32) (fm : Value) (h0 : Heap) (n0 : Nat) (O0 : Old Z n0 h0) (zf_S_jdk_internal_util_Preconditions_SIOOBE_FORMATTER : Sta Z Z.heap "jdk/internal/util/Preconditions" "SIOOBE_FORMATTER" "Ljava/util/function/BiFunction;" fm) (rfm : fm.isRef = true) (hti : ¬ (ti < (0 : Int32))) (hirr : ¬ (ti < ti)) :
    MetFree l mt16 (head1 (Jvm.Cond.code mt16 jdk_42_method_158_code 3 none :: ws) rm1_0_0_15) (fun aq U => aq = #[.int 0, .int ti, .int ti] ∧ Z.Warmed39 U.vm ∧ U.heap = h0) (fun _ _ _ _ _ => True) (fun _ U o U' => ∃ v L, o = .returned v ∧ Q_own_cbs Z ti fm h0 n0 v U'.heap L ∧ FrameEnd U o U' L rm1_0_0_15.cells rm1_0_0_15.slots) := by
  refine MetFree.of_bodySF (plainFor_of_name pn_java_lang_String) hisR ?_
  intro p e s m args below meth c s₁ Bd hml0 hP hK
  obtain ⟨rfl, hZ, hh⟩ := hP
  have hx := Bd.exec
  have hby := Bd.bytes
  have hml : c.maxLocals = 3 := hml0
  have hown : s.vm.findClass "java/lang/String" = some m.cls := findClass_of_methodNamed Bd.named
  have hnm := (name_of_methodNamed Bd.named Bd.method).1
  have X0 : Stand p l e rm1_0_0_15 s m #[.int 0, .int ti, .int ti] below meth c s₁ [] 0 0 := Stand.of_body Bd
  have e0 : s₁.heap = h0 := by rw [← hh, Bd.state]; rfl
  have N0 := Fr.nil n0
  have zO := O0.1
  have zO2 := O0.2.1
  refine own_open (own_via (S' := s₁.setTop (mkF m 0 #[.val (.int 0), .val (.int ti), .val (.int ti)] [])) (fun t k => castTop (ef_own_cbs m (0 : Int32) ti ti) k) ?_)
  rcases own_refc rfm with hf | ⟨fa, hf⟩
  · -- null
    have zf2 : Sta Z Z.heap "jdk/internal/util/Preconditions" "SIOOBE_FORMATTER" "Ljava/util/function/BiFunction;" .null := by rw [← hf]; exact zf_S_jdk_internal_util_Preconditions_SIOOBE_FORMATTER
    let A_1 : Array Slot := #[.val (.int 0), .val (.int ti), .val (.int ti)]
    refine ov s₁ 1 A_1 [.int 0] (fun t k => XS.iloadN X0.here hx rfl (hb hby d33_0) rfl k) ?_
    refine ov s₁ 2 A_1 [.int ti, .int 0] (fun t k => XS.iloadN X0.here hx rfl (hb hby d33_1) rfl k) ?_
    refine ov s₁ 3 A_1 [.int ti, .int ti, .int 0] (fun t k => XS.iloadN X0.here hx rfl (hb hby d33_2) rfl k) ?_
    have cx1 : Sta Z h0 "jdk/internal/util/Preconditions" "SIOOBE_FORMATTER" "Ljava/util/function/BiFunction;" .null := zf2.ext O0.2
    obtain ⟨T2, X2, e2, st2⟩ := getS2 X0 hx hZ hown (host := "") (Or.inl (wd141 hw)) Via.refl e0 cx1 (g := (mkF m 3 A_1 [.int ti, .int ti, .int 0])) rfl (hb hby d33_3)
    refine ov T2 6 A_1 [.null, .int ti, .int ti, .int 0] st2 ?_
    obtain ⟨_, _, ⟨T3, Lp3, kp3, np3⟩, -, X3, ⟨Lc3, hQ3, l3, y3, z3⟩, st3⟩ := Jvm.LawKit.callS X2 hx (y := mt15) hown (mvT hZ (wd143 hw)) (mvT hZ (wd144 hw)) (mvT hZ (wd142 hw)) (mvT hZ (wd145 hw)) (by decide) (backOf (W := 0) (own_cfiN l Z a0 hw [] ti h0 n0 O0 hti hirr) hZ (wd145 hw) (wd142 hw) (by decide) (by decide)) (g := (mkF m 6 A_1 [.null, .int ti, .int ti, .int 0])) rfl (by rw [hml]; rfl) (argsL := [.int 0, .int ti, .int ti, .null]) (rest := []) (lenOf pd__IIILjava_util_function_BiFunction__I_3392 rfl) rfl (by show 2 * 0 + _ ≤ _; exact Nat.le_of_eq rfl) (hb hby d33_6) (fun _ _ => ⟨rfl, e2, (by decide : 0 + 0 ≤ _), (by decide : 0 + 0 ≤ _)⟩)
    dsimp only [Pt.U, Pt.locs, Pt.cells, Pt.slots] at X3 l3 y3 z3 st3 hQ3
    subst Lp3 kp3 np3
    obtain ⟨rfl, rfl, e3⟩ := hQ3
    try rw [List.append_nil] at X3
    refine ov T3 9 A_1 [.int 0] st3 ?_
    refine ov T3 10 A_1 [] (fun t k => XS.pop X3.here hx rfl (hb hby d33_9) rfl rfl k) ?_
    refine own_ret (Q := Q_own_cbs Z ti fm h0 n0) (C := rm1_0_0_15.cells) (N := rm1_0_0_15.slots) X3 (v := none) (fun _ => rfl) Bd.notSynchronized ?_ (by decide) (by decide) (fun fs hr => X3.returnOut hx Bd.returns (hb hby d33_10) hr)
    show Q_own_cbs Z ti fm h0 n0 _ T3.heap _
    rw [e3]
    exact ⟨rfl, rfl, rfl⟩
  · -- an object
    have zf2 : Sta Z Z.heap "jdk/internal/util/Preconditions" "SIOOBE_FORMATTER" "Ljava/util/function/BiFunction;" (.ref fa) := by rw [← hf]; exact zf_S_jdk_internal_util_Preconditions_SIOOBE_FORMATTER
    let A_2 : Array Slot := #[.val (.int 0), .val (.int ti), .val (.int ti)]
    refine ov s₁ 1 A_2 [.int 0] (fun t k => XS.iloadN X0.here hx rfl (hb hby d33_0) rfl k) ?_
    refine ov s₁ 2 A_2 [.int ti, .int 0] (fun t k => XS.iloadN X0.here hx rfl (hb hby d33_1) rfl k) ?_
    refine ov s₁ 3 A_2 [.int ti, .int ti, .int 0] (fun t k => XS.iloadN X0.here hx rfl (hb hby d33_2) rfl k) ?_
    have cx4 : Sta Z h0 "jdk/internal/util/Preconditions" "SIOOBE_FORMATTER" "Ljava/util/function/BiFunction;" (.ref fa) := zf2.ext O0.2
    obtain ⟨T5, X5, e5, st5⟩ := getS2 X0 hx hZ hown (host := "") (Or.inl (wd141 hw)) Via.refl e0 cx4 (g := (mkF m 3 A_2 [.int ti, .int ti, .int 0])) rfl (hb hby d33_3)
    refine ov T5 6 A_2 [.ref fa, .int ti, .int ti, .int 0] st5 ?_
    obtain ⟨_, _, ⟨T6, Lp6, kp6, np6⟩, -, X6, ⟨Lc6, hQ6, l6, y6, z6⟩, st6⟩ := Jvm.LawKit.callS X5 hx (y := mt15) hown (mvT hZ (wd143 hw)) (mvT hZ (wd144 hw)) (mvT hZ (wd142 hw)) (mvT hZ (wd145 hw)) (by decide) (backOf (W := 0) (own_cfiR l Z a0 hw [] ti fa h0 n0 O0 hti hirr) hZ (wd145 hw) (wd142 hw) (by decide) (by decide)) (g := (mkF m 6 A_2 [.ref fa, .int ti, .int ti, .int 0])) rfl (by rw [hml]; rfl) (argsL := [.int 0, .int ti, .int ti, .ref fa]) (rest := []) (lenOf pd__IIILjava_util_function_BiFunction__I_3392 rfl) rfl (by show 2 * 0 + _ ≤ _; exact Nat.le_of_eq rfl) (hb hby d33_6) (fun _ _ => ⟨rfl, e5, (by decide : 0 + 0 ≤ _), (by decide : 0 + 0 ≤ _)⟩)
    dsimp only [Pt.U, Pt.locs, Pt.cells, Pt.slots] at X6 l6 y6 z6 st6 hQ6
    subst Lp6 kp6 np6
    obtain ⟨rfl, rfl, e6⟩ := hQ6
    try rw [List.append_nil] at X6
    refine ov T6 9 A_2 [.int 0] st6 ?_
    refine ov T6 10 A_2 [] (fun t k => XS.pop X6.here hx rfl (hb hby d33_9) rfl rfl k) ?_
    refine own_ret (Q := Q_own_cbs Z ti fm h0 n0) (C := rm1_0_0_15.cells) (N := rm1_0_0_15.slots) X6 (v := none) (fun _ => rfl) Bd.notSynchronized ?_ (by decide) (by decide) (fun fs hr => X6.returnOut hx Bd.returns (hb hby d33_10) hr)
    show Q_own_cbs Z ti fm h0 n0 _ T6.heap _
    rw [e6]
    exact ⟨rfl, rfl, rfl⟩
def Q_own_lenL (Z : State) (xs : Addr) (tt : Addr) (kt : ClassId) (zc : Int32) (ki : Int32) (ys : List Value) (h0 : Heap) (n0 : Nat) (v : Option Value) (h : Heap) (L : List Loc) : Prop := v = some (.int ki) ∧ L = [] ∧ h = h0
set_option maxRecDepth 65536 in
set_option maxHeartbeats 40000000 in
theorem own_lenL (l : Launch) (Z : State) (a0 : Array Value) (hw : ∀ d ∈ tables_1, d.before a0 Z = true) (ws : List Jvm.Cond) (xs : Addr) (tt : Addr) (kt : ClassId) (zc : Int32) (ki : Int32) (ys : List Value) (h0 : Heap) (n0 : Nat) (O0 : Old Z n0 h0) (zfC : Sta Z Z.heap "java/lang/String" "COMPACT_STRINGS" "Z" (.int zc)) (f0_E_xs : Exa Z h0 xs "java/lang/String") (f0_F_xs_value : Fld Z h0 xs "java/lang/String" "value" "[B" (.ref tt)) (f0_F_xs_coder : Fld Z h0 xs "java/lang/String" "coder" "B" (.int 0)) (f0_A_tt : Arv Z h0 tt kt .byte ki ys (.int 0)) (hzc : ¬ (zc = (0 : Int32))) :
    MetFree l mt17 (head1 (Jvm.Cond.code mt17 jdk_42_method_54_code 1 (some .int) :: ws) rm1_0_0_13) (fun aq U => aq = #[.ref xs] ∧ Z.Warmed39 U.vm ∧ U.heap = h0) (fun _ _ _ _ _ => True) (fun _ U o U' => ∃ v L, o = .returned v ∧ Q_own_lenL Z xs tt kt zc ki ys h0 n0 v U'.heap L ∧ FrameEnd U o U' L rm1_0_0_13.cells rm1_0_0_13.slots) := by
  refine MetFree.of_bodySF (plainFor_of_name pn_java_lang_String) hisR ?_
  intro p e s m args below meth c s₁ Bd hml0 hP hK
  obtain ⟨rfl, hZ, hh⟩ := hP
  have hx := Bd.exec
  have hby := Bd.bytes
  have hml : c.maxLocals = 1 := hml0
  have hown : s.vm.findClass "java/lang/String" = some m.cls := findClass_of_methodNamed Bd.named
  have hnm := (name_of_methodNamed Bd.named Bd.method).1
  have X0 : Stand p l e rm1_0_0_13 s m #[.ref xs] below meth c s₁ [] 0 0 := Stand.of_body Bd
  have e0 : s₁.heap = h0 := by rw [← hh, Bd.state]; rfl
  have N0 := Fr.nil n0
  have zO := O0.1
  have zO2 := O0.2.1
  have fl_E_xs : h0.size > xs := f0_E_xs.lt
  have fl_F_xs_value : h0.size > xs := f0_F_xs_value.lt
  have fl_F_xs_coder : h0.size > xs := f0_F_xs_coder.lt
  have fl_A_tt : h0.size > tt := f0_A_tt.lt
  refine own_open (own_via (S' := s₁.setTop (mkF m 0 #[.val (.ref xs)] [])) (fun t k => castTop (ef_own_lenL m xs) k) ?_)
  have ne_xs_tt : xs ≠ tt := Exa.neArv f0_E_xs f0_A_tt (wd8 hw)
  refine ov s₁ 1 #[.val (.ref xs)] [.ref xs] (fun t k => XS.aloadN X0.here hx rfl (hb hby d13_0) rfl rfl k) ?_
  obtain ⟨T1, X1, e1, st1⟩ := getF X0 hx hZ hown (host := "") (Or.inl (wd26 hw)) Via.refl e0 f0_F_xs_value (g := (mkF m 1 #[.val (.ref xs)] [.ref xs])) rfl rfl (hb hby d13_1)
  refine ov T1 4 #[.val (.ref xs)] [.ref tt] st1 ?_
  obtain ⟨cl2, Ar2, -, S2, N2, -, -⟩ := id f0_A_tt
  refine ov T1 5 #[.val (.ref xs)] [.int ki] (fun t k => X1.arraylength hx (by first | (rw [e1]; exact Ar2.1) | exact Ar2.1) (State.isArrayOf_alike hZ.alike Ar2.2.1) (g := (mkF m 4 #[.val (.ref xs)] [.ref tt])) rfl rfl (hb hby d13_4) _ (by rw [len_of S2 N2]; exact k)) ?_
  refine ov T1 6 #[.val (.ref xs)] [.ref xs, .int ki] (fun t k => XS.aloadN X1.here hx rfl (hb hby d13_5) rfl rfl k) ?_
  obtain ⟨cq3, kq3, q3a, q3b, q3c⟩ := isOf hZ e1 f0_E_xs
  obtain ⟨_, _, ⟨T3, Lp3, kp3, np3⟩, -, X3, ⟨Lc3, hQ3, l3, y3, z3⟩, st3⟩ := X1.virtualBack hx (y := mt11) (z := mt11) hown (mvT hZ (wd67 hw)) (mvT hZ (wd68 hw)) (notFace_of_selects (args := #[]) (mvT hZ (wd70 hw))) (mvT hZ (wd70 hw)) (mvT hZ (wd69 hw)) (by decide) (backOf (W := 1) (own_coder0 l Z a0 hw [] xs zc h0 n0 O0 zfC f0_F_xs_coder hzc) hZ (wd71 hw) (wd9 hw) (by decide) (by decide)) q3a q3c (g := (mkF m 6 #[.val (.ref xs)] [.ref xs, .int ki])) rfl (by rw [hml]; rfl) (Steps.refl _) (argsL := []) (rest := [.int ki]) (lenOf pd___B_147 rfl) rfl (by show 2 * 0 + _ ≤ _; exact Nat.le_of_eq rfl) (hb hby d13_6) (fun _ _ => ⟨rfl, e1, (by decide : 0 + 0 ≤ _), (by decide : 0 + 0 ≤ _)⟩)
  dsimp only [Pt.U, Pt.locs, Pt.cells, Pt.slots] at X3 l3 y3 z3 st3 hQ3
  subst Lp3 kp3 np3
  obtain ⟨rfl, rfl, e3⟩ := hQ3
  try rw [List.append_nil] at X3
  refine own_tr (S' := T3.setTop (mkF m 9 #[.val (.ref xs)] [.int 0, .int ki])) st3 ?_
  refine ov T3 10 #[.val (.ref xs)] [(.int (ki >>> ((0 : Int32) &&& 31)))] (fun t k => XS.ishr X3.here hx rfl (hb hby d13_9) rfl k) ?_
  rw [own_shr0]
  refine own_ret (Q := Q_own_lenL Z xs tt kt zc ki ys h0 n0) (C := rm1_0_0_13.cells) (N := rm1_0_0_13.slots) X3 (v := some (.int ki)) (fun h => by rw [Bd.returns] at h; cases h) Bd.notSynchronized ?_ (by decide) (by decide) (fun fs hr => retOut X3 hx Bd.returns rfl (Or.inl ⟨rfl, Or.inl rfl, _, rfl⟩) (hb hby d13_10) hr)
  show Q_own_lenL Z xs tt kt zc ki ys h0 n0 _ T3.heap _
  rw [e3]
  exact ⟨rfl, rfl, rfl⟩
def Q_own_lic (Z : State) (tt : Addr) (kt : ClassId) (ki : Int32) (ys : List Value) (y0 : Int32) (y1 : Int32) (y2 : Int32) (y3 : Int32) (h0 : Heap) (n0 : Nat) (v : Option Value) (h : Heap) (L : List Loc) : Prop := v = some (.int (-1)) ∧ L = [] ∧ h = h0
set_option maxRecDepth 65536 in
set_option maxHeartbeats 40000000 in
theorem own_lic (l : Launch) (Z : State) (a0 : Array Value) (hw : ∀ d ∈ tables_1, d.before a0 Z = true) (ws : List Jvm.Cond) (tt : Addr) (kt : ClassId) (ki : Int32) (ys : List Value) (y0 : Int32) (y1 : Int32) (y2 : Int32) (y3 : Int32) (h0 : Heap) (n0 : Nat) (O0 : Old Z n0 h0) (f0_A_tt : Arv Z h0 tt kt .byte ki ys (.int 0)) (gl0 : (0 : Int32) < ki → ys.getD 0 (.int 0) = .int y0 ∧ ¬ (y0 = (0 : Int32))) (gl1 : (1 : Int32) < ki → ys.getD 1 (.int 0) = .int y1 ∧ ¬ (y1 = (0 : Int32))) (gl2 : (2 : Int32) < ki → ys.getD 2 (.int 0) = .int y2 ∧ ¬ (y2 = (0 : Int32))) (gl3 : (3 : Int32) < ki → ys.getD 3 (.int 0) = .int y3 ∧ ¬ (y3 = (0 : Int32))) (hk4 : ¬ ((4 : Int32) < ki)) :
    MetFree l mt18 (head1 (Jvm.Cond.code mt18 jdk_43_method_23_code 6 (some .int) :: ws) rm0_0_0_0) (fun aq U => aq = #[.ref tt, .int 0, .int 0, .int ki] ∧ Z.Warmed39 U.vm ∧ U.heap = h0) (fun _ _ _ _ _ => True) (fun _ U o U' => ∃ v L, o = .returned v ∧ Q_own_lic Z tt kt ki ys y0 y1 y2 y3 h0 n0 v U'.heap L ∧ FrameEnd U o U' L rm0_0_0_0.cells rm0_0_0_0.slots) := by
  refine MetFree.of_bodySF (plainFor_of_name pn_java_lang_StringLatin1) hisR ?_
  intro p e s m args below meth c s₁ Bd hml0 hP hK
  obtain ⟨rfl, hZ, hh⟩ := hP
  have hx := Bd.exec
  have hby := Bd.bytes
  have hml : c.maxLocals = 6 := hml0
  have hown : s.vm.findClass "java/lang/StringLatin1" = some m.cls := findClass_of_methodNamed Bd.named
  have hnm := (name_of_methodNamed Bd.named Bd.method).1
  have X0 : Stand p l e rm0_0_0_0 s m #[.ref tt, .int 0, .int 0, .int ki] below meth c s₁ [] 0 0 := Stand.of_body Bd
  have e0 : s₁.heap = h0 := by rw [← hh, Bd.state]; rfl
  have N0 := Fr.nil n0
  have zO := O0.1
  have zO2 := O0.2.1
  have fl_A_tt : h0.size > tt := f0_A_tt.lt
  refine own_open (own_via (S' := s₁.setTop (mkF m 0 #[.val (.ref tt), .val (.int 0), .val (.int 0), .val (.int ki), .unset, .unset] [])) (fun t k => castTop (ef_own_lic m tt (0 : Int32) (0 : Int32) ki) k) ?_)
  refine ov s₁ 1 #[.val (.ref tt), .val (.int 0), .val (.int 0), .val (.int ki), .unset, .unset] [.int 0] (fun t k => XS.iloadN X0.here hx rfl (hb hby d23_0) rfl k) ?_
  refine ov s₁ 2 #[.val (.ref tt), .val (.int 0), .val (.int 0), .val (.int ki), .unset, .unset] [.int 0] (fun t k => XS.i2b X0.here hx rfl (hb hby d23_1) rfl k) ?_
  let A_1 : Array Slot := #[.val (.ref tt), .val (.int 0), .val (.int 0), .val (.int ki), .val (.int 0), .unset]
  refine ov s₁ 4 A_1 [] (fun t k => XS.istore X0.here hx rfl (hb hby d23_2) rfl (l' := A_1) rfl k) ?_
  refine ov s₁ 5 A_1 [.int 0] (fun t k => XS.iloadN X0.here hx rfl (hb hby d23_4) rfl k) ?_
  let A_2 : Array Slot := #[.val (.ref tt), .val (.int 0), .val (.int 0), .val (.int ki), .val (.int 0), .val (.int 0)]
  refine ov s₁ 7 A_2 [] (fun t k => XS.istore X0.here hx rfl (hb hby d23_5) rfl (l' := A_2) rfl k) ?_
  refine ov s₁ 9 A_2 [.int 0] (fun t k => XS.iload X0.here hx rfl (hb hby d23_7) rfl k) ?_
  refine ov s₁ 10 A_2 [.int ki, .int 0] (fun t k => XS.iloadN X0.here hx rfl (hb hby d23_9) rfl k) ?_
  by_cases hc10_1 : (0 : Int32) < ki
  · -- yes
    refine ov s₁ 13 A_2 [] (fun t k => XS.icmpNo X0.here hx rfl (hb hby d23_10) rfl (tlt hc10_1).2.1 k) ?_
    refine ov s₁ 14 A_2 [.ref tt] (fun t k => XS.aloadN X0.here hx rfl (hb hby d23_13) rfl rfl k) ?_
    refine ov s₁ 16 A_2 [.int 0, .ref tt] (fun t k => XS.iload X0.here hx rfl (hb hby d23_14) rfl k) ?_
    obtain ⟨cl2, Ar2, q2, S2, M2, H2, U2⟩ := id f0_A_tt
    have hin2 : ¬ ((0 : Int32) < 0 ∨ cl2.slots.size ≤ ((0 : Int32)).toNatClampNeg) := inb_of S2 ⟨by decide, hc10_1⟩
    refine ov s₁ 17 A_2 [.int y0] (fun t k => X0.baloadBytes hx (j := (0 : Int32)) (v := (.int y0)) (by first | (rw [e0]; exact Ar2.1) | exact Ar2.1) (State.isArrayOf_alike hZ.alike Ar2.2.1) Ar2.2.2 hin2 (Has.at H2 hin2 (gl0 hc10_1).1) (g := (mkF m 16 A_2 [.int 0, .ref tt])) rfl rfl (hb hby d23_16) _ k) ?_
    refine ov s₁ 19 A_2 [.int 0, .int y0] (fun t k => XS.iload X0.here hx rfl (hb hby d23_17) rfl k) ?_
    refine ov s₁ 25 A_2 [] (fun t k => XS.icmpYes X0.here hx rfl (pc0 := 19) (pc' := 25) rfl (hb hby d23_19) rfl (feq (gl0 hc10_1).2).2 (by decide) (by decide) k) ?_
    let A_3 : Array Slot := #[.val (.ref tt), .val (.int 0), .val (.int 0), .val (.int ki), .val (.int 0), .val (.int 1)]
    refine ov s₁ 28 A_3 [] (fun t k => XS.iinc X0.here hx rfl (hb hby d23_25) rfl (l' := A_3) rfl k) ?_
    refine ov s₁ 7 A_3 [] (fun t k => XS.goto X0.here hx rfl (pc0 := 28) (pc' := 7) rfl (hb hby d23_28) (by decide) (by decide) k) ?_
    refine ov s₁ 9 A_3 [.int 1] (fun t k => XS.iload X0.here hx rfl (hb hby d23_7) rfl k) ?_
    refine ov s₁ 10 A_3 [.int ki, .int 1] (fun t k => XS.iloadN X0.here hx rfl (hb hby d23_9) rfl k) ?_
    by_cases hc10_3 : (1 : Int32) < ki
    · -- yes
      refine ov s₁ 13 A_3 [] (fun t k => XS.icmpNo X0.here hx rfl (hb hby d23_10) rfl (tlt hc10_3).2.1 k) ?_
      refine ov s₁ 14 A_3 [.ref tt] (fun t k => XS.aloadN X0.here hx rfl (hb hby d23_13) rfl rfl k) ?_
      refine ov s₁ 16 A_3 [.int 1, .ref tt] (fun t k => XS.iload X0.here hx rfl (hb hby d23_14) rfl k) ?_
      obtain ⟨cl4, Ar4, q4, S4, M4, H4, U4⟩ := id f0_A_tt
      have hin4 : ¬ ((1 : Int32) < 0 ∨ cl4.slots.size ≤ ((1 : Int32)).toNatClampNeg) := inb_of S4 ⟨by decide, hc10_3⟩
      refine ov s₁ 17 A_3 [.int y1] (fun t k => X0.baloadBytes hx (j := (1 : Int32)) (v := (.int y1)) (by first | (rw [e0]; exact Ar4.1) | exact Ar4.1) (State.isArrayOf_alike hZ.alike Ar4.2.1) Ar4.2.2 hin4 (Has.at H4 hin4 (gl1 hc10_3).1) (g := (mkF m 16 A_3 [.int 1, .ref tt])) rfl rfl (hb hby d23_16) _ k) ?_
      refine ov s₁ 19 A_3 [.int 0, .int y1] (fun t k => XS.iload X0.here hx rfl (hb hby d23_17) rfl k) ?_
      refine ov s₁ 25 A_3 [] (fun t k => XS.icmpYes X0.here hx rfl (pc0 := 19) (pc' := 25) rfl (hb hby d23_19) rfl (feq (gl1 hc10_3).2).2 (by decide) (by decide) k) ?_
      let A_4 : Array Slot := #[.val (.ref tt), .val (.int 0), .val (.int 0), .val (.int ki), .val (.int 0), .val (.int 2)]
      refine ov s₁ 28 A_4 [] (fun t k => XS.iinc X0.here hx rfl (hb hby d23_25) rfl (l' := A_4) rfl k) ?_
      refine ov s₁ 7 A_4 [] (fun t k => XS.goto X0.here hx rfl (pc0 := 28) (pc' := 7) rfl (hb hby d23_28) (by decide) (by decide) k) ?_
      refine ov s₁ 9 A_4 [.int 2] (fun t k => XS.iload X0.here hx rfl (hb hby d23_7) rfl k) ?_
      refine ov s₁ 10 A_4 [.int ki, .int 2] (fun t k => XS.iloadN X0.here hx rfl (hb hby d23_9) rfl k) ?_
      by_cases hc10_5 : (2 : Int32) < ki
      · -- yes
        refine ov s₁ 13 A_4 [] (fun t k => XS.icmpNo X0.here hx rfl (hb hby d23_10) rfl (tlt hc10_5).2.1 k) ?_
        refine ov s₁ 14 A_4 [.ref tt] (fun t k => XS.aloadN X0.here hx rfl (hb hby d23_13) rfl rfl k) ?_
        refine ov s₁ 16 A_4 [.int 2, .ref tt] (fun t k => XS.iload X0.here hx rfl (hb hby d23_14) rfl k) ?_
        obtain ⟨cl6, Ar6, q6, S6, M6, H6, U6⟩ := id f0_A_tt
        have hin6 : ¬ ((2 : Int32) < 0 ∨ cl6.slots.size ≤ ((2 : Int32)).toNatClampNeg) := inb_of S6 ⟨by decide, hc10_5⟩
        refine ov s₁ 17 A_4 [.int y2] (fun t k => X0.baloadBytes hx (j := (2 : Int32)) (v := (.int y2)) (by first | (rw [e0]; exact Ar6.1) | exact Ar6.1) (State.isArrayOf_alike hZ.alike Ar6.2.1) Ar6.2.2 hin6 (Has.at H6 hin6 (gl2 hc10_5).1) (g := (mkF m 16 A_4 [.int 2, .ref tt])) rfl rfl (hb hby d23_16) _ k) ?_
        refine ov s₁ 19 A_4 [.int 0, .int y2] (fun t k => XS.iload X0.here hx rfl (hb hby d23_17) rfl k) ?_
        refine ov s₁ 25 A_4 [] (fun t k => XS.icmpYes X0.here hx rfl (pc0 := 19) (pc' := 25) rfl (hb hby d23_19) rfl (feq (gl2 hc10_5).2).2 (by decide) (by decide) k) ?_
        let A_5 : Array Slot := #[.val (.ref tt), .val (.int 0), .val (.int 0), .val (.int ki), .val (.int 0), .val (.int 3)]
        refine ov s₁ 28 A_5 [] (fun t k => XS.iinc X0.here hx rfl (hb hby d23_25) rfl (l' := A_5) rfl k) ?_
        refine ov s₁ 7 A_5 [] (fun t k => XS.goto X0.here hx rfl (pc0 := 28) (pc' := 7) rfl (hb hby d23_28) (by decide) (by decide) k) ?_
        refine ov s₁ 9 A_5 [.int 3] (fun t k => XS.iload X0.here hx rfl (hb hby d23_7) rfl k) ?_
        refine ov s₁ 10 A_5 [.int ki, .int 3] (fun t k => XS.iloadN X0.here hx rfl (hb hby d23_9) rfl k) ?_
        by_cases hc10_7 : (3 : Int32) < ki
        · -- yes
          refine ov s₁ 13 A_5 [] (fun t k => XS.icmpNo X0.here hx rfl (hb hby d23_10) rfl (tlt hc10_7).2.1 k) ?_
          refine ov s₁ 14 A_5 [.ref tt] (fun t k => XS.aloadN X0.here hx rfl (hb hby d23_13) rfl rfl k) ?_
          refine ov s₁ 16 A_5 [.int 3, .ref tt] (fun t k => XS.iload X0.here hx rfl (hb hby d23_14) rfl k) ?_
          obtain ⟨cl8, Ar8, q8, S8, M8, H8, U8⟩ := id f0_A_tt
          have hin8 : ¬ ((3 : Int32) < 0 ∨ cl8.slots.size ≤ ((3 : Int32)).toNatClampNeg) := inb_of S8 ⟨by decide, hc10_7⟩
          refine ov s₁ 17 A_5 [.int y3] (fun t k => X0.baloadBytes hx (j := (3 : Int32)) (v := (.int y3)) (by first | (rw [e0]; exact Ar8.1) | exact Ar8.1) (State.isArrayOf_alike hZ.alike Ar8.2.1) Ar8.2.2 hin8 (Has.at H8 hin8 (gl3 hc10_7).1) (g := (mkF m 16 A_5 [.int 3, .ref tt])) rfl rfl (hb hby d23_16) _ k) ?_
          refine ov s₁ 19 A_5 [.int 0, .int y3] (fun t k => XS.iload X0.here hx rfl (hb hby d23_17) rfl k) ?_
          refine ov s₁ 25 A_5 [] (fun t k => XS.icmpYes X0.here hx rfl (pc0 := 19) (pc' := 25) rfl (hb hby d23_19) rfl (feq (gl3 hc10_7).2).2 (by decide) (by decide) k) ?_
          let A_6 : Array Slot := #[.val (.ref tt), .val (.int 0), .val (.int 0), .val (.int ki), .val (.int 0), .val (.int 4)]
          refine ov s₁ 28 A_6 [] (fun t k => XS.iinc X0.here hx rfl (hb hby d23_25) rfl (l' := A_6) rfl k) ?_
          refine ov s₁ 7 A_6 [] (fun t k => XS.goto X0.here hx rfl (pc0 := 28) (pc' := 7) rfl (hb hby d23_28) (by decide) (by decide) k) ?_
          refine ov s₁ 9 A_6 [.int 4] (fun t k => XS.iload X0.here hx rfl (hb hby d23_7) rfl k) ?_
          refine ov s₁ 10 A_6 [.int ki, .int 4] (fun t k => XS.iloadN X0.here hx rfl (hb hby d23_9) rfl k) ?_
          refine ov s₁ 31 A_6 [] (fun t k => XS.icmpYes X0.here hx rfl (pc0 := 10) (pc' := 31) rfl (hb hby d23_10) rfl (flt hk4).2.1 (by decide) (by decide) k) ?_
          refine ov s₁ 32 A_6 [(.int (-1))] (fun t k => XS.iconst X0.here hx rfl (hb hby d23_31) k) ?_
          refine own_ret (Q := Q_own_lic Z tt kt ki ys y0 y1 y2 y3 h0 n0) (C := rm0_0_0_0.cells) (N := rm0_0_0_0.slots) X0 (v := some (.int (-1))) (fun h => by rw [Bd.returns] at h; cases h) Bd.notSynchronized ?_ (by decide) (by decide) (fun fs hr => retOut X0 hx Bd.returns rfl (Or.inl ⟨rfl, Or.inl rfl, _, rfl⟩) (hb hby d23_32) hr)
          show Q_own_lic Z tt kt ki ys y0 y1 y2 y3 h0 n0 _ s₁.heap _
          rw [e0]
          exact ⟨rfl, rfl, rfl⟩
        · -- no
          refine ov s₁ 31 A_5 [] (fun t k => XS.icmpYes X0.here hx rfl (pc0 := 10) (pc' := 31) rfl (hb hby d23_10) rfl (flt hc10_7).2.1 (by decide) (by decide) k) ?_
          refine ov s₁ 32 A_5 [(.int (-1))] (fun t k => XS.iconst X0.here hx rfl (hb hby d23_31) k) ?_
          refine own_ret (Q := Q_own_lic Z tt kt ki ys y0 y1 y2 y3 h0 n0) (C := rm0_0_0_0.cells) (N := rm0_0_0_0.slots) X0 (v := some (.int (-1))) (fun h => by rw [Bd.returns] at h; cases h) Bd.notSynchronized ?_ (by decide) (by decide) (fun fs hr => retOut X0 hx Bd.returns rfl (Or.inl ⟨rfl, Or.inl rfl, _, rfl⟩) (hb hby d23_32) hr)
          show Q_own_lic Z tt kt ki ys y0 y1 y2 y3 h0 n0 _ s₁.heap _
          rw [e0]
          exact ⟨rfl, rfl, rfl⟩
      · -- no
        refine ov s₁ 31 A_4 [] (fun t k => XS.icmpYes X0.here hx rfl (pc0 := 10) (pc' := 31) rfl (hb hby d23_10) rfl (flt hc10_5).2.1 (by decide) (by decide) k) ?_
        refine ov s₁ 32 A_4 [(.int (-1))] (fun t k => XS.iconst X0.here hx rfl (hb hby d23_31) k) ?_
        refine own_ret (Q := Q_own_lic Z tt kt ki ys y0 y1 y2 y3 h0 n0) (C := rm0_0_0_0.cells) (N := rm0_0_0_0.slots) X0 (v := some (.int (-1))) (fun h => by rw [Bd.returns] at h; cases h) Bd.notSynchronized ?_ (by decide) (by decide) (fun fs hr => retOut X0 hx Bd.returns rfl (Or.inl ⟨rfl, Or.inl rfl, _, rfl⟩) (hb hby d23_32) hr)
        show Q_own_lic Z tt kt ki ys y0 y1 y2 y3 h0 n0 _ s₁.heap _
        rw [e0]
        exact ⟨rfl, rfl, rfl⟩
    · -- no
      refine ov s₁ 31 A_3 [] (fun t k => XS.icmpYes X0.here hx rfl (pc0 := 10) (pc' := 31) rfl (hb hby d23_10) rfl (flt hc10_3).2.1 (by decide) (by decide) k) ?_
      refine ov s₁ 32 A_3 [(.int (-1))] (fun t k => XS.iconst X0.here hx rfl (hb hby d23_31) k) ?_
      refine own_ret (Q := Q_own_lic Z tt kt ki ys y0 y1 y2 y3 h0 n0) (C := rm0_0_0_0.cells) (N := rm0_0_0_0.slots) X0 (v := some (.int (-1))) (fun h => by rw [Bd.returns] at h; cases h) Bd.notSynchronized ?_ (by decide) (by decide) (fun fs hr => retOut X0 hx Bd.returns rfl (Or.inl ⟨rfl, Or.inl rfl, _, rfl⟩) (hb hby d23_32) hr)
      show Q_own_lic Z tt kt ki ys y0 y1 y2 y3 h0 n0 _ s₁.heap _
      rw [e0]
      exact ⟨rfl, rfl, rfl⟩
  · -- no
    refine ov s₁ 31 A_2 [] (fun t k => XS.icmpYes X0.here hx rfl (pc0 := 10) (pc' := 31) rfl (hb hby d23_10) rfl (flt hc10_1).2.1 (by decide) (by decide) k) ?_
    refine ov s₁ 32 A_2 [(.int (-1))] (fun t k => XS.iconst X0.here hx rfl (hb hby d23_31) k) ?_
    refine own_ret (Q := Q_own_lic Z tt kt ki ys y0 y1 y2 y3 h0 n0) (C := rm0_0_0_0.cells) (N := rm0_0_0_0.slots) X0 (v := some (.int (-1))) (fun h => by rw [Bd.returns] at h; cases h) Bd.notSynchronized ?_ (by decide) (by decide) (fun fs hr => retOut X0 hx Bd.returns rfl (Or.inl ⟨rfl, Or.inl rfl, _, rfl⟩) (hb hby d23_32) hr)
    show Q_own_lic Z tt kt ki ys y0 y1 y2 y3 h0 n0 _ s₁.heap _
    rw [e0]
    exact ⟨rfl, rfl, rfl⟩
def Q_own_lix (Z : State) (tt : Addr) (kt : ClassId) (ki : Int32) (ys : List Value) (y0 : Int32) (y1 : Int32) (y2 : Int32) (y3 : Int32) (h0 : Heap) (n0 : Nat) (v : Option Value) (h : Heap) (L : List Loc) : Prop := v = some (.int (-1)) ∧ L = [] ∧ h = h0
set_option maxRecDepth 65536 in
set_option maxHeartbeats 40000000 in
theorem own_lix (l : Launch) (Z : State) (a0 : Array Value) (hw : ∀ d ∈ tables_1, d.before a0 Z = true) (ws : List Jvm.Cond) (tt : Addr) (kt : ClassId) (ki : Int32) (ys : List Value) (y0 : Int32) (y1 : Int32) (y2 : Int32) (y3 : Int32) (h0 : Heap) (n0 : Nat) (O0 : Old Z n0 h0) (f0_A_tt : Arv Z h0 tt kt .byte ki ys (.int 0)) (gl0 : (0 : Int32) < ki → ys.getD 0 (.int 0) = .int y0 ∧ ¬ (y0 = (0 : Int32))) (gl1 : (1 : Int32) < ki → ys.getD 1 (.int 0) = .int y1 ∧ ¬ (y1 = (0 : Int32))) (gl2 : (2 : Int32) < ki → ys.getD 2 (.int 0) = .int y2 ∧ ¬ (y2 = (0 : Int32))) (gl3 : (3 : Int32) < ki → ys.getD 3 (.int 0) = .int y3 ∧ ¬ (y3 = (0 : Int32))) (hk4 : ¬ ((4 : Int32) < ki)) (irk : ¬ (ki < ki)) :
    MetFree l mt19 (head1 (Jvm.Cond.code mt19 jdk_43_method_22_code 4 (some .int) :: ws) rm1_0_0_17) (fun aq U => aq = #[.ref tt, .int 0, .int 0, .int ki] ∧ Z.Warmed39 U.vm ∧ U.heap = h0) (fun _ _ _ _ _ => True) (fun _ U o U' => ∃ v L, o = .returned v ∧ Q_own_lix Z tt kt ki ys y0 y1 y2 y3 h0 n0 v U'.heap L ∧ FrameEnd U o U' L rm1_0_0_17.cells rm1_0_0_17.slots) := by
  refine MetFree.of_bodySF (plainFor_of_name pn_java_lang_StringLatin1) hisR ?_
  intro p e s m args below meth c s₁ Bd hml0 hP hK
  obtain ⟨rfl, hZ, hh⟩ := hP
  have hx := Bd.exec
  have hby := Bd.bytes
  have hml : c.maxLocals = 4 := hml0
  have hown : s.vm.findClass "java/lang/StringLatin1" = some m.cls := findClass_of_methodNamed Bd.named
  have hnm := (name_of_methodNamed Bd.named Bd.method).1
  have X0 : Stand p l e rm1_0_0_17 s m #[.ref tt, .int 0, .int 0, .int ki] below meth c s₁ [] 0 0 := Stand.of_body Bd
  have e0 : s₁.heap = h0 := by rw [← hh, Bd.state]; rfl
  have N0 := Fr.nil n0
  have zO := O0.1
  have zO2 := O0.2.1
  have fl_A_tt : h0.size > tt := f0_A_tt.lt
  refine own_open (own_via (S' := s₁.setTop (mkF m 0 #[.val (.ref tt), .val (.int 0), .val (.int 0), .val (.int ki)] [])) (fun t k => castTop (ef_own_lix m tt (0 : Int32) (0 : Int32) ki) k) ?_)
  let A_1 : Array Slot := #[.val (.ref tt), .val (.int 0), .val (.int 0), .val (.int ki)]
  refine ov s₁ 1 A_1 [.int 0] (fun t k => XS.iloadN X0.here hx rfl (hb hby d15_0) rfl k) ?_
  obtain ⟨_, _, ⟨T1, Lp1, kp1, np1⟩, -, X1, ⟨Lc1, hQ1, l1, y1, z1⟩, st1⟩ := Jvm.LawKit.callS X0 hx (y := mt12) hown (mvT hZ (wd75 hw)) (mvT hZ (wd76 hw)) (mvT hZ (wd34 hw)) (mvT hZ (wd77 hw)) (by decide) (backOf (W := 0) (own_ceI l Z a0 hw []  h0 n0 O0) hZ (wd77 hw) (wd34 hw) (by decide) (by decide)) (g := (mkF m 1 A_1 [.int 0])) rfl (by rw [hml]; rfl) (argsL := [.int 0]) (rest := []) (lenOf pd__I_Z_244 rfl) rfl (by show 2 * 0 + _ ≤ _; exact Nat.le_of_eq rfl) (hb hby d15_1) (fun _ _ => ⟨rfl, e0, (by decide : 0 + 0 ≤ _), (by decide : 0 + 0 ≤ _)⟩)
  dsimp only [Pt.U, Pt.locs, Pt.cells, Pt.slots] at X1 l1 y1 z1 st1 hQ1
  subst Lp1 kp1 np1
  obtain ⟨rfl, rfl, e1⟩ := hQ1
  try rw [List.append_nil] at X1
  refine ov T1 4 A_1 [.int 1] st1 ?_
  refine ov T1 9 A_1 [] (fun t k => XS.ifYes X1.here hx rfl (pc0 := 4) (pc' := 9) rfl (hb hby d15_4) rfl ((if0 _ _).trans (feq (by decide : ¬ ((1 : Int32) = (0 : Int32)))).2) (by decide) (by decide) k) ?_
  refine ov T1 10 A_1 [.int 0] (fun t k => XS.iloadN X1.here hx rfl (hb hby d15_9) rfl k) ?_
  refine ov T1 11 A_1 [.int 0, .int 0] (fun t k => XS.iconst X1.here hx rfl (hb hby d15_10) k) ?_
  obtain ⟨_, _, ⟨T2, Lp2, kp2, np2⟩, -, X2, ⟨Lc2, hQ2, l2, y2, z2⟩, st2⟩ := Jvm.LawKit.callS X1 hx (y := mt13) hown (mvT hZ (wd78 hw)) (mvT hZ (wd79 hw)) (mvT hZ (wd80 hw)) (mvT hZ (wd81 hw)) (by decide) (backOf (W := 0) (own_mx l Z a0 hw []  h0 n0 O0) hZ (wd81 hw) (wd80 hw) (by decide) (by decide)) (g := (mkF m 11 A_1 [.int 0, .int 0])) rfl (by rw [hml]; rfl) (argsL := [.int 0, .int 0]) (rest := []) (lenOf pd__II_I_300 rfl) rfl (by show 2 * 0 + _ ≤ _; exact Nat.le_of_eq rfl) (hb hby d15_11) (fun _ _ => ⟨rfl, e1, (by decide : 0 + 0 ≤ _), (by decide : 0 + 0 ≤ _)⟩)
  dsimp only [Pt.U, Pt.locs, Pt.cells, Pt.slots] at X2 l2 y2 z2 st2 hQ2
  subst Lp2 kp2 np2
  obtain ⟨rfl, rfl, e2⟩ := hQ2
  try rw [List.append_nil] at X2
  refine ov T2 14 A_1 [.int 0] st2 ?_
  refine ov T2 15 A_1 [] (fun t k => XS.istoreN X2.here hx rfl (hb hby d15_14) rfl (l' := A_1) rfl k) ?_
  refine ov T2 16 A_1 [.int ki] (fun t k => XS.iloadN X2.here hx rfl (hb hby d15_15) rfl k) ?_
  refine ov T2 17 A_1 [.ref tt, .int ki] (fun t k => XS.aloadN X2.here hx rfl (hb hby d15_16) rfl rfl k) ?_
  obtain ⟨cl3, Ar3, -, S3, N3, -, -⟩ := id f0_A_tt
  refine ov T2 18 A_1 [.int ki, .int ki] (fun t k => X2.arraylength hx (by first | (rw [e2]; exact Ar3.1) | exact Ar3.1) (State.isArrayOf_alike hZ.alike Ar3.2.1) (g := (mkF m 17 A_1 [.ref tt, .int ki])) rfl rfl (hb hby d15_17) _ (by rw [len_of S3 N3]; exact k)) ?_
  obtain ⟨_, _, ⟨T4, Lp4, kp4, np4⟩, -, X4, ⟨Lc4, hQ4, l4, y4, z4⟩, st4⟩ := Jvm.LawKit.callS X2 hx (y := mt14) hown (mvT hZ (wd82 hw)) (mvT hZ (wd83 hw)) (mvT hZ (wd80 hw)) (mvT hZ (wd84 hw)) (by decide) (backOf (W := 0) (own_mn l Z a0 hw [] ki h0 n0 O0 irk) hZ (wd84 hw) (wd80 hw) (by decide) (by decide)) (g := (mkF m 18 A_1 [.int ki, .int ki])) rfl (by rw [hml]; rfl) (argsL := [.int ki, .int ki]) (rest := []) (lenOf pd__II_I_300 rfl) rfl (by show 2 * 0 + _ ≤ _; exact Nat.le_of_eq rfl) (hb hby d15_18) (fun _ _ => ⟨rfl, e2, (by decide : 0 + 0 ≤ _), (by decide : 0 + 0 ≤ _)⟩)
  dsimp only [Pt.U, Pt.locs, Pt.cells, Pt.slots] at X4 l4 y4 z4 st4 hQ4
  subst Lp4 kp4 np4
  obtain ⟨rfl, rfl, e4⟩ := hQ4
  try rw [List.append_nil] at X4
  refine ov T4 21 A_1 [.int ki] st4 ?_
  refine ov T4 22 A_1 [] (fun t k => XS.istoreN X4.here hx rfl (hb hby d15_21) rfl (l' := A_1) rfl k) ?_
  refine ov T4 23 A_1 [.int 0] (fun t k => XS.iloadN X4.here hx rfl (hb hby d15_22) rfl k) ?_
  refine ov T4 24 A_1 [.int ki, .int 0] (fun t k => XS.iloadN X4.here hx rfl (hb hby d15_23) rfl k) ?_
  by_cases hc24_5 : (0 : Int32) < ki
  · -- yes
    refine ov T4 29 A_1 [] (fun t k => XS.icmpYes X4.here hx rfl (pc0 := 24) (pc' := 29) rfl (hb hby d15_24) rfl (tlt hc24_5).1 (by decide) (by decide) k) ?_
    refine ov T4 30 A_1 [.ref tt] (fun t k => XS.aloadN X4.here hx rfl (hb hby d15_29) rfl rfl k) ?_
    refine ov T4 31 A_1 [.int 0, .ref tt] (fun t k => XS.iloadN X4.here hx rfl (hb hby d15_30) rfl k) ?_
    refine ov T4 32 A_1 [.int 0, .int 0, .ref tt] (fun t k => XS.iloadN X4.here hx rfl (hb hby d15_31) rfl k) ?_
    refine ov T4 33 A_1 [.int ki, .int 0, .int 0, .ref tt] (fun t k => XS.iloadN X4.here hx rfl (hb hby d15_32) rfl k) ?_
    obtain ⟨_, _, ⟨T6, Lp6, kp6, np6⟩, -, X6, ⟨Lc6, hQ6, l6, y6, z6⟩, st6⟩ := Jvm.LawKit.callS X4 hx (y := mt18) hown (mvT hZ (wd101 hw)) (mvT hZ (wd102 hw)) (mvT hZ (wd34 hw)) (mvT hZ (wd103 hw)) (by decide) (backOf (W := 0) (own_lic l Z a0 hw [] tt kt ki ys y0 y1 y2 y3 h0 n0 O0 f0_A_tt gl0 gl1 gl2 gl3 hk4) hZ (wd103 hw) (wd34 hw) (by decide) (by decide)) (g := (mkF m 33 A_1 [.int ki, .int 0, .int 0, .ref tt])) rfl (by rw [hml]; rfl) (argsL := [.ref tt, .int 0, .int 0, .int ki]) (rest := []) (lenOf pd___BIII_I_530 rfl) rfl (by show 2 * 0 + _ ≤ _; exact Nat.le_of_eq rfl) (hb hby d15_33) (fun _ _ => ⟨rfl, e4, (by decide : 0 + 0 ≤ _), (by decide : 0 + 0 ≤ _)⟩)
    dsimp only [Pt.U, Pt.locs, Pt.cells, Pt.slots] at X6 l6 y6 z6 st6 hQ6
    subst Lp6 kp6 np6
    obtain ⟨rfl, rfl, e6⟩ := hQ6
    try rw [List.append_nil] at X6
    refine ov T6 36 A_1 [(.int (-1))] st6 ?_
    refine own_ret (Q := Q_own_lix Z tt kt ki ys y0 y1 y2 y3 h0 n0) (C := rm1_0_0_17.cells) (N := rm1_0_0_17.slots) X6 (v := some (.int (-1))) (fun h => by rw [Bd.returns] at h; cases h) Bd.notSynchronized ?_ (by decide) (by decide) (fun fs hr => retOut X6 hx Bd.returns rfl (Or.inl ⟨rfl, Or.inl rfl, _, rfl⟩) (hb hby d15_36) hr)
    show Q_own_lix Z tt kt ki ys y0 y1 y2 y3 h0 n0 _ T6.heap _
    rw [e6]
    exact ⟨rfl, rfl, rfl⟩
  · -- no
    refine ov T4 27 A_1 [] (fun t k => XS.icmpNo X4.here hx rfl (hb hby d15_24) rfl (flt hc24_5).1 k) ?_
    refine ov T4 28 A_1 [(.int (-1))] (fun t k => XS.iconst X4.here hx rfl (hb hby d15_27) k) ?_
    refine own_ret (Q := Q_own_lix Z tt kt ki ys y0 y1 y2 y3 h0 n0) (C := rm1_0_0_17.cells) (N := rm1_0_0_17.slots) X4 (v := some (.int (-1))) (fun h => by rw [Bd.returns] at h; cases h) Bd.notSynchronized ?_ (by decide) (by decide) (fun fs hr => retOut X4 hx Bd.returns rfl (Or.inl ⟨rfl, Or.inl rfl, _, rfl⟩) (hb hby d15_28) hr)
    show Q_own_lix Z tt kt ki ys y0 y1 y2 y3 h0 n0 _ T4.heap _
    rw [e4]
    exact ⟨rfl, rfl, rfl⟩
def Q_own_ixbL (Z : State) (xs : Addr) (tt : Addr) (kt : ClassId) (zc : Int32) (ki : Int32) (ys : List Value) (y0 : Int32) (y1 : Int32) (y2 : Int32) (y3 : Int32) (h0 : Heap) (n0 : Nat) (v : Option Value) (h : Heap) (L : List Loc) : Prop := v = some (.int (-1)) ∧ L = [] ∧ h = h0
set_option maxRecDepth 65536 in
set_option maxHeartbeats 40000000 in
theorem own_ixbL (l : Launch) (Z : State) (a0 : Array Value) (hw : ∀ d ∈ tables_1, d.before a0 Z = true) (ws : List Jvm.Cond) (xs : Addr) (tt : Addr) (kt : ClassId) (zc : Int32) (ki : Int32) (ys : List Value) (y0 : Int32) (y1 : Int32) (y2 : Int32) (y3 : Int32) (h0 : Heap) (n0 : Nat) (O0 : Old Z n0 h0) (zfC : Sta Z Z.heap "java/lang/String" "COMPACT_STRINGS" "Z" (.int zc)) (f0_E_xs : Exa Z h0 xs "java/lang/String") (f0_F_xs_value : Fld Z h0 xs "java/lang/String" "value" "[B" (.ref tt)) (f0_F_xs_coder : Fld Z h0 xs "java/lang/String" "coder" "B" (.int 0)) (f0_A_tt : Arv Z h0 tt kt .byte ki ys (.int 0)) (hzc : ¬ (zc = (0 : Int32))) (gl0 : (0 : Int32) < ki → ys.getD 0 (.int 0) = .int y0 ∧ ¬ (y0 = (0 : Int32))) (gl1 : (1 : Int32) < ki → ys.getD 1 (.int 0) = .int y1 ∧ ¬ (y1 = (0 : Int32))) (gl2 : (2 : Int32) < ki → ys.getD 2 (.int 0) = .int y2 ∧ ¬ (y2 = (0 : Int32))) (gl3 : (3 : Int32) < ki → ys.getD 3 (.int 0) = .int y3 ∧ ¬ (y3 = (0 : Int32))) (hk4 : ¬ ((4 : Int32) < ki)) (irk : ¬ (ki < ki)) :
    MetFree l mt20 (head1 (Jvm.Cond.code mt20 jdk_42_method_80_code 3 (some .int) :: ws) rm2_0_0_32) (fun aq U => aq = #[.ref xs, .int 0, .int 0] ∧ Z.Warmed39 U.vm ∧ U.heap = h0) (fun _ _ _ _ _ => True) (fun _ U o U' => ∃ v L, o = .returned v ∧ Q_own_ixbL Z xs tt kt zc ki ys y0 y1 y2 y3 h0 n0 v U'.heap L ∧ FrameEnd U o U' L rm2_0_0_32.cells rm2_0_0_32.slots) := by
  refine MetFree.of_bodySF (plainFor_of_name pn_java_lang_String) hisR ?_
  intro p e s m args below meth c s₁ Bd hml0 hP hK
  obtain ⟨rfl, hZ, hh⟩ := hP
  have hx := Bd.exec
  have hby := Bd.bytes
  have hml : c.maxLocals = 3 := hml0
  have hown : s.vm.findClass "java/lang/String" = some m.cls := findClass_of_methodNamed Bd.named
  have hnm := (name_of_methodNamed Bd.named Bd.method).1
  have X0 : Stand p l e rm2_0_0_32 s m #[.ref xs, .int 0, .int 0] below meth c s₁ [] 0 0 := Stand.of_body Bd
  have e0 : s₁.heap = h0 := by rw [← hh, Bd.state]; rfl
  have N0 := Fr.nil n0
  have zO := O0.1
  have zO2 := O0.2.1
  have fl_E_xs : h0.size > xs := f0_E_xs.lt
  have fl_F_xs_value : h0.size > xs := f0_F_xs_value.lt
  have fl_F_xs_coder : h0.size > xs := f0_F_xs_coder.lt
  have fl_A_tt : h0.size > tt := f0_A_tt.lt
  refine own_open (own_via (S' := s₁.setTop (mkF m 0 #[.val (.ref xs), .val (.int 0), .val (.int 0)] [])) (fun t k => castTop (ef_own_ixbL m xs (0 : Int32) (0 : Int32)) k) ?_)
  have ne_xs_tt : xs ≠ tt := Exa.neArv f0_E_xs f0_A_tt (wd8 hw)
  refine ov s₁ 1 #[.val (.ref xs), .val (.int 0), .val (.int 0)] [.ref xs] (fun t k => XS.aloadN X0.here hx rfl (hb hby d11_0) rfl rfl k) ?_
  obtain ⟨cq1, kq1, q1a, q1b, q1c⟩ := isOf hZ e0 f0_E_xs
  obtain ⟨_, _, ⟨T1, Lp1, kp1, np1⟩, -, X1, ⟨Lc1, hQ1, l1, y1, z1⟩, st1⟩ := X0.virtualBack hx (y := mt10) (z := mt10) hown (mvT hZ (wd57 hw)) (mvT hZ (wd58 hw)) (notFace_of_selects (args := #[]) (mvT hZ (wd60 hw))) (mvT hZ (wd60 hw)) (mvT hZ (wd59 hw)) (by decide) (backOf (W := 0) (own_isLs l Z a0 hw [] xs zc h0 n0 O0 zfC f0_F_xs_coder hzc) hZ (wd61 hw) (wd9 hw) (by decide) (by decide)) q1a q1c (g := (mkF m 1 #[.val (.ref xs), .val (.int 0), .val (.int 0)] [.ref xs])) rfl (by rw [hml]; rfl) (Steps.refl _) (argsL := []) (rest := []) (lenOf pd___Z_171 rfl) rfl (by show 2 * 0 + _ ≤ _; exact Nat.le_of_eq rfl) (hb hby d11_1) (fun _ _ => ⟨rfl, e0, (by decide : 0 + 0 ≤ _), (by decide : 0 + 0 ≤ _)⟩)
  dsimp only [Pt.U, Pt.locs, Pt.cells, Pt.slots] at X1 l1 y1 z1 st1 hQ1
  subst Lp1 kp1 np1
  obtain ⟨rfl, rfl, e1⟩ := hQ1
  try rw [List.append_nil] at X1
  refine own_tr (S' := T1.setTop (mkF m 4 #[.val (.ref xs), .val (.int 0), .val (.int 0)] [.int 1])) st1 ?_
  refine ov T1 7 #[.val (.ref xs), .val (.int 0), .val (.int 0)] [] (fun t k => XS.ifNo X1.here hx rfl (hb hby d11_4) rfl ((if0 _ _).trans (feq (by decide : ¬ ((1 : Int32) = (0 : Int32)))).1) k) ?_
  refine ov T1 8 #[.val (.ref xs), .val (.int 0), .val (.int 0)] [.ref xs] (fun t k => XS.aloadN X1.here hx rfl (hb hby d11_7) rfl rfl k) ?_
  obtain ⟨T2, X2, e2, st2⟩ := getF X1 hx hZ hown (host := "") (Or.inl (wd26 hw)) Via.refl e1 f0_F_xs_value (g := (mkF m 8 #[.val (.ref xs), .val (.int 0), .val (.int 0)] [.ref xs])) rfl rfl (hb hby d11_8)
  refine ov T2 11 #[.val (.ref xs), .val (.int 0), .val (.int 0)] [.ref tt] st2 ?_
  refine ov T2 12 #[.val (.ref xs), .val (.int 0), .val (.int 0)] [.int 0, .ref tt] (fun t k => XS.iloadN X2.here hx rfl (hb hby d11_11) rfl k) ?_
  refine ov T2 13 #[.val (.ref xs), .val (.int 0), .val (.int 0)] [.int 0, .int 0, .ref tt] (fun t k => XS.iloadN X2.here hx rfl (hb hby d11_12) rfl k) ?_
  refine ov T2 14 #[.val (.ref xs), .val (.int 0), .val (.int 0)] [.ref xs, .int 0, .int 0, .ref tt] (fun t k => XS.aloadN X2.here hx rfl (hb hby d11_13) rfl rfl k) ?_
  obtain ⟨cq3, kq3, q3a, q3b, q3c⟩ := isOf hZ e2 f0_E_xs
  obtain ⟨_, _, ⟨T3, Lp3, kp3, np3⟩, -, X3, ⟨Lc3, hQ3, l3, y3, z3⟩, st3⟩ := X2.virtualBack hx (y := mt17) (z := mt17) hown (mvT hZ (wd62 hw)) (mvT hZ (wd63 hw)) (notFace_of_selects (args := #[]) (mvT hZ (wd65 hw))) (mvT hZ (wd65 hw)) (mvT hZ (wd64 hw)) (by decide) (backOf (W := 3) (own_lenL l Z a0 hw [] xs tt kt zc ki ys h0 n0 O0 zfC f0_E_xs f0_F_xs_value f0_F_xs_coder f0_A_tt hzc) hZ (wd66 hw) (wd9 hw) (by decide) (by decide)) q3a q3c (g := (mkF m 14 #[.val (.ref xs), .val (.int 0), .val (.int 0)] [.ref xs, .int 0, .int 0, .ref tt])) rfl (by rw [hml]; rfl) (Steps.refl _) (argsL := []) (rest := [.int 0, .int 0, .ref tt]) (lenOf pd___I_154 rfl) rfl (by show 2 * 0 + _ ≤ _; exact Nat.le_of_eq rfl) (hb hby d11_14) (fun _ _ => ⟨rfl, e2, (by decide : 0 + 0 ≤ _), (by decide : 0 + 0 ≤ _)⟩)
  dsimp only [Pt.U, Pt.locs, Pt.cells, Pt.slots] at X3 l3 y3 z3 st3 hQ3
  subst Lp3 kp3 np3
  obtain ⟨rfl, rfl, e3⟩ := hQ3
  try rw [List.append_nil] at X3
  refine own_tr (S' := T3.setTop (mkF m 17 #[.val (.ref xs), .val (.int 0), .val (.int 0)] [.int ki, .int 0, .int 0, .ref tt])) st3 ?_
  obtain ⟨_, _, ⟨T4, Lp4, kp4, np4⟩, -, X4, ⟨Lc4, hQ4, l4, y4, z4⟩, st4⟩ := Jvm.LawKit.callS X3 hx (y := mt19) hown (mvT hZ (wd72 hw)) (mvT hZ (wd73 hw)) (mvT hZ (wd34 hw)) (mvT hZ (wd74 hw)) (by decide) (backOf (W := 0) (own_lix l Z a0 hw [] tt kt ki ys y0 y1 y2 y3 h0 n0 O0 f0_A_tt gl0 gl1 gl2 gl3 hk4 irk) hZ (wd74 hw) (wd34 hw) (by decide) (by decide)) (g := (mkF m 17 #[.val (.ref xs), .val (.int 0), .val (.int 0)] [.int ki, .int 0, .int 0, .ref tt])) rfl (by rw [hml]; rfl) (argsL := [.ref tt, .int 0, .int 0, .int ki]) (rest := []) (lenOf pd___BIII_I_530 rfl) rfl (by show 2 * 0 + _ ≤ _; exact Nat.le_of_eq rfl) (hb hby d11_17) (fun _ _ => ⟨rfl, e3, (by decide : 0 + 0 ≤ _), (by decide : 0 + 0 ≤ _)⟩)
  dsimp only [Pt.U, Pt.locs, Pt.cells, Pt.slots] at X4 l4 y4 z4 st4 hQ4
  subst Lp4 kp4 np4
  obtain ⟨rfl, rfl, e4⟩ := hQ4
  try rw [List.append_nil] at X4
  refine ov T4 20 #[.val (.ref xs), .val (.int 0), .val (.int 0)] [(.int (-1))] st4 ?_
  refine ov T4 36 #[.val (.ref xs), .val (.int 0), .val (.int 0)] [(.int (-1))] (fun t k => XS.goto X4.here hx rfl (pc0 := 20) (pc' := 36) rfl (hb hby d11_20) (by decide) (by decide) k) ?_
  refine own_ret (Q := Q_own_ixbL Z xs tt kt zc ki ys y0 y1 y2 y3 h0 n0) (C := rm2_0_0_32.cells) (N := rm2_0_0_32.slots) X4 (v := some (.int (-1))) (fun h => by rw [Bd.returns] at h; cases h) Bd.notSynchronized ?_ (by decide) (by decide) (fun fs hr => retOut X4 hx Bd.returns rfl (Or.inl ⟨rfl, Or.inl rfl, _, rfl⟩) (hb hby d11_36) hr)
  show Q_own_ixbL Z xs tt kt zc ki ys y0 y1 y2 y3 h0 n0 _ T4.heap _
  rw [e4]
  exact ⟨rfl, rfl, rfl⟩
def Q_own_ixaL (Z : State) (xs : Addr) (tt : Addr) (kt : ClassId) (zc : Int32) (ki : Int32) (ys : List Value) (y0 : Int32) (y1 : Int32) (y2 : Int32) (y3 : Int32) (h0 : Heap) (n0 : Nat) (v : Option Value) (h : Heap) (L : List Loc) : Prop := v = some (.int (-1)) ∧ L = [] ∧ h = h0
set_option maxRecDepth 65536 in
set_option maxHeartbeats 40000000 in
theorem own_ixaL (l : Launch) (Z : State) (a0 : Array Value) (hw : ∀ d ∈ tables_1, d.before a0 Z = true) (ws : List Jvm.Cond) (xs : Addr) (tt : Addr) (kt : ClassId) (zc : Int32) (ki : Int32) (ys : List Value) (y0 : Int32) (y1 : Int32) (y2 : Int32) (y3 : Int32) (h0 : Heap) (n0 : Nat) (O0 : Old Z n0 h0) (zfC : Sta Z Z.heap "java/lang/String" "COMPACT_STRINGS" "Z" (.int zc)) (f0_E_xs : Exa Z h0 xs "java/lang/String") (f0_F_xs_value : Fld Z h0 xs "java/lang/String" "value" "[B" (.ref tt)) (f0_F_xs_coder : Fld Z h0 xs "java/lang/String" "coder" "B" (.int 0)) (f0_A_tt : Arv Z h0 tt kt .byte ki ys (.int 0)) (hzc : ¬ (zc = (0 : Int32))) (gl0 : (0 : Int32) < ki → ys.getD 0 (.int 0) = .int y0 ∧ ¬ (y0 = (0 : Int32))) (gl1 : (1 : Int32) < ki → ys.getD 1 (.int 0) = .int y1 ∧ ¬ (y1 = (0 : Int32))) (gl2 : (2 : Int32) < ki → ys.getD 2 (.int 0) = .int y2 ∧ ¬ (y2 = (0 : Int32))) (gl3 : (3 : Int32) < ki → ys.getD 3 (.int 0) = .int y3 ∧ ¬ (y3 = (0 : Int32))) (hk4 : ¬ ((4 : Int32) < ki)) (irk : ¬ (ki < ki)) :
    MetFree l mt21 (head1 (Jvm.Cond.code mt21 jdk_42_method_79_code 2 (some .int) :: ws) rm3_0_0_46) (fun aq U => aq = #[.ref xs, .int 0] ∧ Z.Warmed39 U.vm ∧ U.heap = h0) (fun _ _ _ _ _ => True) (fun _ U o U' => ∃ v L, o = .returned v ∧ Q_own_ixaL Z xs tt kt zc ki ys y0 y1 y2 y3 h0 n0 v U'.heap L ∧ FrameEnd U o U' L rm3_0_0_46.cells rm3_0_0_46.slots) := by
  refine MetFree.of_bodySF (plainFor_of_name pn_java_lang_String) hisR ?_
  intro p e s m args below meth c s₁ Bd hml0 hP hK
  obtain ⟨rfl, hZ, hh⟩ := hP
  have hx := Bd.exec
  have hby := Bd.bytes
  have hml : c.maxLocals = 2 := hml0
  have hown : s.vm.findClass "java/lang/String" = some m.cls := findClass_of_methodNamed Bd.named
  have hnm := (name_of_methodNamed Bd.named Bd.method).1
  have X0 : Stand p l e rm3_0_0_46 s m #[.ref xs, .int 0] below meth c s₁ [] 0 0 := Stand.of_body Bd
  have e0 : s₁.heap = h0 := by rw [← hh, Bd.state]; rfl
  have N0 := Fr.nil n0
  have zO := O0.1
  have zO2 := O0.2.1
  have fl_E_xs : h0.size > xs := f0_E_xs.lt
  have fl_F_xs_value : h0.size > xs := f0_F_xs_value.lt
  have fl_F_xs_coder : h0.size > xs := f0_F_xs_coder.lt
  have fl_A_tt : h0.size > tt := f0_A_tt.lt
  refine own_open (own_via (S' := s₁.setTop (mkF m 0 #[.val (.ref xs), .val (.int 0)] [])) (fun t k => castTop (ef_own_ixaL m xs (0 : Int32)) k) ?_)
  have ne_xs_tt : xs ≠ tt := Exa.neArv f0_E_xs f0_A_tt (wd8 hw)
  refine ov s₁ 1 #[.val (.ref xs), .val (.int 0)] [.ref xs] (fun t k => XS.aloadN X0.here hx rfl (hb hby d10_0) rfl rfl k) ?_
  refine ov s₁ 2 #[.val (.ref xs), .val (.int 0)] [.int 0, .ref xs] (fun t k => XS.iloadN X0.here hx rfl (hb hby d10_1) rfl k) ?_
  refine ov s₁ 3 #[.val (.ref xs), .val (.int 0)] [.int 0, .int 0, .ref xs] (fun t k => XS.iconst X0.here hx rfl (hb hby d10_2) k) ?_
  obtain ⟨cq1, kq1, q1a, q1b, q1c⟩ := isOf hZ e0 f0_E_xs
  obtain ⟨_, _, ⟨T1, Lp1, kp1, np1⟩, -, X1, ⟨Lc1, hQ1, l1, y1, z1⟩, st1⟩ := X0.virtualBack hx (y := mt20) (z := mt20) hown (mvT hZ (wd52 hw)) (mvT hZ (wd53 hw)) (notFace_of_selects (args := #[]) (mvT hZ (wd55 hw))) (mvT hZ (wd55 hw)) (mvT hZ (wd54 hw)) (by decide) (backOf (W := 0) (own_ixbL l Z a0 hw [] xs tt kt zc ki ys y0 y1 y2 y3 h0 n0 O0 zfC f0_E_xs f0_F_xs_value f0_F_xs_coder f0_A_tt hzc gl0 gl1 gl2 gl3 hk4 irk) hZ (wd56 hw) (wd9 hw) (by decide) (by decide)) q1a q1c (g := (mkF m 3 #[.val (.ref xs), .val (.int 0)] [.int 0, .int 0, .ref xs])) rfl (by rw [hml]; rfl) (Steps.refl _) (argsL := [.int 0, .int 0]) (rest := []) (lenOf pd__II_I_300 rfl) rfl (by show 2 * 0 + _ ≤ _; exact Nat.le_of_eq rfl) (hb hby d10_3) (fun _ _ => ⟨rfl, e0, (by decide : 0 + 0 ≤ _), (by decide : 0 + 0 ≤ _)⟩)
  dsimp only [Pt.U, Pt.locs, Pt.cells, Pt.slots] at X1 l1 y1 z1 st1 hQ1
  subst Lp1 kp1 np1
  obtain ⟨rfl, rfl, e1⟩ := hQ1
  try rw [List.append_nil] at X1
  refine own_tr (S' := T1.setTop (mkF m 6 #[.val (.ref xs), .val (.int 0)] [(.int (-1))])) st1 ?_
  refine own_ret (Q := Q_own_ixaL Z xs tt kt zc ki ys y0 y1 y2 y3 h0 n0) (C := rm3_0_0_46.cells) (N := rm3_0_0_46.slots) X1 (v := some (.int (-1))) (fun h => by rw [Bd.returns] at h; cases h) Bd.notSynchronized ?_ (by decide) (by decide) (fun fs hr => retOut X1 hx Bd.returns rfl (Or.inl ⟨rfl, Or.inl rfl, _, rfl⟩) (hb hby d10_6) hr)
  show Q_own_ixaL Z xs tt kt zc ki ys y0 y1 y2 y3 h0 n0 _ T1.heap _
  rw [e1]
  exact ⟨rfl, rfl, rfl⟩
def Q_own_txtL (Z : State) (fn : Addr) (xs : Addr) (tt : Addr) (kt : ClassId) (zc : Int32) (ki : Int32) (ys : List Value) (y0 : Int32) (y1 : Int32) (y2 : Int32) (y3 : Int32) (h0 : Heap) (n0 : Nat) (v : Option Value) (h : Heap) (L : List Loc) : Prop := v = some (.ref xs) ∧ L = [] ∧ h = h0
set_option maxRecDepth 65536 in
set_option maxHeartbeats 40000000 in
theorem own_txtL (l : Launch) (Z : State) (a0 : Array Value) (hw : ∀ d ∈ tables_1, d.before a0 Z = true) (ws : List Jvm.Cond) (fn : Addr) (xs : Addr) (tt : Addr) (kt : ClassId) (zc : Int32) (ki : Int32) (ys : List Value) (y0 : Int32) (y1 : Int32) (y2 : Int32) (y3 : Int32) (h0 : Heap) (n0 : Nat) (O0 : Old Z n0 h0) (zfC : Sta Z Z.heap "java/lang/String" "COMPACT_STRINGS" "Z" (.int zc)) (f0_E_xs : Exa Z h0 xs "java/lang/String") (f0_F_xs_value : Fld Z h0 xs "java/lang/String" "value" "[B" (.ref tt)) (f0_F_xs_coder : Fld Z h0 xs "java/lang/String" "coder" "B" (.int 0)) (f0_A_tt : Arv Z h0 tt kt .byte ki ys (.int 0)) (hzc : ¬ (zc = (0 : Int32))) (gl0 : (0 : Int32) < ki → ys.getD 0 (.int 0) = .int y0 ∧ ¬ (y0 = (0 : Int32))) (gl1 : (1 : Int32) < ki → ys.getD 1 (.int 0) = .int y1 ∧ ¬ (y1 = (0 : Int32))) (gl2 : (2 : Int32) < ki → ys.getD 2 (.int 0) = .int y2 ∧ ¬ (y2 = (0 : Int32))) (gl3 : (3 : Int32) < ki → ys.getD 3 (.int 0) = .int y3 ∧ ¬ (y3 = (0 : Int32))) (hk4 : ¬ ((4 : Int32) < ki)) (irk : ¬ (ki < ki)) :
    MetFree l mt22 (head1 (Jvm.Cond.code mt22 prog_11_method_5_code 2 (some (.object "java/lang/String")) :: ws) rm4_0_0_59) (fun aq U => aq = #[.ref fn, .ref xs] ∧ Z.Warmed39 U.vm ∧ U.heap = h0) (fun _ _ _ _ _ => True) (fun _ U o U' => ∃ v L, o = .returned v ∧ Q_own_txtL Z fn xs tt kt zc ki ys y0 y1 y2 y3 h0 n0 v U'.heap L ∧ FrameEnd U o U' L rm4_0_0_59.cells rm4_0_0_59.slots) := by
  refine MetFree.of_bodySF (plainFor_of_name pn_com_example_regent_regent_Input) hisR ?_
  intro p e s m args below meth c s₁ Bd hml0 hP hK
  obtain ⟨rfl, hZ, hh⟩ := hP
  have hx := Bd.exec
  have hby := Bd.bytes
  have hml : c.maxLocals = 2 := hml0
  have hown : s.vm.findClass "com/example/regent/regent/Input" = some m.cls := findClass_of_methodNamed Bd.named
  have hnm := (name_of_methodNamed Bd.named Bd.method).1
  have X0 : Stand p l e rm4_0_0_59 s m #[.ref fn, .ref xs] below meth c s₁ [] 0 0 := Stand.of_body Bd
  have e0 : s₁.heap = h0 := by rw [← hh, Bd.state]; rfl
  have N0 := Fr.nil n0
  have zO := O0.1
  have zO2 := O0.2.1
  have fl_E_xs : h0.size > xs := f0_E_xs.lt
  have fl_F_xs_value : h0.size > xs := f0_F_xs_value.lt
  have fl_F_xs_coder : h0.size > xs := f0_F_xs_coder.lt
  have fl_A_tt : h0.size > tt := f0_A_tt.lt
  refine own_open (own_via (S' := s₁.setTop (mkF m 0 #[.val (.ref fn), .val (.ref xs)] [])) (fun t k => castTop (ef_own_txtL m fn xs) k) ?_)
  have ne_xs_tt : xs ≠ tt := Exa.neArv f0_E_xs f0_A_tt (wd8 hw)
  refine ov s₁ 1 #[.val (.ref fn), .val (.ref xs)] [.ref xs] (fun t k => XS.aloadN X0.here hx rfl (hb hby d9_0) rfl rfl k) ?_
  refine ov s₁ 2 #[.val (.ref fn), .val (.ref xs)] [.int 0, .ref xs] (fun t k => XS.iconst X0.here hx rfl (hb hby d9_1) k) ?_
  obtain ⟨cq1, kq1, q1a, q1b, q1c⟩ := isOf hZ e0 f0_E_xs
  obtain ⟨_, _, ⟨T1, Lp1, kp1, np1⟩, -, X1, ⟨Lc1, hQ1, l1, y1, z1⟩, st1⟩ := X0.virtualBack hx (y := mt21) (z := mt21) hown (mvT hZ (wd47 hw)) (mvT hZ (wd48 hw)) (notFace_of_selects (args := #[]) (mvT hZ (wd50 hw))) (mvT hZ (wd50 hw)) (mvT hZ (wd49 hw)) (by decide) (backOf (W := 0) (own_ixaL l Z a0 hw [] xs tt kt zc ki ys y0 y1 y2 y3 h0 n0 O0 zfC f0_E_xs f0_F_xs_value f0_F_xs_coder f0_A_tt hzc gl0 gl1 gl2 gl3 hk4 irk) hZ (wd51 hw) (wd9 hw) (by decide) (by decide)) q1a q1c (g := (mkF m 2 #[.val (.ref fn), .val (.ref xs)] [.int 0, .ref xs])) rfl (by rw [hml]; rfl) (Steps.refl _) (argsL := [.int 0]) (rest := []) (lenOf pd__I_I_227 rfl) rfl (by show 2 * 0 + _ ≤ _; exact Nat.le_of_eq rfl) (hb hby d9_2) (fun _ _ => ⟨rfl, e0, (by decide : 0 + 0 ≤ _), (by decide : 0 + 0 ≤ _)⟩)
  dsimp only [Pt.U, Pt.locs, Pt.cells, Pt.slots] at X1 l1 y1 z1 st1 hQ1
  subst Lp1 kp1 np1
  obtain ⟨rfl, rfl, e1⟩ := hQ1
  try rw [List.append_nil] at X1
  refine own_tr (S' := T1.setTop (mkF m 5 #[.val (.ref fn), .val (.ref xs)] [(.int (-1))])) st1 ?_
  refine ov T1 15 #[.val (.ref fn), .val (.ref xs)] [] (fun t k => XS.ifYes X1.here hx rfl (pc0 := 5) (pc' := 15) rfl (hb hby d9_5) rfl ((if0 _ _).trans (tlt (by decide : (-1 : Int32) < (0 : Int32))).1) (by decide) (by decide) k) ?_
  refine ov T1 16 #[.val (.ref fn), .val (.ref xs)] [.ref xs] (fun t k => XS.aloadN X1.here hx rfl (hb hby d9_15) rfl rfl k) ?_
  refine own_ret (Q := Q_own_txtL Z fn xs tt kt zc ki ys y0 y1 y2 y3 h0 n0) (C := rm4_0_0_59.cells) (N := rm4_0_0_59.slots) X1 (v := some (.ref xs)) (fun h => by rw [Bd.returns] at h; cases h) Bd.notSynchronized ?_ (by decide) (by decide) (fun fs hr => retOut X1 hx Bd.returns rfl (Or.inr (Or.inr (Or.inr (Or.inr ⟨rfl, rfl, rfl⟩)))) (hb hby d9_16) hr)
  show Q_own_txtL Z fn xs tt kt zc ki ys y0 y1 y2 y3 h0 n0 _ T1.heap _
  rw [e1]
  exact ⟨rfl, rfl, rfl⟩
def Q_own_lenU (Z : State) (xs : Addr) (tt : Addr) (kt : ClassId) (zc : Int32) (ki : Int32) (zl : Int32) (ys : List Value) (h0 : Heap) (n0 : Nat) (v : Option Value) (h : Heap) (L : List Loc) : Prop := v = some (.int ki) ∧ L = [] ∧ h = h0
set_option maxRecDepth 65536 in
set_option maxHeartbeats 40000000 in
theorem own_lenU (l : Launch) (Z : State) (a0 : Array Value) (hw : ∀ d ∈ tables_1, d.before a0 Z = true) (ws : List Jvm.Cond) (xs : Addr) (tt : Addr) (kt : ClassId) (zc : Int32) (ki : Int32) (zl : Int32) (ys : List Value) (h0 : Heap) (n0 : Nat) (O0 : Old Z n0 h0) (zfC : Sta Z Z.heap "java/lang/String" "COMPACT_STRINGS" "Z" (.int zc)) (f0_E_xs : Exa Z h0 xs "java/lang/String") (f0_F_xs_value : Fld Z h0 xs "java/lang/String" "value" "[B" (.ref tt)) (f0_F_xs_coder : Fld Z h0 xs "java/lang/String" "coder" "B" (.int 1)) (f0_A_tt : Arv Z h0 tt kt .byte zl ys (.int 0)) (hzc : ¬ (zc = (0 : Int32))) (hzl : (zl >>> ((1 : Int32) &&& 31)) = ki) :
    MetFree l mt17 (head1 (Jvm.Cond.code mt17 jdk_42_method_54_code 1 (some .int) :: ws) rm1_0_0_13) (fun aq U => aq = #[.ref xs] ∧ Z.Warmed39 U.vm ∧ U.heap = h0) (fun _ _ _ _ _ => True) (fun _ U o U' => ∃ v L, o = .returned v ∧ Q_own_lenU Z xs tt kt zc ki zl ys h0 n0 v U'.heap L ∧ FrameEnd U o U' L rm1_0_0_13.cells rm1_0_0_13.slots) := by
  refine MetFree.of_bodySF (plainFor_of_name pn_java_lang_String) hisR ?_
  intro p e s m args below meth c s₁ Bd hml0 hP hK
  obtain ⟨rfl, hZ, hh⟩ := hP
  have hx := Bd.exec
  have hby := Bd.bytes
  have hml : c.maxLocals = 1 := hml0
  have hown : s.vm.findClass "java/lang/String" = some m.cls := findClass_of_methodNamed Bd.named
  have hnm := (name_of_methodNamed Bd.named Bd.method).1
  have X0 : Stand p l e rm1_0_0_13 s m #[.ref xs] below meth c s₁ [] 0 0 := Stand.of_body Bd
  have e0 : s₁.heap = h0 := by rw [← hh, Bd.state]; rfl
  have N0 := Fr.nil n0
  have zO := O0.1
  have zO2 := O0.2.1
  have fl_E_xs : h0.size > xs := f0_E_xs.lt
  have fl_F_xs_value : h0.size > xs := f0_F_xs_value.lt
  have fl_F_xs_coder : h0.size > xs := f0_F_xs_coder.lt
  have fl_A_tt : h0.size > tt := f0_A_tt.lt
  refine own_open (own_via (S' := s₁.setTop (mkF m 0 #[.val (.ref xs)] [])) (fun t k => castTop (ef_own_lenU m xs) k) ?_)
  have ne_xs_tt : xs ≠ tt := Exa.neArv f0_E_xs f0_A_tt (wd8 hw)
  refine ov s₁ 1 #[.val (.ref xs)] [.ref xs] (fun t k => XS.aloadN X0.here hx rfl (hb hby d13_0) rfl rfl k) ?_
  obtain ⟨T1, X1, e1, st1⟩ := getF X0 hx hZ hown (host := "") (Or.inl (wd26 hw)) Via.refl e0 f0_F_xs_value (g := (mkF m 1 #[.val (.ref xs)] [.ref xs])) rfl rfl (hb hby d13_1)
  refine ov T1 4 #[.val (.ref xs)] [.ref tt] st1 ?_
  obtain ⟨cl2, Ar2, -, S2, N2, -, -⟩ := id f0_A_tt
  refine ov T1 5 #[.val (.ref xs)] [.int zl] (fun t k => X1.arraylength hx (by first | (rw [e1]; exact Ar2.1) | exact Ar2.1) (State.isArrayOf_alike hZ.alike Ar2.2.1) (g := (mkF m 4 #[.val (.ref xs)] [.ref tt])) rfl rfl (hb hby d13_4) _ (by rw [len_of S2 N2]; exact k)) ?_
  refine ov T1 6 #[.val (.ref xs)] [.ref xs, .int zl] (fun t k => XS.aloadN X1.here hx rfl (hb hby d13_5) rfl rfl k) ?_
  obtain ⟨cq3, kq3, q3a, q3b, q3c⟩ := isOf hZ e1 f0_E_xs
  obtain ⟨_, _, ⟨T3, Lp3, kp3, np3⟩, -, X3, ⟨Lc3, hQ3, l3, y3, z3⟩, st3⟩ := X1.virtualBack hx (y := mt11) (z := mt11) hown (mvT hZ (wd67 hw)) (mvT hZ (wd68 hw)) (notFace_of_selects (args := #[]) (mvT hZ (wd70 hw))) (mvT hZ (wd70 hw)) (mvT hZ (wd69 hw)) (by decide) (backOf (W := 1) (own_coder1 l Z a0 hw [] xs zc h0 n0 O0 zfC f0_F_xs_coder hzc) hZ (wd71 hw) (wd9 hw) (by decide) (by decide)) q3a q3c (g := (mkF m 6 #[.val (.ref xs)] [.ref xs, .int zl])) rfl (by rw [hml]; rfl) (Steps.refl _) (argsL := []) (rest := [.int zl]) (lenOf pd___B_147 rfl) rfl (by show 2 * 0 + _ ≤ _; exact Nat.le_of_eq rfl) (hb hby d13_6) (fun _ _ => ⟨rfl, e1, (by decide : 0 + 0 ≤ _), (by decide : 0 + 0 ≤ _)⟩)
  dsimp only [Pt.U, Pt.locs, Pt.cells, Pt.slots] at X3 l3 y3 z3 st3 hQ3
  subst Lp3 kp3 np3
  obtain ⟨rfl, rfl, e3⟩ := hQ3
  try rw [List.append_nil] at X3
  refine own_tr (S' := T3.setTop (mkF m 9 #[.val (.ref xs)] [.int 1, .int zl])) st3 ?_
  refine ov T3 10 #[.val (.ref xs)] [(.int (zl >>> ((1 : Int32) &&& 31)))] (fun t k => XS.ishr X3.here hx rfl (hb hby d13_9) rfl k) ?_
  refine own_ret (Q := Q_own_lenU Z xs tt kt zc ki zl ys h0 n0) (C := rm1_0_0_13.cells) (N := rm1_0_0_13.slots) X3 (v := some (.int (zl >>> ((1 : Int32) &&& 31)))) (fun h => by rw [Bd.returns] at h; cases h) Bd.notSynchronized ?_ (by decide) (by decide) (fun fs hr => retOut X3 hx Bd.returns rfl (Or.inl ⟨rfl, Or.inl rfl, _, rfl⟩) (hb hby d13_10) hr)
  show Q_own_lenU Z xs tt kt zc ki zl ys h0 n0 _ T3.heap _
  rw [e3]
  exact ⟨(congrArg (fun z => some (Value.int z)) hzl), rfl, rfl⟩
def Q_own_ul (Z : State) (tt : Addr) (kt : ClassId) (ki : Int32) (zl : Int32) (ys : List Value) (h0 : Heap) (n0 : Nat) (v : Option Value) (h : Heap) (L : List Loc) : Prop := v = some (.int ki) ∧ L = [] ∧ h = h0
set_option maxRecDepth 65536 in
set_option maxHeartbeats 40000000 in
theorem own_ul (l : Launch) (Z : State) (a0 : Array Value) (hw : ∀ d ∈ tables_1, d.before a0 Z = true) (ws : List Jvm.Cond) (tt : Addr) (kt : ClassId) (ki : Int32) (zl : Int32) (ys : List Value) (h0 : Heap) (n0 : Nat) (O0 : Old Z n0 h0) (f0_A_tt : Arv Z h0 tt kt .byte zl ys (.int 0)) (hzl : (zl >>> ((1 : Int32) &&& 31)) = ki) :
    MetFree l mt23 (head1 (Jvm.Cond.code mt23 jdk_52_method_6_code 1 (some .int) :: ws) rm0_0_0_0) (fun aq U => aq = #[.ref tt] ∧ Z.Warmed39 U.vm ∧ U.heap = h0) (fun _ _ _ _ _ => True) (fun _ U o U' => ∃ v L, o = .returned v ∧ Q_own_ul Z tt kt ki zl ys h0 n0 v U'.heap L ∧ FrameEnd U o U' L rm0_0_0_0.cells rm0_0_0_0.slots) := by
  refine MetFree.of_bodySF (plainFor_of_name pn_java_lang_StringUTF16) hisR ?_
  intro p e s m args below meth c s₁ Bd hml0 hP hK
  obtain ⟨rfl, hZ, hh⟩ := hP
  have hx := Bd.exec
  have hby := Bd.bytes
  have hml : c.maxLocals = 1 := hml0
  have hown : s.vm.findClass "java/lang/StringUTF16" = some m.cls := findClass_of_methodNamed Bd.named
  have hnm := (name_of_methodNamed Bd.named Bd.method).1
  have X0 : Stand p l e rm0_0_0_0 s m #[.ref tt] below meth c s₁ [] 0 0 := Stand.of_body Bd
  have e0 : s₁.heap = h0 := by rw [← hh, Bd.state]; rfl
  have N0 := Fr.nil n0
  have zO := O0.1
  have zO2 := O0.2.1
  have fl_A_tt : h0.size > tt := f0_A_tt.lt
  refine own_open (own_via (S' := s₁.setTop (mkF m 0 #[.val (.ref tt)] [])) (fun t k => castTop (ef_own_ul m tt) k) ?_)
  refine ov s₁ 1 #[.val (.ref tt)] [.ref tt] (fun t k => XS.aloadN X0.here hx rfl (hb hby d32_0) rfl rfl k) ?_
  obtain ⟨cl1, Ar1, -, S1, N1, -, -⟩ := id f0_A_tt
  refine ov s₁ 2 #[.val (.ref tt)] [.int zl] (fun t k => X0.arraylength hx (by first | (rw [e0]; exact Ar1.1) | exact Ar1.1) (State.isArrayOf_alike hZ.alike Ar1.2.1) (g := (mkF m 1 #[.val (.ref tt)] [.ref tt])) rfl rfl (hb hby d32_1) _ (by rw [len_of S1 N1]; exact k)) ?_
  refine ov s₁ 3 #[.val (.ref tt)] [.int 1, .int zl] (fun t k => XS.iconst X0.here hx rfl (hb hby d32_2) k) ?_
  refine ov s₁ 4 #[.val (.ref tt)] [(.int (zl >>> ((1 : Int32) &&& 31)))] (fun t k => XS.ishr X0.here hx rfl (hb hby d32_3) rfl k) ?_
  refine own_ret (Q := Q_own_ul Z tt kt ki zl ys h0 n0) (C := rm0_0_0_0.cells) (N := rm0_0_0_0.slots) X0 (v := some (.int (zl >>> ((1 : Int32) &&& 31)))) (fun h => by rw [Bd.returns] at h; cases h) Bd.notSynchronized ?_ (by decide) (by decide) (fun fs hr => retOut X0 hx Bd.returns rfl (Or.inl ⟨rfl, Or.inl rfl, _, rfl⟩) (hb hby d32_4) hr)
  show Q_own_ul Z tt kt ki zl ys h0 n0 _ s₁.heap _
  rw [e0]
  exact ⟨(congrArg (fun z => some (Value.int z)) hzl), rfl, rfl⟩
def Q_own_uic (Z : State) (tt : Addr) (kt : ClassId) (ki : Int32) (zl : Int32) (ys : List Value) (y0 : Int32) (y1 : Int32) (y2 : Int32) (y3 : Int32) (h0 : Heap) (n0 : Nat) (v : Option Value) (h : Heap) (L : List Loc) : Prop := v = some (.int (-1)) ∧ L = [] ∧ h = h0
set_option maxRecDepth 65536 in
set_option maxHeartbeats 40000000 in
theorem own_uic (l : Launch) (Z : State) (a0 : Array Value) (hw : ∀ d ∈ tables_1, d.before a0 Z = true) (ws : List Jvm.Cond) (tt : Addr) (kt : ClassId) (ki : Int32) (zl : Int32) (ys : List Value) (y0 : Int32) (y1 : Int32) (y2 : Int32) (y3 : Int32) (h0 : Heap) (n0 : Nat) (O0 : Old Z n0 h0) (zf_S_java_lang_StringUTF16__assertionsDisabled : Sta Z Z.heap "java/lang/StringUTF16" "$assertionsDisabled" "Z" (.int 1)) (zf_S_java_lang_StringUTF16_HI_BYTE_SHIFT : Sta Z Z.heap "java/lang/StringUTF16" "HI_BYTE_SHIFT" "I" (.int 0)) (zf_S_java_lang_StringUTF16_LO_BYTE_SHIFT : Sta Z Z.heap "java/lang/StringUTF16" "LO_BYTE_SHIFT" "I" (.int 8)) (f0_A_tt : Arv Z h0 tt kt .byte zl ys (.int 0)) (gu0 : (0 : Int32) < ki → (0 : Int32) < zl ∧ (1 : Int32) < zl ∧ ys.getD 0 (.int 0) = (.int (nar .byte (y0.toInt8.toInt32))) ∧ ys.getD 1 (.int 0) = (.int (nar .byte ((y0 >>> ((8 : Int32) &&& 31)).toInt8.toInt32))) ∧ ¬ y0 < (1 : Int32) ∧ ¬ (65535 : Int32) < y0) (gu1 : (1 : Int32) < ki → (2 : Int32) < zl ∧ (3 : Int32) < zl ∧ ys.getD 2 (.int 0) = (.int (nar .byte (y1.toInt8.toInt32))) ∧ ys.getD 3 (.int 0) = (.int (nar .byte ((y1 >>> ((8 : Int32) &&& 31)).toInt8.toInt32))) ∧ ¬ y1 < (1 : Int32) ∧ ¬ (65535 : Int32) < y1) (gu2 : (2 : Int32) < ki → (4 : Int32) < zl ∧ (5 : Int32) < zl ∧ ys.getD 4 (.int 0) = (.int (nar .byte (y2.toInt8.toInt32))) ∧ ys.getD 5 (.int 0) = (.int (nar .byte ((y2 >>> ((8 : Int32) &&& 31)).toInt8.toInt32))) ∧ ¬ y2 < (1 : Int32) ∧ ¬ (65535 : Int32) < y2) (gu3 : (3 : Int32) < ki → (6 : Int32) < zl ∧ (7 : Int32) < zl ∧ ys.getD 6 (.int 0) = (.int (nar .byte (y3.toInt8.toInt32))) ∧ ys.getD 7 (.int 0) = (.int (nar .byte ((y3 >>> ((8 : Int32) &&& 31)).toInt8.toInt32))) ∧ ¬ y3 < (1 : Int32) ∧ ¬ (65535 : Int32) < y3) (hk4 : ¬ ((4 : Int32) < ki)) :
    MetFree l mt24 (head1 (Jvm.Cond.code mt24 jdk_52_method_48_code 5 (some .int) :: ws) rm1_0_0_13) (fun aq U => aq = #[.ref tt, .int 0, .int 0, .int ki] ∧ Z.Warmed39 U.vm ∧ U.heap = h0) (fun _ _ _ _ _ => True) (fun _ U o U' => ∃ v L, o = .returned v ∧ Q_own_uic Z tt kt ki zl ys y0 y1 y2 y3 h0 n0 v U'.heap L ∧ FrameEnd U o U' L rm1_0_0_13.cells rm1_0_0_13.slots) := by
  refine MetFree.of_bodySF (plainFor_of_name pn_java_lang_StringUTF16) hisR ?_
  intro p e s m args below meth c s₁ Bd hml0 hP hK
  obtain ⟨rfl, hZ, hh⟩ := hP
  have hx := Bd.exec
  have hby := Bd.bytes
  have hml : c.maxLocals = 5 := hml0
  have hown : s.vm.findClass "java/lang/StringUTF16" = some m.cls := findClass_of_methodNamed Bd.named
  have hnm := (name_of_methodNamed Bd.named Bd.method).1
  have X0 : Stand p l e rm1_0_0_13 s m #[.ref tt, .int 0, .int 0, .int ki] below meth c s₁ [] 0 0 := Stand.of_body Bd
  have e0 : s₁.heap = h0 := by rw [← hh, Bd.state]; rfl
  have N0 := Fr.nil n0
  have zO := O0.1
  have zO2 := O0.2.1
  have fl_A_tt : h0.size > tt := f0_A_tt.lt
  refine own_open (own_via (S' := s₁.setTop (mkF m 0 #[.val (.ref tt), .val (.int 0), .val (.int 0), .val (.int ki), .unset] [])) (fun t k => castTop (ef_own_uic m tt (0 : Int32) (0 : Int32) ki) k) ?_)
  refine ov s₁ 1 #[.val (.ref tt), .val (.int 0), .val (.int 0), .val (.int ki), .unset] [.int 0] (fun t k => XS.iloadN X0.here hx rfl (hb hby d35_0) rfl k) ?_
  let A_1 : Array Slot := #[.val (.ref tt), .val (.int 0), .val (.int 0), .val (.int ki), .val (.int 0)]
  refine ov s₁ 3 A_1 [] (fun t k => XS.istore X0.here hx rfl (hb hby d35_1) rfl (l' := A_1) rfl k) ?_
  refine ov s₁ 5 A_1 [.int 0] (fun t k => XS.iload X0.here hx rfl (hb hby d35_3) rfl k) ?_
  refine ov s₁ 6 A_1 [.int ki, .int 0] (fun t k => XS.iloadN X0.here hx rfl (hb hby d35_5) rfl k) ?_
  by_cases hc6_1 : (0 : Int32) < ki
  · -- yes
    refine ov s₁ 9 A_1 [] (fun t k => XS.icmpNo X0.here hx rfl (hb hby d35_6) rfl (tlt hc6_1).2.1 k) ?_
    refine ov s₁ 10 A_1 [.ref tt] (fun t k => XS.aloadN X0.here hx rfl (hb hby d35_9) rfl rfl k) ?_
    refine ov s₁ 12 A_1 [.int 0, .ref tt] (fun t k => XS.iload X0.here hx rfl (hb hby d35_10) rfl k) ?_
    obtain ⟨_, _, ⟨T2, Lp2, kp2, np2⟩, -, X2, ⟨Lc2, hQ2, l2, y2, z2⟩, st2⟩ := Jvm.LawKit.callS X0 hx (y := mt3) hown (mvT hZ (wd120 hw)) (mvT hZ (wd121 hw)) (mvT hZ (wd93 hw)) (mvT hZ (wd122 hw)) (by decide) (backOf (W := 0) (own_gc l Z a0 hw [] tt kt zl ys (0 : Int32) y0 h0 n0 O0 zf_S_java_lang_StringUTF16__assertionsDisabled zf_S_java_lang_StringUTF16_HI_BYTE_SHIFT zf_S_java_lang_StringUTF16_LO_BYTE_SHIFT f0_A_tt (by decide) ((gu0 hc6_1).1) (by decide) ((gu0 hc6_1).2.1) ((gu0 hc6_1).2.2.1) ((gu0 hc6_1).2.2.2.1) ((gu0 hc6_1).2.2.2.2)) hZ (wd122 hw) (wd93 hw) (by decide) (by decide)) (g := (mkF m 12 A_1 [.int 0, .ref tt])) rfl (by rw [hml]; rfl) (argsL := [.ref tt, .int 0]) (rest := []) (lenOf pd___BI_C_378 rfl) rfl (by show 2 * 0 + _ ≤ _; exact Nat.le_of_eq rfl) (hb hby d35_12) (fun _ _ => ⟨rfl, e0, (by decide : 0 + 0 ≤ _), (by decide : 0 + 0 ≤ _)⟩)
    dsimp only [Pt.U, Pt.locs, Pt.cells, Pt.slots] at X2 l2 y2 z2 st2 hQ2
    subst Lp2 kp2 np2
    obtain ⟨rfl, rfl, e2⟩ := hQ2
    try rw [List.append_nil] at X2
    refine ov T2 15 A_1 [.int y0] st2 ?_
    refine ov T2 16 A_1 [.int 0, .int y0] (fun t k => XS.iloadN X2.here hx rfl (hb hby d35_15) rfl k) ?_
    refine ov T2 22 A_1 [] (fun t k => XS.icmpYes X2.here hx rfl (pc0 := 16) (pc' := 22) rfl (hb hby d35_16) rfl (feq (own_vnz (gu0 hc6_1).2.2.2.2)).2 (by decide) (by decide) k) ?_
    let A_2 : Array Slot := #[.val (.ref tt), .val (.int 0), .val (.int 0), .val (.int ki), .val (.int 1)]
    refine ov T2 25 A_2 [] (fun t k => XS.iinc X2.here hx rfl (hb hby d35_22) rfl (l' := A_2) rfl k) ?_
    refine ov T2 3 A_2 [] (fun t k => XS.goto X2.here hx rfl (pc0 := 25) (pc' := 3) rfl (hb hby d35_25) (by decide) (by decide) k) ?_
    refine ov T2 5 A_2 [.int 1] (fun t k => XS.iload X2.here hx rfl (hb hby d35_3) rfl k) ?_
    refine ov T2 6 A_2 [.int ki, .int 1] (fun t k => XS.iloadN X2.here hx rfl (hb hby d35_5) rfl k) ?_
    by_cases hc6_3 : (1 : Int32) < ki
    · -- yes
      refine ov T2 9 A_2 [] (fun t k => XS.icmpNo X2.here hx rfl (hb hby d35_6) rfl (tlt hc6_3).2.1 k) ?_
      refine ov T2 10 A_2 [.ref tt] (fun t k => XS.aloadN X2.here hx rfl (hb hby d35_9) rfl rfl k) ?_
      refine ov T2 12 A_2 [.int 1, .ref tt] (fun t k => XS.iload X2.here hx rfl (hb hby d35_10) rfl k) ?_
      obtain ⟨_, _, ⟨T4, Lp4, kp4, np4⟩, -, X4, ⟨Lc4, hQ4, l4, y4, z4⟩, st4⟩ := Jvm.LawKit.callS X2 hx (y := mt3) hown (mvT hZ (wd120 hw)) (mvT hZ (wd121 hw)) (mvT hZ (wd93 hw)) (mvT hZ (wd122 hw)) (by decide) (backOf (W := 0) (own_gc l Z a0 hw [] tt kt zl ys (1 : Int32) y1 h0 n0 O0 zf_S_java_lang_StringUTF16__assertionsDisabled zf_S_java_lang_StringUTF16_HI_BYTE_SHIFT zf_S_java_lang_StringUTF16_LO_BYTE_SHIFT f0_A_tt (by decide) ((gu1 hc6_3).1) (by decide) ((gu1 hc6_3).2.1) ((gu1 hc6_3).2.2.1) ((gu1 hc6_3).2.2.2.1) ((gu1 hc6_3).2.2.2.2)) hZ (wd122 hw) (wd93 hw) (by decide) (by decide)) (g := (mkF m 12 A_2 [.int 1, .ref tt])) rfl (by rw [hml]; rfl) (argsL := [.ref tt, .int 1]) (rest := []) (lenOf pd___BI_C_378 rfl) rfl (by show 2 * 0 + _ ≤ _; exact Nat.le_of_eq rfl) (hb hby d35_12) (fun _ _ => ⟨rfl, e2, (by decide : 0 + 0 ≤ _), (by decide : 0 + 0 ≤ _)⟩)
      dsimp only [Pt.U, Pt.locs, Pt.cells, Pt.slots] at X4 l4 y4 z4 st4 hQ4
      subst Lp4 kp4 np4
      obtain ⟨rfl, rfl, e4⟩ := hQ4
      try rw [List.append_nil] at X4
      refine ov T4 15 A_2 [.int y1] st4 ?_
      refine ov T4 16 A_2 [.int 0, .int y1] (fun t k => XS.iloadN X4.here hx rfl (hb hby d35_15) rfl k) ?_
      refine ov T4 22 A_2 [] (fun t k => XS.icmpYes X4.here hx rfl (pc0 := 16) (pc' := 22) rfl (hb hby d35_16) rfl (feq (own_vnz (gu1 hc6_3).2.2.2.2)).2 (by decide) (by decide) k) ?_
      let A_3 : Array Slot := #[.val (.ref tt), .val (.int 0), .val (.int 0), .val (.int ki), .val (.int 2)]
      refine ov T4 25 A_3 [] (fun t k => XS.iinc X4.here hx rfl (hb hby d35_22) rfl (l' := A_3) rfl k) ?_
      refine ov T4 3 A_3 [] (fun t k => XS.goto X4.here hx rfl (pc0 := 25) (pc' := 3) rfl (hb hby d35_25) (by decide) (by decide) k) ?_
      refine ov T4 5 A_3 [.int 2] (fun t k => XS.iload X4.here hx rfl (hb hby d35_3) rfl k) ?_
      refine ov T4 6 A_3 [.int ki, .int 2] (fun t k => XS.iloadN X4.here hx rfl (hb hby d35_5) rfl k) ?_
      by_cases hc6_5 : (2 : Int32) < ki
      · -- yes
        refine ov T4 9 A_3 [] (fun t k => XS.icmpNo X4.here hx rfl (hb hby d35_6) rfl (tlt hc6_5).2.1 k) ?_
        refine ov T4 10 A_3 [.ref tt] (fun t k => XS.aloadN X4.here hx rfl (hb hby d35_9) rfl rfl k) ?_
        refine ov T4 12 A_3 [.int 2, .ref tt] (fun t k => XS.iload X4.here hx rfl (hb hby d35_10) rfl k) ?_
        obtain ⟨_, _, ⟨T6, Lp6, kp6, np6⟩, -, X6, ⟨Lc6, hQ6, l6, y6, z6⟩, st6⟩ := Jvm.LawKit.callS X4 hx (y := mt3) hown (mvT hZ (wd120 hw)) (mvT hZ (wd121 hw)) (mvT hZ (wd93 hw)) (mvT hZ (wd122 hw)) (by decide) (backOf (W := 0) (own_gc l Z a0 hw [] tt kt zl ys (2 : Int32) y2 h0 n0 O0 zf_S_java_lang_StringUTF16__assertionsDisabled zf_S_java_lang_StringUTF16_HI_BYTE_SHIFT zf_S_java_lang_StringUTF16_LO_BYTE_SHIFT f0_A_tt (by decide) ((gu2 hc6_5).1) (by decide) ((gu2 hc6_5).2.1) ((gu2 hc6_5).2.2.1) ((gu2 hc6_5).2.2.2.1) ((gu2 hc6_5).2.2.2.2)) hZ (wd122 hw) (wd93 hw) (by decide) (by decide)) (g := (mkF m 12 A_3 [.int 2, .ref tt])) rfl (by rw [hml]; rfl) (argsL := [.ref tt, .int 2]) (rest := []) (lenOf pd___BI_C_378 rfl) rfl (by show 2 * 0 + _ ≤ _; exact Nat.le_of_eq rfl) (hb hby d35_12) (fun _ _ => ⟨rfl, e4, (by decide : 0 + 0 ≤ _), (by decide : 0 + 0 ≤ _)⟩)
        dsimp only [Pt.U, Pt.locs, Pt.cells, Pt.slots] at X6 l6 y6 z6 st6 hQ6
        subst Lp6 kp6 np6
        obtain ⟨rfl, rfl, e6⟩ := hQ6
        try rw [List.append_nil] at X6
        refine ov T6 15 A_3 [.int y2] st6 ?_
        refine ov T6 16 A_3 [.int 0, .int y2] (fun t k => XS.iloadN X6.here hx rfl (hb hby d35_15) rfl k) ?_
        refine ov T6 22 A_3 [] (fun t k => XS.icmpYes X6.here hx rfl (pc0 := 16) (pc' := 22) rfl (hb hby d35_16) rfl (feq (own_vnz (gu2 hc6_5).2.2.2.2)).2 (by decide) (by decide) k) ?_
        let A_4 : Array Slot := #[.val (.ref tt), .val (.int 0), .val (.int 0), .val (.int ki), .val (.int 3)]
        refine ov T6 25 A_4 [] (fun t k => XS.iinc X6.here hx rfl (hb hby d35_22) rfl (l' := A_4) rfl k) ?_
        refine ov T6 3 A_4 [] (fun t k => XS.goto X6.here hx rfl (pc0 := 25) (pc' := 3) rfl (hb hby d35_25) (by decide) (by decide) k) ?_
        refine ov T6 5 A_4 [.int 3] (fun t k => XS.iload X6.here hx rfl (hb hby d35_3) rfl k) ?_
        refine ov T6 6 A_4 [.int ki, .int 3] (fun t k => XS.iloadN X6.here hx rfl (hb hby d35_5) rfl k) ?_
        by_cases hc6_7 : (3 : Int32) < ki
        · -- yes
          refine ov T6 9 A_4 [] (fun t k => XS.icmpNo X6.here hx rfl (hb hby d35_6) rfl (tlt hc6_7).2.1 k) ?_
          refine ov T6 10 A_4 [.ref tt] (fun t k => XS.aloadN X6.here hx rfl (hb hby d35_9) rfl rfl k) ?_
          refine ov T6 12 A_4 [.int 3, .ref tt] (fun t k => XS.iload X6.here hx rfl (hb hby d35_10) rfl k) ?_
          obtain ⟨_, _, ⟨T8, Lp8, kp8, np8⟩, -, X8, ⟨Lc8, hQ8, l8, y8, z8⟩, st8⟩ := Jvm.LawKit.callS X6 hx (y := mt3) hown (mvT hZ (wd120 hw)) (mvT hZ (wd121 hw)) (mvT hZ (wd93 hw)) (mvT hZ (wd122 hw)) (by decide) (backOf (W := 0) (own_gc l Z a0 hw [] tt kt zl ys (3 : Int32) y3 h0 n0 O0 zf_S_java_lang_StringUTF16__assertionsDisabled zf_S_java_lang_StringUTF16_HI_BYTE_SHIFT zf_S_java_lang_StringUTF16_LO_BYTE_SHIFT f0_A_tt (by decide) ((gu3 hc6_7).1) (by decide) ((gu3 hc6_7).2.1) ((gu3 hc6_7).2.2.1) ((gu3 hc6_7).2.2.2.1) ((gu3 hc6_7).2.2.2.2)) hZ (wd122 hw) (wd93 hw) (by decide) (by decide)) (g := (mkF m 12 A_4 [.int 3, .ref tt])) rfl (by rw [hml]; rfl) (argsL := [.ref tt, .int 3]) (rest := []) (lenOf pd___BI_C_378 rfl) rfl (by show 2 * 0 + _ ≤ _; exact Nat.le_of_eq rfl) (hb hby d35_12) (fun _ _ => ⟨rfl, e6, (by decide : 0 + 0 ≤ _), (by decide : 0 + 0 ≤ _)⟩)
          dsimp only [Pt.U, Pt.locs, Pt.cells, Pt.slots] at X8 l8 y8 z8 st8 hQ8
          subst Lp8 kp8 np8
          obtain ⟨rfl, rfl, e8⟩ := hQ8
          try rw [List.append_nil] at X8
          refine ov T8 15 A_4 [.int y3] st8 ?_
          refine ov T8 16 A_4 [.int 0, .int y3] (fun t k => XS.iloadN X8.here hx rfl (hb hby d35_15) rfl k) ?_
          refine ov T8 22 A_4 [] (fun t k => XS.icmpYes X8.here hx rfl (pc0 := 16) (pc' := 22) rfl (hb hby d35_16) rfl (feq (own_vnz (gu3 hc6_7).2.2.2.2)).2 (by decide) (by decide) k) ?_
          let A_5 : Array Slot := #[.val (.ref tt), .val (.int 0), .val (.int 0), .val (.int ki), .val (.int 4)]
          refine ov T8 25 A_5 [] (fun t k => XS.iinc X8.here hx rfl (hb hby d35_22) rfl (l' := A_5) rfl k) ?_
          refine ov T8 3 A_5 [] (fun t k => XS.goto X8.here hx rfl (pc0 := 25) (pc' := 3) rfl (hb hby d35_25) (by decide) (by decide) k) ?_
          refine ov T8 5 A_5 [.int 4] (fun t k => XS.iload X8.here hx rfl (hb hby d35_3) rfl k) ?_
          refine ov T8 6 A_5 [.int ki, .int 4] (fun t k => XS.iloadN X8.here hx rfl (hb hby d35_5) rfl k) ?_
          refine ov T8 28 A_5 [] (fun t k => XS.icmpYes X8.here hx rfl (pc0 := 6) (pc' := 28) rfl (hb hby d35_6) rfl (flt hk4).2.1 (by decide) (by decide) k) ?_
          refine ov T8 29 A_5 [(.int (-1))] (fun t k => XS.iconst X8.here hx rfl (hb hby d35_28) k) ?_
          refine own_ret (Q := Q_own_uic Z tt kt ki zl ys y0 y1 y2 y3 h0 n0) (C := rm1_0_0_13.cells) (N := rm1_0_0_13.slots) X8 (v := some (.int (-1))) (fun h => by rw [Bd.returns] at h; cases h) Bd.notSynchronized ?_ (by decide) (by decide) (fun fs hr => retOut X8 hx Bd.returns rfl (Or.inl ⟨rfl, Or.inl rfl, _, rfl⟩) (hb hby d35_29) hr)
          show Q_own_uic Z tt kt ki zl ys y0 y1 y2 y3 h0 n0 _ T8.heap _
          rw [e8]
          exact ⟨rfl, rfl, rfl⟩
        · -- no
          refine ov T6 28 A_4 [] (fun t k => XS.icmpYes X6.here hx rfl (pc0 := 6) (pc' := 28) rfl (hb hby d35_6) rfl (flt hc6_7).2.1 (by decide) (by decide) k) ?_
          refine ov T6 29 A_4 [(.int (-1))] (fun t k => XS.iconst X6.here hx rfl (hb hby d35_28) k) ?_
          refine own_ret (Q := Q_own_uic Z tt kt ki zl ys y0 y1 y2 y3 h0 n0) (C := rm1_0_0_13.cells) (N := rm1_0_0_13.slots) X6 (v := some (.int (-1))) (fun h => by rw [Bd.returns] at h; cases h) Bd.notSynchronized ?_ (by decide) (by decide) (fun fs hr => retOut X6 hx Bd.returns rfl (Or.inl ⟨rfl, Or.inl rfl, _, rfl⟩) (hb hby d35_29) hr)
          show Q_own_uic Z tt kt ki zl ys y0 y1 y2 y3 h0 n0 _ T6.heap _
          rw [e6]
          exact ⟨rfl, rfl, rfl⟩
      · -- no
        refine ov T4 28 A_3 [] (fun t k => XS.icmpYes X4.here hx rfl (pc0 := 6) (pc' := 28) rfl (hb hby d35_6) rfl (flt hc6_5).2.1 (by decide) (by decide) k) ?_
        refine ov T4 29 A_3 [(.int (-1))] (fun t k => XS.iconst X4.here hx rfl (hb hby d35_28) k) ?_
        refine own_ret (Q := Q_own_uic Z tt kt ki zl ys y0 y1 y2 y3 h0 n0) (C := rm1_0_0_13.cells) (N := rm1_0_0_13.slots) X4 (v := some (.int (-1))) (fun h => by rw [Bd.returns] at h; cases h) Bd.notSynchronized ?_ (by decide) (by decide) (fun fs hr => retOut X4 hx Bd.returns rfl (Or.inl ⟨rfl, Or.inl rfl, _, rfl⟩) (hb hby d35_29) hr)
        show Q_own_uic Z tt kt ki zl ys y0 y1 y2 y3 h0 n0 _ T4.heap _
        rw [e4]
        exact ⟨rfl, rfl, rfl⟩
    · -- no
      refine ov T2 28 A_2 [] (fun t k => XS.icmpYes X2.here hx rfl (pc0 := 6) (pc' := 28) rfl (hb hby d35_6) rfl (flt hc6_3).2.1 (by decide) (by decide) k) ?_
      refine ov T2 29 A_2 [(.int (-1))] (fun t k => XS.iconst X2.here hx rfl (hb hby d35_28) k) ?_
      refine own_ret (Q := Q_own_uic Z tt kt ki zl ys y0 y1 y2 y3 h0 n0) (C := rm1_0_0_13.cells) (N := rm1_0_0_13.slots) X2 (v := some (.int (-1))) (fun h => by rw [Bd.returns] at h; cases h) Bd.notSynchronized ?_ (by decide) (by decide) (fun fs hr => retOut X2 hx Bd.returns rfl (Or.inl ⟨rfl, Or.inl rfl, _, rfl⟩) (hb hby d35_29) hr)
      show Q_own_uic Z tt kt ki zl ys y0 y1 y2 y3 h0 n0 _ T2.heap _
      rw [e2]
      exact ⟨rfl, rfl, rfl⟩
  · -- no
    refine ov s₁ 28 A_1 [] (fun t k => XS.icmpYes X0.here hx rfl (pc0 := 6) (pc' := 28) rfl (hb hby d35_6) rfl (flt hc6_1).2.1 (by decide) (by decide) k) ?_
    refine ov s₁ 29 A_1 [(.int (-1))] (fun t k => XS.iconst X0.here hx rfl (hb hby d35_28) k) ?_
    refine own_ret (Q := Q_own_uic Z tt kt ki zl ys y0 y1 y2 y3 h0 n0) (C := rm1_0_0_13.cells) (N := rm1_0_0_13.slots) X0 (v := some (.int (-1))) (fun h => by rw [Bd.returns] at h; cases h) Bd.notSynchronized ?_ (by decide) (by decide) (fun fs hr => retOut X0 hx Bd.returns rfl (Or.inl ⟨rfl, Or.inl rfl, _, rfl⟩) (hb hby d35_29) hr)
    show Q_own_uic Z tt kt ki zl ys y0 y1 y2 y3 h0 n0 _ s₁.heap _
    rw [e0]
    exact ⟨rfl, rfl, rfl⟩
def Q_own_ucb (Z : State) (tt : Addr) (kt : ClassId) (ki : Int32) (zl : Int32) (ys : List Value) (fm : Value) (h0 : Heap) (n0 : Nat) (v : Option Value) (h : Heap) (L : List Loc) : Prop := v = none ∧ L = [] ∧ h = h0
set_option maxRecDepth 65536 in
set_option maxHeartbeats 40000000 in
theorem own_ucb (l : Launch) (Z : State) (a0 : Array Value) (hw : ∀ d ∈ tables_1, d.before a0 Z = true) (ws : List Jvm.Cond) (tt : Addr) (kt : ClassId) (ki : Int32) (zl : Int32) (ys : List Value) (fm : Value) (h0 : Heap) (n0 : Nat) (O0 : Old Z n0 h0) (zf_S_jdk_internal_util_Preconditions_SIOOBE_FORMATTER : Sta Z Z.heap "jdk/internal/util/Preconditions" "SIOOBE_FORMATTER" "Ljava/util/function/BiFunction;" fm) (f0_A_tt : Arv Z h0 tt kt .byte zl ys (.int 0)) (rfm : fm.isRef = true) (hzl : (zl >>> ((1 : Int32) &&& 31)) = ki) (hk0 : ¬ (ki < (0 : Int32))) (irk : ¬ (ki < ki)) :
    MetFree l mt25 (head1 (Jvm.Cond.code mt25 jdk_52_method_93_code 3 none :: ws) rm2_0_0_29) (fun aq U => aq = #[.int 0, .int ki, .ref tt] ∧ Z.Warmed39 U.vm ∧ U.heap = h0) (fun _ _ _ _ _ => True) (fun _ U o U' => ∃ v L, o = .returned v ∧ Q_own_ucb Z tt kt ki zl ys fm h0 n0 v U'.heap L ∧ FrameEnd U o U' L rm2_0_0_29.cells rm2_0_0_29.slots) := by
  refine MetFree.of_bodySF (plainFor_of_name pn_java_lang_StringUTF16) hisR ?_
  intro p e s m args below meth c s₁ Bd hml0 hP hK
  obtain ⟨rfl, hZ, hh⟩ := hP
  have hx := Bd.exec
  have hby := Bd.bytes
  have hml : c.maxLocals = 3 := hml0
  have hown : s.vm.findClass "java/lang/StringUTF16" = some m.cls := findClass_of_methodNamed Bd.named
  have hnm := (name_of_methodNamed Bd.named Bd.method).1
  have X0 : Stand p l e rm2_0_0_29 s m #[.int 0, .int ki, .ref tt] below meth c s₁ [] 0 0 := Stand.of_body Bd
  have e0 : s₁.heap = h0 := by rw [← hh, Bd.state]; rfl
  have N0 := Fr.nil n0
  have zO := O0.1
  have zO2 := O0.2.1
  have fl_A_tt : h0.size > tt := f0_A_tt.lt
  refine own_open (own_via (S' := s₁.setTop (mkF m 0 #[.val (.int 0), .val (.int ki), .val (.ref tt)] [])) (fun t k => castTop (ef_own_ucb m (0 : Int32) ki tt) k) ?_)
  refine ov s₁ 1 #[.val (.int 0), .val (.int ki), .val (.ref tt)] [.int 0] (fun t k => XS.iloadN X0.here hx rfl (hb hby d31_0) rfl k) ?_
  refine ov s₁ 2 #[.val (.int 0), .val (.int ki), .val (.ref tt)] [.int ki, .int 0] (fun t k => XS.iloadN X0.here hx rfl (hb hby d31_1) rfl k) ?_
  refine ov s₁ 3 #[.val (.int 0), .val (.int ki), .val (.ref tt)] [.ref tt, .int ki, .int 0] (fun t k => XS.aloadN X0.here hx rfl (hb hby d31_2) rfl rfl k) ?_
  obtain ⟨_, _, ⟨T1, Lp1, kp1, np1⟩, -, X1, ⟨Lc1, hQ1, l1, y1, z1⟩, st1⟩ := Jvm.LawKit.callS X0 hx (y := mt23) hown (mvT hZ (wd135 hw)) (mvT hZ (wd136 hw)) (mvT hZ (wd93 hw)) (mvT hZ (wd137 hw)) (by decide) (backOf (W := 2) (own_ul l Z a0 hw [] tt kt ki zl ys h0 n0 O0 f0_A_tt hzl) hZ (wd137 hw) (wd93 hw) (by decide) (by decide)) (g := (mkF m 3 #[.val (.int 0), .val (.int ki), .val (.ref tt)] [.ref tt, .int ki, .int 0])) rfl (by rw [hml]; rfl) (argsL := [.ref tt]) (rest := [.int ki, .int 0]) (lenOf pd___B_I_311 rfl) rfl (by show 2 * 0 + _ ≤ _; exact Nat.le_of_eq rfl) (hb hby d31_3) (fun _ _ => ⟨rfl, e0, (by decide : 0 + 0 ≤ _), (by decide : 0 + 0 ≤ _)⟩)
  dsimp only [Pt.U, Pt.locs, Pt.cells, Pt.slots] at X1 l1 y1 z1 st1 hQ1
  subst Lp1 kp1 np1
  obtain ⟨rfl, rfl, e1⟩ := hQ1
  try rw [List.append_nil] at X1
  refine ov T1 6 #[.val (.int 0), .val (.int ki), .val (.ref tt)] [.int ki, .int ki, .int 0] st1 ?_
  obtain ⟨_, _, ⟨T2, Lp2, kp2, np2⟩, -, X2, ⟨Lc2, hQ2, l2, y2, z2⟩, st2⟩ := Jvm.LawKit.callS X1 hx (y := mt16) hown (mvT hZ (wd138 hw)) (mvT hZ (wd139 hw)) (mvT hZ (wd9 hw)) (mvT hZ (wd140 hw)) (by decide) (backOf (W := 0) (own_cbs l Z a0 hw [] ki fm h0 n0 O0 zf_S_jdk_internal_util_Preconditions_SIOOBE_FORMATTER rfm hk0 irk) hZ (wd140 hw) (wd9 hw) (by decide) (by decide)) (g := (mkF m 6 #[.val (.int 0), .val (.int ki), .val (.ref tt)] [.int ki, .int ki, .int 0])) rfl (by rw [hml]; rfl) (argsL := [.int 0, .int ki, .int ki]) (rest := []) (lenOf pd__III_V_386 rfl) rfl (by show 2 * 0 + _ ≤ _; exact Nat.le_of_eq rfl) (hb hby d31_6) (fun _ _ => ⟨rfl, e1, (by decide : 0 + 0 ≤ _), (by decide : 0 + 0 ≤ _)⟩)
  dsimp only [Pt.U, Pt.locs, Pt.cells, Pt.slots] at X2 l2 y2 z2 st2 hQ2
  subst Lp2 kp2 np2
  obtain ⟨rfl, rfl, e2⟩ := hQ2
  try rw [List.append_nil] at X2
  refine ov T2 9 #[.val (.int 0), .val (.int ki), .val (.ref tt)] [] st2 ?_
  refine own_ret (Q := Q_own_ucb Z tt kt ki zl ys fm h0 n0) (C := rm2_0_0_29.cells) (N := rm2_0_0_29.slots) X2 (v := none) (fun _ => rfl) Bd.notSynchronized ?_ (by decide) (by decide) (fun fs hr => X2.returnOut hx Bd.returns (hb hby d31_9) hr)
  show Q_own_ucb Z tt kt ki zl ys fm h0 n0 _ T2.heap _
  rw [e2]
  exact ⟨rfl, rfl, rfl⟩
def Q_own_uch (Z : State) (tt : Addr) (kt : ClassId) (ki : Int32) (zl : Int32) (ys : List Value) (y0 : Int32) (y1 : Int32) (y2 : Int32) (y3 : Int32) (fm : Value) (h0 : Heap) (n0 : Nat) (v : Option Value) (h : Heap) (L : List Loc) : Prop := v = some (.int (-1)) ∧ L = [] ∧ h = h0
set_option maxRecDepth 65536 in
set_option maxHeartbeats 40000000 in
theorem own_uch (l : Launch) (Z : State) (a0 : Array Value) (hw : ∀ d ∈ tables_1, d.before a0 Z = true) (ws : List Jvm.Cond) (tt : Addr) (kt : ClassId) (ki : Int32) (zl : Int32) (ys : List Value) (y0 : Int32) (y1 : Int32) (y2 : Int32) (y3 : Int32) (fm : Value) (h0 : Heap) (n0 : Nat) (O0 : Old Z n0 h0) (zf_S_java_lang_StringUTF16__assertionsDisabled : Sta Z Z.heap "java/lang/StringUTF16" "$assertionsDisabled" "Z" (.int 1)) (zf_S_java_lang_StringUTF16_HI_BYTE_SHIFT : Sta Z Z.heap "java/lang/StringUTF16" "HI_BYTE_SHIFT" "I" (.int 0)) (zf_S_java_lang_StringUTF16_LO_BYTE_SHIFT : Sta Z Z.heap "java/lang/StringUTF16" "LO_BYTE_SHIFT" "I" (.int 8)) (zf_S_jdk_internal_util_Preconditions_SIOOBE_FORMATTER : Sta Z Z.heap "jdk/internal/util/Preconditions" "SIOOBE_FORMATTER" "Ljava/util/function/BiFunction;" fm) (f0_A_tt : Arv Z h0 tt kt .byte zl ys (.int 0)) (rfm : fm.isRef = true) (gu0 : (0 : Int32) < ki → (0 : Int32) < zl ∧ (1 : Int32) < zl ∧ ys.getD 0 (.int 0) = (.int (nar .byte (y0.toInt8.toInt32))) ∧ ys.getD 1 (.int 0) = (.int (nar .byte ((y0 >>> ((8 : Int32) &&& 31)).toInt8.toInt32))) ∧ ¬ y0 < (1 : Int32) ∧ ¬ (65535 : Int32) < y0) (gu1 : (1 : Int32) < ki → (2 : Int32) < zl ∧ (3 : Int32) < zl ∧ ys.getD 2 (.int 0) = (.int (nar .byte (y1.toInt8.toInt32))) ∧ ys.getD 3 (.int 0) = (.int (nar .byte ((y1 >>> ((8 : Int32) &&& 31)).toInt8.toInt32))) ∧ ¬ y1 < (1 : Int32) ∧ ¬ (65535 : Int32) < y1) (gu2 : (2 : Int32) < ki → (4 : Int32) < zl ∧ (5 : Int32) < zl ∧ ys.getD 4 (.int 0) = (.int (nar .byte (y2.toInt8.toInt32))) ∧ ys.getD 5 (.int 0) = (.int (nar .byte ((y2 >>> ((8 : Int32) &&& 31)).toInt8.toInt32))) ∧ ¬ y2 < (1 : Int32) ∧ ¬ (65535 : Int32) < y2) (gu3 : (3 : Int32) < ki → (6 : Int32) < zl ∧ (7 : Int32) < zl ∧ ys.getD 6 (.int 0) = (.int (nar .byte (y3.toInt8.toInt32))) ∧ ys.getD 7 (.int 0) = (.int (nar .byte ((y3 >>> ((8 : Int32) &&& 31)).toInt8.toInt32))) ∧ ¬ y3 < (1 : Int32) ∧ ¬ (65535 : Int32) < y3) (hk4 : ¬ ((4 : Int32) < ki)) (hzl : (zl >>> ((1 : Int32) &&& 31)) = ki) (hk0 : ¬ (ki < (0 : Int32))) (irk : ¬ (ki < ki)) :
    MetFree l mt26 (head1 (Jvm.Cond.code mt26 jdk_52_method_47_code 4 (some .int) :: ws) rm3_0_0_43) (fun aq U => aq = #[.ref tt, .int 0, .int 0, .int ki] ∧ Z.Warmed39 U.vm ∧ U.heap = h0) (fun _ _ _ _ _ => True) (fun _ U o U' => ∃ v L, o = .returned v ∧ Q_own_uch Z tt kt ki zl ys y0 y1 y2 y3 fm h0 n0 v U'.heap L ∧ FrameEnd U o U' L rm3_0_0_43.cells rm3_0_0_43.slots) := by
  refine MetFree.of_bodySF (plainFor_of_name pn_java_lang_StringUTF16) hisR ?_
  intro p e s m args below meth c s₁ Bd hml0 hP hK
  obtain ⟨rfl, hZ, hh⟩ := hP
  have hx := Bd.exec
  have hby := Bd.bytes
  have hml : c.maxLocals = 4 := hml0
  have hown : s.vm.findClass "java/lang/StringUTF16" = some m.cls := findClass_of_methodNamed Bd.named
  have hnm := (name_of_methodNamed Bd.named Bd.method).1
  have X0 : Stand p l e rm3_0_0_43 s m #[.ref tt, .int 0, .int 0, .int ki] below meth c s₁ [] 0 0 := Stand.of_body Bd
  have e0 : s₁.heap = h0 := by rw [← hh, Bd.state]; rfl
  have N0 := Fr.nil n0
  have zO := O0.1
  have zO2 := O0.2.1
  have fl_A_tt : h0.size > tt := f0_A_tt.lt
  refine own_open (own_via (S' := s₁.setTop (mkF m 0 #[.val (.ref tt), .val (.int 0), .val (.int 0), .val (.int ki)] [])) (fun t k => castTop (ef_own_uch m tt (0 : Int32) (0 : Int32) ki) k) ?_)
  let A_1 : Array Slot := #[.val (.ref tt), .val (.int 0), .val (.int 0), .val (.int ki)]
  refine ov s₁ 1 A_1 [.int 0] (fun t k => XS.iloadN X0.here hx rfl (hb hby d30_0) rfl k) ?_
  refine ov s₁ 2 A_1 [.int ki, .int 0] (fun t k => XS.iloadN X0.here hx rfl (hb hby d30_1) rfl k) ?_
  refine ov s₁ 3 A_1 [.ref tt, .int ki, .int 0] (fun t k => XS.aloadN X0.here hx rfl (hb hby d30_2) rfl rfl k) ?_
  obtain ⟨_, _, ⟨T1, Lp1, kp1, np1⟩, -, X1, ⟨Lc1, hQ1, l1, y1, z1⟩, st1⟩ := Jvm.LawKit.callS X0 hx (y := mt25) hown (mvT hZ (wd132 hw)) (mvT hZ (wd133 hw)) (mvT hZ (wd93 hw)) (mvT hZ (wd134 hw)) (by decide) (backOf (W := 0) (own_ucb l Z a0 hw [] tt kt ki zl ys fm h0 n0 O0 zf_S_jdk_internal_util_Preconditions_SIOOBE_FORMATTER f0_A_tt rfm hzl hk0 irk) hZ (wd134 hw) (wd93 hw) (by decide) (by decide)) (g := (mkF m 3 A_1 [.ref tt, .int ki, .int 0])) rfl (by rw [hml]; rfl) (argsL := [.int 0, .int ki, .ref tt]) (rest := []) (lenOf pd__II_B_V_470 rfl) rfl (by show 2 * 0 + _ ≤ _; exact Nat.le_of_eq rfl) (hb hby d30_3) (fun _ _ => ⟨rfl, e0, (by decide : 0 + 0 ≤ _), (by decide : 0 + 0 ≤ _)⟩)
  dsimp only [Pt.U, Pt.locs, Pt.cells, Pt.slots] at X1 l1 y1 z1 st1 hQ1
  subst Lp1 kp1 np1
  obtain ⟨rfl, rfl, e1⟩ := hQ1
  try rw [List.append_nil] at X1
  refine ov T1 6 A_1 [] st1 ?_
  refine ov T1 7 A_1 [.ref tt] (fun t k => XS.aloadN X1.here hx rfl (hb hby d30_6) rfl rfl k) ?_
  refine ov T1 8 A_1 [.int 0, .ref tt] (fun t k => XS.iloadN X1.here hx rfl (hb hby d30_7) rfl k) ?_
  refine ov T1 9 A_1 [.int 0, .int 0, .ref tt] (fun t k => XS.iloadN X1.here hx rfl (hb hby d30_8) rfl k) ?_
  refine ov T1 10 A_1 [.int ki, .int 0, .int 0, .ref tt] (fun t k => XS.iloadN X1.here hx rfl (hb hby d30_9) rfl k) ?_
  obtain ⟨_, _, ⟨T2, Lp2, kp2, np2⟩, -, X2, ⟨Lc2, hQ2, l2, y2, z2⟩, st2⟩ := Jvm.LawKit.callS X1 hx (y := mt24) hown (mvT hZ (wd146 hw)) (mvT hZ (wd147 hw)) (mvT hZ (wd93 hw)) (mvT hZ (wd148 hw)) (by decide) (backOf (W := 0) (own_uic l Z a0 hw [] tt kt ki zl ys y0 y1 y2 y3 h0 n0 O0 zf_S_java_lang_StringUTF16__assertionsDisabled zf_S_java_lang_StringUTF16_HI_BYTE_SHIFT zf_S_java_lang_StringUTF16_LO_BYTE_SHIFT f0_A_tt gu0 gu1 gu2 gu3 hk4) hZ (wd148 hw) (wd93 hw) (by decide) (by decide)) (g := (mkF m 10 A_1 [.int ki, .int 0, .int 0, .ref tt])) rfl (by rw [hml]; rfl) (argsL := [.ref tt, .int 0, .int 0, .int ki]) (rest := []) (lenOf pd___BIII_I_530 rfl) rfl (by show 2 * 0 + _ ≤ _; exact Nat.le_of_eq rfl) (hb hby d30_10) (fun _ _ => ⟨rfl, e1, (by decide : 0 + 0 ≤ _), (by decide : 0 + 0 ≤ _)⟩)
  dsimp only [Pt.U, Pt.locs, Pt.cells, Pt.slots] at X2 l2 y2 z2 st2 hQ2
  subst Lp2 kp2 np2
  obtain ⟨rfl, rfl, e2⟩ := hQ2
  try rw [List.append_nil] at X2
  refine ov T2 13 A_1 [(.int (-1))] st2 ?_
  refine own_ret (Q := Q_own_uch Z tt kt ki zl ys y0 y1 y2 y3 fm h0 n0) (C := rm3_0_0_43.cells) (N := rm3_0_0_43.slots) X2 (v := some (.int (-1))) (fun h => by rw [Bd.returns] at h; cases h) Bd.notSynchronized ?_ (by decide) (by decide) (fun fs hr => retOut X2 hx Bd.returns rfl (Or.inl ⟨rfl, Or.inl rfl, _, rfl⟩) (hb hby d30_13) hr)
  show Q_own_uch Z tt kt ki zl ys y0 y1 y2 y3 fm h0 n0 _ T2.heap _
  rw [e2]
  exact ⟨rfl, rfl, rfl⟩
def Q_own_uix (Z : State) (tt : Addr) (kt : ClassId) (ki : Int32) (zl : Int32) (ys : List Value) (y0 : Int32) (y1 : Int32) (y2 : Int32) (y3 : Int32) (fm : Value) (h0 : Heap) (n0 : Nat) (v : Option Value) (h : Heap) (L : List Loc) : Prop := v = some (.int (-1)) ∧ L = [] ∧ h = h0
set_option maxRecDepth 65536 in
set_option maxHeartbeats 40000000 in
theorem own_uix (l : Launch) (Z : State) (a0 : Array Value) (hw : ∀ d ∈ tables_1, d.before a0 Z = true) (ws : List Jvm.Cond) (tt : Addr) (kt : ClassId) (ki : Int32) (zl : Int32) (ys : List Value) (y0 : Int32) (y1 : Int32) (y2 : Int32) (y3 : Int32) (fm : Value) (h0 : Heap) (n0 : Nat) (O0 : Old Z n0 h0) (zf_S_java_lang_StringUTF16__assertionsDisabled : Sta Z Z.heap "java/lang/StringUTF16" "$assertionsDisabled" "Z" (.int 1)) (zf_S_java_lang_StringUTF16_HI_BYTE_SHIFT : Sta Z Z.heap "java/lang/StringUTF16" "HI_BYTE_SHIFT" "I" (.int 0)) (zf_S_java_lang_StringUTF16_LO_BYTE_SHIFT : Sta Z Z.heap "java/lang/StringUTF16" "LO_BYTE_SHIFT" "I" (.int 8)) (zf_S_jdk_internal_util_Preconditions_SIOOBE_FORMATTER : Sta Z Z.heap "jdk/internal/util/Preconditions" "SIOOBE_FORMATTER" "Ljava/util/function/BiFunction;" fm) (f0_A_tt : Arv Z h0 tt kt .byte zl ys (.int 0)) (rfm : fm.isRef = true) (gu0 : (0 : Int32) < ki → (0 : Int32) < zl ∧ (1 : Int32) < zl ∧ ys.getD 0 (.int 0) = (.int (nar .byte (y0.toInt8.toInt32))) ∧ ys.getD 1 (.int 0) = (.int (nar .byte ((y0 >>> ((8 : Int32) &&& 31)).toInt8.toInt32))) ∧ ¬ y0 < (1 : Int32) ∧ ¬ (65535 : Int32) < y0) (gu1 : (1 : Int32) < ki → (2 : Int32) < zl ∧ (3 : Int32) < zl ∧ ys.getD 2 (.int 0) = (.int (nar .byte (y1.toInt8.toInt32))) ∧ ys.getD 3 (.int 0) = (.int (nar .byte ((y1 >>> ((8 : Int32) &&& 31)).toInt8.toInt32))) ∧ ¬ y1 < (1 : Int32) ∧ ¬ (65535 : Int32) < y1) (gu2 : (2 : Int32) < ki → (4 : Int32) < zl ∧ (5 : Int32) < zl ∧ ys.getD 4 (.int 0) = (.int (nar .byte (y2.toInt8.toInt32))) ∧ ys.getD 5 (.int 0) = (.int (nar .byte ((y2 >>> ((8 : Int32) &&& 31)).toInt8.toInt32))) ∧ ¬ y2 < (1 : Int32) ∧ ¬ (65535 : Int32) < y2) (gu3 : (3 : Int32) < ki → (6 : Int32) < zl ∧ (7 : Int32) < zl ∧ ys.getD 6 (.int 0) = (.int (nar .byte (y3.toInt8.toInt32))) ∧ ys.getD 7 (.int 0) = (.int (nar .byte ((y3 >>> ((8 : Int32) &&& 31)).toInt8.toInt32))) ∧ ¬ y3 < (1 : Int32) ∧ ¬ (65535 : Int32) < y3) (hk4 : ¬ ((4 : Int32) < ki)) (hzl : (zl >>> ((1 : Int32) &&& 31)) = ki) (hk0 : ¬ (ki < (0 : Int32))) (irk : ¬ (ki < ki)) (h0k : (0 : Int32) < ki) :
    MetFree l mt27 (head1 (Jvm.Cond.code mt27 jdk_52_method_40_code 4 (some .int) :: ws) rm4_0_0_58) (fun aq U => aq = #[.ref tt, .int 0, .int 0, .int ki] ∧ Z.Warmed39 U.vm ∧ U.heap = h0) (fun _ _ _ _ _ => True) (fun _ U o U' => ∃ v L, o = .returned v ∧ Q_own_uix Z tt kt ki zl ys y0 y1 y2 y3 fm h0 n0 v U'.heap L ∧ FrameEnd U o U' L rm4_0_0_58.cells rm4_0_0_58.slots) := by
  refine MetFree.of_bodySF (plainFor_of_name pn_java_lang_StringUTF16) hisR ?_
  intro p e s m args below meth c s₁ Bd hml0 hP hK
  obtain ⟨rfl, hZ, hh⟩ := hP
  have hx := Bd.exec
  have hby := Bd.bytes
  have hml : c.maxLocals = 4 := hml0
  have hown : s.vm.findClass "java/lang/StringUTF16" = some m.cls := findClass_of_methodNamed Bd.named
  have hnm := (name_of_methodNamed Bd.named Bd.method).1
  have X0 : Stand p l e rm4_0_0_58 s m #[.ref tt, .int 0, .int 0, .int ki] below meth c s₁ [] 0 0 := Stand.of_body Bd
  have e0 : s₁.heap = h0 := by rw [← hh, Bd.state]; rfl
  have N0 := Fr.nil n0
  have zO := O0.1
  have zO2 := O0.2.1
  have fl_A_tt : h0.size > tt := f0_A_tt.lt
  refine own_open (own_via (S' := s₁.setTop (mkF m 0 #[.val (.ref tt), .val (.int 0), .val (.int 0), .val (.int ki)] [])) (fun t k => castTop (ef_own_uix m tt (0 : Int32) (0 : Int32) ki) k) ?_)
  let A_1 : Array Slot := #[.val (.ref tt), .val (.int 0), .val (.int 0), .val (.int ki)]
  refine ov s₁ 1 A_1 [.int 0] (fun t k => XS.iloadN X0.here hx rfl (hb hby d29_0) rfl k) ?_
  refine ov s₁ 2 A_1 [.int 0, .int 0] (fun t k => XS.iconst X0.here hx rfl (hb hby d29_1) k) ?_
  obtain ⟨_, _, ⟨T1, Lp1, kp1, np1⟩, -, X1, ⟨Lc1, hQ1, l1, y1, z1⟩, st1⟩ := Jvm.LawKit.callS X0 hx (y := mt13) hown (mvT hZ (wd126 hw)) (mvT hZ (wd79 hw)) (mvT hZ (wd80 hw)) (mvT hZ (wd81 hw)) (by decide) (backOf (W := 0) (own_mx l Z a0 hw []  h0 n0 O0) hZ (wd81 hw) (wd80 hw) (by decide) (by decide)) (g := (mkF m 2 A_1 [.int 0, .int 0])) rfl (by rw [hml]; rfl) (argsL := [.int 0, .int 0]) (rest := []) (lenOf pd__II_I_300 rfl) rfl (by show 2 * 0 + _ ≤ _; exact Nat.le_of_eq rfl) (hb hby d29_2) (fun _ _ => ⟨rfl, e0, (by decide : 0 + 0 ≤ _), (by decide : 0 + 0 ≤ _)⟩)
  dsimp only [Pt.U, Pt.locs, Pt.cells, Pt.slots] at X1 l1 y1 z1 st1 hQ1
  subst Lp1 kp1 np1
  obtain ⟨rfl, rfl, e1⟩ := hQ1
  try rw [List.append_nil] at X1
  refine ov T1 5 A_1 [.int 0] st1 ?_
  refine ov T1 6 A_1 [] (fun t k => XS.istoreN X1.here hx rfl (hb hby d29_5) rfl (l' := A_1) rfl k) ?_
  refine ov T1 7 A_1 [.int ki] (fun t k => XS.iloadN X1.here hx rfl (hb hby d29_6) rfl k) ?_
  refine ov T1 8 A_1 [.ref tt, .int ki] (fun t k => XS.aloadN X1.here hx rfl (hb hby d29_7) rfl rfl k) ?_
  obtain ⟨cl2, Ar2, -, S2, N2, -, -⟩ := id f0_A_tt
  refine ov T1 9 A_1 [.int zl, .int ki] (fun t k => X1.arraylength hx (by first | (rw [e1]; exact Ar2.1) | exact Ar2.1) (State.isArrayOf_alike hZ.alike Ar2.2.1) (g := (mkF m 8 A_1 [.ref tt, .int ki])) rfl rfl (hb hby d29_8) _ (by rw [len_of S2 N2]; exact k)) ?_
  refine ov T1 10 A_1 [.int 1, .int zl, .int ki] (fun t k => XS.iconst X1.here hx rfl (hb hby d29_9) k) ?_
  refine ov T1 11 #[.val (.ref tt), .val (.int 0), .val (.int 0), .val (.int ki)] [(.int (zl >>> ((1 : Int32) &&& 31))), .int ki] (fun t k => XS.ishr X1.here hx rfl (hb hby d29_10) rfl k) ?_
  have rw3 : (zl >>> ((1 : Int32) &&& 31)) = ki := hzl
  rw [rw3]
  obtain ⟨_, _, ⟨T4, Lp4, kp4, np4⟩, -, X4, ⟨Lc4, hQ4, l4, y4, z4⟩, st4⟩ := Jvm.LawKit.callS X1 hx (y := mt14) hown (mvT hZ (wd127 hw)) (mvT hZ (wd83 hw)) (mvT hZ (wd80 hw)) (mvT hZ (wd84 hw)) (by decide) (backOf (W := 0) (own_mn l Z a0 hw [] ki h0 n0 O0 irk) hZ (wd84 hw) (wd80 hw) (by decide) (by decide)) (g := (mkF m 11 A_1 [.int ki, .int ki])) rfl (by rw [hml]; rfl) (argsL := [.int ki, .int ki]) (rest := []) (lenOf pd__II_I_300 rfl) rfl (by show 2 * 0 + _ ≤ _; exact Nat.le_of_eq rfl) (hb hby d29_11) (fun _ _ => ⟨rfl, e1, (by decide : 0 + 0 ≤ _), (by decide : 0 + 0 ≤ _)⟩)
  dsimp only [Pt.U, Pt.locs, Pt.cells, Pt.slots] at X4 l4 y4 z4 st4 hQ4
  subst Lp4 kp4 np4
  obtain ⟨rfl, rfl, e4⟩ := hQ4
  try rw [List.append_nil] at X4
  refine ov T4 14 A_1 [.int ki] st4 ?_
  refine ov T4 15 A_1 [] (fun t k => XS.istoreN X4.here hx rfl (hb hby d29_14) rfl (l' := A_1) rfl k) ?_
  refine ov T4 16 A_1 [.int 0] (fun t k => XS.iloadN X4.here hx rfl (hb hby d29_15) rfl k) ?_
  refine ov T4 17 A_1 [.int ki, .int 0] (fun t k => XS.iloadN X4.here hx rfl (hb hby d29_16) rfl k) ?_
  refine ov T4 22 A_1 [] (fun t k => XS.icmpYes X4.here hx rfl (pc0 := 17) (pc' := 22) rfl (hb hby d29_17) rfl (tlt h0k).1 (by decide) (by decide) k) ?_
  refine ov T4 23 A_1 [.int 0] (fun t k => XS.iloadN X4.here hx rfl (hb hby d29_22) rfl k) ?_
  refine ov T4 25 A_1 [.int 65536, .int 0] (fun t k => X4.ldcInt hx hown (mvT hZ (wd128 hw)) (g := (mkF m 23 A_1 [.int 0])) rfl (hb hby d29_23) _ k) ?_
  refine ov T4 28 A_1 [] (fun t k => XS.icmpNo X4.here hx rfl (hb hby d29_25) rfl (tlt (by decide : (0 : Int32) < (65536 : Int32))).2.1 k) ?_
  refine ov T4 29 A_1 [.ref tt] (fun t k => XS.aloadN X4.here hx rfl (hb hby d29_28) rfl rfl k) ?_
  refine ov T4 30 A_1 [.int 0, .ref tt] (fun t k => XS.iloadN X4.here hx rfl (hb hby d29_29) rfl k) ?_
  refine ov T4 31 A_1 [.int 0, .int 0, .ref tt] (fun t k => XS.iloadN X4.here hx rfl (hb hby d29_30) rfl k) ?_
  refine ov T4 32 A_1 [.int ki, .int 0, .int 0, .ref tt] (fun t k => XS.iloadN X4.here hx rfl (hb hby d29_31) rfl k) ?_
  obtain ⟨_, _, ⟨T5, Lp5, kp5, np5⟩, -, X5, ⟨Lc5, hQ5, l5, y5, z5⟩, st5⟩ := Jvm.LawKit.callS X4 hx (y := mt26) hown (mvT hZ (wd129 hw)) (mvT hZ (wd130 hw)) (mvT hZ (wd93 hw)) (mvT hZ (wd131 hw)) (by decide) (backOf (W := 0) (own_uch l Z a0 hw [] tt kt ki zl ys y0 y1 y2 y3 fm h0 n0 O0 zf_S_java_lang_StringUTF16__assertionsDisabled zf_S_java_lang_StringUTF16_HI_BYTE_SHIFT zf_S_java_lang_StringUTF16_LO_BYTE_SHIFT zf_S_jdk_internal_util_Preconditions_SIOOBE_FORMATTER f0_A_tt rfm gu0 gu1 gu2 gu3 hk4 hzl hk0 irk) hZ (wd131 hw) (wd93 hw) (by decide) (by decide)) (g := (mkF m 32 A_1 [.int ki, .int 0, .int 0, .ref tt])) rfl (by rw [hml]; rfl) (argsL := [.ref tt, .int 0, .int 0, .int ki]) (rest := []) (lenOf pd___BIII_I_530 rfl) rfl (by show 2 * 0 + _ ≤ _; exact Nat.le_of_eq rfl) (hb hby d29_32) (fun _ _ => ⟨rfl, e4, (by decide : 0 + 0 ≤ _), (by decide : 0 + 0 ≤ _)⟩)
  dsimp only [Pt.U, Pt.locs, Pt.cells, Pt.slots] at X5 l5 y5 z5 st5 hQ5
  subst Lp5 kp5 np5
  obtain ⟨rfl, rfl, e5⟩ := hQ5
  try rw [List.append_nil] at X5
  refine ov T5 35 A_1 [(.int (-1))] st5 ?_
  refine own_ret (Q := Q_own_uix Z tt kt ki zl ys y0 y1 y2 y3 fm h0 n0) (C := rm4_0_0_58.cells) (N := rm4_0_0_58.slots) X5 (v := some (.int (-1))) (fun h => by rw [Bd.returns] at h; cases h) Bd.notSynchronized ?_ (by decide) (by decide) (fun fs hr => retOut X5 hx Bd.returns rfl (Or.inl ⟨rfl, Or.inl rfl, _, rfl⟩) (hb hby d29_35) hr)
  show Q_own_uix Z tt kt ki zl ys y0 y1 y2 y3 fm h0 n0 _ T5.heap _
  rw [e5]
  exact ⟨rfl, rfl, rfl⟩
def Q_own_ixbU (Z : State) (xs : Addr) (tt : Addr) (kt : ClassId) (zc : Int32) (ki : Int32) (zl : Int32) (ys : List Value) (y0 : Int32) (y1 : Int32) (y2 : Int32) (y3 : Int32) (fm : Value) (h0 : Heap) (n0 : Nat) (v : Option Value) (h : Heap) (L : List Loc) : Prop := v = some (.int (-1)) ∧ L = [] ∧ h = h0
set_option maxRecDepth 65536 in
set_option maxHeartbeats 40000000 in
theorem own_ixbU (l : Launch) (Z : State) (a0 : Array Value) (hw : ∀ d ∈ tables_1, d.before a0 Z = true) (ws : List Jvm.Cond) (xs : Addr) (tt : Addr) (kt : ClassId) (zc : Int32) (ki : Int32) (zl : Int32) (ys : List Value) (y0 : Int32) (y1 : Int32) (y2 : Int32) (y3 : Int32) (fm : Value) (h0 : Heap) (n0 : Nat) (O0 : Old Z n0 h0) (zfC : Sta Z Z.heap "java/lang/String" "COMPACT_STRINGS" "Z" (.int zc)) (zf_S_java_lang_StringUTF16__assertionsDisabled : Sta Z Z.heap "java/lang/StringUTF16" "$assertionsDisabled" "Z" (.int 1)) (zf_S_java_lang_StringUTF16_HI_BYTE_SHIFT : Sta Z Z.heap "java/lang/StringUTF16" "HI_BYTE_SHIFT" "I" (.int 0)) (zf_S_java_lang_StringUTF16_LO_BYTE_SHIFT : Sta Z Z.heap "java/lang/StringUTF16" "LO_BYTE_SHIFT" "I" (.int 8)) (zf_S_jdk_internal_util_Preconditions_SIOOBE_FORMATTER : Sta Z Z.heap "jdk/internal/util/Preconditions" "SIOOBE_FORMATTER" "Ljava/util/function/BiFunction;" fm) (f0_E_xs : Exa Z h0 xs "java/lang/String") (f0_F_xs_value : Fld Z h0 xs "java/lang/String" "value" "[B" (.ref tt)) (f0_F_xs_coder : Fld Z h0 xs "java/lang/String" "coder" "B" (.int 1)) (f0_A_tt : Arv Z h0 tt kt .byte zl ys (.int 0)) (hzc : ¬ (zc = (0 : Int32))) (rfm : fm.isRef = true) (gu0 : (0 : Int32) < ki → (0 : Int32) < zl ∧ (1 : Int32) < zl ∧ ys.getD 0 (.int 0) = (.int (nar .byte (y0.toInt8.toInt32))) ∧ ys.getD 1 (.int 0) = (.int (nar .byte ((y0 >>> ((8 : Int32) &&& 31)).toInt8.toInt32))) ∧ ¬ y0 < (1 : Int32) ∧ ¬ (65535 : Int32) < y0) (gu1 : (1 : Int32) < ki → (2 : Int32) < zl ∧ (3 : Int32) < zl ∧ ys.getD 2 (.int 0) = (.int (nar .byte (y1.toInt8.toInt32))) ∧ ys.getD 3 (.int 0) = (.int (nar .byte ((y1 >>> ((8 : Int32) &&& 31)).toInt8.toInt32))) ∧ ¬ y1 < (1 : Int32) ∧ ¬ (65535 : Int32) < y1) (gu2 : (2 : Int32) < ki → (4 : Int32) < zl ∧ (5 : Int32) < zl ∧ ys.getD 4 (.int 0) = (.int (nar .byte (y2.toInt8.toInt32))) ∧ ys.getD 5 (.int 0) = (.int (nar .byte ((y2 >>> ((8 : Int32) &&& 31)).toInt8.toInt32))) ∧ ¬ y2 < (1 : Int32) ∧ ¬ (65535 : Int32) < y2) (gu3 : (3 : Int32) < ki → (6 : Int32) < zl ∧ (7 : Int32) < zl ∧ ys.getD 6 (.int 0) = (.int (nar .byte (y3.toInt8.toInt32))) ∧ ys.getD 7 (.int 0) = (.int (nar .byte ((y3 >>> ((8 : Int32) &&& 31)).toInt8.toInt32))) ∧ ¬ y3 < (1 : Int32) ∧ ¬ (65535 : Int32) < y3) (hk4 : ¬ ((4 : Int32) < ki)) (hzl : (zl >>> ((1 : Int32) &&& 31)) = ki) (hk0 : ¬ (ki < (0 : Int32))) (irk : ¬ (ki < ki)) (h0k : (0 : Int32) < ki) :
    MetFree l mt20 (head1 (Jvm.Cond.code mt20 jdk_42_method_80_code 3 (some .int) :: ws) rm5_0_0_73) (fun aq U => aq = #[.ref xs, .int 0, .int 0] ∧ Z.Warmed39 U.vm ∧ U.heap = h0) (fun _ _ _ _ _ => True) (fun _ U o U' => ∃ v L, o = .returned v ∧ Q_own_ixbU Z xs tt kt zc ki zl ys y0 y1 y2 y3 fm h0 n0 v U'.heap L ∧ FrameEnd U o U' L rm5_0_0_73.cells rm5_0_0_73.slots) := by
  refine MetFree.of_bodySF (plainFor_of_name pn_java_lang_String) hisR ?_
  intro p e s m args below meth c s₁ Bd hml0 hP hK
  obtain ⟨rfl, hZ, hh⟩ := hP
  have hx := Bd.exec
  have hby := Bd.bytes
  have hml : c.maxLocals = 3 := hml0
  have hown : s.vm.findClass "java/lang/String" = some m.cls := findClass_of_methodNamed Bd.named
  have hnm := (name_of_methodNamed Bd.named Bd.method).1
  have X0 : Stand p l e rm5_0_0_73 s m #[.ref xs, .int 0, .int 0] below meth c s₁ [] 0 0 := Stand.of_body Bd
  have e0 : s₁.heap = h0 := by rw [← hh, Bd.state]; rfl
  have N0 := Fr.nil n0
  have zO := O0.1
  have zO2 := O0.2.1
  have fl_E_xs : h0.size > xs := f0_E_xs.lt
  have fl_F_xs_value : h0.size > xs := f0_F_xs_value.lt
  have fl_F_xs_coder : h0.size > xs := f0_F_xs_coder.lt
  have fl_A_tt : h0.size > tt := f0_A_tt.lt
  refine own_open (own_via (S' := s₁.setTop (mkF m 0 #[.val (.ref xs), .val (.int 0), .val (.int 0)] [])) (fun t k => castTop (ef_own_ixbU m xs (0 : Int32) (0 : Int32)) k) ?_)
  have ne_xs_tt : xs ≠ tt := Exa.neArv f0_E_xs f0_A_tt (wd8 hw)
  refine ov s₁ 1 #[.val (.ref xs), .val (.int 0), .val (.int 0)] [.ref xs] (fun t k => XS.aloadN X0.here hx rfl (hb hby d11_0) rfl rfl k) ?_
  obtain ⟨cq1, kq1, q1a, q1b, q1c⟩ := isOf hZ e0 f0_E_xs
  obtain ⟨_, _, ⟨T1, Lp1, kp1, np1⟩, -, X1, ⟨Lc1, hQ1, l1, y1, z1⟩, st1⟩ := X0.virtualBack hx (y := mt10) (z := mt10) hown (mvT hZ (wd57 hw)) (mvT hZ (wd58 hw)) (notFace_of_selects (args := #[]) (mvT hZ (wd60 hw))) (mvT hZ (wd60 hw)) (mvT hZ (wd59 hw)) (by decide) (backOf (W := 0) (own_isLu l Z a0 hw [] xs zc h0 n0 O0 zfC f0_F_xs_coder hzc) hZ (wd61 hw) (wd9 hw) (by decide) (by decide)) q1a q1c (g := (mkF m 1 #[.val (.ref xs), .val (.int 0), .val (.int 0)] [.ref xs])) rfl (by rw [hml]; rfl) (Steps.refl _) (argsL := []) (rest := []) (lenOf pd___Z_171 rfl) rfl (by show 2 * 0 + _ ≤ _; exact Nat.le_of_eq rfl) (hb hby d11_1) (fun _ _ => ⟨rfl, e0, (by decide : 0 + 0 ≤ _), (by decide : 0 + 0 ≤ _)⟩)
  dsimp only [Pt.U, Pt.locs, Pt.cells, Pt.slots] at X1 l1 y1 z1 st1 hQ1
  subst Lp1 kp1 np1
  obtain ⟨rfl, rfl, e1⟩ := hQ1
  try rw [List.append_nil] at X1
  refine own_tr (S' := T1.setTop (mkF m 4 #[.val (.ref xs), .val (.int 0), .val (.int 0)] [.int 0])) st1 ?_
  refine ov T1 23 #[.val (.ref xs), .val (.int 0), .val (.int 0)] [] (fun t k => XS.ifYes X1.here hx rfl (pc0 := 4) (pc' := 23) rfl (hb hby d11_4) rfl ((if0 _ _).trans (teq (by decide : (0 : Int32) = (0 : Int32))).1) (by decide) (by decide) k) ?_
  refine ov T1 24 #[.val (.ref xs), .val (.int 0), .val (.int 0)] [.ref xs] (fun t k => XS.aloadN X1.here hx rfl (hb hby d11_23) rfl rfl k) ?_
  obtain ⟨T2, X2, e2, st2⟩ := getF X1 hx hZ hown (host := "") (Or.inl (wd26 hw)) Via.refl e1 f0_F_xs_value (g := (mkF m 24 #[.val (.ref xs), .val (.int 0), .val (.int 0)] [.ref xs])) rfl rfl (hb hby d11_24)
  refine ov T2 27 #[.val (.ref xs), .val (.int 0), .val (.int 0)] [.ref tt] st2 ?_
  refine ov T2 28 #[.val (.ref xs), .val (.int 0), .val (.int 0)] [.int 0, .ref tt] (fun t k => XS.iloadN X2.here hx rfl (hb hby d11_27) rfl k) ?_
  refine ov T2 29 #[.val (.ref xs), .val (.int 0), .val (.int 0)] [.int 0, .int 0, .ref tt] (fun t k => XS.iloadN X2.here hx rfl (hb hby d11_28) rfl k) ?_
  refine ov T2 30 #[.val (.ref xs), .val (.int 0), .val (.int 0)] [.ref xs, .int 0, .int 0, .ref tt] (fun t k => XS.aloadN X2.here hx rfl (hb hby d11_29) rfl rfl k) ?_
  obtain ⟨cq3, kq3, q3a, q3b, q3c⟩ := isOf hZ e2 f0_E_xs
  obtain ⟨_, _, ⟨T3, Lp3, kp3, np3⟩, -, X3, ⟨Lc3, hQ3, l3, y3, z3⟩, st3⟩ := X2.virtualBack hx (y := mt17) (z := mt17) hown (mvT hZ (wd62 hw)) (mvT hZ (wd63 hw)) (notFace_of_selects (args := #[]) (mvT hZ (wd65 hw))) (mvT hZ (wd65 hw)) (mvT hZ (wd64 hw)) (by decide) (backOf (W := 3) (own_lenU l Z a0 hw [] xs tt kt zc ki zl ys h0 n0 O0 zfC f0_E_xs f0_F_xs_value f0_F_xs_coder f0_A_tt hzc hzl) hZ (wd66 hw) (wd9 hw) (by decide) (by decide)) q3a q3c (g := (mkF m 30 #[.val (.ref xs), .val (.int 0), .val (.int 0)] [.ref xs, .int 0, .int 0, .ref tt])) rfl (by rw [hml]; rfl) (Steps.refl _) (argsL := []) (rest := [.int 0, .int 0, .ref tt]) (lenOf pd___I_154 rfl) rfl (by show 2 * 0 + _ ≤ _; exact Nat.le_of_eq rfl) (hb hby d11_30) (fun _ _ => ⟨rfl, e2, (by decide : 0 + 0 ≤ _), (by decide : 0 + 0 ≤ _)⟩)
  dsimp only [Pt.U, Pt.locs, Pt.cells, Pt.slots] at X3 l3 y3 z3 st3 hQ3
  subst Lp3 kp3 np3
  obtain ⟨rfl, rfl, e3⟩ := hQ3
  try rw [List.append_nil] at X3
  refine own_tr (S' := T3.setTop (mkF m 33 #[.val (.ref xs), .val (.int 0), .val (.int 0)] [.int ki, .int 0, .int 0, .ref tt])) st3 ?_
  obtain ⟨_, _, ⟨T4, Lp4, kp4, np4⟩, -, X4, ⟨Lc4, hQ4, l4, y4, z4⟩, st4⟩ := Jvm.LawKit.callS X3 hx (y := mt27) hown (mvT hZ (wd123 hw)) (mvT hZ (wd124 hw)) (mvT hZ (wd93 hw)) (mvT hZ (wd125 hw)) (by decide) (backOf (W := 0) (own_uix l Z a0 hw [] tt kt ki zl ys y0 y1 y2 y3 fm h0 n0 O0 zf_S_java_lang_StringUTF16__assertionsDisabled zf_S_java_lang_StringUTF16_HI_BYTE_SHIFT zf_S_java_lang_StringUTF16_LO_BYTE_SHIFT zf_S_jdk_internal_util_Preconditions_SIOOBE_FORMATTER f0_A_tt rfm gu0 gu1 gu2 gu3 hk4 hzl hk0 irk h0k) hZ (wd125 hw) (wd93 hw) (by decide) (by decide)) (g := (mkF m 33 #[.val (.ref xs), .val (.int 0), .val (.int 0)] [.int ki, .int 0, .int 0, .ref tt])) rfl (by rw [hml]; rfl) (argsL := [.ref tt, .int 0, .int 0, .int ki]) (rest := []) (lenOf pd___BIII_I_530 rfl) rfl (by show 2 * 0 + _ ≤ _; exact Nat.le_of_eq rfl) (hb hby d11_33) (fun _ _ => ⟨rfl, e3, (by decide : 0 + 0 ≤ _), (by decide : 0 + 0 ≤ _)⟩)
  dsimp only [Pt.U, Pt.locs, Pt.cells, Pt.slots] at X4 l4 y4 z4 st4 hQ4
  subst Lp4 kp4 np4
  obtain ⟨rfl, rfl, e4⟩ := hQ4
  try rw [List.append_nil] at X4
  refine ov T4 36 #[.val (.ref xs), .val (.int 0), .val (.int 0)] [(.int (-1))] st4 ?_
  refine own_ret (Q := Q_own_ixbU Z xs tt kt zc ki zl ys y0 y1 y2 y3 fm h0 n0) (C := rm5_0_0_73.cells) (N := rm5_0_0_73.slots) X4 (v := some (.int (-1))) (fun h => by rw [Bd.returns] at h; cases h) Bd.notSynchronized ?_ (by decide) (by decide) (fun fs hr => retOut X4 hx Bd.returns rfl (Or.inl ⟨rfl, Or.inl rfl, _, rfl⟩) (hb hby d11_36) hr)
  show Q_own_ixbU Z xs tt kt zc ki zl ys y0 y1 y2 y3 fm h0 n0 _ T4.heap _
  rw [e4]
  exact ⟨rfl, rfl, rfl⟩
def Q_own_ixaU (Z : State) (xs : Addr) (tt : Addr) (kt : ClassId) (zc : Int32) (ki : Int32) (zl : Int32) (ys : List Value) (y0 : Int32) (y1 : Int32) (y2 : Int32) (y3 : Int32) (fm : Value) (h0 : Heap) (n0 : Nat) (v : Option Value) (h : Heap) (L : List Loc) : Prop := v = some (.int (-1)) ∧ L = [] ∧ h = h0
set_option maxRecDepth 65536 in
set_option maxHeartbeats 40000000 in
theorem own_ixaU (l : Launch) (Z : State) (a0 : Array Value) (hw : ∀ d ∈ tables_1, d.before a0 Z = true) (ws : List Jvm.Cond) (xs : Addr) (tt : Addr) (kt : ClassId) (zc : Int32) (ki : Int32) (zl : Int32) (ys : List Value) (y0 : Int32) (y1 : Int32) (y2 : Int32) (y3 : Int32) (fm : Value) (h0 : Heap) (n0 : Nat) (O0 : Old Z n0 h0) (zfC : Sta Z Z.heap "java/lang/String" "COMPACT_STRINGS" "Z" (.int zc)) (zf_S_java_lang_StringUTF16__assertionsDisabled : Sta Z Z.heap "java/lang/StringUTF16" "$assertionsDisabled" "Z" (.int 1)) (zf_S_java_lang_StringUTF16_HI_BYTE_SHIFT : Sta Z Z.heap "java/lang/StringUTF16" "HI_BYTE_SHIFT" "I" (.int 0)) (zf_S_java_lang_StringUTF16_LO_BYTE_SHIFT : Sta Z Z.heap "java/lang/StringUTF16" "LO_BYTE_SHIFT" "I" (.int 8)) (zf_S_jdk_internal_util_Preconditions_SIOOBE_FORMATTER : Sta Z Z.heap "jdk/internal/util/Preconditions" "SIOOBE_FORMATTER" "Ljava/util/function/BiFunction;" fm) (f0_E_xs : Exa Z h0 xs "java/lang/String") (f0_F_xs_value : Fld Z h0 xs "java/lang/String" "value" "[B" (.ref tt)) (f0_F_xs_coder : Fld Z h0 xs "java/lang/String" "coder" "B" (.int 1)) (f0_A_tt : Arv Z h0 tt kt .byte zl ys (.int 0)) (hzc : ¬ (zc = (0 : Int32))) (rfm : fm.isRef = true) (gu0 : (0 : Int32) < ki → (0 : Int32) < zl ∧ (1 : Int32) < zl ∧ ys.getD 0 (.int 0) = (.int (nar .byte (y0.toInt8.toInt32))) ∧ ys.getD 1 (.int 0) = (.int (nar .byte ((y0 >>> ((8 : Int32) &&& 31)).toInt8.toInt32))) ∧ ¬ y0 < (1 : Int32) ∧ ¬ (65535 : Int32) < y0) (gu1 : (1 : Int32) < ki → (2 : Int32) < zl ∧ (3 : Int32) < zl ∧ ys.getD 2 (.int 0) = (.int (nar .byte (y1.toInt8.toInt32))) ∧ ys.getD 3 (.int 0) = (.int (nar .byte ((y1 >>> ((8 : Int32) &&& 31)).toInt8.toInt32))) ∧ ¬ y1 < (1 : Int32) ∧ ¬ (65535 : Int32) < y1) (gu2 : (2 : Int32) < ki → (4 : Int32) < zl ∧ (5 : Int32) < zl ∧ ys.getD 4 (.int 0) = (.int (nar .byte (y2.toInt8.toInt32))) ∧ ys.getD 5 (.int 0) = (.int (nar .byte ((y2 >>> ((8 : Int32) &&& 31)).toInt8.toInt32))) ∧ ¬ y2 < (1 : Int32) ∧ ¬ (65535 : Int32) < y2) (gu3 : (3 : Int32) < ki → (6 : Int32) < zl ∧ (7 : Int32) < zl ∧ ys.getD 6 (.int 0) = (.int (nar .byte (y3.toInt8.toInt32))) ∧ ys.getD 7 (.int 0) = (.int (nar .byte ((y3 >>> ((8 : Int32) &&& 31)).toInt8.toInt32))) ∧ ¬ y3 < (1 : Int32) ∧ ¬ (65535 : Int32) < y3) (hk4 : ¬ ((4 : Int32) < ki)) (hzl : (zl >>> ((1 : Int32) &&& 31)) = ki) (hk0 : ¬ (ki < (0 : Int32))) (irk : ¬ (ki < ki)) (h0k : (0 : Int32) < ki) :
    MetFree l mt21 (head1 (Jvm.Cond.code mt21 jdk_42_method_79_code 2 (some .int) :: ws) rm6_0_0_87) (fun aq U => aq = #[.ref xs, .int 0] ∧ Z.Warmed39 U.vm ∧ U.heap = h0) (fun _ _ _ _ _ => True) (fun _ U o U' => ∃ v L, o = .returned v ∧ Q_own_ixaU Z xs tt kt zc ki zl ys y0 y1 y2 y3 fm h0 n0 v U'.heap L ∧ FrameEnd U o U' L rm6_0_0_87.cells rm6_0_0_87.slots) := by
  refine MetFree.of_bodySF (plainFor_of_name pn_java_lang_String) hisR ?_
  intro p e s m args below meth c s₁ Bd hml0 hP hK
  obtain ⟨rfl, hZ, hh⟩ := hP
  have hx := Bd.exec
  have hby := Bd.bytes
  have hml : c.maxLocals = 2 := hml0
  have hown : s.vm.findClass "java/lang/String" = some m.cls := findClass_of_methodNamed Bd.named
  have hnm := (name_of_methodNamed Bd.named Bd.method).1
  have X0 : Stand p l e rm6_0_0_87 s m #[.ref xs, .int 0] below meth c s₁ [] 0 0 := Stand.of_body Bd
  have e0 : s₁.heap = h0 := by rw [← hh, Bd.state]; rfl
  have N0 := Fr.nil n0
  have zO := O0.1
  have zO2 := O0.2.1
  have fl_E_xs : h0.size > xs := f0_E_xs.lt
  have fl_F_xs_value : h0.size > xs := f0_F_xs_value.lt
  have fl_F_xs_coder : h0.size > xs := f0_F_xs_coder.lt
  have fl_A_tt : h0.size > tt := f0_A_tt.lt
  refine own_open (own_via (S' := s₁.setTop (mkF m 0 #[.val (.ref xs), .val (.int 0)] [])) (fun t k => castTop (ef_own_ixaU m xs (0 : Int32)) k) ?_)
  have ne_xs_tt : xs ≠ tt := Exa.neArv f0_E_xs f0_A_tt (wd8 hw)
  refine ov s₁ 1 #[.val (.ref xs), .val (.int 0)] [.ref xs] (fun t k => XS.aloadN X0.here hx rfl (hb hby d10_0) rfl rfl k) ?_
  refine ov s₁ 2 #[.val (.ref xs), .val (.int 0)] [.int 0, .ref xs] (fun t k => XS.iloadN X0.here hx rfl (hb hby d10_1) rfl k) ?_
  refine ov s₁ 3 #[.val (.ref xs), .val (.int 0)] [.int 0, .int 0, .ref xs] (fun t k => XS.iconst X0.here hx rfl (hb hby d10_2) k) ?_
  obtain ⟨cq1, kq1, q1a, q1b, q1c⟩ := isOf hZ e0 f0_E_xs
  obtain ⟨_, _, ⟨T1, Lp1, kp1, np1⟩, -, X1, ⟨Lc1, hQ1, l1, y1, z1⟩, st1⟩ := X0.virtualBack hx (y := mt20) (z := mt20) hown (mvT hZ (wd52 hw)) (mvT hZ (wd53 hw)) (notFace_of_selects (args := #[]) (mvT hZ (wd55 hw))) (mvT hZ (wd55 hw)) (mvT hZ (wd54 hw)) (by decide) (backOf (W := 0) (own_ixbU l Z a0 hw [] xs tt kt zc ki zl ys y0 y1 y2 y3 fm h0 n0 O0 zfC zf_S_java_lang_StringUTF16__assertionsDisabled zf_S_java_lang_StringUTF16_HI_BYTE_SHIFT zf_S_java_lang_StringUTF16_LO_BYTE_SHIFT zf_S_jdk_internal_util_Preconditions_SIOOBE_FORMATTER f0_E_xs f0_F_xs_value f0_F_xs_coder f0_A_tt hzc rfm gu0 gu1 gu2 gu3 hk4 hzl hk0 irk h0k) hZ (wd56 hw) (wd9 hw) (by decide) (by decide)) q1a q1c (g := (mkF m 3 #[.val (.ref xs), .val (.int 0)] [.int 0, .int 0, .ref xs])) rfl (by rw [hml]; rfl) (Steps.refl _) (argsL := [.int 0, .int 0]) (rest := []) (lenOf pd__II_I_300 rfl) rfl (by show 2 * 0 + _ ≤ _; exact Nat.le_of_eq rfl) (hb hby d10_3) (fun _ _ => ⟨rfl, e0, (by decide : 0 + 0 ≤ _), (by decide : 0 + 0 ≤ _)⟩)
  dsimp only [Pt.U, Pt.locs, Pt.cells, Pt.slots] at X1 l1 y1 z1 st1 hQ1
  subst Lp1 kp1 np1
  obtain ⟨rfl, rfl, e1⟩ := hQ1
  try rw [List.append_nil] at X1
  refine own_tr (S' := T1.setTop (mkF m 6 #[.val (.ref xs), .val (.int 0)] [(.int (-1))])) st1 ?_
  refine own_ret (Q := Q_own_ixaU Z xs tt kt zc ki zl ys y0 y1 y2 y3 fm h0 n0) (C := rm6_0_0_87.cells) (N := rm6_0_0_87.slots) X1 (v := some (.int (-1))) (fun h => by rw [Bd.returns] at h; cases h) Bd.notSynchronized ?_ (by decide) (by decide) (fun fs hr => retOut X1 hx Bd.returns rfl (Or.inl ⟨rfl, Or.inl rfl, _, rfl⟩) (hb hby d10_6) hr)
  show Q_own_ixaU Z xs tt kt zc ki zl ys y0 y1 y2 y3 fm h0 n0 _ T1.heap _
  rw [e1]
  exact ⟨rfl, rfl, rfl⟩
def Q_own_txtU (Z : State) (fn : Addr) (xs : Addr) (tt : Addr) (kt : ClassId) (zc : Int32) (ki : Int32) (zl : Int32) (ys : List Value) (y0 : Int32) (y1 : Int32) (y2 : Int32) (y3 : Int32) (fm : Value) (h0 : Heap) (n0 : Nat) (v : Option Value) (h : Heap) (L : List Loc) : Prop := v = some (.ref xs) ∧ L = [] ∧ h = h0
set_option maxRecDepth 65536 in
set_option maxHeartbeats 40000000 in
theorem own_txtU (l : Launch) (Z : State) (a0 : Array Value) (hw : ∀ d ∈ tables_1, d.before a0 Z = true) (ws : List Jvm.Cond) (fn : Addr) (xs : Addr) (tt : Addr) (kt : ClassId) (zc : Int32) (ki : Int32) (zl : Int32) (ys : List Value) (y0 : Int32) (y1 : Int32) (y2 : Int32) (y3 : Int32) (fm : Value) (h0 : Heap) (n0 : Nat) (O0 : Old Z n0 h0) (zfC : Sta Z Z.heap "java/lang/String" "COMPACT_STRINGS" "Z" (.int zc)) (zf_S_java_lang_StringUTF16__assertionsDisabled : Sta Z Z.heap "java/lang/StringUTF16" "$assertionsDisabled" "Z" (.int 1)) (zf_S_java_lang_StringUTF16_HI_BYTE_SHIFT : Sta Z Z.heap "java/lang/StringUTF16" "HI_BYTE_SHIFT" "I" (.int 0)) (zf_S_java_lang_StringUTF16_LO_BYTE_SHIFT : Sta Z Z.heap "java/lang/StringUTF16" "LO_BYTE_SHIFT" "I" (.int 8)) (zf_S_jdk_internal_util_Preconditions_SIOOBE_FORMATTER : Sta Z Z.heap "jdk/internal/util/Preconditions" "SIOOBE_FORMATTER" "Ljava/util/function/BiFunction;" fm) (f0_E_xs : Exa Z h0 xs "java/lang/String") (f0_F_xs_value : Fld Z h0 xs "java/lang/String" "value" "[B" (.ref tt)) (f0_F_xs_coder : Fld Z h0 xs "java/lang/String" "coder" "B" (.int 1)) (f0_A_tt : Arv Z h0 tt kt .byte zl ys (.int 0)) (hzc : ¬ (zc = (0 : Int32))) (rfm : fm.isRef = true) (gu0 : (0 : Int32) < ki → (0 : Int32) < zl ∧ (1 : Int32) < zl ∧ ys.getD 0 (.int 0) = (.int (nar .byte (y0.toInt8.toInt32))) ∧ ys.getD 1 (.int 0) = (.int (nar .byte ((y0 >>> ((8 : Int32) &&& 31)).toInt8.toInt32))) ∧ ¬ y0 < (1 : Int32) ∧ ¬ (65535 : Int32) < y0) (gu1 : (1 : Int32) < ki → (2 : Int32) < zl ∧ (3 : Int32) < zl ∧ ys.getD 2 (.int 0) = (.int (nar .byte (y1.toInt8.toInt32))) ∧ ys.getD 3 (.int 0) = (.int (nar .byte ((y1 >>> ((8 : Int32) &&& 31)).toInt8.toInt32))) ∧ ¬ y1 < (1 : Int32) ∧ ¬ (65535 : Int32) < y1) (gu2 : (2 : Int32) < ki → (4 : Int32) < zl ∧ (5 : Int32) < zl ∧ ys.getD 4 (.int 0) = (.int (nar .byte (y2.toInt8.toInt32))) ∧ ys.getD 5 (.int 0) = (.int (nar .byte ((y2 >>> ((8 : Int32) &&& 31)).toInt8.toInt32))) ∧ ¬ y2 < (1 : Int32) ∧ ¬ (65535 : Int32) < y2) (gu3 : (3 : Int32) < ki → (6 : Int32) < zl ∧ (7 : Int32) < zl ∧ ys.getD 6 (.int 0) = (.int (nar .byte (y3.toInt8.toInt32))) ∧ ys.getD 7 (.int 0) = (.int (nar .byte ((y3 >>> ((8 : Int32) &&& 31)).toInt8.toInt32))) ∧ ¬ y3 < (1 : Int32) ∧ ¬ (65535 : Int32) < y3) (hk4 : ¬ ((4 : Int32) < ki)) (hzl : (zl >>> ((1 : Int32) &&& 31)) = ki) (hk0 : ¬ (ki < (0 : Int32))) (irk : ¬ (ki < ki)) (h0k : (0 : Int32) < ki) :
    MetFree l mt22 (head1 (Jvm.Cond.code mt22 prog_11_method_5_code 2 (some (.object "java/lang/String")) :: ws) rm7_0_0_100) (fun aq U => aq = #[.ref fn, .ref xs] ∧ Z.Warmed39 U.vm ∧ U.heap = h0) (fun _ _ _ _ _ => True) (fun _ U o U' => ∃ v L, o = .returned v ∧ Q_own_txtU Z fn xs tt kt zc ki zl ys y0 y1 y2 y3 fm h0 n0 v U'.heap L ∧ FrameEnd U o U' L rm7_0_0_100.cells rm7_0_0_100.slots) := by
  refine MetFree.of_bodySF (plainFor_of_name pn_com_example_regent_regent_Input) hisR ?_
  intro p e s m args below meth c s₁ Bd hml0 hP hK
  obtain ⟨rfl, hZ, hh⟩ := hP
  have hx := Bd.exec
  have hby := Bd.bytes
  have hml : c.maxLocals = 2 := hml0
  have hown : s.vm.findClass "com/example/regent/regent/Input" = some m.cls := findClass_of_methodNamed Bd.named
  have hnm := (name_of_methodNamed Bd.named Bd.method).1
  have X0 : Stand p l e rm7_0_0_100 s m #[.ref fn, .ref xs] below meth c s₁ [] 0 0 := Stand.of_body Bd
  have e0 : s₁.heap = h0 := by rw [← hh, Bd.state]; rfl
  have N0 := Fr.nil n0
  have zO := O0.1
  have zO2 := O0.2.1
  have fl_E_xs : h0.size > xs := f0_E_xs.lt
  have fl_F_xs_value : h0.size > xs := f0_F_xs_value.lt
  have fl_F_xs_coder : h0.size > xs := f0_F_xs_coder.lt
  have fl_A_tt : h0.size > tt := f0_A_tt.lt
  refine own_open (own_via (S' := s₁.setTop (mkF m 0 #[.val (.ref fn), .val (.ref xs)] [])) (fun t k => castTop (ef_own_txtU m fn xs) k) ?_)
  have ne_xs_tt : xs ≠ tt := Exa.neArv f0_E_xs f0_A_tt (wd8 hw)
  refine ov s₁ 1 #[.val (.ref fn), .val (.ref xs)] [.ref xs] (fun t k => XS.aloadN X0.here hx rfl (hb hby d9_0) rfl rfl k) ?_
  refine ov s₁ 2 #[.val (.ref fn), .val (.ref xs)] [.int 0, .ref xs] (fun t k => XS.iconst X0.here hx rfl (hb hby d9_1) k) ?_
  obtain ⟨cq1, kq1, q1a, q1b, q1c⟩ := isOf hZ e0 f0_E_xs
  obtain ⟨_, _, ⟨T1, Lp1, kp1, np1⟩, -, X1, ⟨Lc1, hQ1, l1, y1, z1⟩, st1⟩ := X0.virtualBack hx (y := mt21) (z := mt21) hown (mvT hZ (wd47 hw)) (mvT hZ (wd48 hw)) (notFace_of_selects (args := #[]) (mvT hZ (wd50 hw))) (mvT hZ (wd50 hw)) (mvT hZ (wd49 hw)) (by decide) (backOf (W := 0) (own_ixaU l Z a0 hw [] xs tt kt zc ki zl ys y0 y1 y2 y3 fm h0 n0 O0 zfC zf_S_java_lang_StringUTF16__assertionsDisabled zf_S_java_lang_StringUTF16_HI_BYTE_SHIFT zf_S_java_lang_StringUTF16_LO_BYTE_SHIFT zf_S_jdk_internal_util_Preconditions_SIOOBE_FORMATTER f0_E_xs f0_F_xs_value f0_F_xs_coder f0_A_tt hzc rfm gu0 gu1 gu2 gu3 hk4 hzl hk0 irk h0k) hZ (wd51 hw) (wd9 hw) (by decide) (by decide)) q1a q1c (g := (mkF m 2 #[.val (.ref fn), .val (.ref xs)] [.int 0, .ref xs])) rfl (by rw [hml]; rfl) (Steps.refl _) (argsL := [.int 0]) (rest := []) (lenOf pd__I_I_227 rfl) rfl (by show 2 * 0 + _ ≤ _; exact Nat.le_of_eq rfl) (hb hby d9_2) (fun _ _ => ⟨rfl, e0, (by decide : 0 + 0 ≤ _), (by decide : 0 + 0 ≤ _)⟩)
  dsimp only [Pt.U, Pt.locs, Pt.cells, Pt.slots] at X1 l1 y1 z1 st1 hQ1
  subst Lp1 kp1 np1
  obtain ⟨rfl, rfl, e1⟩ := hQ1
  try rw [List.append_nil] at X1
  refine own_tr (S' := T1.setTop (mkF m 5 #[.val (.ref fn), .val (.ref xs)] [(.int (-1))])) st1 ?_
  refine ov T1 15 #[.val (.ref fn), .val (.ref xs)] [] (fun t k => XS.ifYes X1.here hx rfl (pc0 := 5) (pc' := 15) rfl (hb hby d9_5) rfl ((if0 _ _).trans (tlt (by decide : (-1 : Int32) < (0 : Int32))).1) (by decide) (by decide) k) ?_
  refine ov T1 16 #[.val (.ref fn), .val (.ref xs)] [.ref xs] (fun t k => XS.aloadN X1.here hx rfl (hb hby d9_15) rfl rfl k) ?_
  refine own_ret (Q := Q_own_txtU Z fn xs tt kt zc ki zl ys y0 y1 y2 y3 fm h0 n0) (C := rm7_0_0_100.cells) (N := rm7_0_0_100.slots) X1 (v := some (.ref xs)) (fun h => by rw [Bd.returns] at h; cases h) Bd.notSynchronized ?_ (by decide) (by decide) (fun fs hr => retOut X1 hx Bd.returns rfl (Or.inr (Or.inr (Or.inr (Or.inr ⟨rfl, rfl, rfl⟩)))) (hb hby d9_16) hr)
  show Q_own_txtU Z fn xs tt kt zc ki zl ys y0 y1 y2 y3 fm h0 n0 _ T1.heap _
  rw [e1]
  exact ⟨rfl, rfl, rfl⟩
def Q_own_ceC (Z : State) (cc : Int32) (h0 : Heap) (n0 : Nat) (v : Option Value) (h : Heap) (L : List Loc) : Prop := ∃ z : Int32, v = some (.int z) ∧ L = [] ∧ h = h0 ∧ (z = (if (255 : Int32) < cc then (0 : Int32) else (1 : Int32)))
set_option maxRecDepth 65536 in
set_option maxHeartbeats 40000000 in
theorem own_ceC (l : Launch) (Z : State) (a0 : Array Value) (hw : ∀ d ∈ tables_1, d.before a0 Z = true) (ws : List Jvm.Cond) (cc : Int32) (h0 : Heap) (n0 : Nat) (O0 : Old Z n0 h0) :
    MetFree l mt28 (head1 (Jvm.Cond.code mt28 jdk_43_method_3_code 1 (some .boolean) :: ws) rm0_0_0_0) (fun aq U => aq = #[.int cc] ∧ Z.Warmed39 U.vm ∧ U.heap = h0) (fun _ _ _ _ _ => True) (fun _ U o U' => ∃ v L, o = .returned v ∧ Q_own_ceC Z cc h0 n0 v U'.heap L ∧ FrameEnd U o U' L rm0_0_0_0.cells rm0_0_0_0.slots) := by
  refine MetFree.of_bodySF (plainFor_of_name pn_java_lang_StringLatin1) hisR ?_
  intro p e s m args below meth c s₁ Bd hml0 hP hK
  obtain ⟨rfl, hZ, hh⟩ := hP
  have hx := Bd.exec
  have hby := Bd.bytes
  have hml : c.maxLocals = 1 := hml0
  have hown : s.vm.findClass "java/lang/StringLatin1" = some m.cls := findClass_of_methodNamed Bd.named
  have hnm := (name_of_methodNamed Bd.named Bd.method).1
  have X0 : Stand p l e rm0_0_0_0 s m #[.int cc] below meth c s₁ [] 0 0 := Stand.of_body Bd
  have e0 : s₁.heap = h0 := by rw [← hh, Bd.state]; rfl
  have N0 := Fr.nil n0
  have zO := O0.1
  have zO2 := O0.2.1
  refine own_open (own_via (S' := s₁.setTop (mkF m 0 #[.val (.int cc)] [])) (fun t k => castTop (ef_own_ceC m cc) k) ?_)
  refine ov s₁ 1 #[.val (.int cc)] [.int cc] (fun t k => XS.iloadN X0.here hx rfl (hb hby d6_0) rfl k) ?_
  refine ov s₁ 4 #[.val (.int cc)] [.int 255, .int cc] (fun t k => XS.sipush X0.here hx rfl (hb hby d6_1) k) ?_
  by_cases hc4_1 : (255 : Int32) < cc
  · -- yes
    refine ov s₁ 11 #[.val (.int cc)] [] (fun t k => XS.icmpYes X0.here hx rfl (pc0 := 4) (pc' := 11) rfl (hb hby d6_4) rfl (tlt hc4_1).2.2.1 (by decide) (by decide) k) ?_
    refine ov s₁ 12 #[.val (.int cc)] [.int 0] (fun t k => XS.iconst X0.here hx rfl (hb hby d6_11) k) ?_
    refine own_ret (Q := Q_own_ceC Z cc h0 n0) (C := rm0_0_0_0.cells) (N := rm0_0_0_0.slots) X0 (v := some (.int 0)) (fun h => by rw [Bd.returns] at h; cases h) Bd.notSynchronized ?_ (by decide) (by decide) (fun fs hr => retN X0 hx (t := .boolean) Bd.returns (by simp) (hb hby d6_12) hr)
    show Q_own_ceC Z cc h0 n0 _ s₁.heap _
    rw [e0]
    exact ⟨(0 : Int32), rfl, rfl, rfl, ((if_pos hc4_1)).symm⟩
  · -- no
    refine ov s₁ 7 #[.val (.int cc)] [] (fun t k => XS.icmpNo X0.here hx rfl (hb hby d6_4) rfl (flt hc4_1).2.2.1 k) ?_
    refine ov s₁ 8 #[.val (.int cc)] [.int 1] (fun t k => XS.iconst X0.here hx rfl (hb hby d6_7) k) ?_
    refine ov s₁ 12 #[.val (.int cc)] [.int 1] (fun t k => XS.goto X0.here hx rfl (pc0 := 8) (pc' := 12) rfl (hb hby d6_8) (by decide) (by decide) k) ?_
    refine own_ret (Q := Q_own_ceC Z cc h0 n0) (C := rm0_0_0_0.cells) (N := rm0_0_0_0.slots) X0 (v := some (.int 1)) (fun h => by rw [Bd.returns] at h; cases h) Bd.notSynchronized ?_ (by decide) (by decide) (fun fs hr => retN X0 hx (t := .boolean) Bd.returns (by simp) (hb hby d6_12) hr)
    show Q_own_ceC Z cc h0 n0 _ s₁.heap _
    rw [e0]
    exact ⟨(1 : Int32), rfl, rfl, rfl, ((if_neg hc4_1)).symm⟩
def Q_own_tbC (Z : State) (cc : Int32) (h0 : Heap) (n0 : Nat) (v : Option Value) (h : Heap) (L : List Loc) : Prop := ∃ b : Addr, v = some (.ref b) ∧ Fr n0 L ∧ Keep h0 h [] ∧ (h0.size ≤ b)
set_option maxRecDepth 65536 in
set_option maxHeartbeats 40000000 in
theorem own_tbC (l : Launch) (Z : State) (a0 : Array Value) (hw : ∀ d ∈ tables_1, d.before a0 Z = true) (ws : List Jvm.Cond) (cc : Int32) (h0 : Heap) (n0 : Nat) (O0 : Old Z n0 h0) :
    MetFree l mt29 (head1 (Jvm.Cond.code mt29 jdk_43_method_46_code 1 (some (.array .byte)) :: ws) rm0_1_1_0) (fun aq U => aq = #[.int cc] ∧ Z.Warmed39 U.vm ∧ U.heap = h0) (fun _ _ _ _ _ => True) (fun _ U o U' => ∃ v L, o = .returned v ∧ Q_own_tbC Z cc h0 n0 v U'.heap L ∧ FrameEnd U o U' L rm0_1_1_0.cells rm0_1_1_0.slots) := by
  refine MetFree.of_bodySF (plainFor_of_name pn_java_lang_StringLatin1) hisR ?_
  intro p e s m args below meth c s₁ Bd hml0 hP hK
  obtain ⟨rfl, hZ, hh⟩ := hP
  have hx := Bd.exec
  have hby := Bd.bytes
  have hml : c.maxLocals = 1 := hml0
  have hown : s.vm.findClass "java/lang/StringLatin1" = some m.cls := findClass_of_methodNamed Bd.named
  have hnm := (name_of_methodNamed Bd.named Bd.method).1
  have X0 : Stand p l e rm0_1_1_0 s m #[.int cc] below meth c s₁ [] 0 0 := Stand.of_body Bd
  have e0 : s₁.heap = h0 := by rw [← hh, Bd.state]; rfl
  have N0 := Fr.nil n0
  have zO := O0.1
  have zO2 := O0.2.1
  refine own_open (own_via (S' := s₁.setTop (mkF m 0 #[.val (.int cc)] [])) (fun t k => castTop (ef_own_tbC m cc) k) ?_)
  have K0 : Keep h0 h0 [] := Keep.refl _ _
  refine ov s₁ 1 #[.val (.int cc)] [.int 1] (fun t k => XS.iconst X0.here hx rfl (hb hby d7_0) k) ?_
  obtain ⟨T1, h1, k1, X1, e1, E1, A1, st1⟩ := newP (aty := .byte) X0 hx hZ (wd21 hw) e0 (g := (mkF m 1 #[.val (.int cc)] [.int 1])) rfl (hb hby d7_1) rfl (by decide : ¬ ((1 : Int32) < (0 : Int32))) (cap := 1) (by decide) (by decide) (by decide) (by decide)
  obtain ⟨b1, g1⟩ : ∃ z, z = h0.size := ⟨_, rfl⟩
  rw [← g1] at A1 st1
  have lt_b1 : h1.size > b1 := A1.lt
  have sz2 : h0.size ≤ h1.size := E1.1
  have O3 : Old Z n0 h1 := O0.ext E1
  have K4 : Keep h0 h1 [] := K0.ext E1
  have V1 : Arv Z h1 b1 k1 .byte (1 : Int32) [.int 0] (.int 0) := (Arv.new A1 (by decide)).pad (pad_rep [] (.int 0) 1)
  refine ov T1 3 #[.val (.int cc)] [.ref b1] st1 ?_
  refine ov T1 4 #[.val (.int cc)] [.ref b1, .ref b1] (fun t k => XS.dup X1.here hx rfl (hb hby d7_3) rfl rfl k) ?_
  refine ov T1 5 #[.val (.int cc)] [.int 0, .ref b1, .ref b1] (fun t k => XS.iconst X1.here hx rfl (hb hby d7_4) k) ?_
  refine ov T1 6 #[.val (.int cc)] [.int cc, .int 0, .ref b1, .ref b1] (fun t k => XS.iloadN X1.here hx rfl (hb hby d7_5) rfl k) ?_
  refine ov T1 7 #[.val (.int cc)] [(.int (cc.toInt8.toInt32)), .int 0, .ref b1, .ref b1] (fun t k => XS.i2b X1.here hx rfl (hb hby d7_6) rfl k) ?_
  obtain ⟨cl5, Ar5, q5, S5, M5, H5, U5⟩ := id V1
  obtain ⟨T5, h5, X5, e5, W5, st5⟩ := stB X1 hx hZ e1 Ar5 (j := (0 : Int32)) (inb_of S5 ⟨by decide, by decide⟩) (g := (mkF m 7 #[.val (.int cc)] [(.int (cc.toInt8.toInt32)), .int 0, .ref b1, .ref b1])) rfl rfl (hb hby d7_7)
  have sz6 : h1.size ≤ h5.size := Nat.le_of_eq W5.size.symm
  have O7 : Old Z n0 h5 := O3.wr W5 (by omega : n0 ≤ b1)
  have N5 := Fr.snoc X5 N0 (by omega : n0 ≤ b1)
  have K8 : Keep h0 h5 [] := K4.wr W5 (Or.inr (by omega : h0.size ≤ b1))
  have V5 : Arv Z h5 b1 k1 .byte (1 : Int32) [(.int (nar .byte (cc.toInt8.toInt32)))] (.int 0) := Arv.set Ar5 q5 S5 M5 H5 U5 (fits_nar_byte _) W5 0 rfl (Nat.le_of_ble_eq_true rfl)
  refine ov T5 8 #[.val (.int cc)] [.ref b1] st5 ?_
  refine own_ret (Q := Q_own_tbC Z cc h0 n0) (C := rm0_1_1_0.cells) (N := rm0_1_1_0.slots) X5 (v := some (.ref b1)) (fun h => by rw [Bd.returns] at h; cases h) Bd.notSynchronized ?_ (by decide) (by decide) (fun fs hr => retOut X5 hx Bd.returns rfl (Or.inr (Or.inr (Or.inr (Or.inr ⟨rfl, rfl, rfl⟩)))) (hb hby d7_8) hr)
  show Q_own_tbC Z cc h0 n0 _ T5.heap _
  rw [e5]
  exact ⟨b1, rfl, N5, K8, (by omega)⟩
def Q_own_nBB (Z : State) (a : Addr) (b : Addr) (h0 : Heap) (n0 : Nat) (v : Option Value) (h : Heap) (L : List Loc) : Prop := v = none ∧ Fr n0 L ∧ Keep h0 h [a]
set_option maxRecDepth 65536 in
set_option maxHeartbeats 40000000 in
theorem own_nBB (l : Launch) (Z : State) (a0 : Array Value) (hw : ∀ d ∈ tables_1, d.before a0 Z = true) (ws : List Jvm.Cond) (a : Addr) (b : Addr) (h0 : Heap) (n0 : Nat) (O0 : Old Z n0 h0) (f0_E_a : Exa Z h0 a "java/lang/String") (f0_F_a_value : Fld Z h0 a "java/lang/String" "value" "[B" .null) (f0_F_a_coder : Fld Z h0 a "java/lang/String" "coder" "B" (.int 0)) (g_a : n0 ≤ a) :
    MetFree l mt30 (head1 (Jvm.Cond.code mt30 jdk_42_method_151_code 3 none :: ws) rm1_0_0_12) (fun aq U => aq = #[.ref a, .ref b, .int 0] ∧ Z.Warmed39 U.vm ∧ U.heap = h0) (fun _ _ _ _ _ => True) (fun _ U o U' => ∃ v L, o = .returned v ∧ Q_own_nBB Z a b h0 n0 v U'.heap L ∧ FrameEnd U o U' L rm1_0_0_12.cells rm1_0_0_12.slots) := by
  refine MetFree.of_bodySF (plainFor_of_name pn_java_lang_String) hisR ?_
  intro p e s m args below meth c s₁ Bd hml0 hP hK
  obtain ⟨rfl, hZ, hh⟩ := hP
  have hx := Bd.exec
  have hby := Bd.bytes
  have hml : c.maxLocals = 3 := hml0
  have hown : s.vm.findClass "java/lang/String" = some m.cls := findClass_of_methodNamed Bd.named
  have hnm := (name_of_methodNamed Bd.named Bd.method).1
  have X0 : Stand p l e rm1_0_0_12 s m #[.ref a, .ref b, .int 0] below meth c s₁ [] 0 0 := Stand.of_body Bd
  have e0 : s₁.heap = h0 := by rw [← hh, Bd.state]; rfl
  have N0 := Fr.nil n0
  have zO := O0.1
  have zO2 := O0.2.1
  have fl_E_a : h0.size > a := f0_E_a.lt
  have fl_F_a_value : h0.size > a := f0_F_a_value.lt
  have fl_F_a_coder : h0.size > a := f0_F_a_coder.lt
  refine own_open (own_via (S' := s₁.setTop (mkF m 0 #[.val (.ref a), .val (.ref b), .val (.int 0)] [])) (fun t k => castTop (ef_own_nBB m a b (0 : Int32)) k) ?_)
  have K0 : Keep h0 h0 [a] := Keep.refl _ _
  refine ov s₁ 1 #[.val (.ref a), .val (.ref b), .val (.int 0)] [.ref a] (fun t k => XS.aloadN X0.here hx rfl (hb hby d8_0) rfl rfl k) ?_
  obtain ⟨T1, X1, e1, st1⟩ := initO X0 hx hZ hown (wd17 hw) (wd18 hw) (wd19 hw) e0 (g := (mkF m 1 #[.val (.ref a), .val (.ref b), .val (.int 0)] [.ref a])) rfl (by rw [hml]; rfl) rfl (hb hby d8_1) (by decide) (W := 0) (by show 2 * 0 + _ ≤ _; exact Nat.le_of_eq rfl) (by decide)
  refine ov T1 4 #[.val (.ref a), .val (.ref b), .val (.int 0)] [] st1 ?_
  refine ov T1 5 #[.val (.ref a), .val (.ref b), .val (.int 0)] [.ref a] (fun t k => XS.aloadN X1.here hx rfl (hb hby d8_4) rfl rfl k) ?_
  refine ov T1 6 #[.val (.ref a), .val (.ref b), .val (.int 0)] [.ref b, .ref a] (fun t k => XS.aloadN X1.here hx rfl (hb hby d8_5) rfl rfl k) ?_
  obtain ⟨T2, h2, X2, e2, W2, st2⟩ := putF X1 hx hZ hown (host := "") (Or.inl (wd26 hw)) Via.refl e1 f0_F_a_value f0_E_a (Or.inr ⟨(wd22 hw), rfl, hnm⟩) (wd8 hw) (ty := (.array .byte)) (by decide) rfl rfl (g := (mkF m 6 #[.val (.ref a), .val (.ref b), .val (.int 0)] [.ref b, .ref a])) rfl rfl (hb hby d8_6)
  have sz3 : h0.size ≤ h2.size := Nat.le_of_eq W2.size.symm
  have O4 : Old Z n0 h2 := O0.wr W2 (by omega : n0 ≤ a)
  have N2 := Fr.snoc X2 N0 (by omega : n0 ≤ a)
  have K5 : Keep h0 h2 [a] := K0.wr W2 (Or.inl (List.mem_of_getElem? (i := 0) rfl))
  have Fw2 : Fld Z h2 a "java/lang/String" "value" "[B" (.ref b) := Fld.same W2 f0_F_a_value
  refine ov T2 9 #[.val (.ref a), .val (.ref b), .val (.int 0)] [] st2 ?_
  refine ov T2 10 #[.val (.ref a), .val (.ref b), .val (.int 0)] [.ref a] (fun t k => XS.aloadN X2.here hx rfl (hb hby d8_9) rfl rfl k) ?_
  refine ov T2 11 #[.val (.ref a), .val (.ref b), .val (.int 0)] [.int 0, .ref a] (fun t k => XS.iloadN X2.here hx rfl (hb hby d8_10) rfl k) ?_
  have cx6 : Exa Z h2 a "java/lang/String" := (Exa.wr W2 f0_E_a)
  have cx7 : Fld Z h2 a "java/lang/String" "coder" "B" (.int 0) := (Fld.other W2 f0_F_a_coder (Or.inr (slot_ne (Or.inr (wd23 hw)) (Or.inr (wd22 hw)) (by decide) (t := .byte) (t' := (.array .byte)) (by decide) (by decide))))
  obtain ⟨T8, h8, X8, e8, W8, st8⟩ := putFN X2 hx hZ hown (wd27 hw) Via.refl e2 cx7 cx6 (Or.inr ⟨(wd23 hw), rfl, hnm⟩) (wd8 hw) (ty := .byte) (v' := (.int 0)) (by decide) rfl rfl (g := (mkF m 11 #[.val (.ref a), .val (.ref b), .val (.int 0)] [.int 0, .ref a])) rfl rfl (hb hby d8_11)
  have sz9 : h2.size ≤ h8.size := Nat.le_of_eq W8.size.symm
  have O10 : Old Z n0 h8 := O4.wr W8 (by omega : n0 ≤ a)
  have N8 := Fr.snoc X8 N2 (by omega : n0 ≤ a)
  have K11 : Keep h0 h8 [a] := K5.wr W8 (Or.inl (List.mem_of_getElem? (i := 0) rfl))
  have Fw8 : Fld Z h8 a "java/lang/String" "coder" "B" (.int 0) := Fld.same W8 cx7
  refine ov T8 14 #[.val (.ref a), .val (.ref b), .val (.int 0)] [] st8 ?_
  refine own_ret (Q := Q_own_nBB Z a b h0 n0) (C := rm1_0_0_12.cells) (N := rm1_0_0_12.slots) X8 (v := none) (fun _ => rfl) Bd.notSynchronized ?_ (by decide) (by decide) (fun fs hr => X8.returnOut hx Bd.returns (hb hby d8_14) hr)
  show Q_own_nBB Z a b h0 n0 _ T8.heap _
  rw [e8]
  exact ⟨rfl, N8, K11⟩
def Q_own_vof (Z : State) (cc : Int32) (zc : Int32) (h0 : Heap) (n0 : Nat) (v : Option Value) (h : Heap) (L : List Loc) : Prop := ∃ b : Addr, v = some (.ref b) ∧ Fr n0 L ∧ Keep h0 h []
set_option maxRecDepth 65536 in
set_option maxHeartbeats 40000000 in
theorem own_vof (l : Launch) (Z : State) (a0 : Array Value) (hw : ∀ d ∈ tables_1, d.before a0 Z = true) (ws : List Jvm.Cond) (cc : Int32) (zc : Int32) (h0 : Heap) (n0 : Nat) (O0 : Old Z n0 h0) (zfC : Sta Z Z.heap "java/lang/String" "COMPACT_STRINGS" "Z" (.int zc)) (hzc : ¬ (zc = (0 : Int32))) (rc : ¬ cc < 0 ∧ ¬ (255 : Int32) < cc) :
    MetFree l mt31 (head1 (Jvm.Cond.code mt31 jdk_42_method_139_code 1 (some (.object "java/lang/String")) :: ws) rm2_2_5_27) (fun aq U => aq = #[.int cc] ∧ Z.Warmed39 U.vm ∧ U.heap = h0) (fun _ _ _ _ _ => True) (fun _ U o U' => ∃ v L, o = .returned v ∧ Q_own_vof Z cc zc h0 n0 v U'.heap L ∧ FrameEnd U o U' L rm2_2_5_27.cells rm2_2_5_27.slots) := by
  refine MetFree.of_bodySF (plainFor_of_name pn_java_lang_String) hisR ?_
  intro p e s m args below meth c s₁ Bd hml0 hP hK
  obtain ⟨rfl, hZ, hh⟩ := hP
  have hx := Bd.exec
  have hby := Bd.bytes
  have hml : c.maxLocals = 1 := hml0
  have hown : s.vm.findClass "java/lang/String" = some m.cls := findClass_of_methodNamed Bd.named
  have hnm := (name_of_methodNamed Bd.named Bd.method).1
  have X0 : Stand p l e rm2_2_5_27 s m #[.int cc] below meth c s₁ [] 0 0 := Stand.of_body Bd
  have e0 : s₁.heap = h0 := by rw [← hh, Bd.state]; rfl
  have N0 := Fr.nil n0
  have zO := O0.1
  have zO2 := O0.2.1
  refine own_open (own_via (S' := s₁.setTop (mkF m 0 #[.val (.int cc)] [])) (fun t k => castTop (ef_own_vof m cc) k) ?_)
  have K0 : Keep h0 h0 [] := Keep.refl _ _
  have cx1 : Sta Z h0 "java/lang/String" "COMPACT_STRINGS" "Z" (.int zc) := zfC.ext O0.2
  obtain ⟨T2, X2, e2, st2⟩ := getS2 X0 hx hZ hown (host := "") (Or.inl (wd31 hw)) Via.refl e0 cx1 (g := (mkF m 0 #[.val (.int cc)] [])) rfl (hb hby d5_0)
  refine ov T2 3 #[.val (.int cc)] [.int zc] st2 ?_
  refine ov T2 6 #[.val (.int cc)] [] (fun t k => XS.ifNo X2.here hx rfl (hb hby d5_3) rfl ((if0 _ _).trans (feq hzc).1) k) ?_
  refine ov T2 7 #[.val (.int cc)] [.int cc] (fun t k => XS.iloadN X2.here hx rfl (hb hby d5_6) rfl k) ?_
  obtain ⟨_, _, ⟨T3, Lp3, kp3, np3⟩, -, X3, ⟨Lc3, hQ3, l3, y3, z3⟩, st3⟩ := Jvm.LawKit.callS X2 hx (y := mt28) hown (mvT hZ (wd32 hw)) (mvT hZ (wd33 hw)) (mvT hZ (wd34 hw)) (mvT hZ (wd35 hw)) (by decide) (backOf (W := 0) (own_ceC l Z a0 hw [] cc h0 n0 O0) hZ (wd35 hw) (wd34 hw) (by decide) (by decide)) (g := (mkF m 7 #[.val (.int cc)] [.int cc])) rfl (by rw [hml]; rfl) (argsL := [.int cc]) (rest := []) (lenOf pd__C_Z_238 rfl) rfl (by show 2 * 0 + _ ≤ _; exact Nat.le_of_eq rfl) (hb hby d5_7) (fun _ _ => ⟨rfl, e2, (by decide : 0 + 0 ≤ _), (by decide : 0 + 0 ≤ _)⟩)
  dsimp only [Pt.U, Pt.locs, Pt.cells, Pt.slots] at X3 l3 y3 z3 st3 hQ3
  subst Lp3 kp3 np3
  obtain ⟨z3, rfl, rfl, e3, hz3_0⟩ := hQ3
  try rw [List.append_nil] at X3
  refine ov T3 10 #[.val (.int cc)] [.int z3] st3 ?_
  obtain rfl : z3 = (1 : Int32) := hz3_0.trans (if_neg rc.2)
  refine ov T3 13 #[.val (.int cc)] [] (fun t k => XS.ifNo X3.here hx rfl (hb hby d5_10) rfl ((if0 _ _).trans (feq (by decide : ¬ ((1 : Int32) = (0 : Int32)))).1) k) ?_
  obtain ⟨T5, h5, X5, e5, E5, A5, D5, -, st5⟩ := newO X3 hx hZ hown (wd36 hw) (wd8 hw) (wd9 hw) e3 (g := (mkF m 13 #[.val (.int cc)] [])) rfl (hb hby d5_13) (by decide) (by decide)
  obtain ⟨b5, g5⟩ : ∃ z, z = h0.size := ⟨_, rfl⟩
  rw [← g5] at A5 D5 st5
  have lt_b5 : h5.size > b5 := A5.lt
  have sz6 : h0.size ≤ h5.size := E5.1
  have O7 : Old Z n0 h5 := O0.ext E5
  have K8 : Keep h0 h5 [] := K0.ext E5
  have F5_value : Fld Z h5 b5 "java/lang/String" "value" "[B" .null := D5 (Or.inr (wd22 hw)) (ty := (.array .byte)) (by decide)
  have F5_coder : Fld Z h5 b5 "java/lang/String" "coder" "B" (.int 0) := D5 (Or.inr (wd23 hw)) (ty := .byte) (by decide)
  refine ov T5 16 #[.val (.int cc)] [.ref b5] st5 ?_
  refine ov T5 17 #[.val (.int cc)] [.ref b5, .ref b5] (fun t k => XS.dup X5.here hx rfl (hb hby d5_16) rfl rfl k) ?_
  refine ov T5 18 #[.val (.int cc)] [.int cc, .ref b5, .ref b5] (fun t k => XS.iloadN X5.here hx rfl (hb hby d5_17) rfl k) ?_
  obtain ⟨_, _, ⟨T9, Lp9, kp9, np9⟩, -, X9, ⟨Lc9, hQ9, l9, y9, z9⟩, st9⟩ := Jvm.LawKit.callS X5 hx (y := mt29) hown (mvT hZ (wd37 hw)) (mvT hZ (wd38 hw)) (mvT hZ (wd34 hw)) (mvT hZ (wd39 hw)) (by decide) (backOf (W := 2) (own_tbC l Z a0 hw [] cc h5 n0 O7) hZ (wd39 hw) (wd34 hw) (by decide) (by decide)) (g := (mkF m 18 #[.val (.int cc)] [.int cc, .ref b5, .ref b5])) rfl (by rw [hml]; rfl) (argsL := [.int cc]) (rest := [.ref b5, .ref b5]) (lenOf pd__C__B_305 rfl) rfl (by show 2 * 0 + _ ≤ _; exact Nat.le_of_eq rfl) (hb hby d5_18) (fun _ _ => ⟨rfl, e5, (by decide : 1 + 1 ≤ _), (by decide : 4 + 1 ≤ _)⟩)
  dsimp only [Pt.U, Pt.locs, Pt.cells, Pt.slots] at X9 l9 y9 z9 st9 hQ9
  subst Lp9 kp9 np9
  obtain ⟨b9, rfl, N9q, K9q, pp9_0⟩ := hQ9
  have N9 := Fr.app N0 N9q
  have sz10 : h5.size ≤ T9.heap.size := K9q.1
  have O11 : Old Z n0 T9.heap := O7.keep K9q all0
  have K12 : Keep h0 T9.heap [] := K8.trans K9q all0
  refine ov T9 21 #[.val (.int cc)] [.ref b9, .ref b5, .ref b5] st9 ?_
  refine ov T9 22 #[.val (.int cc)] [.int 0, .ref b9, .ref b5, .ref b5] (fun t k => XS.iconst X9.here hx rfl (hb hby d5_21) k) ?_
  have cx14 : Exa Z T9.heap b5 "java/lang/String" := (A5.keep K9q)
  have cx15 : Fld Z T9.heap b5 "java/lang/String" "value" "[B" .null := (F5_value.keep K9q nin0)
  have cx16 : Fld Z T9.heap b5 "java/lang/String" "coder" "B" (.int 0) := (F5_coder.keep K9q nin0)
  obtain ⟨_, _, ⟨T13, Lp13, kp13, np13⟩, -, X13, ⟨Lc13, hQ13, l13, y13, z13⟩, st13⟩ := X9.specialBack hx (y := mt30) rfl hown (mvT hZ (wd40 hw)) (mvT hZ (wd41 hw)) (mvT hZ (wd42 hw)) (by decide) (backOf (W := 1) (own_nBB l Z a0 hw [] b5 b9 T9.heap n0 O11 cx14 cx15 cx16 (by omega)) hZ (wd42 hw) (wd9 hw) (by decide) (by decide)) (g := (mkF m 22 #[.val (.int cc)] [.int 0, .ref b9, .ref b5, .ref b5])) rfl (by rw [hml]; rfl) (Steps.refl _) (a := b5) (argsL := [.ref b9, .int 0]) (rest := [.ref b5]) (lenOf pd___BB_V_390 rfl) rfl (by show 2 * 0 + _ ≤ _; exact Nat.le_of_eq rfl) (hb hby d5_22) (fun _ _ => ⟨rfl, rfl, (by decide : 2 + 0 ≤ _), (by decide : 5 + 0 ≤ _)⟩)
  dsimp only [Pt.U, Pt.locs, Pt.cells, Pt.slots] at X13 l13 y13 z13 st13 hQ13
  subst Lp13 kp13 np13
  obtain ⟨rfl, N13q, K13q⟩ := hQ13
  have N13 := Fr.app N9 N13q
  have sz17 : T9.heap.size ≤ T13.heap.size := K13q.1
  have O18 : Old Z n0 T13.heap := O11.keep K13q (allS (by omega : n0 ≤ b5) all0)
  have K19 : Keep h0 T13.heap [] := K12.trans K13q (allS (P := fun x => x ∈ [] ∨ h0.size ≤ x) (Or.inr (by omega)) all0)
  refine own_tr (S' := T13.setTop (mkF m 25 #[.val (.int cc)] [.ref b5])) st13 ?_
  refine own_ret (Q := Q_own_vof Z cc zc h0 n0) (C := rm2_2_5_27.cells) (N := rm2_2_5_27.slots) X13 (v := some (.ref b5)) (fun h => by rw [Bd.returns] at h; cases h) Bd.notSynchronized ?_ (by decide) (by decide) (fun fs hr => retOut X13 hx Bd.returns rfl (Or.inr (Or.inr (Or.inr (Or.inr ⟨rfl, rfl, rfl⟩)))) (hb hby d5_25) hr)
  show Q_own_vof Z cc zc h0 n0 _ T13.heap _
  exact ⟨b5, rfl, N13, K19⟩
def Q_own_eqs (Z : State) (xs : Addr) (h0 : Heap) (n0 : Nat) (v : Option Value) (h : Heap) (L : List Loc) : Prop := v = some (.int 1) ∧ L = [] ∧ h = h0
set_option maxRecDepth 65536 in
set_option maxHeartbeats 40000000 in
theorem own_eqs (l : Launch) (Z : State) (a0 : Array Value) (hw : ∀ d ∈ tables_1, d.before a0 Z = true) (ws : List Jvm.Cond) (xs : Addr) (h0 : Heap) (n0 : Nat) (O0 : Old Z n0 h0) :
    MetFree l mt32 (head1 (Jvm.Cond.code mt32 jdk_42_method_66_code 3 (some .boolean) :: ws) rm0_0_0_0) (fun aq U => aq = #[.ref xs, .ref xs] ∧ Z.Warmed39 U.vm ∧ U.heap = h0) (fun _ _ _ _ _ => True) (fun _ U o U' => ∃ v L, o = .returned v ∧ Q_own_eqs Z xs h0 n0 v U'.heap L ∧ FrameEnd U o U' L rm0_0_0_0.cells rm0_0_0_0.slots) := by
  refine MetFree.of_bodySF (plainFor_of_name pn_java_lang_String) hisR ?_
  intro p e s m args below meth c s₁ Bd hml0 hP hK
  obtain ⟨rfl, hZ, hh⟩ := hP
  have hx := Bd.exec
  have hby := Bd.bytes
  have hml : c.maxLocals = 3 := hml0
  have hown : s.vm.findClass "java/lang/String" = some m.cls := findClass_of_methodNamed Bd.named
  have hnm := (name_of_methodNamed Bd.named Bd.method).1
  have X0 : Stand p l e rm0_0_0_0 s m #[.ref xs, .ref xs] below meth c s₁ [] 0 0 := Stand.of_body Bd
  have e0 : s₁.heap = h0 := by rw [← hh, Bd.state]; rfl
  have N0 := Fr.nil n0
  have zO := O0.1
  have zO2 := O0.2.1
  refine own_open (own_via (S' := s₁.setTop (mkF m 0 #[.val (.ref xs), .val (.ref xs), .unset] [])) (fun t k => castTop (ef_own_eqs m xs xs) k) ?_)
  refine ov s₁ 1 #[.val (.ref xs), .val (.ref xs), .unset] [.ref xs] (fun t k => XS.aloadN X0.here hx rfl (hb hby d19_0) rfl rfl k) ?_
  refine ov s₁ 2 #[.val (.ref xs), .val (.ref xs), .unset] [.ref xs, .ref xs] (fun t k => XS.aloadN X0.here hx rfl (hb hby d19_1) rfl rfl k) ?_
  refine ov s₁ 5 #[.val (.ref xs), .val (.ref xs), .unset] [] (fun t k => Jvm.RoadKit.acmp (g := (mkF m 2 #[.val (.ref xs), .val (.ref xs), .unset] [.ref xs, .ref xs])) X0 hx rfl rfl rfl (pc0 := 2) (pc' := 5) (same := true) rfl (hb hby d19_2) rfl (decide_eq_true rfl) (by decide) (by decide) k) ?_
  refine ov s₁ 6 #[.val (.ref xs), .val (.ref xs), .unset] [.int 1] (fun t k => XS.iconst X0.here hx rfl (hb hby d19_5) k) ?_
  refine own_ret (Q := Q_own_eqs Z xs h0 n0) (C := rm0_0_0_0.cells) (N := rm0_0_0_0.slots) X0 (v := some (.int 1)) (fun h => by rw [Bd.returns] at h; cases h) Bd.notSynchronized ?_ (by decide) (by decide) (fun fs hr => retN X0 hx (t := .boolean) Bd.returns (by simp) (hb hby d19_6) hr)
  show Q_own_eqs Z xs h0 n0 _ s₁.heap _
  rw [e0]
  exact ⟨rfl, rfl, rfl⟩
def Q_own_nz (Z : State) (xi : Int32) (h0 : Heap) (n0 : Nat) (v : Option Value) (h : Heap) (L : List Loc) : Prop := ∃ w : Int32, v = some (.int w) ∧ L = [] ∧ h = h0 ∧ (¬ w < (1 : Int32) ∧ ¬ (65535 : Int32) < w)
set_option maxRecDepth 65536 in
set_option maxHeartbeats 40000000 in
theorem own_nz (l : Launch) (Z : State) (a0 : Array Value) (hw : ∀ d ∈ tables_1, d.before a0 Z = true) (ws : List Jvm.Cond) (xi : Int32) (h0 : Heap) (n0 : Nat) (O0 : Old Z n0 h0) :
    MetFree l mt33 (head1 (Jvm.Cond.code mt33 method_2_code 1 (some .char) :: ws) rm0_0_0_0) (fun aq U => aq = #[.int xi] ∧ Z.Warmed39 U.vm ∧ U.heap = h0) (fun _ _ _ _ _ => True) (fun _ U o U' => ∃ v L, o = .returned v ∧ Q_own_nz Z xi h0 n0 v U'.heap L ∧ FrameEnd U o U' L rm0_0_0_0.cells rm0_0_0_0.slots) := by
  refine MetFree.of_bodySF (plainFor_of_name pn_com_example_regent_regent_InputTextPinLaw) hisR ?_
  intro p e s m args below meth c s₁ Bd hml0 hP hK
  obtain ⟨rfl, hZ, hh⟩ := hP
  have hx := Bd.exec
  have hby := Bd.bytes
  have hml : c.maxLocals = 1 := hml0
  have hown : s.vm.findClass "com/example/regent/regent/InputTextPinLaw" = some m.cls := findClass_of_methodNamed Bd.named
  have hnm := (name_of_methodNamed Bd.named Bd.method).1
  have X0 : Stand p l e rm0_0_0_0 s m #[.int xi] below meth c s₁ [] 0 0 := Stand.of_body Bd
  have e0 : s₁.heap = h0 := by rw [← hh, Bd.state]; rfl
  have N0 := Fr.nil n0
  have zO := O0.1
  have zO2 := O0.2.1
  refine own_open (own_via (S' := s₁.setTop (mkF m 0 #[.val (.int xi)] [])) (fun t k => castTop (ef_own_nz m xi) k) ?_)
  refine ov s₁ 1 #[.val (.int xi)] [.int 1] (fun t k => XS.iconst X0.here hx rfl (hb hby d1_0) k) ?_
  refine ov s₁ 2 #[.val (.int xi)] [.int xi, .int 1] (fun t k => XS.iloadN X0.here hx rfl (hb hby d1_1) rfl k) ?_
  refine ov s₁ 4 #[.val (.int xi)] [.int 2147483647, .int xi, .int 1] (fun t k => X0.ldcInt hx hown (mvT hZ (wd4 hw)) (g := (mkF m 2 #[.val (.int xi)] [.int xi, .int 1])) rfl (hb hby d1_2) _ k) ?_
  refine ov s₁ 5 #[.val (.int xi)] [(.int (xi &&& (2147483647 : Int32))), .int 1] (fun t k => XS.iand X0.here hx rfl (hb hby d1_4) rfl k) ?_
  refine ov s₁ 7 #[.val (.int xi)] [.int 65535, (.int (xi &&& (2147483647 : Int32))), .int 1] (fun t k => X0.ldcInt hx hown (mvT hZ (wd5 hw)) (g := (mkF m 5 #[.val (.int xi)] [(.int (xi &&& (2147483647 : Int32))), .int 1])) rfl (hb hby d1_5) _ k) ?_
  refine ov s₁ 8 #[.val (.int xi)] [(.int ((xi &&& (2147483647 : Int32)) % (65535 : Int32))), .int 1] (fun t k => iremM X0 hx (g := (mkF m 7 #[.val (.int xi)] [.int 65535, (.int (xi &&& (2147483647 : Int32))), .int 1])) rfl (hb hby d1_7) rfl (by decide) k) ?_
  refine ov s₁ 9 #[.val (.int xi)] [(.int ((1 : Int32) + ((xi &&& (2147483647 : Int32)) % (65535 : Int32))))] (fun t k => XS.iadd X0.here hx rfl (hb hby d1_8) rfl k) ?_
  refine ov s₁ 10 #[.val (.int xi)] [(.int (((1 : Int32) + ((xi &&& (2147483647 : Int32)) % (65535 : Int32))).toUInt32.toUInt16.toUInt32.toInt32))] (fun t k => XS.i2c X0.here hx rfl (hb hby d1_9) rfl k) ?_
  refine own_ret (Q := Q_own_nz Z xi h0 n0) (C := rm0_0_0_0.cells) (N := rm0_0_0_0.slots) X0 (v := some (.int (nar .char (((1 : Int32) + ((xi &&& (2147483647 : Int32)) % (65535 : Int32))).toUInt32.toUInt16.toUInt32.toInt32)))) (fun h => by rw [Bd.returns] at h; cases h) Bd.notSynchronized ?_ (by decide) (by decide) (fun fs hr => retN X0 hx (t := .char) Bd.returns (by simp) (hb hby d1_10) hr)
  show Q_own_nz Z xi h0 n0 _ s₁.heap _
  rw [e0]
  exact ⟨(nar .char (((1 : Int32) + ((xi &&& (2147483647 : Int32)) % (65535 : Int32))).toUInt32.toUInt16.toUInt32.toInt32)), rfl, rfl, rfl, (own_nzr xi)⟩
def Q_own_law (Z : State) (p0 : Int32) (p1 : Int32) (p2 : Int32) (p3 : Int32) (p4 : Int32) (p5 : Int32) (zc : Int32) (fm : Value) (h0 : Heap) (n0 : Nat) (v : Option Value) (vm : Vm) (h : Heap) (L : List Loc) : Prop := v = some (.int 1) ∧ Fr n0 L
set_option maxRecDepth 65536 in
set_option maxHeartbeats 40000000 in
theorem own_law (l : Launch) (Z : State) (a0 : Array Value) (hw : ∀ d ∈ tables_1, d.before a0 Z = true) (ws : List Jvm.Cond) (p0 : Int32) (p1 : Int32) (p2 : Int32) (p3 : Int32) (p4 : Int32) (p5 : Int32) (zc : Int32) (fm : Value) (h0 : Heap) (n0 : Nat) (O0 : Old Z n0 h0) (zfC : Sta Z Z.heap "java/lang/String" "COMPACT_STRINGS" "Z" (.int zc)) (zf_S_jdk_internal_util_Preconditions_SIOOBE_FORMATTER : Sta Z Z.heap "jdk/internal/util/Preconditions" "SIOOBE_FORMATTER" "Ljava/util/function/BiFunction;" fm) (zf_S_java_lang_StringUTF16__assertionsDisabled : Sta Z Z.heap "java/lang/StringUTF16" "$assertionsDisabled" "Z" (.int 1)) (zf_S_java_lang_StringUTF16_HI_BYTE_SHIFT : Sta Z Z.heap "java/lang/StringUTF16" "HI_BYTE_SHIFT" "I" (.int 0)) (zf_S_java_lang_StringUTF16_LO_BYTE_SHIFT : Sta Z Z.heap "java/lang/StringUTF16" "LO_BYTE_SHIFT" "I" (.int 8)) (hzc : ¬ (zc = (0 : Int32))) (rfm : fm.isRef = true) :
    MetFree l x (head1 (Jvm.Cond.code x code maxLocals ret :: ws) room_1) (fun aq U => aq = #[.int p0, .int p1, .int p2, .int p3, .int p4, .int p5] ∧ Z.Warmed39 U.vm ∧ U.heap = h0 ∧ CHv Z own_EL U.vm h0 ∧ ∀ x ∈ ([] : List Addr), Safe Z own_EL U.vm h0 x) (fun _ _ _ _ _ => True) (fun _ U o U' => ∃ v L, o = .returned v ∧ Q_own_law Z p0 p1 p2 p3 p4 p5 zc fm h0 n0 v U'.vm U'.heap L ∧ CHr Z own_EL U.vm U.heap U'.vm U'.heap ∧ ReturnedEndW U o U' L room_1.cells room_1.slots) := by
  refine MetFree.of_bodySF (plainFor_of_name pn_com_example_regent_regent_InputTextPinLaw) hisR ?_
  intro p e s m args below meth c s₁ Bd hml0 hP hK
  obtain ⟨rfl, hZ, hh, hCH, hSL⟩ := hP
  have hx := Bd.exec
  have hby := Bd.bytes
  have hml : c.maxLocals = 15 := hml0
  have hown : s.vm.findClass "com/example/regent/regent/InputTextPinLaw" = some m.cls := findClass_of_methodNamed Bd.named
  have hnm := (name_of_methodNamed Bd.named Bd.method).1
  have X0 : Stand p l e room_1 (s.setVm s.vm) m #[.int p0, .int p1, .int p2, .int p3, .int p4, .int p5] below meth c s₁ [] 0 0 := Stand.of_body Bd
  have e0 : s₁.heap = h0 := by rw [← hh, Bd.state]; rfl
  have N0 := Fr.nil n0
  have zO := O0.1
  have zO2 := O0.2.1
  refine own_open (own_via (S' := s₁.setTop (mkF m 0 #[.val (.int p0), .val (.int p1), .val (.int p2), .val (.int p3), .val (.int p4), .val (.int p5), .unset, .unset, .unset, .unset, .unset, .unset, .unset, .unset, .unset] [])) (fun t k => castTop (ef_own_law m p0 p1 p2 p3 p4 p5) k) ?_)
  have hEL := own_EW hw
  have hS0 : s.Since s.vm h0.size := (State.WarmedH.refl s).since _
  have R0 : CHr Z own_EL s.vm h0 s.vm h0 := CHr.refl hCH
  let A_1 : Array Slot := #[.val (.int p0), .val (.int p1), .val (.int p2), .val (.int p3), .val (.int p4), .val (.int p5), .unset, .unset, .unset, .unset, .unset, .unset, .unset, .unset, .unset]
  refine ov s₁ 1 A_1 [.int p1] (fun t k => XS.iloadN X0.here hx rfl (hb hby at_0) rfl k) ?_
  obtain ⟨_, _, ⟨T1, Lp1, kp1, np1⟩, -, X1, ⟨Lc1, hQ1, l1, y1, z1⟩, st1⟩ := Jvm.LawKit.callS X0 hx (y := mt33) hown (mvT hZ (wd0 hw)) (mvT hZ (wd1 hw)) (mvT hZ (wd2 hw)) (mvT hZ (wd3 hw)) (by decide) (backOf (W := 0) (own_nz l Z a0 hw [] p1 h0 n0 O0) hZ (wd3 hw) (wd2 hw) (by decide) (by decide)) (g := (mkF m 1 A_1 [.int p1])) rfl (by rw [hml]; rfl) (argsL := [.int p1]) (rest := []) (lenOf pd__I_C_221 rfl) rfl (by show 2 * 0 + _ ≤ _; exact Nat.le_of_eq rfl) (hb hby at_1) (fun _ _ => ⟨rfl, e0, (by decide : 0 + 0 ≤ _), (by decide : 0 + 0 ≤ _)⟩)
  dsimp only [Pt.U, Pt.locs, Pt.cells, Pt.slots] at X1 l1 y1 z1 st1 hQ1
  subst Lp1 kp1 np1
  obtain ⟨w1, rfl, rfl, e1, pp1_0⟩ := hQ1
  try rw [List.append_nil] at X1
  refine ov T1 4 A_1 [.int w1] st1 ?_
  have rw_w1 := pp1_0
  let A_2 : Array Slot := #[.val (.int p0), .val (.int p1), .val (.int p2), .val (.int p3), .val (.int p4), .val (.int p5), .val (.int w1), .unset, .unset, .unset, .unset, .unset, .unset, .unset, .unset]
  refine ov T1 6 A_2 [] (fun t k => XS.istore X1.here hx rfl (hb hby at_4) rfl (l' := A_2) rfl k) ?_
  refine ov T1 7 A_2 [.int p2] (fun t k => XS.iloadN X1.here hx rfl (hb hby at_6) rfl k) ?_
  obtain ⟨_, _, ⟨T2, Lp2, kp2, np2⟩, -, X2, ⟨Lc2, hQ2, l2, y2, z2⟩, st2⟩ := Jvm.LawKit.callS X1 hx (y := mt33) hown (mvT hZ (wd0 hw)) (mvT hZ (wd1 hw)) (mvT hZ (wd2 hw)) (mvT hZ (wd3 hw)) (by decide) (backOf (W := 0) (own_nz l Z a0 hw [] p2 h0 n0 O0) hZ (wd3 hw) (wd2 hw) (by decide) (by decide)) (g := (mkF m 7 A_2 [.int p2])) rfl (by rw [hml]; rfl) (argsL := [.int p2]) (rest := []) (lenOf pd__I_C_221 rfl) rfl (by show 2 * 0 + _ ≤ _; exact Nat.le_of_eq rfl) (hb hby at_7) (fun _ _ => ⟨rfl, e1, (by decide : 0 + 0 ≤ _), (by decide : 0 + 0 ≤ _)⟩)
  dsimp only [Pt.U, Pt.locs, Pt.cells, Pt.slots] at X2 l2 y2 z2 st2 hQ2
  subst Lp2 kp2 np2
  obtain ⟨w2, rfl, rfl, e2, pp2_0⟩ := hQ2
  try rw [List.append_nil] at X2
  refine ov T2 10 A_2 [.int w2] st2 ?_
  have rw_w2 := pp2_0
  let A_3 : Array Slot := #[.val (.int p0), .val (.int p1), .val (.int p2), .val (.int p3), .val (.int p4), .val (.int p5), .val (.int w1), .val (.int w2), .unset, .unset, .unset, .unset, .unset, .unset, .unset]
  refine ov T2 12 A_3 [] (fun t k => XS.istore X2.here hx rfl (hb hby at_10) rfl (l' := A_3) rfl k) ?_
  refine ov T2 13 A_3 [.int p3] (fun t k => XS.iloadN X2.here hx rfl (hb hby at_12) rfl k) ?_
  obtain ⟨_, _, ⟨T3, Lp3, kp3, np3⟩, -, X3, ⟨Lc3, hQ3, l3, y3, z3⟩, st3⟩ := Jvm.LawKit.callS X2 hx (y := mt33) hown (mvT hZ (wd0 hw)) (mvT hZ (wd1 hw)) (mvT hZ (wd2 hw)) (mvT hZ (wd3 hw)) (by decide) (backOf (W := 0) (own_nz l Z a0 hw [] p3 h0 n0 O0) hZ (wd3 hw) (wd2 hw) (by decide) (by decide)) (g := (mkF m 13 A_3 [.int p3])) rfl (by rw [hml]; rfl) (argsL := [.int p3]) (rest := []) (lenOf pd__I_C_221 rfl) rfl (by show 2 * 0 + _ ≤ _; exact Nat.le_of_eq rfl) (hb hby at_13) (fun _ _ => ⟨rfl, e2, (by decide : 0 + 0 ≤ _), (by decide : 0 + 0 ≤ _)⟩)
  dsimp only [Pt.U, Pt.locs, Pt.cells, Pt.slots] at X3 l3 y3 z3 st3 hQ3
  subst Lp3 kp3 np3
  obtain ⟨w3, rfl, rfl, e3, pp3_0⟩ := hQ3
  try rw [List.append_nil] at X3
  refine ov T3 16 A_3 [.int w3] st3 ?_
  have rw_w3 := pp3_0
  let A_4 : Array Slot := #[.val (.int p0), .val (.int p1), .val (.int p2), .val (.int p3), .val (.int p4), .val (.int p5), .val (.int w1), .val (.int w2), .val (.int w3), .unset, .unset, .unset, .unset, .unset, .unset]
  refine ov T3 18 A_4 [] (fun t k => XS.istore X3.here hx rfl (hb hby at_16) rfl (l' := A_4) rfl k) ?_
  refine ov T3 20 A_4 [.int p4] (fun t k => XS.iload X3.here hx rfl (hb hby at_18) rfl k) ?_
  obtain ⟨_, _, ⟨T4, Lp4, kp4, np4⟩, -, X4, ⟨Lc4, hQ4, l4, y4, z4⟩, st4⟩ := Jvm.LawKit.callS X3 hx (y := mt33) hown (mvT hZ (wd0 hw)) (mvT hZ (wd1 hw)) (mvT hZ (wd2 hw)) (mvT hZ (wd3 hw)) (by decide) (backOf (W := 0) (own_nz l Z a0 hw [] p4 h0 n0 O0) hZ (wd3 hw) (wd2 hw) (by decide) (by decide)) (g := (mkF m 20 A_4 [.int p4])) rfl (by rw [hml]; rfl) (argsL := [.int p4]) (rest := []) (lenOf pd__I_C_221 rfl) rfl (by show 2 * 0 + _ ≤ _; exact Nat.le_of_eq rfl) (hb hby at_20) (fun _ _ => ⟨rfl, e3, (by decide : 0 + 0 ≤ _), (by decide : 0 + 0 ≤ _)⟩)
  dsimp only [Pt.U, Pt.locs, Pt.cells, Pt.slots] at X4 l4 y4 z4 st4 hQ4
  subst Lp4 kp4 np4
  obtain ⟨w4, rfl, rfl, e4, pp4_0⟩ := hQ4
  try rw [List.append_nil] at X4
  refine ov T4 23 A_4 [.int w4] st4 ?_
  have rw_w4 := pp4_0
  let A_5 : Array Slot := #[.val (.int p0), .val (.int p1), .val (.int p2), .val (.int p3), .val (.int p4), .val (.int p5), .val (.int w1), .val (.int w2), .val (.int w3), .val (.int w4), .unset, .unset, .unset, .unset, .unset]
  refine ov T4 25 A_5 [] (fun t k => XS.istore X4.here hx rfl (hb hby at_23) rfl (l' := A_5) rfl k) ?_
  refine ov T4 26 A_5 [.int p0] (fun t k => XS.iloadN X4.here hx rfl (hb hby at_25) rfl k) ?_
  refine ov T4 28 A_5 [.int 2147483647, .int p0] (fun t k => X4.ldcInt hx hown (mvT hZ (wd4 hw)) (g := (mkF m 26 A_5 [.int p0])) rfl (hb hby at_26) _ k) ?_
  refine ov T4 29 A_5 [(.int (p0 &&& (2147483647 : Int32)))] (fun t k => XS.iand X4.here hx rfl (hb hby at_28) rfl k) ?_
  refine ov T4 30 A_5 [.int 5, (.int (p0 &&& (2147483647 : Int32)))] (fun t k => XS.iconst X4.here hx rfl (hb hby at_29) k) ?_
  refine ov T4 31 A_5 [(.int ((p0 &&& (2147483647 : Int32)) % (5 : Int32)))] (fun t k => iremM X4 hx (g := (mkF m 30 A_5 [.int 5, (.int (p0 &&& (2147483647 : Int32)))])) rfl (hb hby at_30) rfl (by decide) k) ?_
  refine ov T4 33 #[.val (.int p0), .val (.int p1), .val (.int p2), .val (.int p3), .val (.int p4), .val (.int p5), .val (.int w1), .val (.int w2), .val (.int w3), .val (.int w4), .val (.int ((p0 &&& (2147483647 : Int32)) % (5 : Int32))), .unset, .unset, .unset, .unset] [] (fun t k => XS.istore X4.here hx rfl (hb hby at_31) rfl (l' := #[.val (.int p0), .val (.int p1), .val (.int p2), .val (.int p3), .val (.int p4), .val (.int p5), .val (.int w1), .val (.int w2), .val (.int w3), .val (.int w4), .val (.int ((p0 &&& (2147483647 : Int32)) % (5 : Int32))), .unset, .unset, .unset, .unset]) rfl k) ?_
  rcases own_rem5 p0 with hr33_5 | hr33_5 | hr33_5 | hr33_5 | hr33_5
  · rw [hr33_5]
    let A_6 : Array Slot := #[.val (.int p0), .val (.int p1), .val (.int p2), .val (.int p3), .val (.int p4), .val (.int p5), .val (.int w1), .val (.int w2), .val (.int w3), .val (.int w4), .val (.int 0), .unset, .unset, .unset, .unset]
    refine ov T4 35 A_6 [.int 0] (fun t k => XS.iload X4.here hx rfl (hb hby at_33) rfl k) ?_
    refine ov T4 38 A_6 [] (fun t k => XS.ifNo X4.here hx rfl (hb hby at_35) rfl ((if0 _ _).trans (teq (by decide : (0 : Int32) = (0 : Int32))).2) k) ?_
    refine ov T4 39 A_6 [.int 0] (fun t k => XS.iconst X4.here hx rfl (hb hby at_38) k) ?_
    obtain ⟨T6, h6, k6, X6, e6, E6, A6, st6⟩ := newP (aty := .char) X4 hx hZ (wd6 hw) e4 (g := (mkF m 39 A_6 [.int 0])) rfl (hb hby at_39) rfl (by decide : ¬ ((0 : Int32) < (0 : Int32))) (cap := 0) (by decide) (by decide) (by decide) (by decide)
    obtain ⟨b6, g6⟩ : ∃ z, z = h0.size := ⟨_, rfl⟩
    rw [← g6] at A6 st6
    have lt_b6 : h6.size > b6 := A6.lt
    have sz7 : h0.size ≤ h6.size := E6.1
    have O8 : Old Z n0 h6 := O0.ext E6
    have R9 : CHr Z own_EL s.vm h0 s.vm h6 := R0.trans (CHr.ext E6 R0.1)
    have V6 : Arv Z h6 b6 k6 .char (0 : Int32) [] (.int 0) := (Arv.new A6 (by decide)).pad (pad_rep [] (.int 0) 0)
    refine ov T6 41 A_6 [.ref b6] st6 ?_
    let A_7 : Array Slot := #[.val (.int p0), .val (.int p1), .val (.int p2), .val (.int p3), .val (.int p4), .val (.int p5), .val (.int w1), .val (.int w2), .val (.int w3), .val (.int w4), .val (.int 0), .val (.ref b6), .unset, .unset, .unset]
    refine ov T6 43 A_7 [] (fun t k => XS.astore X6.here hx rfl (hb hby at_41) rfl rfl (l' := A_7) rfl k) ?_
    refine ov T6 143 A_7 [] (fun t k => XS.goto X6.here hx rfl (pc0 := 43) (pc' := 143) rfl (hb hby at_43) (by decide) (by decide) k) ?_
    obtain ⟨T10, h10, X10, e10, E10, A10, D10, -, st10⟩ := newO X6 hx hZ hown (wd7 hw) (wd8 hw) (wd9 hw) e6 (g := (mkF m 143 A_7 [])) rfl (hb hby at_143) (by decide) (by decide)
    obtain ⟨b10, g10⟩ : ∃ z, z = h6.size := ⟨_, rfl⟩
    rw [← g10] at A10 D10 st10
    have lt_b10 : h10.size > b10 := A10.lt
    have sz11 : h6.size ≤ h10.size := E10.1
    have O12 : Old Z n0 h10 := O8.ext E10
    have R13 : CHr Z own_EL s.vm h0 s.vm h10 := R9.trans (CHr.ext E10 R9.1)
    have SF_b10 : Safe Z own_EL s.vm h10 b10 := Safe.ext E10 R9.1 (Safe.new (Nat.le_of_eq g10.symm))
    have F10_value : Fld Z h10 b10 "java/lang/String" "value" "[B" .null := D10 (Or.inr (wd22 hw)) (ty := (.array .byte)) (by decide)
    have F10_coder : Fld Z h10 b10 "java/lang/String" "coder" "B" (.int 0) := D10 (Or.inr (wd23 hw)) (ty := .byte) (by decide)
    refine ov T10 146 A_7 [.ref b10] st10 ?_
    refine ov T10 147 A_7 [.ref b10, .ref b10] (fun t k => XS.dup X10.here hx rfl (hb hby at_146) rfl rfl k) ?_
    refine ov T10 149 A_7 [.ref b6, .ref b10, .ref b10] (fun t k => XS.aload X10.here hx rfl (hb hby at_147) rfl rfl k) ?_
    have cx15 : Arv Z h10 b6 k6 .char (0 : Int32) [] (.int 0) := (V6.ext E10)
    have hk14 : h0.size ≤ T10.heap.size := by rw [e10]; omega
    obtain ⟨_, _, ⟨T14, Lp14, kp14, np14⟩, -, X14, hS14, hgr14, ⟨Lc14, ⟨hQ14, R14q⟩, l14, y14, z14⟩, st14⟩ := X10.specialBackS hx (y := mt1) rfl hown (mvT hZ (wd10 hw)) (mvT hZ (wd11 hw)) (mvT hZ (wd12 hw)) (by decide) (own_backW (SL := []) (W := 1) (own_new1e l Z a0 hw [] b10 b6 k6 h10 n0 O12 A10 F10_value F10_coder cx15 (by omega)) hZ (wd12 hw) (wd9 hw) (by decide) (by decide) hEL R13.1 all0) (g := (mkF m 149 A_7 [.ref b6, .ref b10, .ref b10])) rfl (by rw [hml]; rfl) (Steps.refl _) (a := b10) (argsL := [.ref b6]) (rest := [.ref b10]) (lenOf pd___C_V_325 rfl) rfl (by show 2 * 0 + _ ≤ _; exact Nat.le_of_eq rfl) (hb hby at_149) (fun _ _ => ⟨rfl, e10, (by decide : 2 + 4 ≤ _), (by decide : 4 + 8 ≤ _)⟩)
    dsimp only [Pt.U, Pt.locs, Pt.cells, Pt.slots] at X14 l14 y14 z14 st14 hQ14 hS14 hgr14 R14q
    subst Lp14 kp14 np14
    obtain ⟨X14, hSn14, hZ, hown⟩ := rebS hS0 hk14 X14 hS14 hgr14 hZ hown
    obtain ⟨tb14, kb14, rfl, N14q, K14q, f14_0, f14_1, f14_2⟩ := hQ14
    have N14 := Fr.app N0 N14q
    have sz16 : h10.size ≤ T14.heap.size := K14q.1
    have R17 : CHr Z own_EL s.vm h0 T14.vm T14.heap := R13.trans R14q
    have O18 : Old Z n0 T14.heap := O12.keep K14q (allS (by omega : n0 ≤ b10) all0)
    have lt19_tb14 : T14.heap.size > tb14 := f14_2.lt
    refine own_tr (S' := T14.setTop (mkF m 152 A_7 [.ref b10])) st14 ?_
    let A_8 : Array Slot := #[.val (.int p0), .val (.int p1), .val (.int p2), .val (.int p3), .val (.int p4), .val (.int p5), .val (.int w1), .val (.int w2), .val (.int w3), .val (.int w4), .val (.int 0), .val (.ref b6), .val (.ref b10), .unset, .unset]
    refine ov T14 154 A_8 [] (fun t k => XS.astore X14.here hx rfl (hb hby at_152) rfl rfl (l' := A_8) rfl k) ?_
    refine ov T14 156 A_8 [.int p5] (fun t k => XS.iload X14.here hx rfl (hb hby at_154) rfl k) ?_
    refine ov T14 159 A_8 [.int 255, .int p5] (fun t k => XS.sipush X14.here hx rfl (hb hby at_156) k) ?_
    refine ov T14 160 A_8 [(.int (p5 &&& (255 : Int32)))] (fun t k => XS.iand X14.here hx rfl (hb hby at_159) rfl k) ?_
    refine ov T14 161 #[.val (.int p0), .val (.int p1), .val (.int p2), .val (.int p3), .val (.int p4), .val (.int p5), .val (.int w1), .val (.int w2), .val (.int w3), .val (.int w4), .val (.int 0), .val (.ref b6), .val (.ref b10), .unset, .unset] [(.int ((p5 &&& (255 : Int32)).toUInt32.toUInt16.toUInt32.toInt32))] (fun t k => XS.i2c X14.here hx rfl (hb hby at_160) rfl k) ?_
    obtain ⟨cf, hn_cf⟩ : ∃ z : Int32, z = ((p5 &&& (255 : Int32)).toUInt32.toUInt16.toUInt32.toInt32) := ⟨_, rfl⟩
    rw [← hn_cf]
    have rng_cf : ¬ cf < 0 ∧ ¬ (255 : Int32) < cf := by rw [hn_cf]; exact own_and255 _
    obtain ⟨_, _, ⟨T20, Lp20, kp20, np20⟩, -, X20, ⟨Lc20, hQ20, l20, y20, z20⟩, st20⟩ := Jvm.LawKit.callS X14 hx (y := mt31) hown (mvT hZ (wd28 hw)) (mvT hZ (wd29 hw)) (mvT hZ (wd9 hw)) (mvT hZ (wd30 hw)) (by decide) (backOf (W := 0) (own_vof l Z a0 hw [] cf zc T14.heap n0 O18 zfC hzc rng_cf) hZ (wd30 hw) (wd9 hw) (by decide) (by decide)) (g := (mkF m 161 A_8 [.int cf])) rfl (by rw [hml]; rfl) (argsL := [.int cf]) (rest := []) (lenOf pd__C_Ljava_lang_String__1844 rfl) rfl (by show 2 * 0 + _ ≤ _; exact Nat.le_of_eq rfl) (hb hby at_161) (fun _ _ => ⟨rfl, rfl, (by decide : 6 + 2 ≤ _), (by decide : 12 + 5 ≤ _)⟩)
    dsimp only [Pt.U, Pt.locs, Pt.cells, Pt.slots] at X20 l20 y20 z20 st20 hQ20
    subst Lp20 kp20 np20
    obtain ⟨b20, rfl, N20q, K20q⟩ := hQ20
    have N20 := Fr.app N14 N20q
    have sf20 : ∀ x ∈ ([] : List Addr), Safe Z own_EL T14.vm T14.heap x := sf0
    have sz21 : T14.heap.size ≤ T20.heap.size := K20q.1
    have R22 : CHr Z own_EL s.vm h0 T14.vm T20.heap := R17.trans (CHr.keep K20q sf20 R17.1)
    have O23 : Old Z n0 T20.heap := O18.keep K20q all0
    refine ov T20 164 A_8 [.ref b20] st20 ?_
    let A_9 : Array Slot := #[.val (.int p0), .val (.int p1), .val (.int p2), .val (.int p3), .val (.int p4), .val (.int p5), .val (.int w1), .val (.int w2), .val (.int w3), .val (.int w4), .val (.int 0), .val (.ref b6), .val (.ref b10), .val (.ref b20), .unset]
    refine ov T20 166 A_9 [] (fun t k => XS.astore X20.here hx rfl (hb hby at_164) rfl rfl (l' := A_9) rfl k) ?_
    refine ov T20 168 A_9 [.ref b20] (fun t k => XS.aload X20.here hx rfl (hb hby at_166) rfl rfl k) ?_
    refine ov T20 170 A_9 [.ref b10, .ref b20] (fun t k => XS.aload X20.here hx rfl (hb hby at_168) rfl rfl k) ?_
    have cx25 : Exa Z T20.heap b10 "java/lang/String" := ((A10.keep K14q).keep K20q)
    have cx26 : Fld Z T20.heap b10 "java/lang/String" "value" "[B" (.ref tb14) := (f14_0.keep K20q nin0)
    have cx27 : Fld Z T20.heap b10 "java/lang/String" "coder" "B" (.int 0) := (f14_1.keep K20q nin0)
    have cx28 : Arv Z T20.heap tb14 kb14 .byte (0 : Int32) [] (.int 0) := (f14_2.keep K20q nin0)
    obtain ⟨_, _, ⟨T24, Lp24, kp24, np24⟩, -, X24, ⟨Lc24, hQ24, l24, y24, z24⟩, st24⟩ := Jvm.LawKit.callS X20 hx (y := mt22) hown (mvT hZ (wd43 hw)) (mvT hZ (wd44 hw)) (mvT hZ (wd45 hw)) (mvT hZ (wd46 hw)) (by decide) (backOf (W := 0) (own_txtL l Z a0 hw [] b20 b10 tb14 kb14 zc (0 : Int32) [] (0 : Int32) (0 : Int32) (0 : Int32) (0 : Int32) T20.heap n0 O23 zfC cx25 cx26 cx27 cx28 hzc (fun h => absurd h (by decide)) (fun h => absurd h (by decide)) (fun h => absurd h (by decide)) (fun h => absurd h (by decide)) (by decide) (by decide)) hZ (wd46 hw) (wd45 hw) (by decide) (by decide)) (g := (mkF m 170 A_9 [.ref b10, .ref b20])) rfl (by rw [hml]; rfl) (argsL := [.ref b20, .ref b10]) (rest := []) (lenOf pd__Ljava_lang_String_Ljava_lang_String__Ljava_lang_String__5169 rfl) rfl (by show 2 * 0 + _ ≤ _; exact Nat.le_of_eq rfl) (hb hby at_170) (fun _ _ => ⟨rfl, rfl, (by decide : 8 + 0 ≤ _), (by decide : 17 + 0 ≤ _)⟩)
    dsimp only [Pt.U, Pt.locs, Pt.cells, Pt.slots] at X24 l24 y24 z24 st24 hQ24
    subst Lp24 kp24 np24
    obtain ⟨rfl, rfl, e24⟩ := hQ24
    try rw [List.append_nil] at X24
    refine ov T24 173 A_9 [.ref b10] st24 ?_
    let A_10 : Array Slot := #[.val (.int p0), .val (.int p1), .val (.int p2), .val (.int p3), .val (.int p4), .val (.int p5), .val (.int w1), .val (.int w2), .val (.int w3), .val (.int w4), .val (.int 0), .val (.ref b6), .val (.ref b10), .val (.ref b20), .val (.ref b10)]
    refine ov T24 175 A_10 [] (fun t k => XS.astore X24.here hx rfl (hb hby at_173) rfl rfl (l' := A_10) rfl k) ?_
    refine ov T24 177 A_10 [.ref b10] (fun t k => XS.aload X24.here hx rfl (hb hby at_175) rfl rfl k) ?_
    refine ov T24 180 A_10 [] (fun t k => XS.ifnullNo X24.here hx rfl (hb hby at_177) rfl k) ?_
    refine ov T24 182 A_10 [.ref b10] (fun t k => XS.aload X24.here hx rfl (hb hby at_180) rfl rfl k) ?_
    refine ov T24 184 A_10 [.ref b10, .ref b10] (fun t k => XS.aload X24.here hx rfl (hb hby at_182) rfl rfl k) ?_
    obtain ⟨cq29, kq29, q29a, q29b, q29c⟩ := isOf hZ e24 cx25
    obtain ⟨_, _, ⟨T29, Lp29, kp29, np29⟩, -, X29, ⟨Lc29, hQ29, l29, y29, z29⟩, st29⟩ := X24.virtualBack hx (y := mt32) (z := mt32) hown (mvT hZ (wd85 hw)) (mvT hZ (wd86 hw)) (notFace_of_selects (args := #[]) (mvT hZ (wd88 hw))) (mvT hZ (wd88 hw)) (mvT hZ (wd87 hw)) (by decide) (backOf (W := 0) (own_eqs l Z a0 hw [] b10 T20.heap n0 O23) hZ (wd89 hw) (wd9 hw) (by decide) (by decide)) q29a q29c (g := (mkF m 184 A_10 [.ref b10, .ref b10])) rfl (by rw [hml]; rfl) (Steps.refl _) (argsL := [.ref b10]) (rest := []) (lenOf pd__Ljava_lang_Object__Z_1835 rfl) rfl (by show 2 * 0 + _ ≤ _; exact Nat.le_of_eq rfl) (hb hby at_184) (fun _ _ => ⟨rfl, e24, (by decide : 8 + 0 ≤ _), (by decide : 17 + 0 ≤ _)⟩)
    dsimp only [Pt.U, Pt.locs, Pt.cells, Pt.slots] at X29 l29 y29 z29 st29 hQ29
    subst Lp29 kp29 np29
    obtain ⟨rfl, rfl, e29⟩ := hQ29
    try rw [List.append_nil] at X29
    refine own_tr (S' := T29.setTop (mkF m 187 A_10 [.int 1])) st29 ?_
    refine ov T29 190 A_10 [] (fun t k => XS.ifNo X29.here hx rfl (hb hby at_187) rfl ((if0 _ _).trans (feq (by decide : ¬ ((1 : Int32) = (0 : Int32)))).1) k) ?_
    refine ov T29 192 A_10 [.ref b10] (fun t k => XS.aload X29.here hx rfl (hb hby at_190) rfl rfl k) ?_
    obtain ⟨cq30, kq30, q30a, q30b, q30c⟩ := isOf hZ e29 cx25
    obtain ⟨_, _, ⟨T30, Lp30, kp30, np30⟩, -, X30, ⟨Lc30, hQ30, l30, y30, z30⟩, st30⟩ := X29.virtualBack hx (y := mt17) (z := mt17) hown (mvT hZ (wd90 hw)) (mvT hZ (wd63 hw)) (notFace_of_selects (args := #[]) (mvT hZ (wd65 hw))) (mvT hZ (wd65 hw)) (mvT hZ (wd64 hw)) (by decide) (backOf (W := 0) (own_lenL l Z a0 hw [] b10 tb14 kb14 zc (0 : Int32) [] T20.heap n0 O23 zfC cx25 cx26 cx27 cx28 hzc) hZ (wd66 hw) (wd9 hw) (by decide) (by decide)) q30a q30c (g := (mkF m 192 A_10 [.ref b10])) rfl (by rw [hml]; rfl) (Steps.refl _) (argsL := []) (rest := []) (lenOf pd___I_154 rfl) rfl (by show 2 * 0 + _ ≤ _; exact Nat.le_of_eq rfl) (hb hby at_192) (fun _ _ => ⟨rfl, e29, (by decide : 8 + 0 ≤ _), (by decide : 17 + 0 ≤ _)⟩)
    dsimp only [Pt.U, Pt.locs, Pt.cells, Pt.slots] at X30 l30 y30 z30 st30 hQ30
    subst Lp30 kp30 np30
    obtain ⟨rfl, rfl, e30⟩ := hQ30
    try rw [List.append_nil] at X30
    refine own_tr (S' := T30.setTop (mkF m 195 A_10 [.int 0])) st30 ?_
    refine ov T30 197 A_10 [.ref b6, .int 0] (fun t k => XS.aload X30.here hx rfl (hb hby at_195) rfl rfl k) ?_
    have ne_b6_b10 : b6 ≠ b10 := by first | exact (Exa.neArv A10 cx15 (wd8 hw)).symm | exact Nat.ne_of_lt (by omega) | exact Nat.ne_of_gt (by omega)
    have cx31 : Arv Z T20.heap b6 k6 .char (0 : Int32) [] (.int 0) := ((cx15.keep K14q (ninS ne_b6_b10 nin0)).keep K20q nin0)
    obtain ⟨cl32, Ar32, -, S32, N32, -, -⟩ := id cx31
    refine ov T30 198 A_10 [.int 0, .int 0] (fun t k => X30.arraylength hx (by first | (rw [e30]; exact Ar32.1) | exact Ar32.1) (State.isArrayOf_alike hZ.alike Ar32.2.1) (g := (mkF m 197 A_10 [.ref b6, .int 0])) rfl rfl (hb hby at_197) _ (by rw [len_of S32 N32]; exact k)) ?_
    refine ov T30 201 A_10 [] (fun t k => XS.icmpNo X30.here hx rfl (hb hby at_198) rfl (teq (by decide : (0 : Int32) = (0 : Int32))).2 k) ?_
    refine ov T30 202 A_10 [.int 1] (fun t k => XS.iconst X30.here hx rfl (hb hby at_201) k) ?_
    refine ov T30 206 A_10 [.int 1] (fun t k => XS.goto X30.here hx rfl (pc0 := 202) (pc' := 206) rfl (hb hby at_202) (by decide) (by decide) k) ?_
    have RTR22 : CHr Z own_EL s.vm h0 T30.vm T20.heap := R22.trans (CHv.at X30 hZ hEL R22.1)
    have RXR22 : CHr Z own_EL s.vm s.heap T30.vm T30.heap := by rw [hh, e30]; exact RTR22
    refine own_retW (Q := Q_own_law Z p0 p1 p2 p3 p4 p5 zc fm h0 n0) (C := room_1.cells) (N := room_1.slots) X30 hSn14 (by rw [e30]; omega) (v := some (.int 1)) (fun h => by rw [Bd.returns] at h; cases h) Bd.notSynchronized ?_ RXR22 (by decide) (by decide) (fun fs hr => retN X30 hx (t := .boolean) Bd.returns (by simp) (hb hby at_206) hr)
    show Q_own_law Z p0 p1 p2 p3 p4 p5 zc fm h0 n0 _ T30.vm T30.heap _
    rw [e30]
    exact ⟨rfl, N20⟩
  · rw [hr33_5]
    let A_11 : Array Slot := #[.val (.int p0), .val (.int p1), .val (.int p2), .val (.int p3), .val (.int p4), .val (.int p5), .val (.int w1), .val (.int w2), .val (.int w3), .val (.int w4), .val (.int 1), .unset, .unset, .unset, .unset]
    refine ov T4 35 A_11 [.int 1] (fun t k => XS.iload X4.here hx rfl (hb hby at_33) rfl k) ?_
    refine ov T4 46 A_11 [] (fun t k => XS.ifYes X4.here hx rfl (pc0 := 35) (pc' := 46) rfl (hb hby at_35) rfl ((if0 _ _).trans (feq (by decide : ¬ ((1 : Int32) = (0 : Int32)))).2) (by decide) (by decide) k) ?_
    refine ov T4 48 A_11 [.int 1] (fun t k => XS.iload X4.here hx rfl (hb hby at_46) rfl k) ?_
    refine ov T4 49 A_11 [.int 1, .int 1] (fun t k => XS.iconst X4.here hx rfl (hb hby at_48) k) ?_
    refine ov T4 52 A_11 [] (fun t k => XS.icmpNo X4.here hx rfl (hb hby at_49) rfl (teq (by decide : (1 : Int32) = (1 : Int32))).2 k) ?_
    refine ov T4 53 A_11 [.int 1] (fun t k => XS.iconst X4.here hx rfl (hb hby at_52) k) ?_
    obtain ⟨T33, h33, k33, X33, e33, E33, A33, st33⟩ := newP (aty := .char) X4 hx hZ (wd6 hw) e4 (g := (mkF m 53 A_11 [.int 1])) rfl (hb hby at_53) rfl (by decide : ¬ ((1 : Int32) < (0 : Int32))) (cap := 1) (by decide) (by decide) (by decide) (by decide)
    obtain ⟨b33, g33⟩ : ∃ z, z = h0.size := ⟨_, rfl⟩
    rw [← g33] at A33 st33
    have lt_b33 : h33.size > b33 := A33.lt
    have sz34 : h0.size ≤ h33.size := E33.1
    have O35 : Old Z n0 h33 := O0.ext E33
    have R36 : CHr Z own_EL s.vm h0 s.vm h33 := R0.trans (CHr.ext E33 R0.1)
    have V33 : Arv Z h33 b33 k33 .char (1 : Int32) [.int 0] (.int 0) := (Arv.new A33 (by decide)).pad (pad_rep [] (.int 0) 1)
    refine ov T33 55 A_11 [.ref b33] st33 ?_
    refine ov T33 56 A_11 [.ref b33, .ref b33] (fun t k => XS.dup X33.here hx rfl (hb hby at_55) rfl rfl k) ?_
    refine ov T33 57 A_11 [.int 0, .ref b33, .ref b33] (fun t k => XS.iconst X33.here hx rfl (hb hby at_56) k) ?_
    refine ov T33 59 A_11 [.int w1, .int 0, .ref b33, .ref b33] (fun t k => XS.iload X33.here hx rfl (hb hby at_57) rfl k) ?_
    obtain ⟨cl37, Ar37, q37, S37, M37, H37, U37⟩ := id V33
    obtain ⟨T37, h37, X37, e37, W37, st37⟩ := stC X33 hx hZ e33 Ar37 (j := (0 : Int32)) (inb_of S37 ⟨by decide, by decide⟩) (g := (mkF m 59 A_11 [.int w1, .int 0, .ref b33, .ref b33])) rfl rfl (hb hby at_59)
    have sf37 : Safe Z own_EL s.vm h33 b33 := (Safe.arv hZ.alike V33 (by decide))
    have sz38 : h33.size ≤ h37.size := Nat.le_of_eq W37.size.symm
    have R39 : CHr Z own_EL s.vm h0 s.vm h37 := R36.trans (CHr.wr W37 sf37 R36.1)
    have O40 : Old Z n0 h37 := O35.wr W37 (by omega : n0 ≤ b33)
    have N37 := Fr.snoc X37 N0 (by omega : n0 ≤ b33)
    rw [own_narc (own_r16 rw_w1)] at W37
    have V37 : Arv Z h37 b33 k33 .char (1 : Int32) [.int w1] (.int 0) := Arv.set Ar37 q37 S37 M37 H37 U37 (own_fitc (own_r16 rw_w1)) W37 0 rfl (Nat.le_of_ble_eq_true rfl)
    refine ov T37 60 A_11 [.ref b33] st37 ?_
    let A_12 : Array Slot := #[.val (.int p0), .val (.int p1), .val (.int p2), .val (.int p3), .val (.int p4), .val (.int p5), .val (.int w1), .val (.int w2), .val (.int w3), .val (.int w4), .val (.int 1), .val (.ref b33), .unset, .unset, .unset]
    refine ov T37 62 A_12 [] (fun t k => XS.astore X37.here hx rfl (hb hby at_60) rfl rfl (l' := A_12) rfl k) ?_
    refine ov T37 143 A_12 [] (fun t k => XS.goto X37.here hx rfl (pc0 := 62) (pc' := 143) rfl (hb hby at_62) (by decide) (by decide) k) ?_
    obtain ⟨T41, h41, X41, e41, E41, A41, D41, -, st41⟩ := newO X37 hx hZ hown (wd7 hw) (wd8 hw) (wd9 hw) e37 (g := (mkF m 143 A_12 [])) rfl (hb hby at_143) (by decide) (by decide)
    obtain ⟨b41, g41⟩ : ∃ z, z = h37.size := ⟨_, rfl⟩
    rw [← g41] at A41 D41 st41
    have lt_b41 : h41.size > b41 := A41.lt
    have sz42 : h37.size ≤ h41.size := E41.1
    have O43 : Old Z n0 h41 := O40.ext E41
    have R44 : CHr Z own_EL s.vm h0 s.vm h41 := R39.trans (CHr.ext E41 R39.1)
    have SF_b41 : Safe Z own_EL s.vm h41 b41 := Safe.ext E41 R39.1 (Safe.new (Nat.le_of_eq g41.symm))
    have F41_value : Fld Z h41 b41 "java/lang/String" "value" "[B" .null := D41 (Or.inr (wd22 hw)) (ty := (.array .byte)) (by decide)
    have F41_coder : Fld Z h41 b41 "java/lang/String" "coder" "B" (.int 0) := D41 (Or.inr (wd23 hw)) (ty := .byte) (by decide)
    refine ov T41 146 A_12 [.ref b41] st41 ?_
    refine ov T41 147 A_12 [.ref b41, .ref b41] (fun t k => XS.dup X41.here hx rfl (hb hby at_146) rfl rfl k) ?_
    refine ov T41 149 A_12 [.ref b33, .ref b41, .ref b41] (fun t k => XS.aload X41.here hx rfl (hb hby at_147) rfl rfl k) ?_
    by_cases hs149_45 : (255 : Int32) < w1
    · -- split
      have cx47 : Arv Z h41 b33 k33 .char (1 : Int32) [.int w1] (.int 0) := (V37.ext E41)
      obtain ⟨_, _, ⟨T46, Lp46, kp46, np46⟩, -, X46, ⟨Lc46, hQ46, l46, y46, z46⟩, st46⟩ := X41.specialBack hx (y := mt1) rfl hown (mvT hZ (wd10 hw)) (mvT hZ (wd11 hw)) (mvT hZ (wd12 hw)) (by decide) (backOf (W := 1) (own_n1_1 l Z a0 hw [] b41 b33 k33 zc w1 h41 n0 O43 zfC zf_S_java_lang_StringUTF16__assertionsDisabled zf_S_java_lang_StringUTF16_HI_BYTE_SHIFT zf_S_java_lang_StringUTF16_LO_BYTE_SHIFT A41 F41_value F41_coder cx47 hzc (by first | assumption | exact Ne.symm (by assumption) | omega | exact Nat.ne_of_lt (by omega) | exact Nat.ne_of_gt (by omega) | decide | exact Nat.le_of_ble_eq_true rfl) hs149_45 (by omega)) hZ (wd12 hw) (wd9 hw) (by decide) (by decide)) (g := (mkF m 149 A_12 [.ref b33, .ref b41, .ref b41])) rfl (by rw [hml]; rfl) (Steps.refl _) (a := b41) (argsL := [.ref b33]) (rest := [.ref b41]) (lenOf pd___C_V_325 rfl) rfl (by show 2 * 0 + _ ≤ _; exact Nat.le_of_eq rfl) (hb hby at_149) (fun _ _ => ⟨rfl, e41, (by decide : 2 + 2 ≤ _), (by decide : 5 + 3 ≤ _)⟩)
      dsimp only [Pt.U, Pt.locs, Pt.cells, Pt.slots] at X46 l46 y46 z46 st46 hQ46
      subst Lp46 kp46 np46
      obtain ⟨tb46, kb46, rfl, N46q, K46q, f46_0, f46_1, f46_2⟩ := hQ46
      have N46 := Fr.app N37 N46q
      have sf46 : ∀ x ∈ ([b41] : List Addr), Safe Z own_EL s.vm h41 x := (sfS SF_b41 sf0)
      have sz48 : h41.size ≤ T46.heap.size := K46q.1
      have R49 : CHr Z own_EL s.vm h0 s.vm T46.heap := R44.trans (CHr.keep K46q sf46 R44.1)
      have O50 : Old Z n0 T46.heap := O43.keep K46q (allS (by omega : n0 ≤ b41) all0)
      have lt51_tb46 : T46.heap.size > tb46 := f46_2.lt
      refine own_tr (S' := T46.setTop (mkF m 152 A_12 [.ref b41])) st46 ?_
      let A_13 : Array Slot := #[.val (.int p0), .val (.int p1), .val (.int p2), .val (.int p3), .val (.int p4), .val (.int p5), .val (.int w1), .val (.int w2), .val (.int w3), .val (.int w4), .val (.int 1), .val (.ref b33), .val (.ref b41), .unset, .unset]
      refine ov T46 154 A_13 [] (fun t k => XS.astore X46.here hx rfl (hb hby at_152) rfl rfl (l' := A_13) rfl k) ?_
      refine ov T46 156 A_13 [.int p5] (fun t k => XS.iload X46.here hx rfl (hb hby at_154) rfl k) ?_
      refine ov T46 159 A_13 [.int 255, .int p5] (fun t k => XS.sipush X46.here hx rfl (hb hby at_156) k) ?_
      refine ov T46 160 A_13 [(.int (p5 &&& (255 : Int32)))] (fun t k => XS.iand X46.here hx rfl (hb hby at_159) rfl k) ?_
      refine ov T46 161 #[.val (.int p0), .val (.int p1), .val (.int p2), .val (.int p3), .val (.int p4), .val (.int p5), .val (.int w1), .val (.int w2), .val (.int w3), .val (.int w4), .val (.int 1), .val (.ref b33), .val (.ref b41), .unset, .unset] [(.int ((p5 &&& (255 : Int32)).toUInt32.toUInt16.toUInt32.toInt32))] (fun t k => XS.i2c X46.here hx rfl (hb hby at_160) rfl k) ?_
      obtain ⟨cf, hn_cf⟩ : ∃ z : Int32, z = ((p5 &&& (255 : Int32)).toUInt32.toUInt16.toUInt32.toInt32) := ⟨_, rfl⟩
      rw [← hn_cf]
      have rng_cf : ¬ cf < 0 ∧ ¬ (255 : Int32) < cf := by rw [hn_cf]; exact own_and255 _
      obtain ⟨_, _, ⟨T52, Lp52, kp52, np52⟩, -, X52, ⟨Lc52, hQ52, l52, y52, z52⟩, st52⟩ := Jvm.LawKit.callS X46 hx (y := mt31) hown (mvT hZ (wd28 hw)) (mvT hZ (wd29 hw)) (mvT hZ (wd9 hw)) (mvT hZ (wd30 hw)) (by decide) (backOf (W := 0) (own_vof l Z a0 hw [] cf zc T46.heap n0 O50 zfC hzc rng_cf) hZ (wd30 hw) (wd9 hw) (by decide) (by decide)) (g := (mkF m 161 A_13 [.int cf])) rfl (by rw [hml]; rfl) (argsL := [.int cf]) (rest := []) (lenOf pd__C_Ljava_lang_String__1844 rfl) rfl (by show 2 * 0 + _ ≤ _; exact Nat.le_of_eq rfl) (hb hby at_161) (fun _ _ => ⟨rfl, rfl, (by decide : 4 + 2 ≤ _), (by decide : 8 + 5 ≤ _)⟩)
      dsimp only [Pt.U, Pt.locs, Pt.cells, Pt.slots] at X52 l52 y52 z52 st52 hQ52
      subst Lp52 kp52 np52
      obtain ⟨b52, rfl, N52q, K52q⟩ := hQ52
      have N52 := Fr.app N46 N52q
      have sf52 : ∀ x ∈ ([] : List Addr), Safe Z own_EL s.vm T46.heap x := sf0
      have sz53 : T46.heap.size ≤ T52.heap.size := K52q.1
      have R54 : CHr Z own_EL s.vm h0 s.vm T52.heap := R49.trans (CHr.keep K52q sf52 R49.1)
      have O55 : Old Z n0 T52.heap := O50.keep K52q all0
      refine ov T52 164 A_13 [.ref b52] st52 ?_
      let A_14 : Array Slot := #[.val (.int p0), .val (.int p1), .val (.int p2), .val (.int p3), .val (.int p4), .val (.int p5), .val (.int w1), .val (.int w2), .val (.int w3), .val (.int w4), .val (.int 1), .val (.ref b33), .val (.ref b41), .val (.ref b52), .unset]
      refine ov T52 166 A_14 [] (fun t k => XS.astore X52.here hx rfl (hb hby at_164) rfl rfl (l' := A_14) rfl k) ?_
      refine ov T52 168 A_14 [.ref b52] (fun t k => XS.aload X52.here hx rfl (hb hby at_166) rfl rfl k) ?_
      refine ov T52 170 A_14 [.ref b41, .ref b52] (fun t k => XS.aload X52.here hx rfl (hb hby at_168) rfl rfl k) ?_
      have cx57 : Exa Z T52.heap b41 "java/lang/String" := ((A41.keep K46q).keep K52q)
      have cx58 : Fld Z T52.heap b41 "java/lang/String" "value" "[B" (.ref tb46) := (f46_0.keep K52q nin0)
      have cx59 : Fld Z T52.heap b41 "java/lang/String" "coder" "B" (.int 1) := (f46_1.keep K52q nin0)
      have cx60 : Arv Z T52.heap tb46 kb46 .byte (2 : Int32) (own_L0 w1) (.int 0) := (f46_2.keep K52q nin0)
      obtain ⟨_, _, ⟨T56, Lp56, kp56, np56⟩, -, X56, ⟨Lc56, hQ56, l56, y56, z56⟩, st56⟩ := Jvm.LawKit.callS X52 hx (y := mt22) hown (mvT hZ (wd43 hw)) (mvT hZ (wd44 hw)) (mvT hZ (wd45 hw)) (mvT hZ (wd46 hw)) (by decide) (backOf (W := 0) (own_txtU l Z a0 hw [] b52 b41 tb46 kb46 zc (1 : Int32) (2 : Int32) (own_L0 w1) w1 (0 : Int32) (0 : Int32) (0 : Int32) fm T52.heap n0 O55 zfC zf_S_java_lang_StringUTF16__assertionsDisabled zf_S_java_lang_StringUTF16_HI_BYTE_SHIFT zf_S_java_lang_StringUTF16_LO_BYTE_SHIFT zf_S_jdk_internal_util_Preconditions_SIOOBE_FORMATTER cx57 cx58 cx59 cx60 hzc rfm (fun _ => ⟨by decide, by decide, rfl, rfl, rw_w1⟩) (fun h => absurd h (by decide)) (fun h => absurd h (by decide)) (fun h => absurd h (by decide)) (by decide) (by decide) (by decide) (by decide) (by decide)) hZ (wd46 hw) (wd45 hw) (by decide) (by decide)) (g := (mkF m 170 A_14 [.ref b41, .ref b52])) rfl (by rw [hml]; rfl) (argsL := [.ref b52, .ref b41]) (rest := []) (lenOf pd__Ljava_lang_String_Ljava_lang_String__Ljava_lang_String__5169 rfl) rfl (by show 2 * 0 + _ ≤ _; exact Nat.le_of_eq rfl) (hb hby at_170) (fun _ _ => ⟨rfl, rfl, (by decide : 6 + 0 ≤ _), (by decide : 13 + 0 ≤ _)⟩)
      dsimp only [Pt.U, Pt.locs, Pt.cells, Pt.slots] at X56 l56 y56 z56 st56 hQ56
      subst Lp56 kp56 np56
      obtain ⟨rfl, rfl, e56⟩ := hQ56
      try rw [List.append_nil] at X56
      refine ov T56 173 A_14 [.ref b41] st56 ?_
      let A_15 : Array Slot := #[.val (.int p0), .val (.int p1), .val (.int p2), .val (.int p3), .val (.int p4), .val (.int p5), .val (.int w1), .val (.int w2), .val (.int w3), .val (.int w4), .val (.int 1), .val (.ref b33), .val (.ref b41), .val (.ref b52), .val (.ref b41)]
      refine ov T56 175 A_15 [] (fun t k => XS.astore X56.here hx rfl (hb hby at_173) rfl rfl (l' := A_15) rfl k) ?_
      refine ov T56 177 A_15 [.ref b41] (fun t k => XS.aload X56.here hx rfl (hb hby at_175) rfl rfl k) ?_
      refine ov T56 180 A_15 [] (fun t k => XS.ifnullNo X56.here hx rfl (hb hby at_177) rfl k) ?_
      refine ov T56 182 A_15 [.ref b41] (fun t k => XS.aload X56.here hx rfl (hb hby at_180) rfl rfl k) ?_
      refine ov T56 184 A_15 [.ref b41, .ref b41] (fun t k => XS.aload X56.here hx rfl (hb hby at_182) rfl rfl k) ?_
      obtain ⟨cq61, kq61, q61a, q61b, q61c⟩ := isOf hZ e56 cx57
      obtain ⟨_, _, ⟨T61, Lp61, kp61, np61⟩, -, X61, ⟨Lc61, hQ61, l61, y61, z61⟩, st61⟩ := X56.virtualBack hx (y := mt32) (z := mt32) hown (mvT hZ (wd85 hw)) (mvT hZ (wd86 hw)) (notFace_of_selects (args := #[]) (mvT hZ (wd88 hw))) (mvT hZ (wd88 hw)) (mvT hZ (wd87 hw)) (by decide) (backOf (W := 0) (own_eqs l Z a0 hw [] b41 T52.heap n0 O55) hZ (wd89 hw) (wd9 hw) (by decide) (by decide)) q61a q61c (g := (mkF m 184 A_15 [.ref b41, .ref b41])) rfl (by rw [hml]; rfl) (Steps.refl _) (argsL := [.ref b41]) (rest := []) (lenOf pd__Ljava_lang_Object__Z_1835 rfl) rfl (by show 2 * 0 + _ ≤ _; exact Nat.le_of_eq rfl) (hb hby at_184) (fun _ _ => ⟨rfl, e56, (by decide : 6 + 0 ≤ _), (by decide : 13 + 0 ≤ _)⟩)
      dsimp only [Pt.U, Pt.locs, Pt.cells, Pt.slots] at X61 l61 y61 z61 st61 hQ61
      subst Lp61 kp61 np61
      obtain ⟨rfl, rfl, e61⟩ := hQ61
      try rw [List.append_nil] at X61
      refine own_tr (S' := T61.setTop (mkF m 187 A_15 [.int 1])) st61 ?_
      refine ov T61 190 A_15 [] (fun t k => XS.ifNo X61.here hx rfl (hb hby at_187) rfl ((if0 _ _).trans (feq (by decide : ¬ ((1 : Int32) = (0 : Int32)))).1) k) ?_
      refine ov T61 192 A_15 [.ref b41] (fun t k => XS.aload X61.here hx rfl (hb hby at_190) rfl rfl k) ?_
      obtain ⟨cq62, kq62, q62a, q62b, q62c⟩ := isOf hZ e61 cx57
      obtain ⟨_, _, ⟨T62, Lp62, kp62, np62⟩, -, X62, ⟨Lc62, hQ62, l62, y62, z62⟩, st62⟩ := X61.virtualBack hx (y := mt17) (z := mt17) hown (mvT hZ (wd90 hw)) (mvT hZ (wd63 hw)) (notFace_of_selects (args := #[]) (mvT hZ (wd65 hw))) (mvT hZ (wd65 hw)) (mvT hZ (wd64 hw)) (by decide) (backOf (W := 0) (own_lenU l Z a0 hw [] b41 tb46 kb46 zc (1 : Int32) (2 : Int32) (own_L0 w1) T52.heap n0 O55 zfC cx57 cx58 cx59 cx60 hzc (by decide)) hZ (wd66 hw) (wd9 hw) (by decide) (by decide)) q62a q62c (g := (mkF m 192 A_15 [.ref b41])) rfl (by rw [hml]; rfl) (Steps.refl _) (argsL := []) (rest := []) (lenOf pd___I_154 rfl) rfl (by show 2 * 0 + _ ≤ _; exact Nat.le_of_eq rfl) (hb hby at_192) (fun _ _ => ⟨rfl, e61, (by decide : 6 + 0 ≤ _), (by decide : 13 + 0 ≤ _)⟩)
      dsimp only [Pt.U, Pt.locs, Pt.cells, Pt.slots] at X62 l62 y62 z62 st62 hQ62
      subst Lp62 kp62 np62
      obtain ⟨rfl, rfl, e62⟩ := hQ62
      try rw [List.append_nil] at X62
      refine own_tr (S' := T62.setTop (mkF m 195 A_15 [.int 1])) st62 ?_
      refine ov T62 197 A_15 [.ref b33, .int 1] (fun t k => XS.aload X62.here hx rfl (hb hby at_195) rfl rfl k) ?_
      have ne_b33_b41 : b33 ≠ b41 := by first | exact (Exa.neArv A41 cx47 (wd8 hw)).symm | exact Nat.ne_of_lt (by omega) | exact Nat.ne_of_gt (by omega)
      have cx63 : Arv Z T52.heap b33 k33 .char (1 : Int32) [.int w1] (.int 0) := ((cx47.keep K46q (ninS ne_b33_b41 nin0)).keep K52q nin0)
      obtain ⟨cl64, Ar64, -, S64, N64, -, -⟩ := id cx63
      refine ov T62 198 A_15 [.int 1, .int 1] (fun t k => X62.arraylength hx (by first | (rw [e62]; exact Ar64.1) | exact Ar64.1) (State.isArrayOf_alike hZ.alike Ar64.2.1) (g := (mkF m 197 A_15 [.ref b33, .int 1])) rfl rfl (hb hby at_197) _ (by rw [len_of S64 N64]; exact k)) ?_
      refine ov T62 201 A_15 [] (fun t k => XS.icmpNo X62.here hx rfl (hb hby at_198) rfl (teq (by decide : (1 : Int32) = (1 : Int32))).2 k) ?_
      refine ov T62 202 A_15 [.int 1] (fun t k => XS.iconst X62.here hx rfl (hb hby at_201) k) ?_
      refine ov T62 206 A_15 [.int 1] (fun t k => XS.goto X62.here hx rfl (pc0 := 202) (pc' := 206) rfl (hb hby at_202) (by decide) (by decide) k) ?_
      have RTR54 : CHr Z own_EL s.vm h0 T62.vm T52.heap := R54.trans (CHv.at X62 hZ hEL R54.1)
      have RXR54 : CHr Z own_EL s.vm s.heap T62.vm T62.heap := by rw [hh, e62]; exact RTR54
      refine own_retW (Q := Q_own_law Z p0 p1 p2 p3 p4 p5 zc fm h0 n0) (C := room_1.cells) (N := room_1.slots) X62 hS0 (by rw [e62]; omega) (v := some (.int 1)) (fun h => by rw [Bd.returns] at h; cases h) Bd.notSynchronized ?_ RXR54 (by decide) (by decide) (fun fs hr => retN X62 hx (t := .boolean) Bd.returns (by simp) (hb hby at_206) hr)
      show Q_own_law Z p0 p1 p2 p3 p4 p5 zc fm h0 n0 _ T62.vm T62.heap _
      rw [e62]
      exact ⟨rfl, N52⟩
    · -- split
      have q8w1 : ¬ w1 < (1 : Int32) ∧ ¬ (255 : Int32) < w1 := ⟨rw_w1.1, fun q => hs149_45 (q)⟩
      have rlw1 : ¬ w1 < 0 ∧ ¬ (255 : Int32) < w1 := ⟨own_lt0 q8w1.1, q8w1.2⟩
      have cx66 : Arv Z h41 b33 k33 .char (1 : Int32) [.int w1] (.int 0) := (V37.ext E41)
      have cx67 : Sta Z h41 "java/lang/String" "COMPACT_STRINGS" "Z" (.int zc) := zfC.ext O43.2
      have hws65 := own_mw hw
      have hp65 : ∀ c ∈ ([w1] : List Int32), ¬ c < 0 ∧ ¬ (255 : Int32) < c := by
        intro c hc
        simp only [List.mem_cons, List.not_mem_nil, or_false] at hc
        rcases hc with rfl
        · exact rlw1
      obtain ⟨_, _, ⟨T65, Lp65, kp65, np65⟩, -, X65, ⟨Lc65, hQ65, l65, y65, z65⟩, st65⟩ := X41.specialBack hx (y := mt1) rfl hown (mvT hZ (wd10 hw)) (mvT hZ (wd11 hw)) (mvT hZ (wd12 hw)) (by decide) (StrChars.Road.backV (W := 1) hZ hws65 (kI := 4) (wd8 hw) (cs := ([w1] : List Int32)) (bs := (([w1] : List Int32)).map (fun c => c.toInt8.toInt32)) (n := 1) (by omega : n0 ≤ b41) (by omega : n0 ≤ h41.size) A41 F41_value F41_coder cx66 cx67 hzc rfl rfl (by decide) (by decide) hp65 rfl (by decide) (by decide)) (g := (mkF m 149 A_12 [.ref b33, .ref b41, .ref b41])) rfl (by rw [hml]; rfl) (Steps.refl _) (a := b41) (argsL := [.ref b33]) (rest := [.ref b41]) (lenOf pd___C_V_325 rfl) rfl (by show 2 * 0 + _ ≤ _; exact Nat.le_of_eq rfl) (hb hby at_149) (fun _ _ => ⟨rfl, e41, (by decide : 2 + 1 ≤ _), (by decide : 5 + 1 ≤ _)⟩)
      dsimp only [Pt.U, Pt.locs, Pt.cells, Pt.slots] at X65 l65 y65 z65 st65 hQ65
      subst Lp65 kp65 np65
      obtain ⟨rfl, N65q, K65q, f65_0, f65_1, t65, kb65, tg65, tg65', tn65, f65_2, f65_3⟩ := hQ65
      have N65 := Fr.app N37 N65q
      have sf65 : ∀ x ∈ ([b41] : List Addr), Safe Z own_EL s.vm h41 x := (sfS SF_b41 sf0)
      have sz68 : h41.size ≤ T65.heap.size := K65q.1
      have R69 : CHr Z own_EL s.vm h0 s.vm T65.heap := R44.trans (CHr.keep K65q sf65 R44.1)
      have O70 : Old Z n0 T65.heap := O43.keep K65q (allS (by omega : n0 ≤ b41) all0)
      have lt_t65 : T65.heap.size > t65 := f65_3.lt
      refine own_tr (S' := T65.setTop (mkF m 152 A_12 [.ref b41])) st65 ?_
      let A_16 : Array Slot := #[.val (.int p0), .val (.int p1), .val (.int p2), .val (.int p3), .val (.int p4), .val (.int p5), .val (.int w1), .val (.int w2), .val (.int w3), .val (.int w4), .val (.int 1), .val (.ref b33), .val (.ref b41), .unset, .unset]
      refine ov T65 154 A_16 [] (fun t k => XS.astore X65.here hx rfl (hb hby at_152) rfl rfl (l' := A_16) rfl k) ?_
      refine ov T65 156 A_16 [.int p5] (fun t k => XS.iload X65.here hx rfl (hb hby at_154) rfl k) ?_
      refine ov T65 159 A_16 [.int 255, .int p5] (fun t k => XS.sipush X65.here hx rfl (hb hby at_156) k) ?_
      refine ov T65 160 A_16 [(.int (p5 &&& (255 : Int32)))] (fun t k => XS.iand X65.here hx rfl (hb hby at_159) rfl k) ?_
      refine ov T65 161 #[.val (.int p0), .val (.int p1), .val (.int p2), .val (.int p3), .val (.int p4), .val (.int p5), .val (.int w1), .val (.int w2), .val (.int w3), .val (.int w4), .val (.int 1), .val (.ref b33), .val (.ref b41), .unset, .unset] [(.int ((p5 &&& (255 : Int32)).toUInt32.toUInt16.toUInt32.toInt32))] (fun t k => XS.i2c X65.here hx rfl (hb hby at_160) rfl k) ?_
      obtain ⟨cf, hn_cf⟩ : ∃ z : Int32, z = ((p5 &&& (255 : Int32)).toUInt32.toUInt16.toUInt32.toInt32) := ⟨_, rfl⟩
      rw [← hn_cf]
      have rng_cf : ¬ cf < 0 ∧ ¬ (255 : Int32) < cf := by rw [hn_cf]; exact own_and255 _
      obtain ⟨_, _, ⟨T71, Lp71, kp71, np71⟩, -, X71, ⟨Lc71, hQ71, l71, y71, z71⟩, st71⟩ := Jvm.LawKit.callS X65 hx (y := mt31) hown (mvT hZ (wd28 hw)) (mvT hZ (wd29 hw)) (mvT hZ (wd9 hw)) (mvT hZ (wd30 hw)) (by decide) (backOf (W := 0) (own_vof l Z a0 hw [] cf zc T65.heap n0 O70 zfC hzc rng_cf) hZ (wd30 hw) (wd9 hw) (by decide) (by decide)) (g := (mkF m 161 A_16 [.int cf])) rfl (by rw [hml]; rfl) (argsL := [.int cf]) (rest := []) (lenOf pd__C_Ljava_lang_String__1844 rfl) rfl (by show 2 * 0 + _ ≤ _; exact Nat.le_of_eq rfl) (hb hby at_161) (fun _ _ => ⟨rfl, rfl, (by decide : 3 + 2 ≤ _), (by decide : 6 + 5 ≤ _)⟩)
      dsimp only [Pt.U, Pt.locs, Pt.cells, Pt.slots] at X71 l71 y71 z71 st71 hQ71
      subst Lp71 kp71 np71
      obtain ⟨b71, rfl, N71q, K71q⟩ := hQ71
      have N71 := Fr.app N65 N71q
      have sf71 : ∀ x ∈ ([] : List Addr), Safe Z own_EL s.vm T65.heap x := sf0
      have sz72 : T65.heap.size ≤ T71.heap.size := K71q.1
      have R73 : CHr Z own_EL s.vm h0 s.vm T71.heap := R69.trans (CHr.keep K71q sf71 R69.1)
      have O74 : Old Z n0 T71.heap := O70.keep K71q all0
      refine ov T71 164 A_16 [.ref b71] st71 ?_
      let A_17 : Array Slot := #[.val (.int p0), .val (.int p1), .val (.int p2), .val (.int p3), .val (.int p4), .val (.int p5), .val (.int w1), .val (.int w2), .val (.int w3), .val (.int w4), .val (.int 1), .val (.ref b33), .val (.ref b41), .val (.ref b71), .unset]
      refine ov T71 166 A_17 [] (fun t k => XS.astore X71.here hx rfl (hb hby at_164) rfl rfl (l' := A_17) rfl k) ?_
      refine ov T71 168 A_17 [.ref b71] (fun t k => XS.aload X71.here hx rfl (hb hby at_166) rfl rfl k) ?_
      refine ov T71 170 A_17 [.ref b41, .ref b71] (fun t k => XS.aload X71.here hx rfl (hb hby at_168) rfl rfl k) ?_
      have cx76 : Exa Z T71.heap b41 "java/lang/String" := (f65_0.keep K71q)
      have cx77 : Fld Z T71.heap b41 "java/lang/String" "value" "[B" (.ref t65) := (f65_2.keep K71q nin0)
      have cx78 : Fld Z T71.heap b41 "java/lang/String" "coder" "B" (.int 0) := (f65_1.keep K71q nin0)
      have cx79 : Arv Z T71.heap t65 kb65 .byte (1 : Int32) [(.int (w1.toInt8.toInt32))] (.int 0) := (f65_3.keep K71q nin0)
      obtain ⟨_, _, ⟨T75, Lp75, kp75, np75⟩, -, X75, ⟨Lc75, hQ75, l75, y75, z75⟩, st75⟩ := Jvm.LawKit.callS X71 hx (y := mt22) hown (mvT hZ (wd43 hw)) (mvT hZ (wd44 hw)) (mvT hZ (wd45 hw)) (mvT hZ (wd46 hw)) (by decide) (backOf (W := 0) (own_txtL l Z a0 hw [] b71 b41 t65 kb65 zc (1 : Int32) [(.int (w1.toInt8.toInt32))] (w1.toInt8.toInt32) (0 : Int32) (0 : Int32) (0 : Int32) T71.heap n0 O74 zfC cx76 cx77 cx78 cx79 hzc (fun _ => ⟨rfl, own_bnz q8w1⟩) (fun h => absurd h (by decide)) (fun h => absurd h (by decide)) (fun h => absurd h (by decide)) (by decide) (by decide)) hZ (wd46 hw) (wd45 hw) (by decide) (by decide)) (g := (mkF m 170 A_17 [.ref b41, .ref b71])) rfl (by rw [hml]; rfl) (argsL := [.ref b71, .ref b41]) (rest := []) (lenOf pd__Ljava_lang_String_Ljava_lang_String__Ljava_lang_String__5169 rfl) rfl (by show 2 * 0 + _ ≤ _; exact Nat.le_of_eq rfl) (hb hby at_170) (fun _ _ => ⟨rfl, rfl, (by decide : 5 + 0 ≤ _), (by decide : 11 + 0 ≤ _)⟩)
      dsimp only [Pt.U, Pt.locs, Pt.cells, Pt.slots] at X75 l75 y75 z75 st75 hQ75
      subst Lp75 kp75 np75
      obtain ⟨rfl, rfl, e75⟩ := hQ75
      try rw [List.append_nil] at X75
      refine ov T75 173 A_17 [.ref b41] st75 ?_
      let A_18 : Array Slot := #[.val (.int p0), .val (.int p1), .val (.int p2), .val (.int p3), .val (.int p4), .val (.int p5), .val (.int w1), .val (.int w2), .val (.int w3), .val (.int w4), .val (.int 1), .val (.ref b33), .val (.ref b41), .val (.ref b71), .val (.ref b41)]
      refine ov T75 175 A_18 [] (fun t k => XS.astore X75.here hx rfl (hb hby at_173) rfl rfl (l' := A_18) rfl k) ?_
      refine ov T75 177 A_18 [.ref b41] (fun t k => XS.aload X75.here hx rfl (hb hby at_175) rfl rfl k) ?_
      refine ov T75 180 A_18 [] (fun t k => XS.ifnullNo X75.here hx rfl (hb hby at_177) rfl k) ?_
      refine ov T75 182 A_18 [.ref b41] (fun t k => XS.aload X75.here hx rfl (hb hby at_180) rfl rfl k) ?_
      refine ov T75 184 A_18 [.ref b41, .ref b41] (fun t k => XS.aload X75.here hx rfl (hb hby at_182) rfl rfl k) ?_
      obtain ⟨cq80, kq80, q80a, q80b, q80c⟩ := isOf hZ e75 cx76
      obtain ⟨_, _, ⟨T80, Lp80, kp80, np80⟩, -, X80, ⟨Lc80, hQ80, l80, y80, z80⟩, st80⟩ := X75.virtualBack hx (y := mt32) (z := mt32) hown (mvT hZ (wd85 hw)) (mvT hZ (wd86 hw)) (notFace_of_selects (args := #[]) (mvT hZ (wd88 hw))) (mvT hZ (wd88 hw)) (mvT hZ (wd87 hw)) (by decide) (backOf (W := 0) (own_eqs l Z a0 hw [] b41 T71.heap n0 O74) hZ (wd89 hw) (wd9 hw) (by decide) (by decide)) q80a q80c (g := (mkF m 184 A_18 [.ref b41, .ref b41])) rfl (by rw [hml]; rfl) (Steps.refl _) (argsL := [.ref b41]) (rest := []) (lenOf pd__Ljava_lang_Object__Z_1835 rfl) rfl (by show 2 * 0 + _ ≤ _; exact Nat.le_of_eq rfl) (hb hby at_184) (fun _ _ => ⟨rfl, e75, (by decide : 5 + 0 ≤ _), (by decide : 11 + 0 ≤ _)⟩)
      dsimp only [Pt.U, Pt.locs, Pt.cells, Pt.slots] at X80 l80 y80 z80 st80 hQ80
      subst Lp80 kp80 np80
      obtain ⟨rfl, rfl, e80⟩ := hQ80
      try rw [List.append_nil] at X80
      refine own_tr (S' := T80.setTop (mkF m 187 A_18 [.int 1])) st80 ?_
      refine ov T80 190 A_18 [] (fun t k => XS.ifNo X80.here hx rfl (hb hby at_187) rfl ((if0 _ _).trans (feq (by decide : ¬ ((1 : Int32) = (0 : Int32)))).1) k) ?_
      refine ov T80 192 A_18 [.ref b41] (fun t k => XS.aload X80.here hx rfl (hb hby at_190) rfl rfl k) ?_
      obtain ⟨cq81, kq81, q81a, q81b, q81c⟩ := isOf hZ e80 cx76
      obtain ⟨_, _, ⟨T81, Lp81, kp81, np81⟩, -, X81, ⟨Lc81, hQ81, l81, y81, z81⟩, st81⟩ := X80.virtualBack hx (y := mt17) (z := mt17) hown (mvT hZ (wd90 hw)) (mvT hZ (wd63 hw)) (notFace_of_selects (args := #[]) (mvT hZ (wd65 hw))) (mvT hZ (wd65 hw)) (mvT hZ (wd64 hw)) (by decide) (backOf (W := 0) (own_lenL l Z a0 hw [] b41 t65 kb65 zc (1 : Int32) [(.int (w1.toInt8.toInt32))] T71.heap n0 O74 zfC cx76 cx77 cx78 cx79 hzc) hZ (wd66 hw) (wd9 hw) (by decide) (by decide)) q81a q81c (g := (mkF m 192 A_18 [.ref b41])) rfl (by rw [hml]; rfl) (Steps.refl _) (argsL := []) (rest := []) (lenOf pd___I_154 rfl) rfl (by show 2 * 0 + _ ≤ _; exact Nat.le_of_eq rfl) (hb hby at_192) (fun _ _ => ⟨rfl, e80, (by decide : 5 + 0 ≤ _), (by decide : 11 + 0 ≤ _)⟩)
      dsimp only [Pt.U, Pt.locs, Pt.cells, Pt.slots] at X81 l81 y81 z81 st81 hQ81
      subst Lp81 kp81 np81
      obtain ⟨rfl, rfl, e81⟩ := hQ81
      try rw [List.append_nil] at X81
      refine own_tr (S' := T81.setTop (mkF m 195 A_18 [.int 1])) st81 ?_
      refine ov T81 197 A_18 [.ref b33, .int 1] (fun t k => XS.aload X81.here hx rfl (hb hby at_195) rfl rfl k) ?_
      have ne_b33_b41 : b33 ≠ b41 := by first | exact (Exa.neArv A41 cx66 (wd8 hw)).symm | exact Nat.ne_of_lt (by omega) | exact Nat.ne_of_gt (by omega)
      have cx82 : Arv Z T71.heap b33 k33 .char (1 : Int32) [.int w1] (.int 0) := ((cx66.keep K65q (ninS ne_b33_b41 nin0)).keep K71q nin0)
      obtain ⟨cl83, Ar83, -, S83, N83, -, -⟩ := id cx82
      refine ov T81 198 A_18 [.int 1, .int 1] (fun t k => X81.arraylength hx (by first | (rw [e81]; exact Ar83.1) | exact Ar83.1) (State.isArrayOf_alike hZ.alike Ar83.2.1) (g := (mkF m 197 A_18 [.ref b33, .int 1])) rfl rfl (hb hby at_197) _ (by rw [len_of S83 N83]; exact k)) ?_
      refine ov T81 201 A_18 [] (fun t k => XS.icmpNo X81.here hx rfl (hb hby at_198) rfl (teq (by decide : (1 : Int32) = (1 : Int32))).2 k) ?_
      refine ov T81 202 A_18 [.int 1] (fun t k => XS.iconst X81.here hx rfl (hb hby at_201) k) ?_
      refine ov T81 206 A_18 [.int 1] (fun t k => XS.goto X81.here hx rfl (pc0 := 202) (pc' := 206) rfl (hb hby at_202) (by decide) (by decide) k) ?_
      have RTR73 : CHr Z own_EL s.vm h0 T81.vm T71.heap := R73.trans (CHv.at X81 hZ hEL R73.1)
      have RXR73 : CHr Z own_EL s.vm s.heap T81.vm T81.heap := by rw [hh, e81]; exact RTR73
      refine own_retW (Q := Q_own_law Z p0 p1 p2 p3 p4 p5 zc fm h0 n0) (C := room_1.cells) (N := room_1.slots) X81 hS0 (by rw [e81]; omega) (v := some (.int 1)) (fun h => by rw [Bd.returns] at h; cases h) Bd.notSynchronized ?_ RXR73 (by decide) (by decide) (fun fs hr => retN X81 hx (t := .boolean) Bd.returns (by simp) (hb hby at_206) hr)
      show Q_own_law Z p0 p1 p2 p3 p4 p5 zc fm h0 n0 _ T81.vm T81.heap _
      rw [e81]
      exact ⟨rfl, N71⟩
  · rw [hr33_5]
    let A_19 : Array Slot := #[.val (.int p0), .val (.int p1), .val (.int p2), .val (.int p3), .val (.int p4), .val (.int p5), .val (.int w1), .val (.int w2), .val (.int w3), .val (.int w4), .val (.int 2), .unset, .unset, .unset, .unset]
    refine ov T4 35 A_19 [.int 2] (fun t k => XS.iload X4.here hx rfl (hb hby at_33) rfl k) ?_
    refine ov T4 46 A_19 [] (fun t k => XS.ifYes X4.here hx rfl (pc0 := 35) (pc' := 46) rfl (hb hby at_35) rfl ((if0 _ _).trans (feq (by decide : ¬ ((2 : Int32) = (0 : Int32)))).2) (by decide) (by decide) k) ?_
    refine ov T4 48 A_19 [.int 2] (fun t k => XS.iload X4.here hx rfl (hb hby at_46) rfl k) ?_
    refine ov T4 49 A_19 [.int 1, .int 2] (fun t k => XS.iconst X4.here hx rfl (hb hby at_48) k) ?_
    refine ov T4 65 A_19 [] (fun t k => XS.icmpYes X4.here hx rfl (pc0 := 49) (pc' := 65) rfl (hb hby at_49) rfl (feq (by decide : ¬ ((2 : Int32) = (1 : Int32)))).2 (by decide) (by decide) k) ?_
    refine ov T4 67 A_19 [.int 2] (fun t k => XS.iload X4.here hx rfl (hb hby at_65) rfl k) ?_
    refine ov T4 68 A_19 [.int 2, .int 2] (fun t k => XS.iconst X4.here hx rfl (hb hby at_67) k) ?_
    refine ov T4 71 A_19 [] (fun t k => XS.icmpNo X4.here hx rfl (hb hby at_68) rfl (teq (by decide : (2 : Int32) = (2 : Int32))).2 k) ?_
    refine ov T4 72 A_19 [.int 2] (fun t k => XS.iconst X4.here hx rfl (hb hby at_71) k) ?_
    obtain ⟨T84, h84, k84, X84, e84, E84, A84, st84⟩ := newP (aty := .char) X4 hx hZ (wd6 hw) e4 (g := (mkF m 72 A_19 [.int 2])) rfl (hb hby at_72) rfl (by decide : ¬ ((2 : Int32) < (0 : Int32))) (cap := 2) (by decide) (by decide) (by decide) (by decide)
    obtain ⟨b84, g84⟩ : ∃ z, z = h0.size := ⟨_, rfl⟩
    rw [← g84] at A84 st84
    have lt_b84 : h84.size > b84 := A84.lt
    have sz85 : h0.size ≤ h84.size := E84.1
    have O86 : Old Z n0 h84 := O0.ext E84
    have R87 : CHr Z own_EL s.vm h0 s.vm h84 := R0.trans (CHr.ext E84 R0.1)
    have V84 : Arv Z h84 b84 k84 .char (2 : Int32) [.int 0, .int 0] (.int 0) := (Arv.new A84 (by decide)).pad (pad_rep [] (.int 0) 2)
    refine ov T84 74 A_19 [.ref b84] st84 ?_
    refine ov T84 75 A_19 [.ref b84, .ref b84] (fun t k => XS.dup X84.here hx rfl (hb hby at_74) rfl rfl k) ?_
    refine ov T84 76 A_19 [.int 0, .ref b84, .ref b84] (fun t k => XS.iconst X84.here hx rfl (hb hby at_75) k) ?_
    refine ov T84 78 A_19 [.int w1, .int 0, .ref b84, .ref b84] (fun t k => XS.iload X84.here hx rfl (hb hby at_76) rfl k) ?_
    obtain ⟨cl88, Ar88, q88, S88, M88, H88, U88⟩ := id V84
    obtain ⟨T88, h88, X88, e88, W88, st88⟩ := stC X84 hx hZ e84 Ar88 (j := (0 : Int32)) (inb_of S88 ⟨by decide, by decide⟩) (g := (mkF m 78 A_19 [.int w1, .int 0, .ref b84, .ref b84])) rfl rfl (hb hby at_78)
    have sf88 : Safe Z own_EL s.vm h84 b84 := (Safe.arv hZ.alike V84 (by decide))
    have sz89 : h84.size ≤ h88.size := Nat.le_of_eq W88.size.symm
    have R90 : CHr Z own_EL s.vm h0 s.vm h88 := R87.trans (CHr.wr W88 sf88 R87.1)
    have O91 : Old Z n0 h88 := O86.wr W88 (by omega : n0 ≤ b84)
    have N88 := Fr.snoc X88 N0 (by omega : n0 ≤ b84)
    rw [own_narc (own_r16 rw_w1)] at W88
    have V88 : Arv Z h88 b84 k84 .char (2 : Int32) [.int w1, .int 0] (.int 0) := Arv.set Ar88 q88 S88 M88 H88 U88 (own_fitc (own_r16 rw_w1)) W88 0 rfl (Nat.le_of_ble_eq_true rfl)
    refine ov T88 79 A_19 [.ref b84] st88 ?_
    refine ov T88 80 A_19 [.ref b84, .ref b84] (fun t k => XS.dup X88.here hx rfl (hb hby at_79) rfl rfl k) ?_
    refine ov T88 81 A_19 [.int 1, .ref b84, .ref b84] (fun t k => XS.iconst X88.here hx rfl (hb hby at_80) k) ?_
    refine ov T88 83 A_19 [.int w2, .int 1, .ref b84, .ref b84] (fun t k => XS.iload X88.here hx rfl (hb hby at_81) rfl k) ?_
    obtain ⟨cl92, Ar92, q92, S92, M92, H92, U92⟩ := id V88
    obtain ⟨T92, h92, X92, e92, W92, st92⟩ := stC X88 hx hZ e88 Ar92 (j := (1 : Int32)) (inb_of S92 ⟨by decide, by decide⟩) (g := (mkF m 83 A_19 [.int w2, .int 1, .ref b84, .ref b84])) rfl rfl (hb hby at_83)
    have sf92 : Safe Z own_EL s.vm h88 b84 := (Safe.arv hZ.alike V88 (by decide))
    have sz93 : h88.size ≤ h92.size := Nat.le_of_eq W92.size.symm
    have R94 : CHr Z own_EL s.vm h0 s.vm h92 := R90.trans (CHr.wr W92 sf92 R90.1)
    have O95 : Old Z n0 h92 := O91.wr W92 (by omega : n0 ≤ b84)
    have N92 := Fr.snoc X92 N88 (by omega : n0 ≤ b84)
    rw [own_narc (own_r16 rw_w2)] at W92
    have V92 : Arv Z h92 b84 k84 .char (2 : Int32) [.int w1, .int w2] (.int 0) := Arv.set Ar92 q92 S92 M92 H92 U92 (own_fitc (own_r16 rw_w2)) W92 1 rfl (Nat.le_of_ble_eq_true rfl)
    refine ov T92 84 A_19 [.ref b84] st92 ?_
    let A_20 : Array Slot := #[.val (.int p0), .val (.int p1), .val (.int p2), .val (.int p3), .val (.int p4), .val (.int p5), .val (.int w1), .val (.int w2), .val (.int w3), .val (.int w4), .val (.int 2), .val (.ref b84), .unset, .unset, .unset]
    refine ov T92 86 A_20 [] (fun t k => XS.astore X92.here hx rfl (hb hby at_84) rfl rfl (l' := A_20) rfl k) ?_
    refine ov T92 143 A_20 [] (fun t k => XS.goto X92.here hx rfl (pc0 := 86) (pc' := 143) rfl (hb hby at_86) (by decide) (by decide) k) ?_
    obtain ⟨T96, h96, X96, e96, E96, A96, D96, -, st96⟩ := newO X92 hx hZ hown (wd7 hw) (wd8 hw) (wd9 hw) e92 (g := (mkF m 143 A_20 [])) rfl (hb hby at_143) (by decide) (by decide)
    obtain ⟨b96, g96⟩ : ∃ z, z = h92.size := ⟨_, rfl⟩
    rw [← g96] at A96 D96 st96
    have lt_b96 : h96.size > b96 := A96.lt
    have sz97 : h92.size ≤ h96.size := E96.1
    have O98 : Old Z n0 h96 := O95.ext E96
    have R99 : CHr Z own_EL s.vm h0 s.vm h96 := R94.trans (CHr.ext E96 R94.1)
    have SF_b96 : Safe Z own_EL s.vm h96 b96 := Safe.ext E96 R94.1 (Safe.new (Nat.le_of_eq g96.symm))
    have F96_value : Fld Z h96 b96 "java/lang/String" "value" "[B" .null := D96 (Or.inr (wd22 hw)) (ty := (.array .byte)) (by decide)
    have F96_coder : Fld Z h96 b96 "java/lang/String" "coder" "B" (.int 0) := D96 (Or.inr (wd23 hw)) (ty := .byte) (by decide)
    refine ov T96 146 A_20 [.ref b96] st96 ?_
    refine ov T96 147 A_20 [.ref b96, .ref b96] (fun t k => XS.dup X96.here hx rfl (hb hby at_146) rfl rfl k) ?_
    refine ov T96 149 A_20 [.ref b84, .ref b96, .ref b96] (fun t k => XS.aload X96.here hx rfl (hb hby at_147) rfl rfl k) ?_
    by_cases hs149_100 : (255 : Int32) < w1 ∨ (255 : Int32) < w2
    · -- split
      have cx102 : Arv Z h96 b84 k84 .char (2 : Int32) [.int w1, .int w2] (.int 0) := (V92.ext E96)
      obtain ⟨_, _, ⟨T101, Lp101, kp101, np101⟩, -, X101, ⟨Lc101, hQ101, l101, y101, z101⟩, st101⟩ := X96.specialBack hx (y := mt1) rfl hown (mvT hZ (wd10 hw)) (mvT hZ (wd11 hw)) (mvT hZ (wd12 hw)) (by decide) (backOf (W := 1) (own_n1_2 l Z a0 hw [] b96 b84 k84 zc w1 w2 h96 n0 O98 zfC zf_S_java_lang_StringUTF16__assertionsDisabled zf_S_java_lang_StringUTF16_HI_BYTE_SHIFT zf_S_java_lang_StringUTF16_LO_BYTE_SHIFT A96 F96_value F96_coder cx102 hzc (by first | assumption | exact Ne.symm (by assumption) | omega | exact Nat.ne_of_lt (by omega) | exact Nat.ne_of_gt (by omega) | decide | exact Nat.le_of_ble_eq_true rfl) (by first | assumption | exact Ne.symm (by assumption) | omega | exact Nat.ne_of_lt (by omega) | exact Nat.ne_of_gt (by omega) | decide | exact Nat.le_of_ble_eq_true rfl) hs149_100 (by omega)) hZ (wd12 hw) (wd9 hw) (by decide) (by decide)) (g := (mkF m 149 A_20 [.ref b84, .ref b96, .ref b96])) rfl (by rw [hml]; rfl) (Steps.refl _) (a := b96) (argsL := [.ref b84]) (rest := [.ref b96]) (lenOf pd___C_V_325 rfl) rfl (by show 2 * 0 + _ ≤ _; exact Nat.le_of_eq rfl) (hb hby at_149) (fun _ _ => ⟨rfl, e96, (by decide : 2 + 2 ≤ _), (by decide : 6 + 6 ≤ _)⟩)
      dsimp only [Pt.U, Pt.locs, Pt.cells, Pt.slots] at X101 l101 y101 z101 st101 hQ101
      subst Lp101 kp101 np101
      obtain ⟨tb101, kb101, rfl, N101q, K101q, f101_0, f101_1, f101_2⟩ := hQ101
      have N101 := Fr.app N92 N101q
      have sf101 : ∀ x ∈ ([b96] : List Addr), Safe Z own_EL s.vm h96 x := (sfS SF_b96 sf0)
      have sz103 : h96.size ≤ T101.heap.size := K101q.1
      have R104 : CHr Z own_EL s.vm h0 s.vm T101.heap := R99.trans (CHr.keep K101q sf101 R99.1)
      have O105 : Old Z n0 T101.heap := O98.keep K101q (allS (by omega : n0 ≤ b96) all0)
      have lt106_tb101 : T101.heap.size > tb101 := f101_2.lt
      refine own_tr (S' := T101.setTop (mkF m 152 A_20 [.ref b96])) st101 ?_
      let A_21 : Array Slot := #[.val (.int p0), .val (.int p1), .val (.int p2), .val (.int p3), .val (.int p4), .val (.int p5), .val (.int w1), .val (.int w2), .val (.int w3), .val (.int w4), .val (.int 2), .val (.ref b84), .val (.ref b96), .unset, .unset]
      refine ov T101 154 A_21 [] (fun t k => XS.astore X101.here hx rfl (hb hby at_152) rfl rfl (l' := A_21) rfl k) ?_
      refine ov T101 156 A_21 [.int p5] (fun t k => XS.iload X101.here hx rfl (hb hby at_154) rfl k) ?_
      refine ov T101 159 A_21 [.int 255, .int p5] (fun t k => XS.sipush X101.here hx rfl (hb hby at_156) k) ?_
      refine ov T101 160 A_21 [(.int (p5 &&& (255 : Int32)))] (fun t k => XS.iand X101.here hx rfl (hb hby at_159) rfl k) ?_
      refine ov T101 161 #[.val (.int p0), .val (.int p1), .val (.int p2), .val (.int p3), .val (.int p4), .val (.int p5), .val (.int w1), .val (.int w2), .val (.int w3), .val (.int w4), .val (.int 2), .val (.ref b84), .val (.ref b96), .unset, .unset] [(.int ((p5 &&& (255 : Int32)).toUInt32.toUInt16.toUInt32.toInt32))] (fun t k => XS.i2c X101.here hx rfl (hb hby at_160) rfl k) ?_
      obtain ⟨cf, hn_cf⟩ : ∃ z : Int32, z = ((p5 &&& (255 : Int32)).toUInt32.toUInt16.toUInt32.toInt32) := ⟨_, rfl⟩
      rw [← hn_cf]
      have rng_cf : ¬ cf < 0 ∧ ¬ (255 : Int32) < cf := by rw [hn_cf]; exact own_and255 _
      obtain ⟨_, _, ⟨T107, Lp107, kp107, np107⟩, -, X107, ⟨Lc107, hQ107, l107, y107, z107⟩, st107⟩ := Jvm.LawKit.callS X101 hx (y := mt31) hown (mvT hZ (wd28 hw)) (mvT hZ (wd29 hw)) (mvT hZ (wd9 hw)) (mvT hZ (wd30 hw)) (by decide) (backOf (W := 0) (own_vof l Z a0 hw [] cf zc T101.heap n0 O105 zfC hzc rng_cf) hZ (wd30 hw) (wd9 hw) (by decide) (by decide)) (g := (mkF m 161 A_21 [.int cf])) rfl (by rw [hml]; rfl) (argsL := [.int cf]) (rest := []) (lenOf pd__C_Ljava_lang_String__1844 rfl) rfl (by show 2 * 0 + _ ≤ _; exact Nat.le_of_eq rfl) (hb hby at_161) (fun _ _ => ⟨rfl, rfl, (by decide : 4 + 2 ≤ _), (by decide : 12 + 5 ≤ _)⟩)
      dsimp only [Pt.U, Pt.locs, Pt.cells, Pt.slots] at X107 l107 y107 z107 st107 hQ107
      subst Lp107 kp107 np107
      obtain ⟨b107, rfl, N107q, K107q⟩ := hQ107
      have N107 := Fr.app N101 N107q
      have sf107 : ∀ x ∈ ([] : List Addr), Safe Z own_EL s.vm T101.heap x := sf0
      have sz108 : T101.heap.size ≤ T107.heap.size := K107q.1
      have R109 : CHr Z own_EL s.vm h0 s.vm T107.heap := R104.trans (CHr.keep K107q sf107 R104.1)
      have O110 : Old Z n0 T107.heap := O105.keep K107q all0
      refine ov T107 164 A_21 [.ref b107] st107 ?_
      let A_22 : Array Slot := #[.val (.int p0), .val (.int p1), .val (.int p2), .val (.int p3), .val (.int p4), .val (.int p5), .val (.int w1), .val (.int w2), .val (.int w3), .val (.int w4), .val (.int 2), .val (.ref b84), .val (.ref b96), .val (.ref b107), .unset]
      refine ov T107 166 A_22 [] (fun t k => XS.astore X107.here hx rfl (hb hby at_164) rfl rfl (l' := A_22) rfl k) ?_
      refine ov T107 168 A_22 [.ref b107] (fun t k => XS.aload X107.here hx rfl (hb hby at_166) rfl rfl k) ?_
      refine ov T107 170 A_22 [.ref b96, .ref b107] (fun t k => XS.aload X107.here hx rfl (hb hby at_168) rfl rfl k) ?_
      have cx112 : Exa Z T107.heap b96 "java/lang/String" := ((A96.keep K101q).keep K107q)
      have cx113 : Fld Z T107.heap b96 "java/lang/String" "value" "[B" (.ref tb101) := (f101_0.keep K107q nin0)
      have cx114 : Fld Z T107.heap b96 "java/lang/String" "coder" "B" (.int 1) := (f101_1.keep K107q nin0)
      have cx115 : Arv Z T107.heap tb101 kb101 .byte (4 : Int32) (own_L2 w1 w2) (.int 0) := (f101_2.keep K107q nin0)
      obtain ⟨_, _, ⟨T111, Lp111, kp111, np111⟩, -, X111, ⟨Lc111, hQ111, l111, y111, z111⟩, st111⟩ := Jvm.LawKit.callS X107 hx (y := mt22) hown (mvT hZ (wd43 hw)) (mvT hZ (wd44 hw)) (mvT hZ (wd45 hw)) (mvT hZ (wd46 hw)) (by decide) (backOf (W := 0) (own_txtU l Z a0 hw [] b107 b96 tb101 kb101 zc (2 : Int32) (4 : Int32) (own_L2 w1 w2) w1 w2 (0 : Int32) (0 : Int32) fm T107.heap n0 O110 zfC zf_S_java_lang_StringUTF16__assertionsDisabled zf_S_java_lang_StringUTF16_HI_BYTE_SHIFT zf_S_java_lang_StringUTF16_LO_BYTE_SHIFT zf_S_jdk_internal_util_Preconditions_SIOOBE_FORMATTER cx112 cx113 cx114 cx115 hzc rfm (fun _ => ⟨by decide, by decide, rfl, rfl, rw_w1⟩) (fun _ => ⟨by decide, by decide, rfl, rfl, rw_w2⟩) (fun h => absurd h (by decide)) (fun h => absurd h (by decide)) (by decide) (by decide) (by decide) (by decide) (by decide)) hZ (wd46 hw) (wd45 hw) (by decide) (by decide)) (g := (mkF m 170 A_22 [.ref b96, .ref b107])) rfl (by rw [hml]; rfl) (argsL := [.ref b107, .ref b96]) (rest := []) (lenOf pd__Ljava_lang_String_Ljava_lang_String__Ljava_lang_String__5169 rfl) rfl (by show 2 * 0 + _ ≤ _; exact Nat.le_of_eq rfl) (hb hby at_170) (fun _ _ => ⟨rfl, rfl, (by decide : 6 + 0 ≤ _), (by decide : 17 + 0 ≤ _)⟩)
      dsimp only [Pt.U, Pt.locs, Pt.cells, Pt.slots] at X111 l111 y111 z111 st111 hQ111
      subst Lp111 kp111 np111
      obtain ⟨rfl, rfl, e111⟩ := hQ111
      try rw [List.append_nil] at X111
      refine ov T111 173 A_22 [.ref b96] st111 ?_
      let A_23 : Array Slot := #[.val (.int p0), .val (.int p1), .val (.int p2), .val (.int p3), .val (.int p4), .val (.int p5), .val (.int w1), .val (.int w2), .val (.int w3), .val (.int w4), .val (.int 2), .val (.ref b84), .val (.ref b96), .val (.ref b107), .val (.ref b96)]
      refine ov T111 175 A_23 [] (fun t k => XS.astore X111.here hx rfl (hb hby at_173) rfl rfl (l' := A_23) rfl k) ?_
      refine ov T111 177 A_23 [.ref b96] (fun t k => XS.aload X111.here hx rfl (hb hby at_175) rfl rfl k) ?_
      refine ov T111 180 A_23 [] (fun t k => XS.ifnullNo X111.here hx rfl (hb hby at_177) rfl k) ?_
      refine ov T111 182 A_23 [.ref b96] (fun t k => XS.aload X111.here hx rfl (hb hby at_180) rfl rfl k) ?_
      refine ov T111 184 A_23 [.ref b96, .ref b96] (fun t k => XS.aload X111.here hx rfl (hb hby at_182) rfl rfl k) ?_
      obtain ⟨cq116, kq116, q116a, q116b, q116c⟩ := isOf hZ e111 cx112
      obtain ⟨_, _, ⟨T116, Lp116, kp116, np116⟩, -, X116, ⟨Lc116, hQ116, l116, y116, z116⟩, st116⟩ := X111.virtualBack hx (y := mt32) (z := mt32) hown (mvT hZ (wd85 hw)) (mvT hZ (wd86 hw)) (notFace_of_selects (args := #[]) (mvT hZ (wd88 hw))) (mvT hZ (wd88 hw)) (mvT hZ (wd87 hw)) (by decide) (backOf (W := 0) (own_eqs l Z a0 hw [] b96 T107.heap n0 O110) hZ (wd89 hw) (wd9 hw) (by decide) (by decide)) q116a q116c (g := (mkF m 184 A_23 [.ref b96, .ref b96])) rfl (by rw [hml]; rfl) (Steps.refl _) (argsL := [.ref b96]) (rest := []) (lenOf pd__Ljava_lang_Object__Z_1835 rfl) rfl (by show 2 * 0 + _ ≤ _; exact Nat.le_of_eq rfl) (hb hby at_184) (fun _ _ => ⟨rfl, e111, (by decide : 6 + 0 ≤ _), (by decide : 17 + 0 ≤ _)⟩)
      dsimp only [Pt.U, Pt.locs, Pt.cells, Pt.slots] at X116 l116 y116 z116 st116 hQ116
      subst Lp116 kp116 np116
      obtain ⟨rfl, rfl, e116⟩ := hQ116
      try rw [List.append_nil] at X116
      refine own_tr (S' := T116.setTop (mkF m 187 A_23 [.int 1])) st116 ?_
      refine ov T116 190 A_23 [] (fun t k => XS.ifNo X116.here hx rfl (hb hby at_187) rfl ((if0 _ _).trans (feq (by decide : ¬ ((1 : Int32) = (0 : Int32)))).1) k) ?_
      refine ov T116 192 A_23 [.ref b96] (fun t k => XS.aload X116.here hx rfl (hb hby at_190) rfl rfl k) ?_
      obtain ⟨cq117, kq117, q117a, q117b, q117c⟩ := isOf hZ e116 cx112
      obtain ⟨_, _, ⟨T117, Lp117, kp117, np117⟩, -, X117, ⟨Lc117, hQ117, l117, y117, z117⟩, st117⟩ := X116.virtualBack hx (y := mt17) (z := mt17) hown (mvT hZ (wd90 hw)) (mvT hZ (wd63 hw)) (notFace_of_selects (args := #[]) (mvT hZ (wd65 hw))) (mvT hZ (wd65 hw)) (mvT hZ (wd64 hw)) (by decide) (backOf (W := 0) (own_lenU l Z a0 hw [] b96 tb101 kb101 zc (2 : Int32) (4 : Int32) (own_L2 w1 w2) T107.heap n0 O110 zfC cx112 cx113 cx114 cx115 hzc (by decide)) hZ (wd66 hw) (wd9 hw) (by decide) (by decide)) q117a q117c (g := (mkF m 192 A_23 [.ref b96])) rfl (by rw [hml]; rfl) (Steps.refl _) (argsL := []) (rest := []) (lenOf pd___I_154 rfl) rfl (by show 2 * 0 + _ ≤ _; exact Nat.le_of_eq rfl) (hb hby at_192) (fun _ _ => ⟨rfl, e116, (by decide : 6 + 0 ≤ _), (by decide : 17 + 0 ≤ _)⟩)
      dsimp only [Pt.U, Pt.locs, Pt.cells, Pt.slots] at X117 l117 y117 z117 st117 hQ117
      subst Lp117 kp117 np117
      obtain ⟨rfl, rfl, e117⟩ := hQ117
      try rw [List.append_nil] at X117
      refine own_tr (S' := T117.setTop (mkF m 195 A_23 [.int 2])) st117 ?_
      refine ov T117 197 A_23 [.ref b84, .int 2] (fun t k => XS.aload X117.here hx rfl (hb hby at_195) rfl rfl k) ?_
      have ne_b84_b96 : b84 ≠ b96 := by first | exact (Exa.neArv A96 cx102 (wd8 hw)).symm | exact Nat.ne_of_lt (by omega) | exact Nat.ne_of_gt (by omega)
      have cx118 : Arv Z T107.heap b84 k84 .char (2 : Int32) [.int w1, .int w2] (.int 0) := ((cx102.keep K101q (ninS ne_b84_b96 nin0)).keep K107q nin0)
      obtain ⟨cl119, Ar119, -, S119, N119, -, -⟩ := id cx118
      refine ov T117 198 A_23 [.int 2, .int 2] (fun t k => X117.arraylength hx (by first | (rw [e117]; exact Ar119.1) | exact Ar119.1) (State.isArrayOf_alike hZ.alike Ar119.2.1) (g := (mkF m 197 A_23 [.ref b84, .int 2])) rfl rfl (hb hby at_197) _ (by rw [len_of S119 N119]; exact k)) ?_
      refine ov T117 201 A_23 [] (fun t k => XS.icmpNo X117.here hx rfl (hb hby at_198) rfl (teq (by decide : (2 : Int32) = (2 : Int32))).2 k) ?_
      refine ov T117 202 A_23 [.int 1] (fun t k => XS.iconst X117.here hx rfl (hb hby at_201) k) ?_
      refine ov T117 206 A_23 [.int 1] (fun t k => XS.goto X117.here hx rfl (pc0 := 202) (pc' := 206) rfl (hb hby at_202) (by decide) (by decide) k) ?_
      have RTR109 : CHr Z own_EL s.vm h0 T117.vm T107.heap := R109.trans (CHv.at X117 hZ hEL R109.1)
      have RXR109 : CHr Z own_EL s.vm s.heap T117.vm T117.heap := by rw [hh, e117]; exact RTR109
      refine own_retW (Q := Q_own_law Z p0 p1 p2 p3 p4 p5 zc fm h0 n0) (C := room_1.cells) (N := room_1.slots) X117 hS0 (by rw [e117]; omega) (v := some (.int 1)) (fun h => by rw [Bd.returns] at h; cases h) Bd.notSynchronized ?_ RXR109 (by decide) (by decide) (fun fs hr => retN X117 hx (t := .boolean) Bd.returns (by simp) (hb hby at_206) hr)
      show Q_own_law Z p0 p1 p2 p3 p4 p5 zc fm h0 n0 _ T117.vm T117.heap _
      rw [e117]
      exact ⟨rfl, N107⟩
    · -- split
      have q8w1 : ¬ w1 < (1 : Int32) ∧ ¬ (255 : Int32) < w1 := ⟨rw_w1.1, fun q => hs149_100 (Or.inl q)⟩
      have rlw1 : ¬ w1 < 0 ∧ ¬ (255 : Int32) < w1 := ⟨own_lt0 q8w1.1, q8w1.2⟩
      have q8w2 : ¬ w2 < (1 : Int32) ∧ ¬ (255 : Int32) < w2 := ⟨rw_w2.1, fun q => hs149_100 (Or.inr (q))⟩
      have rlw2 : ¬ w2 < 0 ∧ ¬ (255 : Int32) < w2 := ⟨own_lt0 q8w2.1, q8w2.2⟩
      have cx121 : Arv Z h96 b84 k84 .char (2 : Int32) [.int w1, .int w2] (.int 0) := (V92.ext E96)
      have cx122 : Sta Z h96 "java/lang/String" "COMPACT_STRINGS" "Z" (.int zc) := zfC.ext O98.2
      have hws120 := own_mw hw
      have hp120 : ∀ c ∈ ([w1, w2] : List Int32), ¬ c < 0 ∧ ¬ (255 : Int32) < c := by
        intro c hc
        simp only [List.mem_cons, List.not_mem_nil, or_false] at hc
        rcases hc with rfl | rfl
        · exact rlw1
        · exact rlw2
      obtain ⟨_, _, ⟨T120, Lp120, kp120, np120⟩, -, X120, ⟨Lc120, hQ120, l120, y120, z120⟩, st120⟩ := X96.specialBack hx (y := mt1) rfl hown (mvT hZ (wd10 hw)) (mvT hZ (wd11 hw)) (mvT hZ (wd12 hw)) (by decide) (StrChars.Road.backV (W := 1) hZ hws120 (kI := 4) (wd8 hw) (cs := ([w1, w2] : List Int32)) (bs := (([w1, w2] : List Int32)).map (fun c => c.toInt8.toInt32)) (n := 2) (by omega : n0 ≤ b96) (by omega : n0 ≤ h96.size) A96 F96_value F96_coder cx121 cx122 hzc rfl rfl (by decide) (by decide) hp120 rfl (by decide) (by decide)) (g := (mkF m 149 A_20 [.ref b84, .ref b96, .ref b96])) rfl (by rw [hml]; rfl) (Steps.refl _) (a := b96) (argsL := [.ref b84]) (rest := [.ref b96]) (lenOf pd___C_V_325 rfl) rfl (by show 2 * 0 + _ ≤ _; exact Nat.le_of_eq rfl) (hb hby at_149) (fun _ _ => ⟨rfl, e96, (by decide : 2 + 1 ≤ _), (by decide : 6 + 2 ≤ _)⟩)
      dsimp only [Pt.U, Pt.locs, Pt.cells, Pt.slots] at X120 l120 y120 z120 st120 hQ120
      subst Lp120 kp120 np120
      obtain ⟨rfl, N120q, K120q, f120_0, f120_1, t120, kb120, tg120, tg120', tn120, f120_2, f120_3⟩ := hQ120
      have N120 := Fr.app N92 N120q
      have sf120 : ∀ x ∈ ([b96] : List Addr), Safe Z own_EL s.vm h96 x := (sfS SF_b96 sf0)
      have sz123 : h96.size ≤ T120.heap.size := K120q.1
      have R124 : CHr Z own_EL s.vm h0 s.vm T120.heap := R99.trans (CHr.keep K120q sf120 R99.1)
      have O125 : Old Z n0 T120.heap := O98.keep K120q (allS (by omega : n0 ≤ b96) all0)
      have lt_t120 : T120.heap.size > t120 := f120_3.lt
      refine own_tr (S' := T120.setTop (mkF m 152 A_20 [.ref b96])) st120 ?_
      let A_24 : Array Slot := #[.val (.int p0), .val (.int p1), .val (.int p2), .val (.int p3), .val (.int p4), .val (.int p5), .val (.int w1), .val (.int w2), .val (.int w3), .val (.int w4), .val (.int 2), .val (.ref b84), .val (.ref b96), .unset, .unset]
      refine ov T120 154 A_24 [] (fun t k => XS.astore X120.here hx rfl (hb hby at_152) rfl rfl (l' := A_24) rfl k) ?_
      refine ov T120 156 A_24 [.int p5] (fun t k => XS.iload X120.here hx rfl (hb hby at_154) rfl k) ?_
      refine ov T120 159 A_24 [.int 255, .int p5] (fun t k => XS.sipush X120.here hx rfl (hb hby at_156) k) ?_
      refine ov T120 160 A_24 [(.int (p5 &&& (255 : Int32)))] (fun t k => XS.iand X120.here hx rfl (hb hby at_159) rfl k) ?_
      refine ov T120 161 #[.val (.int p0), .val (.int p1), .val (.int p2), .val (.int p3), .val (.int p4), .val (.int p5), .val (.int w1), .val (.int w2), .val (.int w3), .val (.int w4), .val (.int 2), .val (.ref b84), .val (.ref b96), .unset, .unset] [(.int ((p5 &&& (255 : Int32)).toUInt32.toUInt16.toUInt32.toInt32))] (fun t k => XS.i2c X120.here hx rfl (hb hby at_160) rfl k) ?_
      obtain ⟨cf, hn_cf⟩ : ∃ z : Int32, z = ((p5 &&& (255 : Int32)).toUInt32.toUInt16.toUInt32.toInt32) := ⟨_, rfl⟩
      rw [← hn_cf]
      have rng_cf : ¬ cf < 0 ∧ ¬ (255 : Int32) < cf := by rw [hn_cf]; exact own_and255 _
      obtain ⟨_, _, ⟨T126, Lp126, kp126, np126⟩, -, X126, ⟨Lc126, hQ126, l126, y126, z126⟩, st126⟩ := Jvm.LawKit.callS X120 hx (y := mt31) hown (mvT hZ (wd28 hw)) (mvT hZ (wd29 hw)) (mvT hZ (wd9 hw)) (mvT hZ (wd30 hw)) (by decide) (backOf (W := 0) (own_vof l Z a0 hw [] cf zc T120.heap n0 O125 zfC hzc rng_cf) hZ (wd30 hw) (wd9 hw) (by decide) (by decide)) (g := (mkF m 161 A_24 [.int cf])) rfl (by rw [hml]; rfl) (argsL := [.int cf]) (rest := []) (lenOf pd__C_Ljava_lang_String__1844 rfl) rfl (by show 2 * 0 + _ ≤ _; exact Nat.le_of_eq rfl) (hb hby at_161) (fun _ _ => ⟨rfl, rfl, (by decide : 3 + 2 ≤ _), (by decide : 8 + 5 ≤ _)⟩)
      dsimp only [Pt.U, Pt.locs, Pt.cells, Pt.slots] at X126 l126 y126 z126 st126 hQ126
      subst Lp126 kp126 np126
      obtain ⟨b126, rfl, N126q, K126q⟩ := hQ126
      have N126 := Fr.app N120 N126q
      have sf126 : ∀ x ∈ ([] : List Addr), Safe Z own_EL s.vm T120.heap x := sf0
      have sz127 : T120.heap.size ≤ T126.heap.size := K126q.1
      have R128 : CHr Z own_EL s.vm h0 s.vm T126.heap := R124.trans (CHr.keep K126q sf126 R124.1)
      have O129 : Old Z n0 T126.heap := O125.keep K126q all0
      refine ov T126 164 A_24 [.ref b126] st126 ?_
      let A_25 : Array Slot := #[.val (.int p0), .val (.int p1), .val (.int p2), .val (.int p3), .val (.int p4), .val (.int p5), .val (.int w1), .val (.int w2), .val (.int w3), .val (.int w4), .val (.int 2), .val (.ref b84), .val (.ref b96), .val (.ref b126), .unset]
      refine ov T126 166 A_25 [] (fun t k => XS.astore X126.here hx rfl (hb hby at_164) rfl rfl (l' := A_25) rfl k) ?_
      refine ov T126 168 A_25 [.ref b126] (fun t k => XS.aload X126.here hx rfl (hb hby at_166) rfl rfl k) ?_
      refine ov T126 170 A_25 [.ref b96, .ref b126] (fun t k => XS.aload X126.here hx rfl (hb hby at_168) rfl rfl k) ?_
      have cx131 : Exa Z T126.heap b96 "java/lang/String" := (f120_0.keep K126q)
      have cx132 : Fld Z T126.heap b96 "java/lang/String" "value" "[B" (.ref t120) := (f120_2.keep K126q nin0)
      have cx133 : Fld Z T126.heap b96 "java/lang/String" "coder" "B" (.int 0) := (f120_1.keep K126q nin0)
      have cx134 : Arv Z T126.heap t120 kb120 .byte (2 : Int32) [(.int (w1.toInt8.toInt32)), (.int (w2.toInt8.toInt32))] (.int 0) := (f120_3.keep K126q nin0)
      obtain ⟨_, _, ⟨T130, Lp130, kp130, np130⟩, -, X130, ⟨Lc130, hQ130, l130, y130, z130⟩, st130⟩ := Jvm.LawKit.callS X126 hx (y := mt22) hown (mvT hZ (wd43 hw)) (mvT hZ (wd44 hw)) (mvT hZ (wd45 hw)) (mvT hZ (wd46 hw)) (by decide) (backOf (W := 0) (own_txtL l Z a0 hw [] b126 b96 t120 kb120 zc (2 : Int32) [(.int (w1.toInt8.toInt32)), (.int (w2.toInt8.toInt32))] (w1.toInt8.toInt32) (w2.toInt8.toInt32) (0 : Int32) (0 : Int32) T126.heap n0 O129 zfC cx131 cx132 cx133 cx134 hzc (fun _ => ⟨rfl, own_bnz q8w1⟩) (fun _ => ⟨rfl, own_bnz q8w2⟩) (fun h => absurd h (by decide)) (fun h => absurd h (by decide)) (by decide) (by decide)) hZ (wd46 hw) (wd45 hw) (by decide) (by decide)) (g := (mkF m 170 A_25 [.ref b96, .ref b126])) rfl (by rw [hml]; rfl) (argsL := [.ref b126, .ref b96]) (rest := []) (lenOf pd__Ljava_lang_String_Ljava_lang_String__Ljava_lang_String__5169 rfl) rfl (by show 2 * 0 + _ ≤ _; exact Nat.le_of_eq rfl) (hb hby at_170) (fun _ _ => ⟨rfl, rfl, (by decide : 5 + 0 ≤ _), (by decide : 13 + 0 ≤ _)⟩)
      dsimp only [Pt.U, Pt.locs, Pt.cells, Pt.slots] at X130 l130 y130 z130 st130 hQ130
      subst Lp130 kp130 np130
      obtain ⟨rfl, rfl, e130⟩ := hQ130
      try rw [List.append_nil] at X130
      refine ov T130 173 A_25 [.ref b96] st130 ?_
      let A_26 : Array Slot := #[.val (.int p0), .val (.int p1), .val (.int p2), .val (.int p3), .val (.int p4), .val (.int p5), .val (.int w1), .val (.int w2), .val (.int w3), .val (.int w4), .val (.int 2), .val (.ref b84), .val (.ref b96), .val (.ref b126), .val (.ref b96)]
      refine ov T130 175 A_26 [] (fun t k => XS.astore X130.here hx rfl (hb hby at_173) rfl rfl (l' := A_26) rfl k) ?_
      refine ov T130 177 A_26 [.ref b96] (fun t k => XS.aload X130.here hx rfl (hb hby at_175) rfl rfl k) ?_
      refine ov T130 180 A_26 [] (fun t k => XS.ifnullNo X130.here hx rfl (hb hby at_177) rfl k) ?_
      refine ov T130 182 A_26 [.ref b96] (fun t k => XS.aload X130.here hx rfl (hb hby at_180) rfl rfl k) ?_
      refine ov T130 184 A_26 [.ref b96, .ref b96] (fun t k => XS.aload X130.here hx rfl (hb hby at_182) rfl rfl k) ?_
      obtain ⟨cq135, kq135, q135a, q135b, q135c⟩ := isOf hZ e130 cx131
      obtain ⟨_, _, ⟨T135, Lp135, kp135, np135⟩, -, X135, ⟨Lc135, hQ135, l135, y135, z135⟩, st135⟩ := X130.virtualBack hx (y := mt32) (z := mt32) hown (mvT hZ (wd85 hw)) (mvT hZ (wd86 hw)) (notFace_of_selects (args := #[]) (mvT hZ (wd88 hw))) (mvT hZ (wd88 hw)) (mvT hZ (wd87 hw)) (by decide) (backOf (W := 0) (own_eqs l Z a0 hw [] b96 T126.heap n0 O129) hZ (wd89 hw) (wd9 hw) (by decide) (by decide)) q135a q135c (g := (mkF m 184 A_26 [.ref b96, .ref b96])) rfl (by rw [hml]; rfl) (Steps.refl _) (argsL := [.ref b96]) (rest := []) (lenOf pd__Ljava_lang_Object__Z_1835 rfl) rfl (by show 2 * 0 + _ ≤ _; exact Nat.le_of_eq rfl) (hb hby at_184) (fun _ _ => ⟨rfl, e130, (by decide : 5 + 0 ≤ _), (by decide : 13 + 0 ≤ _)⟩)
      dsimp only [Pt.U, Pt.locs, Pt.cells, Pt.slots] at X135 l135 y135 z135 st135 hQ135
      subst Lp135 kp135 np135
      obtain ⟨rfl, rfl, e135⟩ := hQ135
      try rw [List.append_nil] at X135
      refine own_tr (S' := T135.setTop (mkF m 187 A_26 [.int 1])) st135 ?_
      refine ov T135 190 A_26 [] (fun t k => XS.ifNo X135.here hx rfl (hb hby at_187) rfl ((if0 _ _).trans (feq (by decide : ¬ ((1 : Int32) = (0 : Int32)))).1) k) ?_
      refine ov T135 192 A_26 [.ref b96] (fun t k => XS.aload X135.here hx rfl (hb hby at_190) rfl rfl k) ?_
      obtain ⟨cq136, kq136, q136a, q136b, q136c⟩ := isOf hZ e135 cx131
      obtain ⟨_, _, ⟨T136, Lp136, kp136, np136⟩, -, X136, ⟨Lc136, hQ136, l136, y136, z136⟩, st136⟩ := X135.virtualBack hx (y := mt17) (z := mt17) hown (mvT hZ (wd90 hw)) (mvT hZ (wd63 hw)) (notFace_of_selects (args := #[]) (mvT hZ (wd65 hw))) (mvT hZ (wd65 hw)) (mvT hZ (wd64 hw)) (by decide) (backOf (W := 0) (own_lenL l Z a0 hw [] b96 t120 kb120 zc (2 : Int32) [(.int (w1.toInt8.toInt32)), (.int (w2.toInt8.toInt32))] T126.heap n0 O129 zfC cx131 cx132 cx133 cx134 hzc) hZ (wd66 hw) (wd9 hw) (by decide) (by decide)) q136a q136c (g := (mkF m 192 A_26 [.ref b96])) rfl (by rw [hml]; rfl) (Steps.refl _) (argsL := []) (rest := []) (lenOf pd___I_154 rfl) rfl (by show 2 * 0 + _ ≤ _; exact Nat.le_of_eq rfl) (hb hby at_192) (fun _ _ => ⟨rfl, e135, (by decide : 5 + 0 ≤ _), (by decide : 13 + 0 ≤ _)⟩)
      dsimp only [Pt.U, Pt.locs, Pt.cells, Pt.slots] at X136 l136 y136 z136 st136 hQ136
      subst Lp136 kp136 np136
      obtain ⟨rfl, rfl, e136⟩ := hQ136
      try rw [List.append_nil] at X136
      refine own_tr (S' := T136.setTop (mkF m 195 A_26 [.int 2])) st136 ?_
      refine ov T136 197 A_26 [.ref b84, .int 2] (fun t k => XS.aload X136.here hx rfl (hb hby at_195) rfl rfl k) ?_
      have ne_b84_b96 : b84 ≠ b96 := by first | exact (Exa.neArv A96 cx121 (wd8 hw)).symm | exact Nat.ne_of_lt (by omega) | exact Nat.ne_of_gt (by omega)
      have cx137 : Arv Z T126.heap b84 k84 .char (2 : Int32) [.int w1, .int w2] (.int 0) := ((cx121.keep K120q (ninS ne_b84_b96 nin0)).keep K126q nin0)
      obtain ⟨cl138, Ar138, -, S138, N138, -, -⟩ := id cx137
      refine ov T136 198 A_26 [.int 2, .int 2] (fun t k => X136.arraylength hx (by first | (rw [e136]; exact Ar138.1) | exact Ar138.1) (State.isArrayOf_alike hZ.alike Ar138.2.1) (g := (mkF m 197 A_26 [.ref b84, .int 2])) rfl rfl (hb hby at_197) _ (by rw [len_of S138 N138]; exact k)) ?_
      refine ov T136 201 A_26 [] (fun t k => XS.icmpNo X136.here hx rfl (hb hby at_198) rfl (teq (by decide : (2 : Int32) = (2 : Int32))).2 k) ?_
      refine ov T136 202 A_26 [.int 1] (fun t k => XS.iconst X136.here hx rfl (hb hby at_201) k) ?_
      refine ov T136 206 A_26 [.int 1] (fun t k => XS.goto X136.here hx rfl (pc0 := 202) (pc' := 206) rfl (hb hby at_202) (by decide) (by decide) k) ?_
      have RTR128 : CHr Z own_EL s.vm h0 T136.vm T126.heap := R128.trans (CHv.at X136 hZ hEL R128.1)
      have RXR128 : CHr Z own_EL s.vm s.heap T136.vm T136.heap := by rw [hh, e136]; exact RTR128
      refine own_retW (Q := Q_own_law Z p0 p1 p2 p3 p4 p5 zc fm h0 n0) (C := room_1.cells) (N := room_1.slots) X136 hS0 (by rw [e136]; omega) (v := some (.int 1)) (fun h => by rw [Bd.returns] at h; cases h) Bd.notSynchronized ?_ RXR128 (by decide) (by decide) (fun fs hr => retN X136 hx (t := .boolean) Bd.returns (by simp) (hb hby at_206) hr)
      show Q_own_law Z p0 p1 p2 p3 p4 p5 zc fm h0 n0 _ T136.vm T136.heap _
      rw [e136]
      exact ⟨rfl, N126⟩
  · rw [hr33_5]
    let A_27 : Array Slot := #[.val (.int p0), .val (.int p1), .val (.int p2), .val (.int p3), .val (.int p4), .val (.int p5), .val (.int w1), .val (.int w2), .val (.int w3), .val (.int w4), .val (.int 3), .unset, .unset, .unset, .unset]
    refine ov T4 35 A_27 [.int 3] (fun t k => XS.iload X4.here hx rfl (hb hby at_33) rfl k) ?_
    refine ov T4 46 A_27 [] (fun t k => XS.ifYes X4.here hx rfl (pc0 := 35) (pc' := 46) rfl (hb hby at_35) rfl ((if0 _ _).trans (feq (by decide : ¬ ((3 : Int32) = (0 : Int32)))).2) (by decide) (by decide) k) ?_
    refine ov T4 48 A_27 [.int 3] (fun t k => XS.iload X4.here hx rfl (hb hby at_46) rfl k) ?_
    refine ov T4 49 A_27 [.int 1, .int 3] (fun t k => XS.iconst X4.here hx rfl (hb hby at_48) k) ?_
    refine ov T4 65 A_27 [] (fun t k => XS.icmpYes X4.here hx rfl (pc0 := 49) (pc' := 65) rfl (hb hby at_49) rfl (feq (by decide : ¬ ((3 : Int32) = (1 : Int32)))).2 (by decide) (by decide) k) ?_
    refine ov T4 67 A_27 [.int 3] (fun t k => XS.iload X4.here hx rfl (hb hby at_65) rfl k) ?_
    refine ov T4 68 A_27 [.int 2, .int 3] (fun t k => XS.iconst X4.here hx rfl (hb hby at_67) k) ?_
    refine ov T4 89 A_27 [] (fun t k => XS.icmpYes X4.here hx rfl (pc0 := 68) (pc' := 89) rfl (hb hby at_68) rfl (feq (by decide : ¬ ((3 : Int32) = (2 : Int32)))).2 (by decide) (by decide) k) ?_
    refine ov T4 91 A_27 [.int 3] (fun t k => XS.iload X4.here hx rfl (hb hby at_89) rfl k) ?_
    refine ov T4 92 A_27 [.int 3, .int 3] (fun t k => XS.iconst X4.here hx rfl (hb hby at_91) k) ?_
    refine ov T4 95 A_27 [] (fun t k => XS.icmpNo X4.here hx rfl (hb hby at_92) rfl (teq (by decide : (3 : Int32) = (3 : Int32))).2 k) ?_
    refine ov T4 96 A_27 [.int 3] (fun t k => XS.iconst X4.here hx rfl (hb hby at_95) k) ?_
    obtain ⟨T139, h139, k139, X139, e139, E139, A139, st139⟩ := newP (aty := .char) X4 hx hZ (wd6 hw) e4 (g := (mkF m 96 A_27 [.int 3])) rfl (hb hby at_96) rfl (by decide : ¬ ((3 : Int32) < (0 : Int32))) (cap := 3) (by decide) (by decide) (by decide) (by decide)
    obtain ⟨b139, g139⟩ : ∃ z, z = h0.size := ⟨_, rfl⟩
    rw [← g139] at A139 st139
    have lt_b139 : h139.size > b139 := A139.lt
    have sz140 : h0.size ≤ h139.size := E139.1
    have O141 : Old Z n0 h139 := O0.ext E139
    have R142 : CHr Z own_EL s.vm h0 s.vm h139 := R0.trans (CHr.ext E139 R0.1)
    have V139 : Arv Z h139 b139 k139 .char (3 : Int32) [.int 0, .int 0, .int 0] (.int 0) := (Arv.new A139 (by decide)).pad (pad_rep [] (.int 0) 3)
    refine ov T139 98 A_27 [.ref b139] st139 ?_
    refine ov T139 99 A_27 [.ref b139, .ref b139] (fun t k => XS.dup X139.here hx rfl (hb hby at_98) rfl rfl k) ?_
    refine ov T139 100 A_27 [.int 0, .ref b139, .ref b139] (fun t k => XS.iconst X139.here hx rfl (hb hby at_99) k) ?_
    refine ov T139 102 A_27 [.int w1, .int 0, .ref b139, .ref b139] (fun t k => XS.iload X139.here hx rfl (hb hby at_100) rfl k) ?_
    obtain ⟨cl143, Ar143, q143, S143, M143, H143, U143⟩ := id V139
    obtain ⟨T143, h143, X143, e143, W143, st143⟩ := stC X139 hx hZ e139 Ar143 (j := (0 : Int32)) (inb_of S143 ⟨by decide, by decide⟩) (g := (mkF m 102 A_27 [.int w1, .int 0, .ref b139, .ref b139])) rfl rfl (hb hby at_102)
    have sf143 : Safe Z own_EL s.vm h139 b139 := (Safe.arv hZ.alike V139 (by decide))
    have sz144 : h139.size ≤ h143.size := Nat.le_of_eq W143.size.symm
    have R145 : CHr Z own_EL s.vm h0 s.vm h143 := R142.trans (CHr.wr W143 sf143 R142.1)
    have O146 : Old Z n0 h143 := O141.wr W143 (by omega : n0 ≤ b139)
    have N143 := Fr.snoc X143 N0 (by omega : n0 ≤ b139)
    rw [own_narc (own_r16 rw_w1)] at W143
    have V143 : Arv Z h143 b139 k139 .char (3 : Int32) [.int w1, .int 0, .int 0] (.int 0) := Arv.set Ar143 q143 S143 M143 H143 U143 (own_fitc (own_r16 rw_w1)) W143 0 rfl (Nat.le_of_ble_eq_true rfl)
    refine ov T143 103 A_27 [.ref b139] st143 ?_
    refine ov T143 104 A_27 [.ref b139, .ref b139] (fun t k => XS.dup X143.here hx rfl (hb hby at_103) rfl rfl k) ?_
    refine ov T143 105 A_27 [.int 1, .ref b139, .ref b139] (fun t k => XS.iconst X143.here hx rfl (hb hby at_104) k) ?_
    refine ov T143 107 A_27 [.int w2, .int 1, .ref b139, .ref b139] (fun t k => XS.iload X143.here hx rfl (hb hby at_105) rfl k) ?_
    obtain ⟨cl147, Ar147, q147, S147, M147, H147, U147⟩ := id V143
    obtain ⟨T147, h147, X147, e147, W147, st147⟩ := stC X143 hx hZ e143 Ar147 (j := (1 : Int32)) (inb_of S147 ⟨by decide, by decide⟩) (g := (mkF m 107 A_27 [.int w2, .int 1, .ref b139, .ref b139])) rfl rfl (hb hby at_107)
    have sf147 : Safe Z own_EL s.vm h143 b139 := (Safe.arv hZ.alike V143 (by decide))
    have sz148 : h143.size ≤ h147.size := Nat.le_of_eq W147.size.symm
    have R149 : CHr Z own_EL s.vm h0 s.vm h147 := R145.trans (CHr.wr W147 sf147 R145.1)
    have O150 : Old Z n0 h147 := O146.wr W147 (by omega : n0 ≤ b139)
    have N147 := Fr.snoc X147 N143 (by omega : n0 ≤ b139)
    rw [own_narc (own_r16 rw_w2)] at W147
    have V147 : Arv Z h147 b139 k139 .char (3 : Int32) [.int w1, .int w2, .int 0] (.int 0) := Arv.set Ar147 q147 S147 M147 H147 U147 (own_fitc (own_r16 rw_w2)) W147 1 rfl (Nat.le_of_ble_eq_true rfl)
    refine ov T147 108 A_27 [.ref b139] st147 ?_
    refine ov T147 109 A_27 [.ref b139, .ref b139] (fun t k => XS.dup X147.here hx rfl (hb hby at_108) rfl rfl k) ?_
    refine ov T147 110 A_27 [.int 2, .ref b139, .ref b139] (fun t k => XS.iconst X147.here hx rfl (hb hby at_109) k) ?_
    refine ov T147 112 A_27 [.int w3, .int 2, .ref b139, .ref b139] (fun t k => XS.iload X147.here hx rfl (hb hby at_110) rfl k) ?_
    obtain ⟨cl151, Ar151, q151, S151, M151, H151, U151⟩ := id V147
    obtain ⟨T151, h151, X151, e151, W151, st151⟩ := stC X147 hx hZ e147 Ar151 (j := (2 : Int32)) (inb_of S151 ⟨by decide, by decide⟩) (g := (mkF m 112 A_27 [.int w3, .int 2, .ref b139, .ref b139])) rfl rfl (hb hby at_112)
    have sf151 : Safe Z own_EL s.vm h147 b139 := (Safe.arv hZ.alike V147 (by decide))
    have sz152 : h147.size ≤ h151.size := Nat.le_of_eq W151.size.symm
    have R153 : CHr Z own_EL s.vm h0 s.vm h151 := R149.trans (CHr.wr W151 sf151 R149.1)
    have O154 : Old Z n0 h151 := O150.wr W151 (by omega : n0 ≤ b139)
    have N151 := Fr.snoc X151 N147 (by omega : n0 ≤ b139)
    rw [own_narc (own_r16 rw_w3)] at W151
    have V151 : Arv Z h151 b139 k139 .char (3 : Int32) [.int w1, .int w2, .int w3] (.int 0) := Arv.set Ar151 q151 S151 M151 H151 U151 (own_fitc (own_r16 rw_w3)) W151 2 rfl (Nat.le_of_ble_eq_true rfl)
    refine ov T151 113 A_27 [.ref b139] st151 ?_
    let A_28 : Array Slot := #[.val (.int p0), .val (.int p1), .val (.int p2), .val (.int p3), .val (.int p4), .val (.int p5), .val (.int w1), .val (.int w2), .val (.int w3), .val (.int w4), .val (.int 3), .val (.ref b139), .unset, .unset, .unset]
    refine ov T151 115 A_28 [] (fun t k => XS.astore X151.here hx rfl (hb hby at_113) rfl rfl (l' := A_28) rfl k) ?_
    refine ov T151 143 A_28 [] (fun t k => XS.goto X151.here hx rfl (pc0 := 115) (pc' := 143) rfl (hb hby at_115) (by decide) (by decide) k) ?_
    obtain ⟨T155, h155, X155, e155, E155, A155, D155, -, st155⟩ := newO X151 hx hZ hown (wd7 hw) (wd8 hw) (wd9 hw) e151 (g := (mkF m 143 A_28 [])) rfl (hb hby at_143) (by decide) (by decide)
    obtain ⟨b155, g155⟩ : ∃ z, z = h151.size := ⟨_, rfl⟩
    rw [← g155] at A155 D155 st155
    have lt_b155 : h155.size > b155 := A155.lt
    have sz156 : h151.size ≤ h155.size := E155.1
    have O157 : Old Z n0 h155 := O154.ext E155
    have R158 : CHr Z own_EL s.vm h0 s.vm h155 := R153.trans (CHr.ext E155 R153.1)
    have SF_b155 : Safe Z own_EL s.vm h155 b155 := Safe.ext E155 R153.1 (Safe.new (Nat.le_of_eq g155.symm))
    have F155_value : Fld Z h155 b155 "java/lang/String" "value" "[B" .null := D155 (Or.inr (wd22 hw)) (ty := (.array .byte)) (by decide)
    have F155_coder : Fld Z h155 b155 "java/lang/String" "coder" "B" (.int 0) := D155 (Or.inr (wd23 hw)) (ty := .byte) (by decide)
    refine ov T155 146 A_28 [.ref b155] st155 ?_
    refine ov T155 147 A_28 [.ref b155, .ref b155] (fun t k => XS.dup X155.here hx rfl (hb hby at_146) rfl rfl k) ?_
    refine ov T155 149 A_28 [.ref b139, .ref b155, .ref b155] (fun t k => XS.aload X155.here hx rfl (hb hby at_147) rfl rfl k) ?_
    by_cases hs149_159 : (255 : Int32) < w1 ∨ (255 : Int32) < w2 ∨ (255 : Int32) < w3
    · -- split
      have cx161 : Arv Z h155 b139 k139 .char (3 : Int32) [.int w1, .int w2, .int w3] (.int 0) := (V151.ext E155)
      obtain ⟨_, _, ⟨T160, Lp160, kp160, np160⟩, -, X160, ⟨Lc160, hQ160, l160, y160, z160⟩, st160⟩ := X155.specialBack hx (y := mt1) rfl hown (mvT hZ (wd10 hw)) (mvT hZ (wd11 hw)) (mvT hZ (wd12 hw)) (by decide) (backOf (W := 1) (own_n1_3 l Z a0 hw [] b155 b139 k139 zc w1 w2 w3 h155 n0 O157 zfC zf_S_java_lang_StringUTF16__assertionsDisabled zf_S_java_lang_StringUTF16_HI_BYTE_SHIFT zf_S_java_lang_StringUTF16_LO_BYTE_SHIFT A155 F155_value F155_coder cx161 hzc (by first | assumption | exact Ne.symm (by assumption) | omega | exact Nat.ne_of_lt (by omega) | exact Nat.ne_of_gt (by omega) | decide | exact Nat.le_of_ble_eq_true rfl) (by first | assumption | exact Ne.symm (by assumption) | omega | exact Nat.ne_of_lt (by omega) | exact Nat.ne_of_gt (by omega) | decide | exact Nat.le_of_ble_eq_true rfl) (by first | assumption | exact Ne.symm (by assumption) | omega | exact Nat.ne_of_lt (by omega) | exact Nat.ne_of_gt (by omega) | decide | exact Nat.le_of_ble_eq_true rfl) hs149_159 (by omega)) hZ (wd12 hw) (wd9 hw) (by decide) (by decide)) (g := (mkF m 149 A_28 [.ref b139, .ref b155, .ref b155])) rfl (by rw [hml]; rfl) (Steps.refl _) (a := b155) (argsL := [.ref b139]) (rest := [.ref b155]) (lenOf pd___C_V_325 rfl) rfl (by show 2 * 0 + _ ≤ _; exact Nat.le_of_eq rfl) (hb hby at_149) (fun _ _ => ⟨rfl, e155, (by decide : 2 + 2 ≤ _), (by decide : 7 + 9 ≤ _)⟩)
      dsimp only [Pt.U, Pt.locs, Pt.cells, Pt.slots] at X160 l160 y160 z160 st160 hQ160
      subst Lp160 kp160 np160
      obtain ⟨tb160, kb160, rfl, N160q, K160q, f160_0, f160_1, f160_2⟩ := hQ160
      have N160 := Fr.app N151 N160q
      have sf160 : ∀ x ∈ ([b155] : List Addr), Safe Z own_EL s.vm h155 x := (sfS SF_b155 sf0)
      have sz162 : h155.size ≤ T160.heap.size := K160q.1
      have R163 : CHr Z own_EL s.vm h0 s.vm T160.heap := R158.trans (CHr.keep K160q sf160 R158.1)
      have O164 : Old Z n0 T160.heap := O157.keep K160q (allS (by omega : n0 ≤ b155) all0)
      have lt165_tb160 : T160.heap.size > tb160 := f160_2.lt
      refine own_tr (S' := T160.setTop (mkF m 152 A_28 [.ref b155])) st160 ?_
      let A_29 : Array Slot := #[.val (.int p0), .val (.int p1), .val (.int p2), .val (.int p3), .val (.int p4), .val (.int p5), .val (.int w1), .val (.int w2), .val (.int w3), .val (.int w4), .val (.int 3), .val (.ref b139), .val (.ref b155), .unset, .unset]
      refine ov T160 154 A_29 [] (fun t k => XS.astore X160.here hx rfl (hb hby at_152) rfl rfl (l' := A_29) rfl k) ?_
      refine ov T160 156 A_29 [.int p5] (fun t k => XS.iload X160.here hx rfl (hb hby at_154) rfl k) ?_
      refine ov T160 159 A_29 [.int 255, .int p5] (fun t k => XS.sipush X160.here hx rfl (hb hby at_156) k) ?_
      refine ov T160 160 A_29 [(.int (p5 &&& (255 : Int32)))] (fun t k => XS.iand X160.here hx rfl (hb hby at_159) rfl k) ?_
      refine ov T160 161 #[.val (.int p0), .val (.int p1), .val (.int p2), .val (.int p3), .val (.int p4), .val (.int p5), .val (.int w1), .val (.int w2), .val (.int w3), .val (.int w4), .val (.int 3), .val (.ref b139), .val (.ref b155), .unset, .unset] [(.int ((p5 &&& (255 : Int32)).toUInt32.toUInt16.toUInt32.toInt32))] (fun t k => XS.i2c X160.here hx rfl (hb hby at_160) rfl k) ?_
      obtain ⟨cf, hn_cf⟩ : ∃ z : Int32, z = ((p5 &&& (255 : Int32)).toUInt32.toUInt16.toUInt32.toInt32) := ⟨_, rfl⟩
      rw [← hn_cf]
      have rng_cf : ¬ cf < 0 ∧ ¬ (255 : Int32) < cf := by rw [hn_cf]; exact own_and255 _
      obtain ⟨_, _, ⟨T166, Lp166, kp166, np166⟩, -, X166, ⟨Lc166, hQ166, l166, y166, z166⟩, st166⟩ := Jvm.LawKit.callS X160 hx (y := mt31) hown (mvT hZ (wd28 hw)) (mvT hZ (wd29 hw)) (mvT hZ (wd9 hw)) (mvT hZ (wd30 hw)) (by decide) (backOf (W := 0) (own_vof l Z a0 hw [] cf zc T160.heap n0 O164 zfC hzc rng_cf) hZ (wd30 hw) (wd9 hw) (by decide) (by decide)) (g := (mkF m 161 A_29 [.int cf])) rfl (by rw [hml]; rfl) (argsL := [.int cf]) (rest := []) (lenOf pd__C_Ljava_lang_String__1844 rfl) rfl (by show 2 * 0 + _ ≤ _; exact Nat.le_of_eq rfl) (hb hby at_161) (fun _ _ => ⟨rfl, rfl, (by decide : 4 + 2 ≤ _), (by decide : 16 + 5 ≤ _)⟩)
      dsimp only [Pt.U, Pt.locs, Pt.cells, Pt.slots] at X166 l166 y166 z166 st166 hQ166
      subst Lp166 kp166 np166
      obtain ⟨b166, rfl, N166q, K166q⟩ := hQ166
      have N166 := Fr.app N160 N166q
      have sf166 : ∀ x ∈ ([] : List Addr), Safe Z own_EL s.vm T160.heap x := sf0
      have sz167 : T160.heap.size ≤ T166.heap.size := K166q.1
      have R168 : CHr Z own_EL s.vm h0 s.vm T166.heap := R163.trans (CHr.keep K166q sf166 R163.1)
      have O169 : Old Z n0 T166.heap := O164.keep K166q all0
      refine ov T166 164 A_29 [.ref b166] st166 ?_
      let A_30 : Array Slot := #[.val (.int p0), .val (.int p1), .val (.int p2), .val (.int p3), .val (.int p4), .val (.int p5), .val (.int w1), .val (.int w2), .val (.int w3), .val (.int w4), .val (.int 3), .val (.ref b139), .val (.ref b155), .val (.ref b166), .unset]
      refine ov T166 166 A_30 [] (fun t k => XS.astore X166.here hx rfl (hb hby at_164) rfl rfl (l' := A_30) rfl k) ?_
      refine ov T166 168 A_30 [.ref b166] (fun t k => XS.aload X166.here hx rfl (hb hby at_166) rfl rfl k) ?_
      refine ov T166 170 A_30 [.ref b155, .ref b166] (fun t k => XS.aload X166.here hx rfl (hb hby at_168) rfl rfl k) ?_
      have cx171 : Exa Z T166.heap b155 "java/lang/String" := ((A155.keep K160q).keep K166q)
      have cx172 : Fld Z T166.heap b155 "java/lang/String" "value" "[B" (.ref tb160) := (f160_0.keep K166q nin0)
      have cx173 : Fld Z T166.heap b155 "java/lang/String" "coder" "B" (.int 1) := (f160_1.keep K166q nin0)
      have cx174 : Arv Z T166.heap tb160 kb160 .byte (6 : Int32) (own_L5 w1 w2 w3) (.int 0) := (f160_2.keep K166q nin0)
      obtain ⟨_, _, ⟨T170, Lp170, kp170, np170⟩, -, X170, ⟨Lc170, hQ170, l170, y170, z170⟩, st170⟩ := Jvm.LawKit.callS X166 hx (y := mt22) hown (mvT hZ (wd43 hw)) (mvT hZ (wd44 hw)) (mvT hZ (wd45 hw)) (mvT hZ (wd46 hw)) (by decide) (backOf (W := 0) (own_txtU l Z a0 hw [] b166 b155 tb160 kb160 zc (3 : Int32) (6 : Int32) (own_L5 w1 w2 w3) w1 w2 w3 (0 : Int32) fm T166.heap n0 O169 zfC zf_S_java_lang_StringUTF16__assertionsDisabled zf_S_java_lang_StringUTF16_HI_BYTE_SHIFT zf_S_java_lang_StringUTF16_LO_BYTE_SHIFT zf_S_jdk_internal_util_Preconditions_SIOOBE_FORMATTER cx171 cx172 cx173 cx174 hzc rfm (fun _ => ⟨by decide, by decide, rfl, rfl, rw_w1⟩) (fun _ => ⟨by decide, by decide, rfl, rfl, rw_w2⟩) (fun _ => ⟨by decide, by decide, rfl, rfl, rw_w3⟩) (fun h => absurd h (by decide)) (by decide) (by decide) (by decide) (by decide) (by decide)) hZ (wd46 hw) (wd45 hw) (by decide) (by decide)) (g := (mkF m 170 A_30 [.ref b155, .ref b166])) rfl (by rw [hml]; rfl) (argsL := [.ref b166, .ref b155]) (rest := []) (lenOf pd__Ljava_lang_String_Ljava_lang_String__Ljava_lang_String__5169 rfl) rfl (by show 2 * 0 + _ ≤ _; exact Nat.le_of_eq rfl) (hb hby at_170) (fun _ _ => ⟨rfl, rfl, (by decide : 6 + 0 ≤ _), (by decide : 21 + 0 ≤ _)⟩)
      dsimp only [Pt.U, Pt.locs, Pt.cells, Pt.slots] at X170 l170 y170 z170 st170 hQ170
      subst Lp170 kp170 np170
      obtain ⟨rfl, rfl, e170⟩ := hQ170
      try rw [List.append_nil] at X170
      refine ov T170 173 A_30 [.ref b155] st170 ?_
      let A_31 : Array Slot := #[.val (.int p0), .val (.int p1), .val (.int p2), .val (.int p3), .val (.int p4), .val (.int p5), .val (.int w1), .val (.int w2), .val (.int w3), .val (.int w4), .val (.int 3), .val (.ref b139), .val (.ref b155), .val (.ref b166), .val (.ref b155)]
      refine ov T170 175 A_31 [] (fun t k => XS.astore X170.here hx rfl (hb hby at_173) rfl rfl (l' := A_31) rfl k) ?_
      refine ov T170 177 A_31 [.ref b155] (fun t k => XS.aload X170.here hx rfl (hb hby at_175) rfl rfl k) ?_
      refine ov T170 180 A_31 [] (fun t k => XS.ifnullNo X170.here hx rfl (hb hby at_177) rfl k) ?_
      refine ov T170 182 A_31 [.ref b155] (fun t k => XS.aload X170.here hx rfl (hb hby at_180) rfl rfl k) ?_
      refine ov T170 184 A_31 [.ref b155, .ref b155] (fun t k => XS.aload X170.here hx rfl (hb hby at_182) rfl rfl k) ?_
      obtain ⟨cq175, kq175, q175a, q175b, q175c⟩ := isOf hZ e170 cx171
      obtain ⟨_, _, ⟨T175, Lp175, kp175, np175⟩, -, X175, ⟨Lc175, hQ175, l175, y175, z175⟩, st175⟩ := X170.virtualBack hx (y := mt32) (z := mt32) hown (mvT hZ (wd85 hw)) (mvT hZ (wd86 hw)) (notFace_of_selects (args := #[]) (mvT hZ (wd88 hw))) (mvT hZ (wd88 hw)) (mvT hZ (wd87 hw)) (by decide) (backOf (W := 0) (own_eqs l Z a0 hw [] b155 T166.heap n0 O169) hZ (wd89 hw) (wd9 hw) (by decide) (by decide)) q175a q175c (g := (mkF m 184 A_31 [.ref b155, .ref b155])) rfl (by rw [hml]; rfl) (Steps.refl _) (argsL := [.ref b155]) (rest := []) (lenOf pd__Ljava_lang_Object__Z_1835 rfl) rfl (by show 2 * 0 + _ ≤ _; exact Nat.le_of_eq rfl) (hb hby at_184) (fun _ _ => ⟨rfl, e170, (by decide : 6 + 0 ≤ _), (by decide : 21 + 0 ≤ _)⟩)
      dsimp only [Pt.U, Pt.locs, Pt.cells, Pt.slots] at X175 l175 y175 z175 st175 hQ175
      subst Lp175 kp175 np175
      obtain ⟨rfl, rfl, e175⟩ := hQ175
      try rw [List.append_nil] at X175
      refine own_tr (S' := T175.setTop (mkF m 187 A_31 [.int 1])) st175 ?_
      refine ov T175 190 A_31 [] (fun t k => XS.ifNo X175.here hx rfl (hb hby at_187) rfl ((if0 _ _).trans (feq (by decide : ¬ ((1 : Int32) = (0 : Int32)))).1) k) ?_
      refine ov T175 192 A_31 [.ref b155] (fun t k => XS.aload X175.here hx rfl (hb hby at_190) rfl rfl k) ?_
      obtain ⟨cq176, kq176, q176a, q176b, q176c⟩ := isOf hZ e175 cx171
      obtain ⟨_, _, ⟨T176, Lp176, kp176, np176⟩, -, X176, ⟨Lc176, hQ176, l176, y176, z176⟩, st176⟩ := X175.virtualBack hx (y := mt17) (z := mt17) hown (mvT hZ (wd90 hw)) (mvT hZ (wd63 hw)) (notFace_of_selects (args := #[]) (mvT hZ (wd65 hw))) (mvT hZ (wd65 hw)) (mvT hZ (wd64 hw)) (by decide) (backOf (W := 0) (own_lenU l Z a0 hw [] b155 tb160 kb160 zc (3 : Int32) (6 : Int32) (own_L5 w1 w2 w3) T166.heap n0 O169 zfC cx171 cx172 cx173 cx174 hzc (by decide)) hZ (wd66 hw) (wd9 hw) (by decide) (by decide)) q176a q176c (g := (mkF m 192 A_31 [.ref b155])) rfl (by rw [hml]; rfl) (Steps.refl _) (argsL := []) (rest := []) (lenOf pd___I_154 rfl) rfl (by show 2 * 0 + _ ≤ _; exact Nat.le_of_eq rfl) (hb hby at_192) (fun _ _ => ⟨rfl, e175, (by decide : 6 + 0 ≤ _), (by decide : 21 + 0 ≤ _)⟩)
      dsimp only [Pt.U, Pt.locs, Pt.cells, Pt.slots] at X176 l176 y176 z176 st176 hQ176
      subst Lp176 kp176 np176
      obtain ⟨rfl, rfl, e176⟩ := hQ176
      try rw [List.append_nil] at X176
      refine own_tr (S' := T176.setTop (mkF m 195 A_31 [.int 3])) st176 ?_
      refine ov T176 197 A_31 [.ref b139, .int 3] (fun t k => XS.aload X176.here hx rfl (hb hby at_195) rfl rfl k) ?_
      have ne_b139_b155 : b139 ≠ b155 := by first | exact (Exa.neArv A155 cx161 (wd8 hw)).symm | exact Nat.ne_of_lt (by omega) | exact Nat.ne_of_gt (by omega)
      have cx177 : Arv Z T166.heap b139 k139 .char (3 : Int32) [.int w1, .int w2, .int w3] (.int 0) := ((cx161.keep K160q (ninS ne_b139_b155 nin0)).keep K166q nin0)
      obtain ⟨cl178, Ar178, -, S178, N178, -, -⟩ := id cx177
      refine ov T176 198 A_31 [.int 3, .int 3] (fun t k => X176.arraylength hx (by first | (rw [e176]; exact Ar178.1) | exact Ar178.1) (State.isArrayOf_alike hZ.alike Ar178.2.1) (g := (mkF m 197 A_31 [.ref b139, .int 3])) rfl rfl (hb hby at_197) _ (by rw [len_of S178 N178]; exact k)) ?_
      refine ov T176 201 A_31 [] (fun t k => XS.icmpNo X176.here hx rfl (hb hby at_198) rfl (teq (by decide : (3 : Int32) = (3 : Int32))).2 k) ?_
      refine ov T176 202 A_31 [.int 1] (fun t k => XS.iconst X176.here hx rfl (hb hby at_201) k) ?_
      refine ov T176 206 A_31 [.int 1] (fun t k => XS.goto X176.here hx rfl (pc0 := 202) (pc' := 206) rfl (hb hby at_202) (by decide) (by decide) k) ?_
      have RTR168 : CHr Z own_EL s.vm h0 T176.vm T166.heap := R168.trans (CHv.at X176 hZ hEL R168.1)
      have RXR168 : CHr Z own_EL s.vm s.heap T176.vm T176.heap := by rw [hh, e176]; exact RTR168
      refine own_retW (Q := Q_own_law Z p0 p1 p2 p3 p4 p5 zc fm h0 n0) (C := room_1.cells) (N := room_1.slots) X176 hS0 (by rw [e176]; omega) (v := some (.int 1)) (fun h => by rw [Bd.returns] at h; cases h) Bd.notSynchronized ?_ RXR168 (by decide) (by decide) (fun fs hr => retN X176 hx (t := .boolean) Bd.returns (by simp) (hb hby at_206) hr)
      show Q_own_law Z p0 p1 p2 p3 p4 p5 zc fm h0 n0 _ T176.vm T176.heap _
      rw [e176]
      exact ⟨rfl, N166⟩
    · -- split
      have q8w1 : ¬ w1 < (1 : Int32) ∧ ¬ (255 : Int32) < w1 := ⟨rw_w1.1, fun q => hs149_159 (Or.inl q)⟩
      have rlw1 : ¬ w1 < 0 ∧ ¬ (255 : Int32) < w1 := ⟨own_lt0 q8w1.1, q8w1.2⟩
      have q8w2 : ¬ w2 < (1 : Int32) ∧ ¬ (255 : Int32) < w2 := ⟨rw_w2.1, fun q => hs149_159 (Or.inr (Or.inl q))⟩
      have rlw2 : ¬ w2 < 0 ∧ ¬ (255 : Int32) < w2 := ⟨own_lt0 q8w2.1, q8w2.2⟩
      have q8w3 : ¬ w3 < (1 : Int32) ∧ ¬ (255 : Int32) < w3 := ⟨rw_w3.1, fun q => hs149_159 (Or.inr (Or.inr (q)))⟩
      have rlw3 : ¬ w3 < 0 ∧ ¬ (255 : Int32) < w3 := ⟨own_lt0 q8w3.1, q8w3.2⟩
      have cx180 : Arv Z h155 b139 k139 .char (3 : Int32) [.int w1, .int w2, .int w3] (.int 0) := (V151.ext E155)
      have cx181 : Sta Z h155 "java/lang/String" "COMPACT_STRINGS" "Z" (.int zc) := zfC.ext O157.2
      have hws179 := own_mw hw
      have hp179 : ∀ c ∈ ([w1, w2, w3] : List Int32), ¬ c < 0 ∧ ¬ (255 : Int32) < c := by
        intro c hc
        simp only [List.mem_cons, List.not_mem_nil, or_false] at hc
        rcases hc with rfl | rfl | rfl
        · exact rlw1
        · exact rlw2
        · exact rlw3
      obtain ⟨_, _, ⟨T179, Lp179, kp179, np179⟩, -, X179, ⟨Lc179, hQ179, l179, y179, z179⟩, st179⟩ := X155.specialBack hx (y := mt1) rfl hown (mvT hZ (wd10 hw)) (mvT hZ (wd11 hw)) (mvT hZ (wd12 hw)) (by decide) (StrChars.Road.backV (W := 1) hZ hws179 (kI := 4) (wd8 hw) (cs := ([w1, w2, w3] : List Int32)) (bs := (([w1, w2, w3] : List Int32)).map (fun c => c.toInt8.toInt32)) (n := 3) (by omega : n0 ≤ b155) (by omega : n0 ≤ h155.size) A155 F155_value F155_coder cx180 cx181 hzc rfl rfl (by decide) (by decide) hp179 rfl (by decide) (by decide)) (g := (mkF m 149 A_28 [.ref b139, .ref b155, .ref b155])) rfl (by rw [hml]; rfl) (Steps.refl _) (a := b155) (argsL := [.ref b139]) (rest := [.ref b155]) (lenOf pd___C_V_325 rfl) rfl (by show 2 * 0 + _ ≤ _; exact Nat.le_of_eq rfl) (hb hby at_149) (fun _ _ => ⟨rfl, e155, (by decide : 2 + 1 ≤ _), (by decide : 7 + 3 ≤ _)⟩)
      dsimp only [Pt.U, Pt.locs, Pt.cells, Pt.slots] at X179 l179 y179 z179 st179 hQ179
      subst Lp179 kp179 np179
      obtain ⟨rfl, N179q, K179q, f179_0, f179_1, t179, kb179, tg179, tg179', tn179, f179_2, f179_3⟩ := hQ179
      have N179 := Fr.app N151 N179q
      have sf179 : ∀ x ∈ ([b155] : List Addr), Safe Z own_EL s.vm h155 x := (sfS SF_b155 sf0)
      have sz182 : h155.size ≤ T179.heap.size := K179q.1
      have R183 : CHr Z own_EL s.vm h0 s.vm T179.heap := R158.trans (CHr.keep K179q sf179 R158.1)
      have O184 : Old Z n0 T179.heap := O157.keep K179q (allS (by omega : n0 ≤ b155) all0)
      have lt_t179 : T179.heap.size > t179 := f179_3.lt
      refine own_tr (S' := T179.setTop (mkF m 152 A_28 [.ref b155])) st179 ?_
      let A_32 : Array Slot := #[.val (.int p0), .val (.int p1), .val (.int p2), .val (.int p3), .val (.int p4), .val (.int p5), .val (.int w1), .val (.int w2), .val (.int w3), .val (.int w4), .val (.int 3), .val (.ref b139), .val (.ref b155), .unset, .unset]
      refine ov T179 154 A_32 [] (fun t k => XS.astore X179.here hx rfl (hb hby at_152) rfl rfl (l' := A_32) rfl k) ?_
      refine ov T179 156 A_32 [.int p5] (fun t k => XS.iload X179.here hx rfl (hb hby at_154) rfl k) ?_
      refine ov T179 159 A_32 [.int 255, .int p5] (fun t k => XS.sipush X179.here hx rfl (hb hby at_156) k) ?_
      refine ov T179 160 A_32 [(.int (p5 &&& (255 : Int32)))] (fun t k => XS.iand X179.here hx rfl (hb hby at_159) rfl k) ?_
      refine ov T179 161 #[.val (.int p0), .val (.int p1), .val (.int p2), .val (.int p3), .val (.int p4), .val (.int p5), .val (.int w1), .val (.int w2), .val (.int w3), .val (.int w4), .val (.int 3), .val (.ref b139), .val (.ref b155), .unset, .unset] [(.int ((p5 &&& (255 : Int32)).toUInt32.toUInt16.toUInt32.toInt32))] (fun t k => XS.i2c X179.here hx rfl (hb hby at_160) rfl k) ?_
      obtain ⟨cf, hn_cf⟩ : ∃ z : Int32, z = ((p5 &&& (255 : Int32)).toUInt32.toUInt16.toUInt32.toInt32) := ⟨_, rfl⟩
      rw [← hn_cf]
      have rng_cf : ¬ cf < 0 ∧ ¬ (255 : Int32) < cf := by rw [hn_cf]; exact own_and255 _
      obtain ⟨_, _, ⟨T185, Lp185, kp185, np185⟩, -, X185, ⟨Lc185, hQ185, l185, y185, z185⟩, st185⟩ := Jvm.LawKit.callS X179 hx (y := mt31) hown (mvT hZ (wd28 hw)) (mvT hZ (wd29 hw)) (mvT hZ (wd9 hw)) (mvT hZ (wd30 hw)) (by decide) (backOf (W := 0) (own_vof l Z a0 hw [] cf zc T179.heap n0 O184 zfC hzc rng_cf) hZ (wd30 hw) (wd9 hw) (by decide) (by decide)) (g := (mkF m 161 A_32 [.int cf])) rfl (by rw [hml]; rfl) (argsL := [.int cf]) (rest := []) (lenOf pd__C_Ljava_lang_String__1844 rfl) rfl (by show 2 * 0 + _ ≤ _; exact Nat.le_of_eq rfl) (hb hby at_161) (fun _ _ => ⟨rfl, rfl, (by decide : 3 + 2 ≤ _), (by decide : 10 + 5 ≤ _)⟩)
      dsimp only [Pt.U, Pt.locs, Pt.cells, Pt.slots] at X185 l185 y185 z185 st185 hQ185
      subst Lp185 kp185 np185
      obtain ⟨b185, rfl, N185q, K185q⟩ := hQ185
      have N185 := Fr.app N179 N185q
      have sf185 : ∀ x ∈ ([] : List Addr), Safe Z own_EL s.vm T179.heap x := sf0
      have sz186 : T179.heap.size ≤ T185.heap.size := K185q.1
      have R187 : CHr Z own_EL s.vm h0 s.vm T185.heap := R183.trans (CHr.keep K185q sf185 R183.1)
      have O188 : Old Z n0 T185.heap := O184.keep K185q all0
      refine ov T185 164 A_32 [.ref b185] st185 ?_
      let A_33 : Array Slot := #[.val (.int p0), .val (.int p1), .val (.int p2), .val (.int p3), .val (.int p4), .val (.int p5), .val (.int w1), .val (.int w2), .val (.int w3), .val (.int w4), .val (.int 3), .val (.ref b139), .val (.ref b155), .val (.ref b185), .unset]
      refine ov T185 166 A_33 [] (fun t k => XS.astore X185.here hx rfl (hb hby at_164) rfl rfl (l' := A_33) rfl k) ?_
      refine ov T185 168 A_33 [.ref b185] (fun t k => XS.aload X185.here hx rfl (hb hby at_166) rfl rfl k) ?_
      refine ov T185 170 A_33 [.ref b155, .ref b185] (fun t k => XS.aload X185.here hx rfl (hb hby at_168) rfl rfl k) ?_
      have cx190 : Exa Z T185.heap b155 "java/lang/String" := (f179_0.keep K185q)
      have cx191 : Fld Z T185.heap b155 "java/lang/String" "value" "[B" (.ref t179) := (f179_2.keep K185q nin0)
      have cx192 : Fld Z T185.heap b155 "java/lang/String" "coder" "B" (.int 0) := (f179_1.keep K185q nin0)
      have cx193 : Arv Z T185.heap t179 kb179 .byte (3 : Int32) [(.int (w1.toInt8.toInt32)), (.int (w2.toInt8.toInt32)), (.int (w3.toInt8.toInt32))] (.int 0) := (f179_3.keep K185q nin0)
      obtain ⟨_, _, ⟨T189, Lp189, kp189, np189⟩, -, X189, ⟨Lc189, hQ189, l189, y189, z189⟩, st189⟩ := Jvm.LawKit.callS X185 hx (y := mt22) hown (mvT hZ (wd43 hw)) (mvT hZ (wd44 hw)) (mvT hZ (wd45 hw)) (mvT hZ (wd46 hw)) (by decide) (backOf (W := 0) (own_txtL l Z a0 hw [] b185 b155 t179 kb179 zc (3 : Int32) [(.int (w1.toInt8.toInt32)), (.int (w2.toInt8.toInt32)), (.int (w3.toInt8.toInt32))] (w1.toInt8.toInt32) (w2.toInt8.toInt32) (w3.toInt8.toInt32) (0 : Int32) T185.heap n0 O188 zfC cx190 cx191 cx192 cx193 hzc (fun _ => ⟨rfl, own_bnz q8w1⟩) (fun _ => ⟨rfl, own_bnz q8w2⟩) (fun _ => ⟨rfl, own_bnz q8w3⟩) (fun h => absurd h (by decide)) (by decide) (by decide)) hZ (wd46 hw) (wd45 hw) (by decide) (by decide)) (g := (mkF m 170 A_33 [.ref b155, .ref b185])) rfl (by rw [hml]; rfl) (argsL := [.ref b185, .ref b155]) (rest := []) (lenOf pd__Ljava_lang_String_Ljava_lang_String__Ljava_lang_String__5169 rfl) rfl (by show 2 * 0 + _ ≤ _; exact Nat.le_of_eq rfl) (hb hby at_170) (fun _ _ => ⟨rfl, rfl, (by decide : 5 + 0 ≤ _), (by decide : 15 + 0 ≤ _)⟩)
      dsimp only [Pt.U, Pt.locs, Pt.cells, Pt.slots] at X189 l189 y189 z189 st189 hQ189
      subst Lp189 kp189 np189
      obtain ⟨rfl, rfl, e189⟩ := hQ189
      try rw [List.append_nil] at X189
      refine ov T189 173 A_33 [.ref b155] st189 ?_
      let A_34 : Array Slot := #[.val (.int p0), .val (.int p1), .val (.int p2), .val (.int p3), .val (.int p4), .val (.int p5), .val (.int w1), .val (.int w2), .val (.int w3), .val (.int w4), .val (.int 3), .val (.ref b139), .val (.ref b155), .val (.ref b185), .val (.ref b155)]
      refine ov T189 175 A_34 [] (fun t k => XS.astore X189.here hx rfl (hb hby at_173) rfl rfl (l' := A_34) rfl k) ?_
      refine ov T189 177 A_34 [.ref b155] (fun t k => XS.aload X189.here hx rfl (hb hby at_175) rfl rfl k) ?_
      refine ov T189 180 A_34 [] (fun t k => XS.ifnullNo X189.here hx rfl (hb hby at_177) rfl k) ?_
      refine ov T189 182 A_34 [.ref b155] (fun t k => XS.aload X189.here hx rfl (hb hby at_180) rfl rfl k) ?_
      refine ov T189 184 A_34 [.ref b155, .ref b155] (fun t k => XS.aload X189.here hx rfl (hb hby at_182) rfl rfl k) ?_
      obtain ⟨cq194, kq194, q194a, q194b, q194c⟩ := isOf hZ e189 cx190
      obtain ⟨_, _, ⟨T194, Lp194, kp194, np194⟩, -, X194, ⟨Lc194, hQ194, l194, y194, z194⟩, st194⟩ := X189.virtualBack hx (y := mt32) (z := mt32) hown (mvT hZ (wd85 hw)) (mvT hZ (wd86 hw)) (notFace_of_selects (args := #[]) (mvT hZ (wd88 hw))) (mvT hZ (wd88 hw)) (mvT hZ (wd87 hw)) (by decide) (backOf (W := 0) (own_eqs l Z a0 hw [] b155 T185.heap n0 O188) hZ (wd89 hw) (wd9 hw) (by decide) (by decide)) q194a q194c (g := (mkF m 184 A_34 [.ref b155, .ref b155])) rfl (by rw [hml]; rfl) (Steps.refl _) (argsL := [.ref b155]) (rest := []) (lenOf pd__Ljava_lang_Object__Z_1835 rfl) rfl (by show 2 * 0 + _ ≤ _; exact Nat.le_of_eq rfl) (hb hby at_184) (fun _ _ => ⟨rfl, e189, (by decide : 5 + 0 ≤ _), (by decide : 15 + 0 ≤ _)⟩)
      dsimp only [Pt.U, Pt.locs, Pt.cells, Pt.slots] at X194 l194 y194 z194 st194 hQ194
      subst Lp194 kp194 np194
      obtain ⟨rfl, rfl, e194⟩ := hQ194
      try rw [List.append_nil] at X194
      refine own_tr (S' := T194.setTop (mkF m 187 A_34 [.int 1])) st194 ?_
      refine ov T194 190 A_34 [] (fun t k => XS.ifNo X194.here hx rfl (hb hby at_187) rfl ((if0 _ _).trans (feq (by decide : ¬ ((1 : Int32) = (0 : Int32)))).1) k) ?_
      refine ov T194 192 A_34 [.ref b155] (fun t k => XS.aload X194.here hx rfl (hb hby at_190) rfl rfl k) ?_
      obtain ⟨cq195, kq195, q195a, q195b, q195c⟩ := isOf hZ e194 cx190
      obtain ⟨_, _, ⟨T195, Lp195, kp195, np195⟩, -, X195, ⟨Lc195, hQ195, l195, y195, z195⟩, st195⟩ := X194.virtualBack hx (y := mt17) (z := mt17) hown (mvT hZ (wd90 hw)) (mvT hZ (wd63 hw)) (notFace_of_selects (args := #[]) (mvT hZ (wd65 hw))) (mvT hZ (wd65 hw)) (mvT hZ (wd64 hw)) (by decide) (backOf (W := 0) (own_lenL l Z a0 hw [] b155 t179 kb179 zc (3 : Int32) [(.int (w1.toInt8.toInt32)), (.int (w2.toInt8.toInt32)), (.int (w3.toInt8.toInt32))] T185.heap n0 O188 zfC cx190 cx191 cx192 cx193 hzc) hZ (wd66 hw) (wd9 hw) (by decide) (by decide)) q195a q195c (g := (mkF m 192 A_34 [.ref b155])) rfl (by rw [hml]; rfl) (Steps.refl _) (argsL := []) (rest := []) (lenOf pd___I_154 rfl) rfl (by show 2 * 0 + _ ≤ _; exact Nat.le_of_eq rfl) (hb hby at_192) (fun _ _ => ⟨rfl, e194, (by decide : 5 + 0 ≤ _), (by decide : 15 + 0 ≤ _)⟩)
      dsimp only [Pt.U, Pt.locs, Pt.cells, Pt.slots] at X195 l195 y195 z195 st195 hQ195
      subst Lp195 kp195 np195
      obtain ⟨rfl, rfl, e195⟩ := hQ195
      try rw [List.append_nil] at X195
      refine own_tr (S' := T195.setTop (mkF m 195 A_34 [.int 3])) st195 ?_
      refine ov T195 197 A_34 [.ref b139, .int 3] (fun t k => XS.aload X195.here hx rfl (hb hby at_195) rfl rfl k) ?_
      have ne_b139_b155 : b139 ≠ b155 := by first | exact (Exa.neArv A155 cx180 (wd8 hw)).symm | exact Nat.ne_of_lt (by omega) | exact Nat.ne_of_gt (by omega)
      have cx196 : Arv Z T185.heap b139 k139 .char (3 : Int32) [.int w1, .int w2, .int w3] (.int 0) := ((cx180.keep K179q (ninS ne_b139_b155 nin0)).keep K185q nin0)
      obtain ⟨cl197, Ar197, -, S197, N197, -, -⟩ := id cx196
      refine ov T195 198 A_34 [.int 3, .int 3] (fun t k => X195.arraylength hx (by first | (rw [e195]; exact Ar197.1) | exact Ar197.1) (State.isArrayOf_alike hZ.alike Ar197.2.1) (g := (mkF m 197 A_34 [.ref b139, .int 3])) rfl rfl (hb hby at_197) _ (by rw [len_of S197 N197]; exact k)) ?_
      refine ov T195 201 A_34 [] (fun t k => XS.icmpNo X195.here hx rfl (hb hby at_198) rfl (teq (by decide : (3 : Int32) = (3 : Int32))).2 k) ?_
      refine ov T195 202 A_34 [.int 1] (fun t k => XS.iconst X195.here hx rfl (hb hby at_201) k) ?_
      refine ov T195 206 A_34 [.int 1] (fun t k => XS.goto X195.here hx rfl (pc0 := 202) (pc' := 206) rfl (hb hby at_202) (by decide) (by decide) k) ?_
      have RTR187 : CHr Z own_EL s.vm h0 T195.vm T185.heap := R187.trans (CHv.at X195 hZ hEL R187.1)
      have RXR187 : CHr Z own_EL s.vm s.heap T195.vm T195.heap := by rw [hh, e195]; exact RTR187
      refine own_retW (Q := Q_own_law Z p0 p1 p2 p3 p4 p5 zc fm h0 n0) (C := room_1.cells) (N := room_1.slots) X195 hS0 (by rw [e195]; omega) (v := some (.int 1)) (fun h => by rw [Bd.returns] at h; cases h) Bd.notSynchronized ?_ RXR187 (by decide) (by decide) (fun fs hr => retN X195 hx (t := .boolean) Bd.returns (by simp) (hb hby at_206) hr)
      show Q_own_law Z p0 p1 p2 p3 p4 p5 zc fm h0 n0 _ T195.vm T195.heap _
      rw [e195]
      exact ⟨rfl, N185⟩
  · rw [hr33_5]
    let A_35 : Array Slot := #[.val (.int p0), .val (.int p1), .val (.int p2), .val (.int p3), .val (.int p4), .val (.int p5), .val (.int w1), .val (.int w2), .val (.int w3), .val (.int w4), .val (.int 4), .unset, .unset, .unset, .unset]
    refine ov T4 35 A_35 [.int 4] (fun t k => XS.iload X4.here hx rfl (hb hby at_33) rfl k) ?_
    refine ov T4 46 A_35 [] (fun t k => XS.ifYes X4.here hx rfl (pc0 := 35) (pc' := 46) rfl (hb hby at_35) rfl ((if0 _ _).trans (feq (by decide : ¬ ((4 : Int32) = (0 : Int32)))).2) (by decide) (by decide) k) ?_
    refine ov T4 48 A_35 [.int 4] (fun t k => XS.iload X4.here hx rfl (hb hby at_46) rfl k) ?_
    refine ov T4 49 A_35 [.int 1, .int 4] (fun t k => XS.iconst X4.here hx rfl (hb hby at_48) k) ?_
    refine ov T4 65 A_35 [] (fun t k => XS.icmpYes X4.here hx rfl (pc0 := 49) (pc' := 65) rfl (hb hby at_49) rfl (feq (by decide : ¬ ((4 : Int32) = (1 : Int32)))).2 (by decide) (by decide) k) ?_
    refine ov T4 67 A_35 [.int 4] (fun t k => XS.iload X4.here hx rfl (hb hby at_65) rfl k) ?_
    refine ov T4 68 A_35 [.int 2, .int 4] (fun t k => XS.iconst X4.here hx rfl (hb hby at_67) k) ?_
    refine ov T4 89 A_35 [] (fun t k => XS.icmpYes X4.here hx rfl (pc0 := 68) (pc' := 89) rfl (hb hby at_68) rfl (feq (by decide : ¬ ((4 : Int32) = (2 : Int32)))).2 (by decide) (by decide) k) ?_
    refine ov T4 91 A_35 [.int 4] (fun t k => XS.iload X4.here hx rfl (hb hby at_89) rfl k) ?_
    refine ov T4 92 A_35 [.int 3, .int 4] (fun t k => XS.iconst X4.here hx rfl (hb hby at_91) k) ?_
    refine ov T4 118 A_35 [] (fun t k => XS.icmpYes X4.here hx rfl (pc0 := 92) (pc' := 118) rfl (hb hby at_92) rfl (feq (by decide : ¬ ((4 : Int32) = (3 : Int32)))).2 (by decide) (by decide) k) ?_
    refine ov T4 119 A_35 [.int 4] (fun t k => XS.iconst X4.here hx rfl (hb hby at_118) k) ?_
    obtain ⟨T198, h198, k198, X198, e198, E198, A198, st198⟩ := newP (aty := .char) X4 hx hZ (wd6 hw) e4 (g := (mkF m 119 A_35 [.int 4])) rfl (hb hby at_119) rfl (by decide : ¬ ((4 : Int32) < (0 : Int32))) (cap := 4) (by decide) (by decide) (by decide) (by decide)
    obtain ⟨b198, g198⟩ : ∃ z, z = h0.size := ⟨_, rfl⟩
    rw [← g198] at A198 st198
    have lt_b198 : h198.size > b198 := A198.lt
    have sz199 : h0.size ≤ h198.size := E198.1
    have O200 : Old Z n0 h198 := O0.ext E198
    have R201 : CHr Z own_EL s.vm h0 s.vm h198 := R0.trans (CHr.ext E198 R0.1)
    have V198 : Arv Z h198 b198 k198 .char (4 : Int32) [.int 0, .int 0, .int 0, .int 0] (.int 0) := (Arv.new A198 (by decide)).pad (pad_rep [] (.int 0) 4)
    refine ov T198 121 A_35 [.ref b198] st198 ?_
    refine ov T198 122 A_35 [.ref b198, .ref b198] (fun t k => XS.dup X198.here hx rfl (hb hby at_121) rfl rfl k) ?_
    refine ov T198 123 A_35 [.int 0, .ref b198, .ref b198] (fun t k => XS.iconst X198.here hx rfl (hb hby at_122) k) ?_
    refine ov T198 125 A_35 [.int w1, .int 0, .ref b198, .ref b198] (fun t k => XS.iload X198.here hx rfl (hb hby at_123) rfl k) ?_
    obtain ⟨cl202, Ar202, q202, S202, M202, H202, U202⟩ := id V198
    obtain ⟨T202, h202, X202, e202, W202, st202⟩ := stC X198 hx hZ e198 Ar202 (j := (0 : Int32)) (inb_of S202 ⟨by decide, by decide⟩) (g := (mkF m 125 A_35 [.int w1, .int 0, .ref b198, .ref b198])) rfl rfl (hb hby at_125)
    have sf202 : Safe Z own_EL s.vm h198 b198 := (Safe.arv hZ.alike V198 (by decide))
    have sz203 : h198.size ≤ h202.size := Nat.le_of_eq W202.size.symm
    have R204 : CHr Z own_EL s.vm h0 s.vm h202 := R201.trans (CHr.wr W202 sf202 R201.1)
    have O205 : Old Z n0 h202 := O200.wr W202 (by omega : n0 ≤ b198)
    have N202 := Fr.snoc X202 N0 (by omega : n0 ≤ b198)
    rw [own_narc (own_r16 rw_w1)] at W202
    have V202 : Arv Z h202 b198 k198 .char (4 : Int32) [.int w1, .int 0, .int 0, .int 0] (.int 0) := Arv.set Ar202 q202 S202 M202 H202 U202 (own_fitc (own_r16 rw_w1)) W202 0 rfl (Nat.le_of_ble_eq_true rfl)
    refine ov T202 126 A_35 [.ref b198] st202 ?_
    refine ov T202 127 A_35 [.ref b198, .ref b198] (fun t k => XS.dup X202.here hx rfl (hb hby at_126) rfl rfl k) ?_
    refine ov T202 128 A_35 [.int 1, .ref b198, .ref b198] (fun t k => XS.iconst X202.here hx rfl (hb hby at_127) k) ?_
    refine ov T202 130 A_35 [.int w2, .int 1, .ref b198, .ref b198] (fun t k => XS.iload X202.here hx rfl (hb hby at_128) rfl k) ?_
    obtain ⟨cl206, Ar206, q206, S206, M206, H206, U206⟩ := id V202
    obtain ⟨T206, h206, X206, e206, W206, st206⟩ := stC X202 hx hZ e202 Ar206 (j := (1 : Int32)) (inb_of S206 ⟨by decide, by decide⟩) (g := (mkF m 130 A_35 [.int w2, .int 1, .ref b198, .ref b198])) rfl rfl (hb hby at_130)
    have sf206 : Safe Z own_EL s.vm h202 b198 := (Safe.arv hZ.alike V202 (by decide))
    have sz207 : h202.size ≤ h206.size := Nat.le_of_eq W206.size.symm
    have R208 : CHr Z own_EL s.vm h0 s.vm h206 := R204.trans (CHr.wr W206 sf206 R204.1)
    have O209 : Old Z n0 h206 := O205.wr W206 (by omega : n0 ≤ b198)
    have N206 := Fr.snoc X206 N202 (by omega : n0 ≤ b198)
    rw [own_narc (own_r16 rw_w2)] at W206
    have V206 : Arv Z h206 b198 k198 .char (4 : Int32) [.int w1, .int w2, .int 0, .int 0] (.int 0) := Arv.set Ar206 q206 S206 M206 H206 U206 (own_fitc (own_r16 rw_w2)) W206 1 rfl (Nat.le_of_ble_eq_true rfl)
    refine ov T206 131 A_35 [.ref b198] st206 ?_
    refine ov T206 132 A_35 [.ref b198, .ref b198] (fun t k => XS.dup X206.here hx rfl (hb hby at_131) rfl rfl k) ?_
    refine ov T206 133 A_35 [.int 2, .ref b198, .ref b198] (fun t k => XS.iconst X206.here hx rfl (hb hby at_132) k) ?_
    refine ov T206 135 A_35 [.int w3, .int 2, .ref b198, .ref b198] (fun t k => XS.iload X206.here hx rfl (hb hby at_133) rfl k) ?_
    obtain ⟨cl210, Ar210, q210, S210, M210, H210, U210⟩ := id V206
    obtain ⟨T210, h210, X210, e210, W210, st210⟩ := stC X206 hx hZ e206 Ar210 (j := (2 : Int32)) (inb_of S210 ⟨by decide, by decide⟩) (g := (mkF m 135 A_35 [.int w3, .int 2, .ref b198, .ref b198])) rfl rfl (hb hby at_135)
    have sf210 : Safe Z own_EL s.vm h206 b198 := (Safe.arv hZ.alike V206 (by decide))
    have sz211 : h206.size ≤ h210.size := Nat.le_of_eq W210.size.symm
    have R212 : CHr Z own_EL s.vm h0 s.vm h210 := R208.trans (CHr.wr W210 sf210 R208.1)
    have O213 : Old Z n0 h210 := O209.wr W210 (by omega : n0 ≤ b198)
    have N210 := Fr.snoc X210 N206 (by omega : n0 ≤ b198)
    rw [own_narc (own_r16 rw_w3)] at W210
    have V210 : Arv Z h210 b198 k198 .char (4 : Int32) [.int w1, .int w2, .int w3, .int 0] (.int 0) := Arv.set Ar210 q210 S210 M210 H210 U210 (own_fitc (own_r16 rw_w3)) W210 2 rfl (Nat.le_of_ble_eq_true rfl)
    refine ov T210 136 A_35 [.ref b198] st210 ?_
    refine ov T210 137 A_35 [.ref b198, .ref b198] (fun t k => XS.dup X210.here hx rfl (hb hby at_136) rfl rfl k) ?_
    refine ov T210 138 A_35 [.int 3, .ref b198, .ref b198] (fun t k => XS.iconst X210.here hx rfl (hb hby at_137) k) ?_
    refine ov T210 140 A_35 [.int w4, .int 3, .ref b198, .ref b198] (fun t k => XS.iload X210.here hx rfl (hb hby at_138) rfl k) ?_
    obtain ⟨cl214, Ar214, q214, S214, M214, H214, U214⟩ := id V210
    obtain ⟨T214, h214, X214, e214, W214, st214⟩ := stC X210 hx hZ e210 Ar214 (j := (3 : Int32)) (inb_of S214 ⟨by decide, by decide⟩) (g := (mkF m 140 A_35 [.int w4, .int 3, .ref b198, .ref b198])) rfl rfl (hb hby at_140)
    have sf214 : Safe Z own_EL s.vm h210 b198 := (Safe.arv hZ.alike V210 (by decide))
    have sz215 : h210.size ≤ h214.size := Nat.le_of_eq W214.size.symm
    have R216 : CHr Z own_EL s.vm h0 s.vm h214 := R212.trans (CHr.wr W214 sf214 R212.1)
    have O217 : Old Z n0 h214 := O213.wr W214 (by omega : n0 ≤ b198)
    have N214 := Fr.snoc X214 N210 (by omega : n0 ≤ b198)
    rw [own_narc (own_r16 rw_w4)] at W214
    have V214 : Arv Z h214 b198 k198 .char (4 : Int32) [.int w1, .int w2, .int w3, .int w4] (.int 0) := Arv.set Ar214 q214 S214 M214 H214 U214 (own_fitc (own_r16 rw_w4)) W214 3 rfl (Nat.le_of_ble_eq_true rfl)
    refine ov T214 141 A_35 [.ref b198] st214 ?_
    let A_36 : Array Slot := #[.val (.int p0), .val (.int p1), .val (.int p2), .val (.int p3), .val (.int p4), .val (.int p5), .val (.int w1), .val (.int w2), .val (.int w3), .val (.int w4), .val (.int 4), .val (.ref b198), .unset, .unset, .unset]
    refine ov T214 143 A_36 [] (fun t k => XS.astore X214.here hx rfl (hb hby at_141) rfl rfl (l' := A_36) rfl k) ?_
    obtain ⟨T218, h218, X218, e218, E218, A218, D218, -, st218⟩ := newO X214 hx hZ hown (wd7 hw) (wd8 hw) (wd9 hw) e214 (g := (mkF m 143 A_36 [])) rfl (hb hby at_143) (by decide) (by decide)
    obtain ⟨b218, g218⟩ : ∃ z, z = h214.size := ⟨_, rfl⟩
    rw [← g218] at A218 D218 st218
    have lt_b218 : h218.size > b218 := A218.lt
    have sz219 : h214.size ≤ h218.size := E218.1
    have O220 : Old Z n0 h218 := O217.ext E218
    have R221 : CHr Z own_EL s.vm h0 s.vm h218 := R216.trans (CHr.ext E218 R216.1)
    have SF_b218 : Safe Z own_EL s.vm h218 b218 := Safe.ext E218 R216.1 (Safe.new (Nat.le_of_eq g218.symm))
    have F218_value : Fld Z h218 b218 "java/lang/String" "value" "[B" .null := D218 (Or.inr (wd22 hw)) (ty := (.array .byte)) (by decide)
    have F218_coder : Fld Z h218 b218 "java/lang/String" "coder" "B" (.int 0) := D218 (Or.inr (wd23 hw)) (ty := .byte) (by decide)
    refine ov T218 146 A_36 [.ref b218] st218 ?_
    refine ov T218 147 A_36 [.ref b218, .ref b218] (fun t k => XS.dup X218.here hx rfl (hb hby at_146) rfl rfl k) ?_
    refine ov T218 149 A_36 [.ref b198, .ref b218, .ref b218] (fun t k => XS.aload X218.here hx rfl (hb hby at_147) rfl rfl k) ?_
    by_cases hs149_222 : (255 : Int32) < w1 ∨ (255 : Int32) < w2 ∨ (255 : Int32) < w3 ∨ (255 : Int32) < w4
    · -- split
      have cx224 : Arv Z h218 b198 k198 .char (4 : Int32) [.int w1, .int w2, .int w3, .int w4] (.int 0) := (V214.ext E218)
      obtain ⟨_, _, ⟨T223, Lp223, kp223, np223⟩, -, X223, ⟨Lc223, hQ223, l223, y223, z223⟩, st223⟩ := X218.specialBack hx (y := mt1) rfl hown (mvT hZ (wd10 hw)) (mvT hZ (wd11 hw)) (mvT hZ (wd12 hw)) (by decide) (backOf (W := 1) (own_n1_4 l Z a0 hw [] b218 b198 k198 zc w1 w2 w3 w4 h218 n0 O220 zfC zf_S_java_lang_StringUTF16__assertionsDisabled zf_S_java_lang_StringUTF16_HI_BYTE_SHIFT zf_S_java_lang_StringUTF16_LO_BYTE_SHIFT A218 F218_value F218_coder cx224 hzc (by first | assumption | exact Ne.symm (by assumption) | omega | exact Nat.ne_of_lt (by omega) | exact Nat.ne_of_gt (by omega) | decide | exact Nat.le_of_ble_eq_true rfl) (by first | assumption | exact Ne.symm (by assumption) | omega | exact Nat.ne_of_lt (by omega) | exact Nat.ne_of_gt (by omega) | decide | exact Nat.le_of_ble_eq_true rfl) (by first | assumption | exact Ne.symm (by assumption) | omega | exact Nat.ne_of_lt (by omega) | exact Nat.ne_of_gt (by omega) | decide | exact Nat.le_of_ble_eq_true rfl) (by first | assumption | exact Ne.symm (by assumption) | omega | exact Nat.ne_of_lt (by omega) | exact Nat.ne_of_gt (by omega) | decide | exact Nat.le_of_ble_eq_true rfl) hs149_222 (by omega)) hZ (wd12 hw) (wd9 hw) (by decide) (by decide)) (g := (mkF m 149 A_36 [.ref b198, .ref b218, .ref b218])) rfl (by rw [hml]; rfl) (Steps.refl _) (a := b218) (argsL := [.ref b198]) (rest := [.ref b218]) (lenOf pd___C_V_325 rfl) rfl (by show 2 * 0 + _ ≤ _; exact Nat.le_of_eq rfl) (hb hby at_149) (fun _ _ => ⟨rfl, e218, (by decide : 2 + 2 ≤ _), (by decide : 8 + 12 ≤ _)⟩)
      dsimp only [Pt.U, Pt.locs, Pt.cells, Pt.slots] at X223 l223 y223 z223 st223 hQ223
      subst Lp223 kp223 np223
      obtain ⟨tb223, kb223, rfl, N223q, K223q, f223_0, f223_1, f223_2⟩ := hQ223
      have N223 := Fr.app N214 N223q
      have sf223 : ∀ x ∈ ([b218] : List Addr), Safe Z own_EL s.vm h218 x := (sfS SF_b218 sf0)
      have sz225 : h218.size ≤ T223.heap.size := K223q.1
      have R226 : CHr Z own_EL s.vm h0 s.vm T223.heap := R221.trans (CHr.keep K223q sf223 R221.1)
      have O227 : Old Z n0 T223.heap := O220.keep K223q (allS (by omega : n0 ≤ b218) all0)
      have lt228_tb223 : T223.heap.size > tb223 := f223_2.lt
      refine own_tr (S' := T223.setTop (mkF m 152 A_36 [.ref b218])) st223 ?_
      let A_37 : Array Slot := #[.val (.int p0), .val (.int p1), .val (.int p2), .val (.int p3), .val (.int p4), .val (.int p5), .val (.int w1), .val (.int w2), .val (.int w3), .val (.int w4), .val (.int 4), .val (.ref b198), .val (.ref b218), .unset, .unset]
      refine ov T223 154 A_37 [] (fun t k => XS.astore X223.here hx rfl (hb hby at_152) rfl rfl (l' := A_37) rfl k) ?_
      refine ov T223 156 A_37 [.int p5] (fun t k => XS.iload X223.here hx rfl (hb hby at_154) rfl k) ?_
      refine ov T223 159 A_37 [.int 255, .int p5] (fun t k => XS.sipush X223.here hx rfl (hb hby at_156) k) ?_
      refine ov T223 160 A_37 [(.int (p5 &&& (255 : Int32)))] (fun t k => XS.iand X223.here hx rfl (hb hby at_159) rfl k) ?_
      refine ov T223 161 #[.val (.int p0), .val (.int p1), .val (.int p2), .val (.int p3), .val (.int p4), .val (.int p5), .val (.int w1), .val (.int w2), .val (.int w3), .val (.int w4), .val (.int 4), .val (.ref b198), .val (.ref b218), .unset, .unset] [(.int ((p5 &&& (255 : Int32)).toUInt32.toUInt16.toUInt32.toInt32))] (fun t k => XS.i2c X223.here hx rfl (hb hby at_160) rfl k) ?_
      obtain ⟨cf, hn_cf⟩ : ∃ z : Int32, z = ((p5 &&& (255 : Int32)).toUInt32.toUInt16.toUInt32.toInt32) := ⟨_, rfl⟩
      rw [← hn_cf]
      have rng_cf : ¬ cf < 0 ∧ ¬ (255 : Int32) < cf := by rw [hn_cf]; exact own_and255 _
      obtain ⟨_, _, ⟨T229, Lp229, kp229, np229⟩, -, X229, ⟨Lc229, hQ229, l229, y229, z229⟩, st229⟩ := Jvm.LawKit.callS X223 hx (y := mt31) hown (mvT hZ (wd28 hw)) (mvT hZ (wd29 hw)) (mvT hZ (wd9 hw)) (mvT hZ (wd30 hw)) (by decide) (backOf (W := 0) (own_vof l Z a0 hw [] cf zc T223.heap n0 O227 zfC hzc rng_cf) hZ (wd30 hw) (wd9 hw) (by decide) (by decide)) (g := (mkF m 161 A_37 [.int cf])) rfl (by rw [hml]; rfl) (argsL := [.int cf]) (rest := []) (lenOf pd__C_Ljava_lang_String__1844 rfl) rfl (by show 2 * 0 + _ ≤ _; exact Nat.le_of_eq rfl) (hb hby at_161) (fun _ _ => ⟨rfl, rfl, (by decide : 4 + 2 ≤ _), (by decide : 20 + 5 ≤ _)⟩)
      dsimp only [Pt.U, Pt.locs, Pt.cells, Pt.slots] at X229 l229 y229 z229 st229 hQ229
      subst Lp229 kp229 np229
      obtain ⟨b229, rfl, N229q, K229q⟩ := hQ229
      have N229 := Fr.app N223 N229q
      have sf229 : ∀ x ∈ ([] : List Addr), Safe Z own_EL s.vm T223.heap x := sf0
      have sz230 : T223.heap.size ≤ T229.heap.size := K229q.1
      have R231 : CHr Z own_EL s.vm h0 s.vm T229.heap := R226.trans (CHr.keep K229q sf229 R226.1)
      have O232 : Old Z n0 T229.heap := O227.keep K229q all0
      refine ov T229 164 A_37 [.ref b229] st229 ?_
      let A_38 : Array Slot := #[.val (.int p0), .val (.int p1), .val (.int p2), .val (.int p3), .val (.int p4), .val (.int p5), .val (.int w1), .val (.int w2), .val (.int w3), .val (.int w4), .val (.int 4), .val (.ref b198), .val (.ref b218), .val (.ref b229), .unset]
      refine ov T229 166 A_38 [] (fun t k => XS.astore X229.here hx rfl (hb hby at_164) rfl rfl (l' := A_38) rfl k) ?_
      refine ov T229 168 A_38 [.ref b229] (fun t k => XS.aload X229.here hx rfl (hb hby at_166) rfl rfl k) ?_
      refine ov T229 170 A_38 [.ref b218, .ref b229] (fun t k => XS.aload X229.here hx rfl (hb hby at_168) rfl rfl k) ?_
      have cx234 : Exa Z T229.heap b218 "java/lang/String" := ((A218.keep K223q).keep K229q)
      have cx235 : Fld Z T229.heap b218 "java/lang/String" "value" "[B" (.ref tb223) := (f223_0.keep K229q nin0)
      have cx236 : Fld Z T229.heap b218 "java/lang/String" "coder" "B" (.int 1) := (f223_1.keep K229q nin0)
      have cx237 : Arv Z T229.heap tb223 kb223 .byte (8 : Int32) (own_L9 w1 w2 w3 w4) (.int 0) := (f223_2.keep K229q nin0)
      obtain ⟨_, _, ⟨T233, Lp233, kp233, np233⟩, -, X233, ⟨Lc233, hQ233, l233, y233, z233⟩, st233⟩ := Jvm.LawKit.callS X229 hx (y := mt22) hown (mvT hZ (wd43 hw)) (mvT hZ (wd44 hw)) (mvT hZ (wd45 hw)) (mvT hZ (wd46 hw)) (by decide) (backOf (W := 0) (own_txtU l Z a0 hw [] b229 b218 tb223 kb223 zc (4 : Int32) (8 : Int32) (own_L9 w1 w2 w3 w4) w1 w2 w3 w4 fm T229.heap n0 O232 zfC zf_S_java_lang_StringUTF16__assertionsDisabled zf_S_java_lang_StringUTF16_HI_BYTE_SHIFT zf_S_java_lang_StringUTF16_LO_BYTE_SHIFT zf_S_jdk_internal_util_Preconditions_SIOOBE_FORMATTER cx234 cx235 cx236 cx237 hzc rfm (fun _ => ⟨by decide, by decide, rfl, rfl, rw_w1⟩) (fun _ => ⟨by decide, by decide, rfl, rfl, rw_w2⟩) (fun _ => ⟨by decide, by decide, rfl, rfl, rw_w3⟩) (fun _ => ⟨by decide, by decide, rfl, rfl, rw_w4⟩) (by decide) (by decide) (by decide) (by decide) (by decide)) hZ (wd46 hw) (wd45 hw) (by decide) (by decide)) (g := (mkF m 170 A_38 [.ref b218, .ref b229])) rfl (by rw [hml]; rfl) (argsL := [.ref b229, .ref b218]) (rest := []) (lenOf pd__Ljava_lang_String_Ljava_lang_String__Ljava_lang_String__5169 rfl) rfl (by show 2 * 0 + _ ≤ _; exact Nat.le_of_eq rfl) (hb hby at_170) (fun _ _ => ⟨rfl, rfl, (by decide : 6 + 0 ≤ _), (by decide : 25 + 0 ≤ _)⟩)
      dsimp only [Pt.U, Pt.locs, Pt.cells, Pt.slots] at X233 l233 y233 z233 st233 hQ233
      subst Lp233 kp233 np233
      obtain ⟨rfl, rfl, e233⟩ := hQ233
      try rw [List.append_nil] at X233
      refine ov T233 173 A_38 [.ref b218] st233 ?_
      let A_39 : Array Slot := #[.val (.int p0), .val (.int p1), .val (.int p2), .val (.int p3), .val (.int p4), .val (.int p5), .val (.int w1), .val (.int w2), .val (.int w3), .val (.int w4), .val (.int 4), .val (.ref b198), .val (.ref b218), .val (.ref b229), .val (.ref b218)]
      refine ov T233 175 A_39 [] (fun t k => XS.astore X233.here hx rfl (hb hby at_173) rfl rfl (l' := A_39) rfl k) ?_
      refine ov T233 177 A_39 [.ref b218] (fun t k => XS.aload X233.here hx rfl (hb hby at_175) rfl rfl k) ?_
      refine ov T233 180 A_39 [] (fun t k => XS.ifnullNo X233.here hx rfl (hb hby at_177) rfl k) ?_
      refine ov T233 182 A_39 [.ref b218] (fun t k => XS.aload X233.here hx rfl (hb hby at_180) rfl rfl k) ?_
      refine ov T233 184 A_39 [.ref b218, .ref b218] (fun t k => XS.aload X233.here hx rfl (hb hby at_182) rfl rfl k) ?_
      obtain ⟨cq238, kq238, q238a, q238b, q238c⟩ := isOf hZ e233 cx234
      obtain ⟨_, _, ⟨T238, Lp238, kp238, np238⟩, -, X238, ⟨Lc238, hQ238, l238, y238, z238⟩, st238⟩ := X233.virtualBack hx (y := mt32) (z := mt32) hown (mvT hZ (wd85 hw)) (mvT hZ (wd86 hw)) (notFace_of_selects (args := #[]) (mvT hZ (wd88 hw))) (mvT hZ (wd88 hw)) (mvT hZ (wd87 hw)) (by decide) (backOf (W := 0) (own_eqs l Z a0 hw [] b218 T229.heap n0 O232) hZ (wd89 hw) (wd9 hw) (by decide) (by decide)) q238a q238c (g := (mkF m 184 A_39 [.ref b218, .ref b218])) rfl (by rw [hml]; rfl) (Steps.refl _) (argsL := [.ref b218]) (rest := []) (lenOf pd__Ljava_lang_Object__Z_1835 rfl) rfl (by show 2 * 0 + _ ≤ _; exact Nat.le_of_eq rfl) (hb hby at_184) (fun _ _ => ⟨rfl, e233, (by decide : 6 + 0 ≤ _), (by decide : 25 + 0 ≤ _)⟩)
      dsimp only [Pt.U, Pt.locs, Pt.cells, Pt.slots] at X238 l238 y238 z238 st238 hQ238
      subst Lp238 kp238 np238
      obtain ⟨rfl, rfl, e238⟩ := hQ238
      try rw [List.append_nil] at X238
      refine own_tr (S' := T238.setTop (mkF m 187 A_39 [.int 1])) st238 ?_
      refine ov T238 190 A_39 [] (fun t k => XS.ifNo X238.here hx rfl (hb hby at_187) rfl ((if0 _ _).trans (feq (by decide : ¬ ((1 : Int32) = (0 : Int32)))).1) k) ?_
      refine ov T238 192 A_39 [.ref b218] (fun t k => XS.aload X238.here hx rfl (hb hby at_190) rfl rfl k) ?_
      obtain ⟨cq239, kq239, q239a, q239b, q239c⟩ := isOf hZ e238 cx234
      obtain ⟨_, _, ⟨T239, Lp239, kp239, np239⟩, -, X239, ⟨Lc239, hQ239, l239, y239, z239⟩, st239⟩ := X238.virtualBack hx (y := mt17) (z := mt17) hown (mvT hZ (wd90 hw)) (mvT hZ (wd63 hw)) (notFace_of_selects (args := #[]) (mvT hZ (wd65 hw))) (mvT hZ (wd65 hw)) (mvT hZ (wd64 hw)) (by decide) (backOf (W := 0) (own_lenU l Z a0 hw [] b218 tb223 kb223 zc (4 : Int32) (8 : Int32) (own_L9 w1 w2 w3 w4) T229.heap n0 O232 zfC cx234 cx235 cx236 cx237 hzc (by decide)) hZ (wd66 hw) (wd9 hw) (by decide) (by decide)) q239a q239c (g := (mkF m 192 A_39 [.ref b218])) rfl (by rw [hml]; rfl) (Steps.refl _) (argsL := []) (rest := []) (lenOf pd___I_154 rfl) rfl (by show 2 * 0 + _ ≤ _; exact Nat.le_of_eq rfl) (hb hby at_192) (fun _ _ => ⟨rfl, e238, (by decide : 6 + 0 ≤ _), (by decide : 25 + 0 ≤ _)⟩)
      dsimp only [Pt.U, Pt.locs, Pt.cells, Pt.slots] at X239 l239 y239 z239 st239 hQ239
      subst Lp239 kp239 np239
      obtain ⟨rfl, rfl, e239⟩ := hQ239
      try rw [List.append_nil] at X239
      refine own_tr (S' := T239.setTop (mkF m 195 A_39 [.int 4])) st239 ?_
      refine ov T239 197 A_39 [.ref b198, .int 4] (fun t k => XS.aload X239.here hx rfl (hb hby at_195) rfl rfl k) ?_
      have ne_b198_b218 : b198 ≠ b218 := by first | exact (Exa.neArv A218 cx224 (wd8 hw)).symm | exact Nat.ne_of_lt (by omega) | exact Nat.ne_of_gt (by omega)
      have cx240 : Arv Z T229.heap b198 k198 .char (4 : Int32) [.int w1, .int w2, .int w3, .int w4] (.int 0) := ((cx224.keep K223q (ninS ne_b198_b218 nin0)).keep K229q nin0)
      obtain ⟨cl241, Ar241, -, S241, N241, -, -⟩ := id cx240
      refine ov T239 198 A_39 [.int 4, .int 4] (fun t k => X239.arraylength hx (by first | (rw [e239]; exact Ar241.1) | exact Ar241.1) (State.isArrayOf_alike hZ.alike Ar241.2.1) (g := (mkF m 197 A_39 [.ref b198, .int 4])) rfl rfl (hb hby at_197) _ (by rw [len_of S241 N241]; exact k)) ?_
      refine ov T239 201 A_39 [] (fun t k => XS.icmpNo X239.here hx rfl (hb hby at_198) rfl (teq (by decide : (4 : Int32) = (4 : Int32))).2 k) ?_
      refine ov T239 202 A_39 [.int 1] (fun t k => XS.iconst X239.here hx rfl (hb hby at_201) k) ?_
      refine ov T239 206 A_39 [.int 1] (fun t k => XS.goto X239.here hx rfl (pc0 := 202) (pc' := 206) rfl (hb hby at_202) (by decide) (by decide) k) ?_
      have RTR231 : CHr Z own_EL s.vm h0 T239.vm T229.heap := R231.trans (CHv.at X239 hZ hEL R231.1)
      have RXR231 : CHr Z own_EL s.vm s.heap T239.vm T239.heap := by rw [hh, e239]; exact RTR231
      refine own_retW (Q := Q_own_law Z p0 p1 p2 p3 p4 p5 zc fm h0 n0) (C := room_1.cells) (N := room_1.slots) X239 hS0 (by rw [e239]; omega) (v := some (.int 1)) (fun h => by rw [Bd.returns] at h; cases h) Bd.notSynchronized ?_ RXR231 (by decide) (by decide) (fun fs hr => retN X239 hx (t := .boolean) Bd.returns (by simp) (hb hby at_206) hr)
      show Q_own_law Z p0 p1 p2 p3 p4 p5 zc fm h0 n0 _ T239.vm T239.heap _
      rw [e239]
      exact ⟨rfl, N229⟩
    · -- split
      have q8w1 : ¬ w1 < (1 : Int32) ∧ ¬ (255 : Int32) < w1 := ⟨rw_w1.1, fun q => hs149_222 (Or.inl q)⟩
      have rlw1 : ¬ w1 < 0 ∧ ¬ (255 : Int32) < w1 := ⟨own_lt0 q8w1.1, q8w1.2⟩
      have q8w2 : ¬ w2 < (1 : Int32) ∧ ¬ (255 : Int32) < w2 := ⟨rw_w2.1, fun q => hs149_222 (Or.inr (Or.inl q))⟩
      have rlw2 : ¬ w2 < 0 ∧ ¬ (255 : Int32) < w2 := ⟨own_lt0 q8w2.1, q8w2.2⟩
      have q8w3 : ¬ w3 < (1 : Int32) ∧ ¬ (255 : Int32) < w3 := ⟨rw_w3.1, fun q => hs149_222 (Or.inr (Or.inr (Or.inl q)))⟩
      have rlw3 : ¬ w3 < 0 ∧ ¬ (255 : Int32) < w3 := ⟨own_lt0 q8w3.1, q8w3.2⟩
      have q8w4 : ¬ w4 < (1 : Int32) ∧ ¬ (255 : Int32) < w4 := ⟨rw_w4.1, fun q => hs149_222 (Or.inr (Or.inr (Or.inr (q))))⟩
      have rlw4 : ¬ w4 < 0 ∧ ¬ (255 : Int32) < w4 := ⟨own_lt0 q8w4.1, q8w4.2⟩
      have cx243 : Arv Z h218 b198 k198 .char (4 : Int32) [.int w1, .int w2, .int w3, .int w4] (.int 0) := (V214.ext E218)
      have cx244 : Sta Z h218 "java/lang/String" "COMPACT_STRINGS" "Z" (.int zc) := zfC.ext O220.2
      have hws242 := own_mw hw
      have hp242 : ∀ c ∈ ([w1, w2, w3, w4] : List Int32), ¬ c < 0 ∧ ¬ (255 : Int32) < c := by
        intro c hc
        simp only [List.mem_cons, List.not_mem_nil, or_false] at hc
        rcases hc with rfl | rfl | rfl | rfl
        · exact rlw1
        · exact rlw2
        · exact rlw3
        · exact rlw4
      obtain ⟨_, _, ⟨T242, Lp242, kp242, np242⟩, -, X242, ⟨Lc242, hQ242, l242, y242, z242⟩, st242⟩ := X218.specialBack hx (y := mt1) rfl hown (mvT hZ (wd10 hw)) (mvT hZ (wd11 hw)) (mvT hZ (wd12 hw)) (by decide) (StrChars.Road.backV (W := 1) hZ hws242 (kI := 4) (wd8 hw) (cs := ([w1, w2, w3, w4] : List Int32)) (bs := (([w1, w2, w3, w4] : List Int32)).map (fun c => c.toInt8.toInt32)) (n := 4) (by omega : n0 ≤ b218) (by omega : n0 ≤ h218.size) A218 F218_value F218_coder cx243 cx244 hzc rfl rfl (by decide) (by decide) hp242 rfl (by decide) (by decide)) (g := (mkF m 149 A_36 [.ref b198, .ref b218, .ref b218])) rfl (by rw [hml]; rfl) (Steps.refl _) (a := b218) (argsL := [.ref b198]) (rest := [.ref b218]) (lenOf pd___C_V_325 rfl) rfl (by show 2 * 0 + _ ≤ _; exact Nat.le_of_eq rfl) (hb hby at_149) (fun _ _ => ⟨rfl, e218, (by decide : 2 + 1 ≤ _), (by decide : 8 + 4 ≤ _)⟩)
      dsimp only [Pt.U, Pt.locs, Pt.cells, Pt.slots] at X242 l242 y242 z242 st242 hQ242
      subst Lp242 kp242 np242
      obtain ⟨rfl, N242q, K242q, f242_0, f242_1, t242, kb242, tg242, tg242', tn242, f242_2, f242_3⟩ := hQ242
      have N242 := Fr.app N214 N242q
      have sf242 : ∀ x ∈ ([b218] : List Addr), Safe Z own_EL s.vm h218 x := (sfS SF_b218 sf0)
      have sz245 : h218.size ≤ T242.heap.size := K242q.1
      have R246 : CHr Z own_EL s.vm h0 s.vm T242.heap := R221.trans (CHr.keep K242q sf242 R221.1)
      have O247 : Old Z n0 T242.heap := O220.keep K242q (allS (by omega : n0 ≤ b218) all0)
      have lt_t242 : T242.heap.size > t242 := f242_3.lt
      refine own_tr (S' := T242.setTop (mkF m 152 A_36 [.ref b218])) st242 ?_
      let A_40 : Array Slot := #[.val (.int p0), .val (.int p1), .val (.int p2), .val (.int p3), .val (.int p4), .val (.int p5), .val (.int w1), .val (.int w2), .val (.int w3), .val (.int w4), .val (.int 4), .val (.ref b198), .val (.ref b218), .unset, .unset]
      refine ov T242 154 A_40 [] (fun t k => XS.astore X242.here hx rfl (hb hby at_152) rfl rfl (l' := A_40) rfl k) ?_
      refine ov T242 156 A_40 [.int p5] (fun t k => XS.iload X242.here hx rfl (hb hby at_154) rfl k) ?_
      refine ov T242 159 A_40 [.int 255, .int p5] (fun t k => XS.sipush X242.here hx rfl (hb hby at_156) k) ?_
      refine ov T242 160 A_40 [(.int (p5 &&& (255 : Int32)))] (fun t k => XS.iand X242.here hx rfl (hb hby at_159) rfl k) ?_
      refine ov T242 161 #[.val (.int p0), .val (.int p1), .val (.int p2), .val (.int p3), .val (.int p4), .val (.int p5), .val (.int w1), .val (.int w2), .val (.int w3), .val (.int w4), .val (.int 4), .val (.ref b198), .val (.ref b218), .unset, .unset] [(.int ((p5 &&& (255 : Int32)).toUInt32.toUInt16.toUInt32.toInt32))] (fun t k => XS.i2c X242.here hx rfl (hb hby at_160) rfl k) ?_
      obtain ⟨cf, hn_cf⟩ : ∃ z : Int32, z = ((p5 &&& (255 : Int32)).toUInt32.toUInt16.toUInt32.toInt32) := ⟨_, rfl⟩
      rw [← hn_cf]
      have rng_cf : ¬ cf < 0 ∧ ¬ (255 : Int32) < cf := by rw [hn_cf]; exact own_and255 _
      obtain ⟨_, _, ⟨T248, Lp248, kp248, np248⟩, -, X248, ⟨Lc248, hQ248, l248, y248, z248⟩, st248⟩ := Jvm.LawKit.callS X242 hx (y := mt31) hown (mvT hZ (wd28 hw)) (mvT hZ (wd29 hw)) (mvT hZ (wd9 hw)) (mvT hZ (wd30 hw)) (by decide) (backOf (W := 0) (own_vof l Z a0 hw [] cf zc T242.heap n0 O247 zfC hzc rng_cf) hZ (wd30 hw) (wd9 hw) (by decide) (by decide)) (g := (mkF m 161 A_40 [.int cf])) rfl (by rw [hml]; rfl) (argsL := [.int cf]) (rest := []) (lenOf pd__C_Ljava_lang_String__1844 rfl) rfl (by show 2 * 0 + _ ≤ _; exact Nat.le_of_eq rfl) (hb hby at_161) (fun _ _ => ⟨rfl, rfl, (by decide : 3 + 2 ≤ _), (by decide : 12 + 5 ≤ _)⟩)
      dsimp only [Pt.U, Pt.locs, Pt.cells, Pt.slots] at X248 l248 y248 z248 st248 hQ248
      subst Lp248 kp248 np248
      obtain ⟨b248, rfl, N248q, K248q⟩ := hQ248
      have N248 := Fr.app N242 N248q
      have sf248 : ∀ x ∈ ([] : List Addr), Safe Z own_EL s.vm T242.heap x := sf0
      have sz249 : T242.heap.size ≤ T248.heap.size := K248q.1
      have R250 : CHr Z own_EL s.vm h0 s.vm T248.heap := R246.trans (CHr.keep K248q sf248 R246.1)
      have O251 : Old Z n0 T248.heap := O247.keep K248q all0
      refine ov T248 164 A_40 [.ref b248] st248 ?_
      let A_41 : Array Slot := #[.val (.int p0), .val (.int p1), .val (.int p2), .val (.int p3), .val (.int p4), .val (.int p5), .val (.int w1), .val (.int w2), .val (.int w3), .val (.int w4), .val (.int 4), .val (.ref b198), .val (.ref b218), .val (.ref b248), .unset]
      refine ov T248 166 A_41 [] (fun t k => XS.astore X248.here hx rfl (hb hby at_164) rfl rfl (l' := A_41) rfl k) ?_
      refine ov T248 168 A_41 [.ref b248] (fun t k => XS.aload X248.here hx rfl (hb hby at_166) rfl rfl k) ?_
      refine ov T248 170 A_41 [.ref b218, .ref b248] (fun t k => XS.aload X248.here hx rfl (hb hby at_168) rfl rfl k) ?_
      have cx253 : Exa Z T248.heap b218 "java/lang/String" := (f242_0.keep K248q)
      have cx254 : Fld Z T248.heap b218 "java/lang/String" "value" "[B" (.ref t242) := (f242_2.keep K248q nin0)
      have cx255 : Fld Z T248.heap b218 "java/lang/String" "coder" "B" (.int 0) := (f242_1.keep K248q nin0)
      have cx256 : Arv Z T248.heap t242 kb242 .byte (4 : Int32) [(.int (w1.toInt8.toInt32)), (.int (w2.toInt8.toInt32)), (.int (w3.toInt8.toInt32)), (.int (w4.toInt8.toInt32))] (.int 0) := (f242_3.keep K248q nin0)
      obtain ⟨_, _, ⟨T252, Lp252, kp252, np252⟩, -, X252, ⟨Lc252, hQ252, l252, y252, z252⟩, st252⟩ := Jvm.LawKit.callS X248 hx (y := mt22) hown (mvT hZ (wd43 hw)) (mvT hZ (wd44 hw)) (mvT hZ (wd45 hw)) (mvT hZ (wd46 hw)) (by decide) (backOf (W := 0) (own_txtL l Z a0 hw [] b248 b218 t242 kb242 zc (4 : Int32) [(.int (w1.toInt8.toInt32)), (.int (w2.toInt8.toInt32)), (.int (w3.toInt8.toInt32)), (.int (w4.toInt8.toInt32))] (w1.toInt8.toInt32) (w2.toInt8.toInt32) (w3.toInt8.toInt32) (w4.toInt8.toInt32) T248.heap n0 O251 zfC cx253 cx254 cx255 cx256 hzc (fun _ => ⟨rfl, own_bnz q8w1⟩) (fun _ => ⟨rfl, own_bnz q8w2⟩) (fun _ => ⟨rfl, own_bnz q8w3⟩) (fun _ => ⟨rfl, own_bnz q8w4⟩) (by decide) (by decide)) hZ (wd46 hw) (wd45 hw) (by decide) (by decide)) (g := (mkF m 170 A_41 [.ref b218, .ref b248])) rfl (by rw [hml]; rfl) (argsL := [.ref b248, .ref b218]) (rest := []) (lenOf pd__Ljava_lang_String_Ljava_lang_String__Ljava_lang_String__5169 rfl) rfl (by show 2 * 0 + _ ≤ _; exact Nat.le_of_eq rfl) (hb hby at_170) (fun _ _ => ⟨rfl, rfl, (by decide : 5 + 0 ≤ _), (by decide : 17 + 0 ≤ _)⟩)
      dsimp only [Pt.U, Pt.locs, Pt.cells, Pt.slots] at X252 l252 y252 z252 st252 hQ252
      subst Lp252 kp252 np252
      obtain ⟨rfl, rfl, e252⟩ := hQ252
      try rw [List.append_nil] at X252
      refine ov T252 173 A_41 [.ref b218] st252 ?_
      let A_42 : Array Slot := #[.val (.int p0), .val (.int p1), .val (.int p2), .val (.int p3), .val (.int p4), .val (.int p5), .val (.int w1), .val (.int w2), .val (.int w3), .val (.int w4), .val (.int 4), .val (.ref b198), .val (.ref b218), .val (.ref b248), .val (.ref b218)]
      refine ov T252 175 A_42 [] (fun t k => XS.astore X252.here hx rfl (hb hby at_173) rfl rfl (l' := A_42) rfl k) ?_
      refine ov T252 177 A_42 [.ref b218] (fun t k => XS.aload X252.here hx rfl (hb hby at_175) rfl rfl k) ?_
      refine ov T252 180 A_42 [] (fun t k => XS.ifnullNo X252.here hx rfl (hb hby at_177) rfl k) ?_
      refine ov T252 182 A_42 [.ref b218] (fun t k => XS.aload X252.here hx rfl (hb hby at_180) rfl rfl k) ?_
      refine ov T252 184 A_42 [.ref b218, .ref b218] (fun t k => XS.aload X252.here hx rfl (hb hby at_182) rfl rfl k) ?_
      obtain ⟨cq257, kq257, q257a, q257b, q257c⟩ := isOf hZ e252 cx253
      obtain ⟨_, _, ⟨T257, Lp257, kp257, np257⟩, -, X257, ⟨Lc257, hQ257, l257, y257, z257⟩, st257⟩ := X252.virtualBack hx (y := mt32) (z := mt32) hown (mvT hZ (wd85 hw)) (mvT hZ (wd86 hw)) (notFace_of_selects (args := #[]) (mvT hZ (wd88 hw))) (mvT hZ (wd88 hw)) (mvT hZ (wd87 hw)) (by decide) (backOf (W := 0) (own_eqs l Z a0 hw [] b218 T248.heap n0 O251) hZ (wd89 hw) (wd9 hw) (by decide) (by decide)) q257a q257c (g := (mkF m 184 A_42 [.ref b218, .ref b218])) rfl (by rw [hml]; rfl) (Steps.refl _) (argsL := [.ref b218]) (rest := []) (lenOf pd__Ljava_lang_Object__Z_1835 rfl) rfl (by show 2 * 0 + _ ≤ _; exact Nat.le_of_eq rfl) (hb hby at_184) (fun _ _ => ⟨rfl, e252, (by decide : 5 + 0 ≤ _), (by decide : 17 + 0 ≤ _)⟩)
      dsimp only [Pt.U, Pt.locs, Pt.cells, Pt.slots] at X257 l257 y257 z257 st257 hQ257
      subst Lp257 kp257 np257
      obtain ⟨rfl, rfl, e257⟩ := hQ257
      try rw [List.append_nil] at X257
      refine own_tr (S' := T257.setTop (mkF m 187 A_42 [.int 1])) st257 ?_
      refine ov T257 190 A_42 [] (fun t k => XS.ifNo X257.here hx rfl (hb hby at_187) rfl ((if0 _ _).trans (feq (by decide : ¬ ((1 : Int32) = (0 : Int32)))).1) k) ?_
      refine ov T257 192 A_42 [.ref b218] (fun t k => XS.aload X257.here hx rfl (hb hby at_190) rfl rfl k) ?_
      obtain ⟨cq258, kq258, q258a, q258b, q258c⟩ := isOf hZ e257 cx253
      obtain ⟨_, _, ⟨T258, Lp258, kp258, np258⟩, -, X258, ⟨Lc258, hQ258, l258, y258, z258⟩, st258⟩ := X257.virtualBack hx (y := mt17) (z := mt17) hown (mvT hZ (wd90 hw)) (mvT hZ (wd63 hw)) (notFace_of_selects (args := #[]) (mvT hZ (wd65 hw))) (mvT hZ (wd65 hw)) (mvT hZ (wd64 hw)) (by decide) (backOf (W := 0) (own_lenL l Z a0 hw [] b218 t242 kb242 zc (4 : Int32) [(.int (w1.toInt8.toInt32)), (.int (w2.toInt8.toInt32)), (.int (w3.toInt8.toInt32)), (.int (w4.toInt8.toInt32))] T248.heap n0 O251 zfC cx253 cx254 cx255 cx256 hzc) hZ (wd66 hw) (wd9 hw) (by decide) (by decide)) q258a q258c (g := (mkF m 192 A_42 [.ref b218])) rfl (by rw [hml]; rfl) (Steps.refl _) (argsL := []) (rest := []) (lenOf pd___I_154 rfl) rfl (by show 2 * 0 + _ ≤ _; exact Nat.le_of_eq rfl) (hb hby at_192) (fun _ _ => ⟨rfl, e257, (by decide : 5 + 0 ≤ _), (by decide : 17 + 0 ≤ _)⟩)
      dsimp only [Pt.U, Pt.locs, Pt.cells, Pt.slots] at X258 l258 y258 z258 st258 hQ258
      subst Lp258 kp258 np258
      obtain ⟨rfl, rfl, e258⟩ := hQ258
      try rw [List.append_nil] at X258
      refine own_tr (S' := T258.setTop (mkF m 195 A_42 [.int 4])) st258 ?_
      refine ov T258 197 A_42 [.ref b198, .int 4] (fun t k => XS.aload X258.here hx rfl (hb hby at_195) rfl rfl k) ?_
      have ne_b198_b218 : b198 ≠ b218 := by first | exact (Exa.neArv A218 cx243 (wd8 hw)).symm | exact Nat.ne_of_lt (by omega) | exact Nat.ne_of_gt (by omega)
      have cx259 : Arv Z T248.heap b198 k198 .char (4 : Int32) [.int w1, .int w2, .int w3, .int w4] (.int 0) := ((cx243.keep K242q (ninS ne_b198_b218 nin0)).keep K248q nin0)
      obtain ⟨cl260, Ar260, -, S260, N260, -, -⟩ := id cx259
      refine ov T258 198 A_42 [.int 4, .int 4] (fun t k => X258.arraylength hx (by first | (rw [e258]; exact Ar260.1) | exact Ar260.1) (State.isArrayOf_alike hZ.alike Ar260.2.1) (g := (mkF m 197 A_42 [.ref b198, .int 4])) rfl rfl (hb hby at_197) _ (by rw [len_of S260 N260]; exact k)) ?_
      refine ov T258 201 A_42 [] (fun t k => XS.icmpNo X258.here hx rfl (hb hby at_198) rfl (teq (by decide : (4 : Int32) = (4 : Int32))).2 k) ?_
      refine ov T258 202 A_42 [.int 1] (fun t k => XS.iconst X258.here hx rfl (hb hby at_201) k) ?_
      refine ov T258 206 A_42 [.int 1] (fun t k => XS.goto X258.here hx rfl (pc0 := 202) (pc' := 206) rfl (hb hby at_202) (by decide) (by decide) k) ?_
      have RTR250 : CHr Z own_EL s.vm h0 T258.vm T248.heap := R250.trans (CHv.at X258 hZ hEL R250.1)
      have RXR250 : CHr Z own_EL s.vm s.heap T258.vm T258.heap := by rw [hh, e258]; exact RTR250
      refine own_retW (Q := Q_own_law Z p0 p1 p2 p3 p4 p5 zc fm h0 n0) (C := room_1.cells) (N := room_1.slots) X258 hS0 (by rw [e258]; omega) (v := some (.int 1)) (fun h => by rw [Bd.returns] at h; cases h) Bd.notSynchronized ?_ RXR250 (by decide) (by decide) (fun fs hr => retN X258 hx (t := .boolean) Bd.returns (by simp) (hb hby at_206) hr)
      show Q_own_law Z p0 p1 p2 p3 p4 p5 zc fm h0 n0 _ T258.vm T258.heap _
      rw [e258]
      exact ⟨rfl, N248⟩
set_option maxRecDepth 65536 in
set_option maxHeartbeats 40000000 in
theorem comes_1 {Post : Tables → Env → Array Value → State → Outcome → State → Prop} (hpost : ∀ tb e args s v u, (limb_1_1.after args s (.returned v) u = true ∧ limb_1_2.after args s (.returned v) u = true ∧ True) → ReturnedEndW s (.returned v) u (Jvm.fieldLocs frame_1_writes args s ++ Jvm.arrayLocs frame_1_arrays args s ++ Jvm.staticLocs frame_1_statics s) 24 1152 → Post tb e args s (.returned v) u) :
    ArmFor flags0 classFile x code maxLocals ret World_1 tables_1 room_1 Calls_1 rest_1 Pre_1 Post := by
  intro l hfl _ _ p e ha hc hk s m args below hf hA hF happ hP
  obtain ⟨hcalls, hrest, hpre⟩ := hP
  obtain ⟨-, -, -, hnamed, -, -, -, hat⟩ := (Spec.applies_iff hf).mp happ
  obtain ⟨hg, hn⟩ := and_e (Cond.before_iff.mp (show (Jvm.Cond.and given_1 narrow_1).before args s = true from hpre))
  obtain ⟨hcount, hg⟩ := and_e hg
  obtain ⟨hg0, hg⟩ := and_e hg
  obtain ⟨hg1, hg⟩ := and_e hg
  obtain ⟨hg2, hg⟩ := and_e hg
  obtain ⟨hg3, hg⟩ := and_e hg
  obtain ⟨hg4, hg⟩ := and_e hg
  have hg5 := hg
  obtain ⟨w0, w1, w2, w3, w4, w5, rfl⟩ : ∃ w0 w1 w2 w3 w4 w5 : Value, args = #[w0, w1, w2, w3, w4, w5] := by
    have hs : args.size = 6 := by simpa [Cond.value, given_1] using hcount
    obtain ⟨L⟩ := args
    match L, hs with
    | [w0, w1, w2, w3, w4, w5], _ => exact ⟨w0, w1, w2, w3, w4, w5, rfl⟩
  have hw := fun d (hd : d ∈ tables_1) => atoms_spec (ws := Jvm.Cond.code x code maxLocals ret :: tables_1) hat d (List.mem_cons_of_mem _ hd)
  have hfit : Fit s := fun {y c} hc i hi => by
    obtain ⟨ha, rfl⟩ := Array.getElem?_eq_some_iff.mp hc
    have q := List.all_eq_true.mp ((Array.all_eq_true_iff_forall_mem.mp hF) _ (Array.getElem_mem ha)) i (List.mem_range.mpr hi)
    simpa [Array.getElem?_eq_getElem hi] using q
  obtain ⟨hsets, hown0⟩ := atoms_of _ (rest_1_c_eq ▸ (show rest_1_c.before _ s = true from hrest))
  have hr0 := Cond.before_iff.mp hown0
  obtain ⟨i0, ei0⟩ := is_v hg0
  obtain rfl : w0 = (.int i0) := Option.some.inj ei0
  obtain ⟨i1, ei1⟩ := is_v hg1
  obtain rfl : w1 = (.int i1) := Option.some.inj ei1
  obtain ⟨i2, ei2⟩ := is_v hg2
  obtain rfl : w2 = (.int i2) := Option.some.inj ei2
  obtain ⟨i3, ei3⟩ := is_v hg3
  obtain rfl : w3 = (.int i3) := Option.some.inj ei3
  obtain ⟨i4, ei4⟩ := is_v hg4
  obtain rfl : w4 = (.int i4) := Option.some.inj ei4
  obtain ⟨i5, ei5⟩ := is_v hg5
  obtain rfl : w5 = (.int i5) := Option.some.inj ei5
  obtain ⟨zc, ez⟩ := is_v (Cond.before_iff.mp (hsets _ (List.mem_of_getElem? (i := 1) rfl)))
  have S_zc : Sta s s.heap "java/lang/String" "COMPACT_STRINGS" "Z" (.int zc) := Sta.start ez (Or.inl (hsets _ (List.mem_of_getElem? (i := 0) rfl)))
  have hzc : ¬ (zc = (0 : Int32)) := gotF (Cond.eq_ints ez (Term.int_eval (0))) (not_v (Cond.before_iff.mp (hsets _ (List.mem_of_getElem? (i := 2) rfl))))
  obtain ⟨fm, ef, rfm⟩ := own_isref (hsets _ (List.mem_of_getElem? (i := 8) rfl))
  have S_fm : Sta s s.heap "jdk/internal/util/Preconditions" "SIOOBE_FORMATTER" "Ljava/util/function/BiFunction;" fm := Sta.start ef (Or.inl (hsets _ (List.mem_of_getElem? (i := 7) rfl)))
  have S_ad : Sta s s.heap "java/lang/StringUTF16" "$assertionsDisabled" "Z" (.int 1) := own_sta (hsets _ (List.mem_of_getElem? (i := 12) rfl)) (hsets _ (List.mem_of_getElem? (i := 11) rfl))
  have S_hi : Sta s s.heap "java/lang/StringUTF16" "HI_BYTE_SHIFT" "I" (.int 0) := own_sta (hsets _ (List.mem_of_getElem? (i := 15) rfl)) (hsets _ (List.mem_of_getElem? (i := 14) rfl))
  have S_lo : Sta s s.heap "java/lang/StringUTF16" "LO_BYTE_SHIFT" "I" (.int 8) := own_sta (hsets _ (List.mem_of_getElem? (i := 18) rfl)) (hsets _ (List.mem_of_getElem? (i := 17) rfl))
  have hEL := own_EW hw
  have hCH : CHv s own_EL s.vm s.heap := CHv.start hEL hcalls.1 (hsets _ (List.mem_of_getElem? (i := 2) rfl)) (wd21 hw) (wd8 hw)
  obtain ⟨n, o, h1, h2, h3, _, L, rfl, ⟨rfl, N⟩, -, hq⟩ := own_law l s _ hw tables_1 i0 i1 i2 i3 i4 i5 zc fm s.heap s.heap.size (Old.start s) S_zc S_fm S_ad S_hi S_lo hzc rfm p e ha hc hk s m _ below hf ((Spec.applies_iff_loose hf).mp happ).1 ⟨rfl, State.Warmed39.refl s, rfl, hCH, fun _ q => nomatch q⟩ trivial
  refine ⟨n, _, h1, h2, h3, hpost _ _ _ _ _ _ ⟨Cond.after_iff.mpr rfl, Cond.after_iff.mpr (eq_i res_at (Term.int_eval (1)) rfl), trivial⟩ ⟨hq.1, hq.2.1, hq.2.2.1, (hq.2.2.2.sift fun y hy => Or.inr (N y hy)).mono (by decide) (by decide)⟩⟩
theorem main_1_1 : Claimed_1_1 := comes_1 fun _ _ _ _ _ _ h hF => ⟨h.1, hF⟩
theorem main_1_2 : Claimed_1_2 := comes_1 fun _ _ _ _ _ _ h hF => ⟨h.2.1, hF⟩
end Jvm.Pilot.@@N@@
namespace Jvm.Pilot.@@N@@
open Jvm Jvm.ClassFile Sem Op Lib Jvm.Free Jvm.Stand Jvm.Pilot.@@N@@.Jvm.D
/-! MADE BY PROGRAM (witnessworld.py) out of the Statement's table words and the real class files: 21 classes; the members and pool entries that the words name. The judged class is class 1, her method 2. -/
namespace start1
open Jvm.ClassFile
def u (s : String) : CpInfo := .utf8 (stringToUtf16 s)
/-- a pool by its gaps: so many unusable entries, then the entry; so many at the end -/
def gap : Nat → List CpInfo → List CpInfo
  | 0, r => r
  | n + 1, r => .unusable :: gap n r
def poolList (es : List (Nat × CpInfo)) (last : Nat) : List CpInfo := es.foldr (fun e r => gap e.1 (e.2 :: r)) (gap last [])
def pool (es : List (Nat × CpInfo)) (last : Nat) : Array CpInfo := ⟨poolList es last⟩
def fileOf (pool : Array CpInfo) (this : Nat) (attrs : Array Attribute := #[]) (ms : Array MethodInfo := #[]) (fl : Nat := 33) (sup : Nat := 0) (ifs : Array Nat := #[]) (fds : Array FieldInfo := #[]) : ClassFile where
  minorVersion := 0
  majorVersion := 65
  constantPool := pool
  accessFlags := fl
  thisClass := this
  superClass := sup
  interfaces := ifs
  fields := fds
  methods := ms
  attributes := attrs
def plain (name : String) (sup : Option ClassId) : Class where
  name := name
  kind := .ordinary
  loader := none
  accessFlags := 33
  super := sup
  interfaces := #[]
  cf := none
  fields := #[]
  methods := #[]
  instanceTypes := #[]
  staticTypes := #[]
  resolved := #[]
  callSites := []
  init := .initialized
  statics := none
  mirror := none

def pool0 : Array CpInfo := pool [(5, u "<init>"), (0, u "()V"), (1, .class_ 10), (1, u "java/lang/Object")] 113

def k0c0 : Code := { maxStack := 0, maxLocals := 1, code := object_method_1_code, exceptionTable := #[], attributes := #[] }
def k0m0 : Method := { name := "<init>", desc := "()V", sig := { parameters := [], returnType := none }, accessFlags := 1, code := some k0c0 }
/-- java/lang/Object -/
def k0 : Class := { plain "java/lang/Object" none with
  accessFlags := 33
  interfaces := #[]
  cf := some (fileOf pool0 8 #[] #[{ accessFlags := 1, nameIndex := 5, descriptorIndex := 6, attributes := #[] }] 33 0 #[] #[])
  fields := #[]
  methods := #[k0m0]
  instanceTypes := #[]
  staticTypes := #[]
  resolved := Array.replicate 124 none
  statics := none }

def pool1 : Array CpInfo := pool [(2, .class_ 4), (1, u "java/lang/Object"), (0, u "<init>"), (0, u "()V"), (0, .integer 2147483647), (0, .integer 65535), (0, .methodref 10 11), (0, .class_ 12), (0, .nameAndType 13 14), (0, u "com/example/regent/regent/InputTextPinLaw"), (0, u "nz"), (0, u "(I)C"), (0, .class_ 16), (0, u "java/lang/String"), (0, .methodref 15 18), (0, .nameAndType 5 19), (0, u "([C)V"), (0, .methodref 15 21), (0, .nameAndType 22 23), (0, u "valueOf"), (0, u "(C)Ljava/lang/String;"), (0, .methodref 25 26), (0, .class_ 27), (0, .nameAndType 28 29), (0, u "com/example/regent/regent/Input"), (0, u "text"), (0, u "(Ljava/lang/String;Ljava/lang/String;)Ljava/lang/String;"), (0, .methodref 15 31), (0, .nameAndType 32 33), (0, u "equals"), (0, u "(Ljava/lang/Object;)Z"), (0, .methodref 15 35), (0, .nameAndType 36 37), (0, u "length"), (0, u "()I"), (2, u "law"), (0, u "(IIIIII)Z")] 5

def k1m0 : Method := { name := "<init>", desc := "()V", sig := { parameters := [], returnType := none }, accessFlags := 1, code := none }
def k1c1 : Code := { maxStack := 3, maxLocals := 1, code := method_2_code, exceptionTable := #[], attributes := #[] }
def k1m1 : Method := { name := "nz", desc := "(I)C", sig := { parameters := [.int], returnType := some .char }, accessFlags := 10, code := some k1c1 }
def k1c2 : Code := { maxStack := 4, maxLocals := 15, code := code, exceptionTable := #[], attributes := #[] }
def k1m2 : Method := { name := "law", desc := "(IIIIII)Z", sig := { parameters := [.int, .int, .int, .int, .int, .int], returnType := some .boolean }, accessFlags := 9, code := some k1c2 }
/-- com/example/regent/regent/InputTextPinLaw -/
def k1 : Class := { plain "com/example/regent/regent/InputTextPinLaw" (some 0) with
  accessFlags := 49
  interfaces := #[]
  cf := some (fileOf pool1 10 #[] #[{ accessFlags := 1, nameIndex := 5, descriptorIndex := 6, attributes := #[] }, { accessFlags := 10, nameIndex := 13, descriptorIndex := 14, attributes := #[] }, { accessFlags := 9, nameIndex := 40, descriptorIndex := 41, attributes := #[] }] 49 2 #[] #[])
  fields := #[]
  methods := #[k1m0, k1m1, k1m2]
  instanceTypes := #[]
  staticTypes := #[]
  resolved := Array.replicate 47 none
  statics := none }

def pool2 : Array CpInfo := pool [(1, .class_ 2), (0, u "java/io/Serializable"), (0, .class_ 4), (0, u "java/lang/Object")] 2

/-- java/io/Serializable -/
def k2 : Class := { plain "java/io/Serializable" (some 0) with
  accessFlags := 1537
  interfaces := #[]
  cf := some (fileOf pool2 1 #[] #[] 1537 3 #[] #[])
  fields := #[]
  methods := #[]
  instanceTypes := #[]
  staticTypes := #[]
  resolved := Array.replicate 7 none
  statics := none }

def pool3 : Array CpInfo := pool [(1, .class_ 2), (0, u "java/lang/Comparable"), (0, .class_ 4), (0, u "java/lang/Object")] 7

/-- java/lang/Comparable -/
def k3 : Class := { plain "java/lang/Comparable" (some 0) with
  accessFlags := 1537
  interfaces := #[]
  cf := some (fileOf pool3 1 #[] #[] 1537 3 #[] #[])
  fields := #[]
  methods := #[]
  instanceTypes := #[]
  staticTypes := #[]
  resolved := Array.replicate 12 none
  statics := none }

def pool4 : Array CpInfo := pool [(2, .class_ 4), (1, u "java/lang/CharSequence"), (42, .class_ 48), (0, u "java/lang/CharSequence$1CodePointIterator"), (10, .class_ 60), (0, u "java/lang/CharSequence$1CharIterator"), (5, .class_ 67), (0, u "java/lang/Object")] 63

/-- java/lang/CharSequence -/
def k4 : Class := { plain "java/lang/CharSequence" (some 0) with
  accessFlags := 1537
  interfaces := #[]
  cf := some (fileOf pool4 2 #[.nestMembers #[47, 59]] #[] 1537 66 #[] #[])
  fields := #[]
  methods := #[]
  instanceTypes := #[]
  staticTypes := #[]
  resolved := Array.replicate 131 none
  statics := none }

def pool5 : Array CpInfo := pool [(1, .class_ 2), (0, u "java/lang/constant/Constable"), (0, .class_ 4), (0, u "java/lang/Object")] 6

/-- java/lang/constant/Constable -/
def k5 : Class := { plain "java/lang/constant/Constable" (some 0) with
  accessFlags := 1537
  interfaces := #[]
  cf := some (fileOf pool5 1 #[] #[] 1537 3 #[] #[])
  fields := #[]
  methods := #[]
  instanceTypes := #[]
  staticTypes := #[]
  resolved := Array.replicate 11 none
  statics := none }

def pool6 : Array CpInfo := pool [(1, .class_ 2), (0, u "java/lang/constant/ConstantDesc"), (0, .class_ 4), (0, u "java/lang/Object")] 32

/-- java/lang/constant/ConstantDesc -/
def k6 : Class := { plain "java/lang/constant/ConstantDesc" (some 0) with
  accessFlags := 1537
  interfaces := #[]
  cf := some (fileOf pool6 1 #[] #[] 1537 3 #[] #[])
  fields := #[]
  methods := #[]
  instanceTypes := #[]
  staticTypes := #[]
  resolved := Array.replicate 37 none
  statics := none }

def pool7 : Array CpInfo := pool [(1, .methodref 2 3), (0, .class_ 4), (0, .nameAndType 5 6), (0, u "java/lang/Object"), (0, u "<init>"), (0, u "()V"), (0, .string 8), (0, u ""), (0, .fieldref 10 11), (0, .class_ 12), (0, .nameAndType 13 14), (0, u "java/lang/String"), (0, u "value"), (0, u "[B"), (0, .fieldref 10 16), (0, .nameAndType 17 18), (0, u "coder"), (0, u "B"), (2, u "hash"), (0, u "I"), (2, u "hashIsZero"), (0, u "Z"), (0, .methodref 10 28), (0, .nameAndType 5 29), (0, u "([CIILjava/lang/Void;)V"), (8, .fieldref 10 39), (0, .nameAndType 40 26), (0, u "COMPACT_STRINGS"), (1, .class_ 44), (1, u "java/lang/StringUTF16"), (0, u "compress"), (1, .methodref 42 48), (0, .nameAndType 49 50), (0, u "coderFromArrayLen"), (0, u "([BI)B"), (2, u "toBytes"), (53, .class_ 109), (1, u "java/lang/StringLatin1"), (32, u "()Z"), (34, .methodref 42 178), (0, .nameAndType 45 179), (0, u "([CII)[B"), (29, .methodref 10 210), (0, .nameAndType 5 211), (0, u "([BB)V"), (122, u "()I"), (0, .methodref 10 336), (0, .nameAndType 17 337), (0, u "()B"), (31, u "(C)Z"), (122, .methodref 10 493), (0, .nameAndType 494 142), (0, u "isLatin1"), (10, .methodref 10 506), (0, .nameAndType 507 334), (0, u "length"), (5, u "checkFromToIndex"), (9, u "checkBoundsBeginEnd"), (0, u "(III)V"), (18, u "equals"), (29, u "(Ljava/lang/Object;)Z"), (1, .class_ 576), (0, u "java/lang/CharSequence"), (22, u "CASE_INSENSITIVE_ORDER"), (0, u "Ljava/util/Comparator;"), (32, .methodref 10 634), (0, .nameAndType 635 636), (0, u "indexOf"), (0, u "(II)I"), (0, .methodref 107 638), (0, .nameAndType 635 639), (0, u "([BIII)I"), (0, .methodref 42 638), (124, u "(I)I"), (16, u "valueOf"), (0, u "(C)Ljava/lang/String;"), (226, u "([C)V"), (4, .methodref 107 1016), (0, .nameAndType 1017 369), (0, u "canEncode"), (0, .methodref 107 1019), (0, .nameAndType 53 1020), (0, u "(C)[B"), (32, .fieldref 1054 1055), (0, .class_ 1056), (0, .nameAndType 1057 1058), (0, u "jdk/internal/util/Preconditions"), (0, u "SIOOBE_FORMATTER"), (0, u "Ljava/util/function/BiFunction;"), (3, .methodref 1054 1063), (0, .nameAndType 513 1064), (0, u "(IIILjava/util/function/BiFunction;)I"), (36, u "serialPersistentFields"), (0, u "[Ljava/io/ObjectStreamField;"), (0, .class_ 1104), (0, u "java/lang/String$CaseInsensitiveComparator"), (1, .class_ 1107), (0, u "java/io/Serializable"), (0, .class_ 1109), (0, u "java/lang/Comparable"), (0, .class_ 1111), (0, u "java/lang/constant/Constable"), (0, .class_ 1113), (0, u "java/lang/constant/ConstantDesc"), (2, u "serialVersionUID"), (0, u "J"), (3, u "REPL"), (0, u "C"), (2, u "LATIN1"), (1, u "UTF16")] 323

def k7m0 : Method := { name := "<init>", desc := "()V", sig := { parameters := [], returnType := none }, accessFlags := 1, code := none }
def k7c1 : Code := { maxStack := 5, maxLocals := 2, code := jdk_42_method_3_code, exceptionTable := #[], attributes := #[] }
def k7m1 : Method := { name := "<init>", desc := "([C)V", sig := { parameters := [(.array .char)], returnType := none }, accessFlags := 1, code := some k7c1 }
def k7c2 : Code := { maxStack := 2, maxLocals := 1, code := jdk_42_method_54_code, exceptionTable := #[], attributes := #[] }
def k7m2 : Method := { name := "length", desc := "()I", sig := { parameters := [], returnType := some .int }, accessFlags := 1, code := some k7c2 }
def k7c3 : Code := { maxStack := 2, maxLocals := 3, code := jdk_42_method_66_code, exceptionTable := #[], attributes := #[] }
def k7m3 : Method := { name := "equals", desc := "(Ljava/lang/Object;)Z", sig := { parameters := [(.object "java/lang/Object")], returnType := some .boolean }, accessFlags := 1, code := some k7c3 }
def k7c4 : Code := { maxStack := 3, maxLocals := 2, code := jdk_42_method_79_code, exceptionTable := #[], attributes := #[] }
def k7m4 : Method := { name := "indexOf", desc := "(I)I", sig := { parameters := [.int], returnType := some .int }, accessFlags := 1, code := some k7c4 }
def k7c5 : Code := { maxStack := 4, maxLocals := 3, code := jdk_42_method_80_code, exceptionTable := #[], attributes := #[] }
def k7m5 : Method := { name := "indexOf", desc := "(II)I", sig := { parameters := [.int, .int], returnType := some .int }, accessFlags := 1, code := some k7c5 }
def k7c6 : Code := { maxStack := 4, maxLocals := 1, code := jdk_42_method_139_code, exceptionTable := #[], attributes := #[] }
def k7m6 : Method := { name := "valueOf", desc := "(C)Ljava/lang/String;", sig := { parameters := [.char], returnType := some (.object "java/lang/String") }, accessFlags := 9, code := some k7c6 }
def k7c7 : Code := { maxStack := 4, maxLocals := 6, code := jdk_42_method_149_code, exceptionTable := #[], attributes := #[] }
def k7m7 : Method := { name := "<init>", desc := "([CIILjava/lang/Void;)V", sig := { parameters := [(.array .char), .int, .int, (.object "java/lang/Void")], returnType := none }, accessFlags := 2, code := some k7c7 }
def k7c8 : Code := { maxStack := 2, maxLocals := 3, code := jdk_42_method_151_code, exceptionTable := #[], attributes := #[] }
def k7m8 : Method := { name := "<init>", desc := "([BB)V", sig := { parameters := [(.array .byte), .byte], returnType := none }, accessFlags := 0, code := some k7c8 }
def k7c9 : Code := { maxStack := 1, maxLocals := 1, code := jdk_42_method_152_code, exceptionTable := #[], attributes := #[] }
def k7m9 : Method := { name := "coder", desc := "()B", sig := { parameters := [], returnType := some .byte }, accessFlags := 0, code := some k7c9 }
def k7c10 : Code := { maxStack := 1, maxLocals := 1, code := jdk_42_method_154_code, exceptionTable := #[], attributes := #[] }
def k7m10 : Method := { name := "isLatin1", desc := "()Z", sig := { parameters := [], returnType := some .boolean }, accessFlags := 0, code := some k7c10 }
def k7c11 : Code := { maxStack := 4, maxLocals := 3, code := jdk_42_method_158_code, exceptionTable := #[], attributes := #[] }
def k7m11 : Method := { name := "checkBoundsBeginEnd", desc := "(III)V", sig := { parameters := [.int, .int, .int], returnType := none }, accessFlags := 8, code := some k7c11 }
/-- java/lang/String -/
def k7 : Class := { plain "java/lang/String" (some 0) with
  accessFlags := 49
  interfaces := #[2, 3, 4, 5, 6]
  cf := some (fileOf pool7 10 #[.nestMembers #[1103]] #[{ accessFlags := 1, nameIndex := 5, descriptorIndex := 6, attributes := #[] }, { accessFlags := 1, nameIndex := 5, descriptorIndex := 1010, attributes := #[] }, { accessFlags := 1, nameIndex := 507, descriptorIndex := 334, attributes := #[] }, { accessFlags := 1, nameIndex := 543, descriptorIndex := 573, attributes := #[] }, { accessFlags := 1, nameIndex := 635, descriptorIndex := 765, attributes := #[] }, { accessFlags := 1, nameIndex := 635, descriptorIndex := 636, attributes := #[] }, { accessFlags := 9, nameIndex := 782, descriptorIndex := 783, attributes := #[] }, { accessFlags := 2, nameIndex := 5, descriptorIndex := 29, attributes := #[] }, { accessFlags := 0, nameIndex := 5, descriptorIndex := 211, attributes := #[] }, { accessFlags := 0, nameIndex := 17, descriptorIndex := 337, attributes := #[] }, { accessFlags := 0, nameIndex := 494, descriptorIndex := 142, attributes := #[] }, { accessFlags := 8, nameIndex := 523, descriptorIndex := 524, attributes := #[] }] 49 2 #[1106, 1108, 575, 1110, 1112] #[{ accessFlags := 18, nameIndex := 13, descriptorIndex := 14, attributes := #[] }, { accessFlags := 18, nameIndex := 17, descriptorIndex := 18, attributes := #[] }, { accessFlags := 2, nameIndex := 21, descriptorIndex := 22, attributes := #[] }, { accessFlags := 2, nameIndex := 25, descriptorIndex := 26, attributes := #[] }, { accessFlags := 26, nameIndex := 1116, descriptorIndex := 1117, attributes := #[] }, { accessFlags := 24, nameIndex := 40, descriptorIndex := 26, attributes := #[] }, { accessFlags := 26, nameIndex := 1101, descriptorIndex := 1102, attributes := #[] }, { accessFlags := 26, nameIndex := 1121, descriptorIndex := 1122, attributes := #[] }, { accessFlags := 25, nameIndex := 599, descriptorIndex := 600, attributes := #[] }, { accessFlags := 24, nameIndex := 1125, descriptorIndex := 18, attributes := #[] }, { accessFlags := 24, nameIndex := 1127, descriptorIndex := 18, attributes := #[] }])
  fields := #[{ name := "value", type := (.array .byte), accessFlags := 18, slot := 0, constantValue := 0 }, { name := "coder", type := .byte, accessFlags := 18, slot := 1, constantValue := 0 }, { name := "hash", type := .int, accessFlags := 2, slot := 2, constantValue := 0 }, { name := "hashIsZero", type := .boolean, accessFlags := 2, slot := 3, constantValue := 0 }, { name := "serialVersionUID", type := .long, accessFlags := 26, slot := 0, constantValue := 0 }, { name := "COMPACT_STRINGS", type := .boolean, accessFlags := 24, slot := 1, constantValue := 0 }, { name := "serialPersistentFields", type := (.array (.object "java/io/ObjectStreamField")), accessFlags := 26, slot := 2, constantValue := 0 }, { name := "REPL", type := .char, accessFlags := 26, slot := 3, constantValue := 0 }, { name := "CASE_INSENSITIVE_ORDER", type := (.object "java/util/Comparator"), accessFlags := 25, slot := 4, constantValue := 0 }, { name := "LATIN1", type := .byte, accessFlags := 24, slot := 5, constantValue := 0 }, { name := "UTF16", type := .byte, accessFlags := 24, slot := 6, constantValue := 0 }]
  methods := #[k7m0, k7m1, k7m2, k7m3, k7m4, k7m5, k7m6, k7m7, k7m8, k7m9, k7m10, k7m11]
  instanceTypes := #[(.array .byte), .byte, .int, .boolean]
  staticTypes := #[.long, .boolean, (.array (.object "java/io/ObjectStreamField")), .char, (.object "java/util/Comparator"), .byte, .byte]
  resolved := Array.replicate 1451 none
  statics := some 0 }

def pool8 : Array CpInfo := pool [(4, .class_ 6), (1, u "java/lang/Object"), (0, u "<init>"), (0, u "()V"), (5, .class_ 16), (1, u "java/lang/StringLatin1"), (21, .methodref 39 40), (0, .class_ 41), (0, .nameAndType 42 43), (0, u "java/lang/Math"), (0, u "min"), (0, u "(II)I"), (44, .methodref 14 89), (0, .nameAndType 90 91), (0, u "canEncode"), (0, u "(I)Z"), (0, .methodref 39 93), (0, .nameAndType 94 43), (0, u "max"), (0, .methodref 14 96), (0, .nameAndType 97 98), (0, u "indexOfChar"), (0, u "([BIII)I"), (2, u "indexOf"), (3, u "(C)Z"), (15, u "$assertionsDisabled"), (0, u "Z"), (98, .class_ 223), (1, u "java/lang/StringLatin1$LinesSpliterator"), (156, u "toBytes"), (1, u "(C)[B"), (7, .class_ 391), (0, u "java/lang/StringLatin1$CharsSpliterator")] 3

def k8m0 : Method := { name := "<init>", desc := "()V", sig := { parameters := [], returnType := none }, accessFlags := 0, code := none }
def k8c1 : Code := { maxStack := 2, maxLocals := 1, code := jdk_43_method_3_code, exceptionTable := #[], attributes := #[] }
def k8m1 : Method := { name := "canEncode", desc := "(C)Z", sig := { parameters := [.char], returnType := some .boolean }, accessFlags := 9, code := some k8c1 }
def k8c2 : Code := { maxStack := 2, maxLocals := 1, code := jdk_43_method_4_code, exceptionTable := #[], attributes := #[] }
def k8m2 : Method := { name := "canEncode", desc := "(I)Z", sig := { parameters := [.int], returnType := some .boolean }, accessFlags := 9, code := some k8c2 }
def k8c3 : Code := { maxStack := 4, maxLocals := 4, code := jdk_43_method_22_code, exceptionTable := #[], attributes := #[] }
def k8m3 : Method := { name := "indexOf", desc := "([BIII)I", sig := { parameters := [(.array .byte), .int, .int, .int], returnType := some .int }, accessFlags := 9, code := some k8c3 }
def k8c4 : Code := { maxStack := 2, maxLocals := 6, code := jdk_43_method_23_code, exceptionTable := #[], attributes := #[] }
def k8m4 : Method := { name := "indexOfChar", desc := "([BIII)I", sig := { parameters := [(.array .byte), .int, .int, .int], returnType := some .int }, accessFlags := 10, code := some k8c4 }
def k8c5 : Code := { maxStack := 4, maxLocals := 1, code := jdk_43_method_46_code, exceptionTable := #[], attributes := #[] }
def k8m5 : Method := { name := "toBytes", desc := "(C)[B", sig := { parameters := [.char], returnType := some (.array .byte) }, accessFlags := 9, code := some k8c5 }
/-- java/lang/StringLatin1 -/
def k8 : Class := { plain "java/lang/StringLatin1" (some 0) with
  accessFlags := 48
  interfaces := #[]
  cf := some (fileOf pool8 14 #[.nestMembers #[390, 221]] #[{ accessFlags := 0, nameIndex := 7, descriptorIndex := 8, attributes := #[] }, { accessFlags := 9, nameIndex := 90, descriptorIndex := 105, attributes := #[] }, { accessFlags := 9, nameIndex := 90, descriptorIndex := 91, attributes := #[] }, { accessFlags := 9, nameIndex := 101, descriptorIndex := 98, attributes := #[] }, { accessFlags := 10, nameIndex := 97, descriptorIndex := 98, attributes := #[] }, { accessFlags := 9, nameIndex := 380, descriptorIndex := 382, attributes := #[] }] 48 4 #[] #[{ accessFlags := 4120, nameIndex := 121, descriptorIndex := 122, attributes := #[] }])
  fields := #[{ name := "$assertionsDisabled", type := .boolean, accessFlags := 4120, slot := 0, constantValue := 0 }]
  methods := #[k8m0, k8m1, k8m2, k8m3, k8m4, k8m5]
  instanceTypes := #[]
  staticTypes := #[.boolean]
  resolved := Array.replicate 395 none
  statics := none }

def pool9 : Array CpInfo := pool [(2, .class_ 4), (1, u "java/lang/Object"), (0, u "<init>"), (0, u "()V"), (1, .class_ 10), (1, u "com/example/regent/regent/Input"), (0, u "UUID_FORM"), (0, u "Ljava/util/regex/Pattern;"), (28, u "API_NAME"), (3, .class_ 47), (1, u "java/lang/String"), (10, u "text"), (0, u "(Ljava/lang/String;Ljava/lang/String;)Ljava/lang/String;"), (0, .methodref 45 61), (0, .nameAndType 62 63), (0, u "indexOf"), (0, u "(I)I"), (4, u "OBJECT_TYPE"), (32, u "MAX_LABEL"), (0, u "I")] 17

def k9m0 : Method := { name := "<init>", desc := "()V", sig := { parameters := [], returnType := none }, accessFlags := 2, code := none }
def k9c1 : Code := { maxStack := 2, maxLocals := 2, code := prog_11_method_5_code, exceptionTable := #[], attributes := #[] }
def k9m1 : Method := { name := "text", desc := "(Ljava/lang/String;Ljava/lang/String;)Ljava/lang/String;", sig := { parameters := [(.object "java/lang/String"), (.object "java/lang/String")], returnType := some (.object "java/lang/String") }, accessFlags := 8, code := some k9c1 }
/-- com/example/regent/regent/Input -/
def k9 : Class := { plain "com/example/regent/regent/Input" (some 0) with
  accessFlags := 32
  interfaces := #[]
  cf := some (fileOf pool9 8 #[] #[{ accessFlags := 2, nameIndex := 5, descriptorIndex := 6, attributes := #[] }, { accessFlags := 8, nameIndex := 58, descriptorIndex := 59, attributes := #[] }] 32 2 #[] #[{ accessFlags := 26, nameIndex := 11, descriptorIndex := 12, attributes := #[] }, { accessFlags := 26, nameIndex := 41, descriptorIndex := 12, attributes := #[] }, { accessFlags := 26, nameIndex := 68, descriptorIndex := 12, attributes := #[] }, { accessFlags := 26, nameIndex := 101, descriptorIndex := 102, attributes := #[] }])
  fields := #[{ name := "UUID_FORM", type := (.object "java/util/regex/Pattern"), accessFlags := 26, slot := 0, constantValue := 0 }, { name := "API_NAME", type := (.object "java/util/regex/Pattern"), accessFlags := 26, slot := 1, constantValue := 0 }, { name := "OBJECT_TYPE", type := (.object "java/util/regex/Pattern"), accessFlags := 26, slot := 2, constantValue := 0 }, { name := "MAX_LABEL", type := .int, accessFlags := 26, slot := 3, constantValue := 0 }]
  methods := #[k9m0, k9m1]
  instanceTypes := #[]
  staticTypes := #[(.object "java/util/regex/Pattern"), (.object "java/util/regex/Pattern"), (.object "java/util/regex/Pattern"), .int]
  resolved := Array.replicate 120 none
  statics := none }

def pool10 : Array CpInfo := pool [(1, .class_ 2), (0, u "java/lang/Math"), (1, .class_ 6), (1, u "java/lang/Object"), (0, u "<init>"), (0, u "()V"), (89, .class_ 100), (1, u "java/lang/Math$RandomNumberGeneratorHolder"), (71, u "negativeZeroFloatBits"), (0, u "J"), (2, u "negativeZeroDoubleBits"), (21, u "max"), (2, u "min"), (43, u "$assertionsDisabled"), (0, u "Z"), (88, u "(II)I"), (2, u "twoToTheDoubleScaleDown"), (0, u "D"), (4, u "twoToTheDoubleScaleUp"), (9, u "E"), (3, u "PI"), (2, u "TAU"), (2, u "DEGREES_TO_RADIANS"), (0, u "RADIANS_TO_DEGREES")] 94

def k10m0 : Method := { name := "<init>", desc := "()V", sig := { parameters := [], returnType := none }, accessFlags := 2, code := none }
def k10c1 : Code := { maxStack := 2, maxLocals := 2, code := jdk_29_method_65_code, exceptionTable := #[], attributes := #[] }
def k10m1 : Method := { name := "max", desc := "(II)I", sig := { parameters := [.int, .int], returnType := some .int }, accessFlags := 9, code := some k10c1 }
def k10c2 : Code := { maxStack := 2, maxLocals := 2, code := jdk_29_method_69_code, exceptionTable := #[], attributes := #[] }
def k10m2 : Method := { name := "min", desc := "(II)I", sig := { parameters := [.int, .int], returnType := some .int }, accessFlags := 9, code := some k10c2 }
/-- java/lang/Math -/
def k10 : Class := { plain "java/lang/Math" (some 0) with
  accessFlags := 49
  interfaces := #[]
  cf := some (fileOf pool10 1 #[.nestMembers #[98]] #[{ accessFlags := 2, nameIndex := 7, descriptorIndex := 8, attributes := #[] }, { accessFlags := 9, nameIndex := 198, descriptorIndex := 335, attributes := #[] }, { accessFlags := 9, nameIndex := 201, descriptorIndex := 335, attributes := #[] }] 49 4 #[] #[{ accessFlags := 25, nameIndex := 354, descriptorIndex := 339, attributes := #[] }, { accessFlags := 25, nameIndex := 358, descriptorIndex := 339, attributes := #[] }, { accessFlags := 25, nameIndex := 361, descriptorIndex := 339, attributes := #[] }, { accessFlags := 26, nameIndex := 364, descriptorIndex := 339, attributes := #[] }, { accessFlags := 26, nameIndex := 365, descriptorIndex := 339, attributes := #[] }, { accessFlags := 26, nameIndex := 172, descriptorIndex := 173, attributes := #[] }, { accessFlags := 26, nameIndex := 176, descriptorIndex := 173, attributes := #[] }, { accessFlags := 8, nameIndex := 344, descriptorIndex := 339, attributes := #[] }, { accessFlags := 8, nameIndex := 338, descriptorIndex := 339, attributes := #[] }, { accessFlags := 4120, nameIndex := 245, descriptorIndex := 246, attributes := #[] }])
  fields := #[{ name := "E", type := .double, accessFlags := 25, slot := 0, constantValue := 0 }, { name := "PI", type := .double, accessFlags := 25, slot := 1, constantValue := 0 }, { name := "TAU", type := .double, accessFlags := 25, slot := 2, constantValue := 0 }, { name := "DEGREES_TO_RADIANS", type := .double, accessFlags := 26, slot := 3, constantValue := 0 }, { name := "RADIANS_TO_DEGREES", type := .double, accessFlags := 26, slot := 4, constantValue := 0 }, { name := "negativeZeroFloatBits", type := .long, accessFlags := 26, slot := 5, constantValue := 0 }, { name := "negativeZeroDoubleBits", type := .long, accessFlags := 26, slot := 6, constantValue := 0 }, { name := "twoToTheDoubleScaleUp", type := .double, accessFlags := 8, slot := 7, constantValue := 0 }, { name := "twoToTheDoubleScaleDown", type := .double, accessFlags := 8, slot := 8, constantValue := 0 }, { name := "$assertionsDisabled", type := .boolean, accessFlags := 4120, slot := 9, constantValue := 0 }]
  methods := #[k10m0, k10m1, k10m2]
  instanceTypes := #[]
  staticTypes := #[.double, .double, .double, .double, .double, .long, .long, .double, .double, .boolean]
  resolved := Array.replicate 460 none
  statics := none }

def pool11 : Array CpInfo := pool [(3, .class_ 4), (0, u "java/lang/String"), (1, .class_ 8), (1, u "java/lang/Object"), (0, u "<init>"), (0, u "()V"), (0, .methodref 12 13), (0, .class_ 14), (0, .nameAndType 15 16), (0, u "java/lang/StringUTF16"), (0, u "newBytesLength"), (0, u "(I)I"), (3, .integer 1073741823), (23, .fieldref 12 45), (0, .nameAndType 46 47), (0, u "$assertionsDisabled"), (0, u "Z"), (0, .methodref 12 49), (0, .nameAndType 50 51), (0, u "length"), (0, u "([B)I"), (7, .fieldref 12 60), (0, .nameAndType 61 62), (0, u "HI_BYTE_SHIFT"), (0, u "I"), (0, .fieldref 12 64), (0, .nameAndType 65 62), (0, u "LO_BYTE_SHIFT"), (5, .methodref 12 72), (0, .nameAndType 73 74), (0, u "getChar"), (0, u "([BI)C"), (21, .methodref 12 97), (0, .nameAndType 98 99), (0, u "checkBoundsBeginEnd"), (0, u "(II[B)V"), (7, .methodref 12 108), (0, .nameAndType 109 110), (0, u "newBytesFor"), (0, u "(I)[B"), (0, .methodref 12 112), (0, .nameAndType 113 114), (0, u "putChar"), (0, u "([BII)V"), (0, .methodref 12 116), (0, .nameAndType 117 118), (0, u "compress"), (0, u "([CI[BII)I"), (0, .methodref 12 120), (0, .nameAndType 121 122), (0, u "toBytes"), (0, u "([CII)[B"), (60, .methodref 184 185), (0, .class_ 186), (0, .nameAndType 187 188), (0, u "java/lang/Math"), (0, u "min"), (0, u "(II)I"), (35, .methodref 184 225), (0, .nameAndType 226 188), (0, u "max"), (0, .integer 65536), (0, .methodref 12 229), (0, .nameAndType 230 231), (0, u "indexOfChar"), (0, u "([BIII)I"), (9, .methodref 3 242), (0, .nameAndType 98 243), (0, u "(III)V"), (0, .methodref 12 245), (0, .nameAndType 246 231), (0, u "indexOfCharUnsafe"), (14, u "coderFromArrayLen"), (0, u "([BI)B"), (5, u "indexOf"), (100, .class_ 371), (1, u "java/lang/StringUTF16$LinesSpliterator"), (58, u "MAX_LENGTH"), (196, .class_ 628), (0, u "java/lang/StringUTF16$CodePointsSpliterator"), (0, .class_ 630), (0, u "java/lang/StringUTF16$CharsSpliterator")] 4

def k11m0 : Method := { name := "<init>", desc := "()V", sig := { parameters := [], returnType := none }, accessFlags := 0, code := none }
def k11c1 : Code := { maxStack := 1, maxLocals := 1, code := jdk_52_method_2_code, exceptionTable := #[], attributes := #[] }
def k11m1 : Method := { name := "newBytesFor", desc := "(I)[B", sig := { parameters := [.int], returnType := some (.array .byte) }, accessFlags := 9, code := some k11c1 }
def k11c2 : Code := { maxStack := 4, maxLocals := 1, code := jdk_52_method_3_code, exceptionTable := #[], attributes := #[] }
def k11m2 : Method := { name := "newBytesLength", desc := "(I)I", sig := { parameters := [.int], returnType := some .int }, accessFlags := 9, code := some k11c2 }
def k11c3 : Code := { maxStack := 4, maxLocals := 3, code := jdk_52_method_4_code, exceptionTable := #[], attributes := #[] }
def k11m3 : Method := { name := "putChar", desc := "([BII)V", sig := { parameters := [(.array .byte), .int, .int], returnType := none }, accessFlags := 8, code := some k11c3 }
def k11c4 : Code := { maxStack := 3, maxLocals := 2, code := jdk_52_method_5_code, exceptionTable := #[], attributes := #[] }
def k11m4 : Method := { name := "getChar", desc := "([BI)C", sig := { parameters := [(.array .byte), .int], returnType := some .char }, accessFlags := 8, code := some k11c4 }
def k11c5 : Code := { maxStack := 2, maxLocals := 1, code := jdk_52_method_6_code, exceptionTable := #[], attributes := #[] }
def k11m5 : Method := { name := "length", desc := "([B)I", sig := { parameters := [(.array .byte)], returnType := some .int }, accessFlags := 9, code := some k11c5 }
def k11c6 : Code := { maxStack := 4, maxLocals := 5, code := jdk_52_method_14_code, exceptionTable := #[], attributes := #[] }
def k11m6 : Method := { name := "toBytes", desc := "([CII)[B", sig := { parameters := [(.array .char), .int, .int], returnType := some (.array .byte) }, accessFlags := 9, code := some k11c6 }
def k11c7 : Code := { maxStack := 2, maxLocals := 2, code := jdk_52_method_15_code, exceptionTable := #[], attributes := #[] }
def k11m7 : Method := { name := "coderFromArrayLen", desc := "([BI)B", sig := { parameters := [(.array .byte), .int], returnType := some .byte }, accessFlags := 8, code := some k11c7 }
def k11c8 : Code := { maxStack := 5, maxLocals := 6, code := jdk_52_method_16_code, exceptionTable := #[], attributes := #[] }
def k11m8 : Method := { name := "compress", desc := "([CII)[B", sig := { parameters := [(.array .char), .int, .int], returnType := some (.array .byte) }, accessFlags := 9, code := some k11c8 }
def k11c9 : Code := { maxStack := 3, maxLocals := 7, code := jdk_52_method_21_code, exceptionTable := #[], attributes := #[] }
def k11m9 : Method := { name := "compress", desc := "([CI[BII)I", sig := { parameters := [(.array .char), .int, (.array .byte), .int, .int], returnType := some .int }, accessFlags := 9, code := some k11c9 }
def k11c10 : Code := { maxStack := 4, maxLocals := 4, code := jdk_52_method_40_code, exceptionTable := #[], attributes := #[] }
def k11m10 : Method := { name := "indexOf", desc := "([BIII)I", sig := { parameters := [(.array .byte), .int, .int, .int], returnType := some .int }, accessFlags := 9, code := some k11c10 }
def k11c11 : Code := { maxStack := 4, maxLocals := 4, code := jdk_52_method_47_code, exceptionTable := #[], attributes := #[] }
def k11m11 : Method := { name := "indexOfChar", desc := "([BIII)I", sig := { parameters := [(.array .byte), .int, .int, .int], returnType := some .int }, accessFlags := 10, code := some k11c11 }
def k11c12 : Code := { maxStack := 2, maxLocals := 5, code := jdk_52_method_48_code, exceptionTable := #[], attributes := #[] }
def k11m12 : Method := { name := "indexOfCharUnsafe", desc := "([BIII)I", sig := { parameters := [(.array .byte), .int, .int, .int], returnType := some .int }, accessFlags := 10, code := some k11c12 }
def k11c13 : Code := { maxStack := 3, maxLocals := 3, code := jdk_52_method_93_code, exceptionTable := #[], attributes := #[] }
def k11m13 : Method := { name := "checkBoundsBeginEnd", desc := "(II[B)V", sig := { parameters := [.int, .int, (.array .byte)], returnType := none }, accessFlags := 9, code := some k11c13 }
/-- java/lang/StringUTF16 -/
def k11 : Class := { plain "java/lang/StringUTF16" (some 0) with
  accessFlags := 48
  interfaces := #[]
  cf := some (fileOf pool11 12 #[.nestMembers #[627, 629, 369]] #[{ accessFlags := 0, nameIndex := 9, descriptorIndex := 10, attributes := #[] }, { accessFlags := 9, nameIndex := 109, descriptorIndex := 110, attributes := #[] }, { accessFlags := 9, nameIndex := 15, descriptorIndex := 16, attributes := #[] }, { accessFlags := 8, nameIndex := 113, descriptorIndex := 114, attributes := #[] }, { accessFlags := 8, nameIndex := 73, descriptorIndex := 74, attributes := #[] }, { accessFlags := 9, nameIndex := 50, descriptorIndex := 51, attributes := #[] }, { accessFlags := 9, nameIndex := 121, descriptorIndex := 122, attributes := #[] }, { accessFlags := 8, nameIndex := 261, descriptorIndex := 262, attributes := #[] }, { accessFlags := 9, nameIndex := 117, descriptorIndex := 122, attributes := #[] }, { accessFlags := 9, nameIndex := 117, descriptorIndex := 118, attributes := #[] }, { accessFlags := 9, nameIndex := 268, descriptorIndex := 231, attributes := #[] }, { accessFlags := 10, nameIndex := 230, descriptorIndex := 231, attributes := #[] }, { accessFlags := 10, nameIndex := 246, descriptorIndex := 231, attributes := #[] }, { accessFlags := 9, nameIndex := 98, descriptorIndex := 99, attributes := #[] }] 48 6 #[] #[{ accessFlags := 26, nameIndex := 61, descriptorIndex := 62, attributes := #[] }, { accessFlags := 26, nameIndex := 65, descriptorIndex := 62, attributes := #[] }, { accessFlags := 24, nameIndex := 430, descriptorIndex := 62, attributes := #[] }, { accessFlags := 4120, nameIndex := 46, descriptorIndex := 47, attributes := #[] }])
  fields := #[{ name := "HI_BYTE_SHIFT", type := .int, accessFlags := 26, slot := 0, constantValue := 0 }, { name := "LO_BYTE_SHIFT", type := .int, accessFlags := 26, slot := 1, constantValue := 0 }, { name := "MAX_LENGTH", type := .int, accessFlags := 24, slot := 2, constantValue := 0 }, { name := "$assertionsDisabled", type := .boolean, accessFlags := 4120, slot := 3, constantValue := 0 }]
  methods := #[k11m0, k11m1, k11m2, k11m3, k11m4, k11m5, k11m6, k11m7, k11m8, k11m9, k11m10, k11m11, k11m12, k11m13]
  instanceTypes := #[]
  staticTypes := #[.int, .int, .int, .boolean]
  resolved := Array.replicate 635 none
  statics := some 1 }

def pool12 : Array CpInfo := pool [(2, .class_ 4), (1, u "java/lang/Object"), (0, u "<init>"), (0, u "()V"), (17, .class_ 26), (1, u "jdk/internal/util/Preconditions"), (20, u "checkFromToIndex"), (7, .class_ 56), (0, u "jdk/internal/util/Preconditions$4"), (57, .class_ 115), (0, u "jdk/internal/util/Preconditions$1"), (7, u "SIOOBE_FORMATTER"), (0, u "Ljava/util/function/BiFunction;"), (0, .class_ 126), (0, u "jdk/internal/util/Preconditions$2"), (3, u "AIOOBE_FORMATTER"), (0, .class_ 132), (0, u "jdk/internal/util/Preconditions$3"), (3, u "IOOBE_FORMATTER"), (46, u "(IIILjava/util/function/BiFunction;)I")] 10

def k12m0 : Method := { name := "<init>", desc := "()V", sig := { parameters := [], returnType := none }, accessFlags := 1, code := none }
def k12c1 : Code := { maxStack := 4, maxLocals := 4, code := jdk_41_method_12_code, exceptionTable := #[], attributes := #[] }
def k12m1 : Method := { name := "checkFromToIndex", desc := "(IIILjava/util/function/BiFunction;)I", sig := { parameters := [.int, .int, .int, (.object "java/util/function/BiFunction")], returnType := some .int }, accessFlags := 9, code := some k12c1 }
/-- jdk/internal/util/Preconditions -/
def k12 : Class := { plain "jdk/internal/util/Preconditions" (some 0) with
  accessFlags := 33
  interfaces := #[]
  cf := some (fileOf pool12 24 #[.nestMembers #[55, 131, 125, 114]] #[{ accessFlags := 1, nameIndex := 5, descriptorIndex := 6, attributes := #[] }, { accessFlags := 9, nameIndex := 47, descriptorIndex := 183, attributes := #[] }] 33 2 #[] #[{ accessFlags := 25, nameIndex := 123, descriptorIndex := 124, attributes := #[] }, { accessFlags := 25, nameIndex := 130, descriptorIndex := 124, attributes := #[] }, { accessFlags := 25, nameIndex := 136, descriptorIndex := 124, attributes := #[] }])
  fields := #[{ name := "SIOOBE_FORMATTER", type := (.object "java/util/function/BiFunction"), accessFlags := 25, slot := 0, constantValue := 0 }, { name := "AIOOBE_FORMATTER", type := (.object "java/util/function/BiFunction"), accessFlags := 25, slot := 1, constantValue := 0 }, { name := "IOOBE_FORMATTER", type := (.object "java/util/function/BiFunction"), accessFlags := 25, slot := 2, constantValue := 0 }]
  methods := #[k12m0, k12m1]
  instanceTypes := #[]
  staticTypes := #[(.object "java/util/function/BiFunction"), (.object "java/util/function/BiFunction"), (.object "java/util/function/BiFunction")]
  resolved := Array.replicate 194 none
  statics := some 2 }

def pool13 : Array CpInfo := pool [(9, u "<init>"), (6, .class_ 18), (1, u "java/lang/Object"), (0, u "()V"), (1, .class_ 23), (1, u "jdk/internal/util/ArraysSupport"), (0, u "LOG2_ARRAY_LONG_INDEX_SCALE"), (0, u "I"), (2, u "U"), (0, u "Ljdk/internal/misc/Unsafe;"), (8, u "BIG_ENDIAN"), (0, u "Z"), (8, u "LOG2_BYTE_BIT_SIZE"), (4, u "LOG2_ARRAY_INT_INDEX_SCALE"), (54, u "JLA"), (0, u "Ljdk/internal/access/JavaLangAccess;"), (11, u "LOG2_ARRAY_BOOLEAN_INDEX_SCALE"), (9, u "LOG2_ARRAY_BYTE_INDEX_SCALE"), (5, u "LOG2_ARRAY_CHAR_INDEX_SCALE"), (5, u "LOG2_ARRAY_SHORT_INDEX_SCALE"), (18, u "LOG2_ARRAY_FLOAT_INDEX_SCALE"), (24, u "LOG2_ARRAY_DOUBLE_INDEX_SCALE"), (89, u "T_BOOLEAN"), (2, u "T_CHAR"), (1, u "T_FLOAT"), (1, u "T_DOUBLE"), (1, u "T_BYTE"), (1, u "T_SHORT"), (1, u "T_INT"), (1, u "T_LONG"), (1, u "SOFT_MAX_ARRAY_LENGTH")] 83

def k13m0 : Method := { name := "<init>", desc := "()V", sig := { parameters := [], returnType := none }, accessFlags := 2, code := none }
/-- jdk/internal/util/ArraysSupport -/
def k13 : Class := { plain "jdk/internal/util/ArraysSupport" (some 0) with
  accessFlags := 33
  interfaces := #[]
  cf := some (fileOf pool13 21 #[] #[{ accessFlags := 2, nameIndex := 9, descriptorIndex := 19, attributes := #[] }] 33 16 #[] #[{ accessFlags := 24, nameIndex := 28, descriptorIndex := 29, attributes := #[] }, { accessFlags := 26, nameIndex := 38, descriptorIndex := 39, attributes := #[] }, { accessFlags := 25, nameIndex := 121, descriptorIndex := 25, attributes := #[] }, { accessFlags := 25, nameIndex := 131, descriptorIndex := 25, attributes := #[] }, { accessFlags := 25, nameIndex := 137, descriptorIndex := 25, attributes := #[] }, { accessFlags := 25, nameIndex := 143, descriptorIndex := 25, attributes := #[] }, { accessFlags := 25, nameIndex := 53, descriptorIndex := 25, attributes := #[] }, { accessFlags := 25, nameIndex := 24, descriptorIndex := 25, attributes := #[] }, { accessFlags := 25, nameIndex := 162, descriptorIndex := 25, attributes := #[] }, { accessFlags := 25, nameIndex := 187, descriptorIndex := 25, attributes := #[] }, { accessFlags := 26, nameIndex := 48, descriptorIndex := 25, attributes := #[] }, { accessFlags := 25, nameIndex := 277, descriptorIndex := 25, attributes := #[] }, { accessFlags := 25, nameIndex := 280, descriptorIndex := 25, attributes := #[] }, { accessFlags := 25, nameIndex := 282, descriptorIndex := 25, attributes := #[] }, { accessFlags := 25, nameIndex := 284, descriptorIndex := 25, attributes := #[] }, { accessFlags := 25, nameIndex := 286, descriptorIndex := 25, attributes := #[] }, { accessFlags := 25, nameIndex := 288, descriptorIndex := 25, attributes := #[] }, { accessFlags := 25, nameIndex := 290, descriptorIndex := 25, attributes := #[] }, { accessFlags := 25, nameIndex := 292, descriptorIndex := 25, attributes := #[] }, { accessFlags := 26, nameIndex := 108, descriptorIndex := 109, attributes := #[] }, { accessFlags := 25, nameIndex := 294, descriptorIndex := 25, attributes := #[] }])
  fields := #[{ name := "U", type := (.object "jdk/internal/misc/Unsafe"), accessFlags := 24, slot := 0, constantValue := 0 }, { name := "BIG_ENDIAN", type := .boolean, accessFlags := 26, slot := 1, constantValue := 0 }, { name := "LOG2_ARRAY_BOOLEAN_INDEX_SCALE", type := .int, accessFlags := 25, slot := 2, constantValue := 0 }, { name := "LOG2_ARRAY_BYTE_INDEX_SCALE", type := .int, accessFlags := 25, slot := 3, constantValue := 0 }, { name := "LOG2_ARRAY_CHAR_INDEX_SCALE", type := .int, accessFlags := 25, slot := 4, constantValue := 0 }, { name := "LOG2_ARRAY_SHORT_INDEX_SCALE", type := .int, accessFlags := 25, slot := 5, constantValue := 0 }, { name := "LOG2_ARRAY_INT_INDEX_SCALE", type := .int, accessFlags := 25, slot := 6, constantValue := 0 }, { name := "LOG2_ARRAY_LONG_INDEX_SCALE", type := .int, accessFlags := 25, slot := 7, constantValue := 0 }, { name := "LOG2_ARRAY_FLOAT_INDEX_SCALE", type := .int, accessFlags := 25, slot := 8, constantValue := 0 }, { name := "LOG2_ARRAY_DOUBLE_INDEX_SCALE", type := .int, accessFlags := 25, slot := 9, constantValue := 0 }, { name := "LOG2_BYTE_BIT_SIZE", type := .int, accessFlags := 26, slot := 10, constantValue := 0 }, { name := "T_BOOLEAN", type := .int, accessFlags := 25, slot := 11, constantValue := 0 }, { name := "T_CHAR", type := .int, accessFlags := 25, slot := 12, constantValue := 0 }, { name := "T_FLOAT", type := .int, accessFlags := 25, slot := 13, constantValue := 0 }, { name := "T_DOUBLE", type := .int, accessFlags := 25, slot := 14, constantValue := 0 }, { name := "T_BYTE", type := .int, accessFlags := 25, slot := 15, constantValue := 0 }, { name := "T_SHORT", type := .int, accessFlags := 25, slot := 16, constantValue := 0 }, { name := "T_INT", type := .int, accessFlags := 25, slot := 17, constantValue := 0 }, { name := "T_LONG", type := .int, accessFlags := 25, slot := 18, constantValue := 0 }, { name := "JLA", type := (.object "jdk/internal/access/JavaLangAccess"), accessFlags := 26, slot := 19, constantValue := 0 }, { name := "SOFT_MAX_ARRAY_LENGTH", type := .int, accessFlags := 25, slot := 20, constantValue := 0 }]
  methods := #[k13m0]
  instanceTypes := #[]
  staticTypes := #[(.object "jdk/internal/misc/Unsafe"), .boolean, .int, .int, .int, .int, .int, .int, .int, .int, .int, .int, .int, .int, .int, .int, .int, .int, .int, (.object "jdk/internal/access/JavaLangAccess"), .int]
  resolved := Array.replicate 378 none
  statics := none }

def pool14 : Array CpInfo := pool [(1, u "java/lang/Cloneable"), (0, .class_ 1), (0, u "java/lang/Object"), (0, .class_ 3)] 3

/-- java/lang/Cloneable -/
def k14 : Class := { plain "java/lang/Cloneable" (some 0) with
  accessFlags := 1537
  interfaces := #[]
  cf := some (fileOf pool14 2 #[] #[] 1537 4 #[] #[])
  fields := #[]
  methods := #[]
  instanceTypes := #[]
  staticTypes := #[]
  resolved := Array.replicate 8 none
  statics := none }

/-- the primitive byte -/
def k15 : Class := { plain "byte" none with kind := .primitive 'B', accessFlags := 0x411 }
/-- [B -/
def k16 : Class := { plain "[B" (some 0) with kind := .array 15 .byte, interfaces := #[14, 2], accessFlags := 1041 }

/-- the primitive char -/
def k17 : Class := { plain "char" none with kind := .primitive 'C', accessFlags := 0x411 }
/-- [C -/
def k18 : Class := { plain "[C" (some 0) with kind := .array 17 .char, interfaces := #[14, 2], accessFlags := 1041 }

/-- the primitive int -/
def k19 : Class := { plain "int" none with kind := .primitive 'I', accessFlags := 0x411 }
/-- [I -/
def k20 : Class := { plain "[I" (some 0) with kind := .array 19 .int, interfaces := #[14, 2], accessFlags := 1041 }

def heap : Heap := #[{ cls := 7, slots := #[.long 0, .int 1, .null, .int 0, .null, .int 0, .int 0], vm := .statics 7 },
  { cls := 11, slots := #[.int 0, .int 8, .int 0, .int 1], vm := .statics 11 },
  { cls := 12, slots := #[.null, .null, .null], vm := .statics 12 }]
def classes : Array Class := #[k0, k1, k2, k3, k4, k5, k6, k7, k8, k9, k10, k11, k12, k13, k14, k15, k16, k17, k18, k19, k20]
def interned : List (Array UInt16 × Addr) := []
def slotsUsed : Nat := 14
def theMethod : MethodId := ⟨1, 2⟩
def args0 : Array Value := #[.int 2, .int 3, .int 4, .int 5, .int 6, .int 7]
def aboutOver (below : List Frame) : State where
  vm := { classes := classes, interned := interned.toArray }
  heap := heap
  slotsUsed := slotsUsed
  threads := #[{ frames := .invoking theMethod args0 :: below }]
def below0 : List Frame := [.native { method := ⟨0, 0⟩, args := #[] }]
def about1 : State := aboutOver below0
def p0 : Program := .bare "" "" ""
def e0 : Env := launch0.env 0 0 0
theorem w_frames : about1.frames = Frame.invoking theMethod args0 :: below0 := rfl
set_option maxRecDepth 65536 in
theorem w_args : argsFit about1.vm theMethod args0 = true := by decide +kernel
set_option maxRecDepth 65536 in
theorem w_heap : heapFits about1 = true := by decide +kernel
set_option maxRecDepth 65536 in
theorem w_runnable : about1.curStatus? = some .runnable := by decide +kernel
set_option maxRecDepth 65536 in
theorem w_alone : about1.alone = true := by decide +kernel
set_option maxRecDepth 65536 in
theorem w_named : about1.methodNamed? x = some theMethod := by decide +kernel
set_option maxRecDepth 65536 in
theorem w_hears : about1.hears theMethod below0 = true := by decide +kernel
set_option maxRecDepth 65536 in
theorem w_ripe : about1.ripe theMethod args0 below0 = true := by decide +kernel
theorem w_running : about1.status = .running := rfl
set_option maxRecDepth 65536 in
theorem w_room : about1.hasRoom e0.platform room_1 = true :=
  launch0.hasRoom_least _ room_1 (by decide +kernel) (by decide +kernel) (by decide +kernel) (by decide +kernel) (by decide +kernel) (by decide +kernel)
theorem allAtoms_all (ts : List Jvm.Cond) (a : Array Jvm.Value) (st : Jvm.State) : (allAtoms ts).before a st = ts.all (fun c => c.before a st) := by
  induction ts with
  | nil => rfl
  | cons c t ih =>
    show (Jvm.Cond.and c (allAtoms t)).before a st = _
    rw [Jvm.Cond.before_and, ih, List.all_cons]
def words1 : List Jvm.Cond := Jvm.Cond.code x code maxLocals ret :: tables_1
/-- a 'code' word, met by the world's own term for the bytes: nothing is compared byte by byte -/
theorem code_word {y : MethodName} {bytes : ByteArray} {mx : Nat} {rt : Option FieldType} {a : Array Value} {s : State} {m : MethodId} {meth : Method} {c : Code} (h1 : s.methodNamed? y = some m) (h2 : s.vm.method? m = some meth) (h3 : meth.code = some c) (h4 : c.code = bytes)
    (h5 : (c.maxLocals == mx && c.exceptionTable.isEmpty && decide (c.maxStack ≤ mostOperands) && decide (meth.sig.returnType = rt) && !meth.locks && decide (parseMethodDescriptor y.desc = some meth.sig)) = true) : (Jvm.Cond.code y bytes mx rt).before a s = true := by
  simp only [Bool.and_eq_true, beq_iff_eq, Bool.not_eq_true', decide_eq_true_eq] at h5
  obtain ⟨⟨⟨⟨⟨g1, g2⟩, g3⟩, g4⟩, g5⟩, g6⟩ := h5
  simp [Cond.before, Cond.holds, Cond.value, h1, h2, h3, h4, g1, g2, g3, g4, g5, g6]
def isCode : Jvm.Cond → Bool
  | .code _ _ _ _ => true
  | _ => false
theorem all_split {L : List Jvm.Cond} {P : Jvm.Cond → Bool} (h1 : L.all (fun c => isCode c || P c) = true) (h2 : ∀ c ∈ L.filter isCode, P c = true) : L.all P = true := by
  refine List.all_eq_true.mpr fun c hc => ?_
  have h := List.all_eq_true.mp h1 c hc
  rcases Bool.eq_false_or_eq_true (isCode c) with hi | hi
  · exact h2 c (List.mem_filter.mpr ⟨hc, hi⟩)
  · simpa [hi] using h
set_option maxRecDepth 65536 in
theorem w_c0 : (Jvm.Cond.code x code maxLocals ret).before args0 about1 = true := code_word (m := ⟨1, 2⟩) (meth := k1m2) (c := k1c2) (by decide +kernel) rfl rfl rfl (by decide +kernel)
set_option maxRecDepth 65536 in
theorem w_c1 : (Jvm.Cond.code ({ cls := "com/example/regent/regent/InputTextPinLaw", name := "nz", desc := "(I)C" } : Jvm.MethodName) method_2_code (1 : Nat) (Option.some Jvm.ClassFile.FieldType.char)).before args0 about1 = true := code_word (m := ⟨1, 1⟩) (meth := k1m1) (c := k1c1) (by decide +kernel) rfl rfl rfl (by decide +kernel)
set_option maxRecDepth 65536 in
theorem w_c2 : (Jvm.Cond.code ({ cls := "java/lang/String", name := "<init>", desc := "([C)V" } : Jvm.MethodName) jdk_42_method_3_code (2 : Nat) (Option.none : Option Jvm.ClassFile.FieldType)).before args0 about1 = true := code_word (m := ⟨7, 1⟩) (meth := k7m1) (c := k7c1) (by decide +kernel) rfl rfl rfl (by decide +kernel)
set_option maxRecDepth 65536 in
theorem w_c3 : (Jvm.Cond.code ({ cls := "java/lang/String", name := "<init>", desc := "([CIILjava/lang/Void;)V" } : Jvm.MethodName) jdk_42_method_149_code (6 : Nat) (Option.none : Option Jvm.ClassFile.FieldType)).before args0 about1 = true := code_word (m := ⟨7, 7⟩) (meth := k7m7) (c := k7c7) (by decide +kernel) rfl rfl rfl (by decide +kernel)
set_option maxRecDepth 65536 in
theorem w_c4 : (Jvm.Cond.code ({ cls := "java/lang/Object", name := "<init>", desc := "()V" } : Jvm.MethodName) object_method_1_code (1 : Nat) (Option.none : Option Jvm.ClassFile.FieldType)).before args0 about1 = true := code_word (m := ⟨0, 0⟩) (meth := k0m0) (c := k0c0) (by decide +kernel) rfl rfl rfl (by decide +kernel)
set_option maxRecDepth 65536 in
theorem w_c5 : (Jvm.Cond.code ({ cls := "java/lang/String", name := "valueOf", desc := "(C)Ljava/lang/String;" } : Jvm.MethodName) jdk_42_method_139_code (1 : Nat) (Option.some (Jvm.ClassFile.FieldType.object "java/lang/String"))).before args0 about1 = true := code_word (m := ⟨7, 6⟩) (meth := k7m6) (c := k7c6) (by decide +kernel) rfl rfl rfl (by decide +kernel)
set_option maxRecDepth 65536 in
theorem w_c6 : (Jvm.Cond.code ({ cls := "java/lang/StringLatin1", name := "canEncode", desc := "(C)Z" } : Jvm.MethodName) jdk_43_method_3_code (1 : Nat) (Option.some Jvm.ClassFile.FieldType.boolean)).before args0 about1 = true := code_word (m := ⟨8, 1⟩) (meth := k8m1) (c := k8c1) (by decide +kernel) rfl rfl rfl (by decide +kernel)
set_option maxRecDepth 65536 in
theorem w_c7 : (Jvm.Cond.code ({ cls := "java/lang/StringLatin1", name := "toBytes", desc := "(C)[B" } : Jvm.MethodName) jdk_43_method_46_code (1 : Nat) (Option.some (Jvm.ClassFile.FieldType.array Jvm.ClassFile.FieldType.byte))).before args0 about1 = true := code_word (m := ⟨8, 5⟩) (meth := k8m5) (c := k8c5) (by decide +kernel) rfl rfl rfl (by decide +kernel)
set_option maxRecDepth 65536 in
theorem w_c8 : (Jvm.Cond.code ({ cls := "java/lang/String", name := "<init>", desc := "([BB)V" } : Jvm.MethodName) jdk_42_method_151_code (3 : Nat) (Option.none : Option Jvm.ClassFile.FieldType)).before args0 about1 = true := code_word (m := ⟨7, 8⟩) (meth := k7m8) (c := k7c8) (by decide +kernel) rfl rfl rfl (by decide +kernel)
set_option maxRecDepth 65536 in
theorem w_c9 : (Jvm.Cond.code ({ cls := "com/example/regent/regent/Input", name := "text", desc := "(Ljava/lang/String;Ljava/lang/String;)Ljava/lang/String;" } : Jvm.MethodName) prog_11_method_5_code (2 : Nat) (Option.some (Jvm.ClassFile.FieldType.object "java/lang/String"))).before args0 about1 = true := code_word (m := ⟨9, 1⟩) (meth := k9m1) (c := k9c1) (by decide +kernel) rfl rfl rfl (by decide +kernel)
set_option maxRecDepth 65536 in
theorem w_c10 : (Jvm.Cond.code ({ cls := "java/lang/String", name := "indexOf", desc := "(I)I" } : Jvm.MethodName) jdk_42_method_79_code (2 : Nat) (Option.some Jvm.ClassFile.FieldType.int)).before args0 about1 = true := code_word (m := ⟨7, 4⟩) (meth := k7m4) (c := k7c4) (by decide +kernel) rfl rfl rfl (by decide +kernel)
set_option maxRecDepth 65536 in
theorem w_c11 : (Jvm.Cond.code ({ cls := "java/lang/String", name := "indexOf", desc := "(II)I" } : Jvm.MethodName) jdk_42_method_80_code (3 : Nat) (Option.some Jvm.ClassFile.FieldType.int)).before args0 about1 = true := code_word (m := ⟨7, 5⟩) (meth := k7m5) (c := k7c5) (by decide +kernel) rfl rfl rfl (by decide +kernel)
set_option maxRecDepth 65536 in
theorem w_c12 : (Jvm.Cond.code ({ cls := "java/lang/String", name := "isLatin1", desc := "()Z" } : Jvm.MethodName) jdk_42_method_154_code (1 : Nat) (Option.some Jvm.ClassFile.FieldType.boolean)).before args0 about1 = true := code_word (m := ⟨7, 10⟩) (meth := k7m10) (c := k7c10) (by decide +kernel) rfl rfl rfl (by decide +kernel)
set_option maxRecDepth 65536 in
theorem w_c13 : (Jvm.Cond.code ({ cls := "java/lang/String", name := "length", desc := "()I" } : Jvm.MethodName) jdk_42_method_54_code (1 : Nat) (Option.some Jvm.ClassFile.FieldType.int)).before args0 about1 = true := code_word (m := ⟨7, 2⟩) (meth := k7m2) (c := k7c2) (by decide +kernel) rfl rfl rfl (by decide +kernel)
set_option maxRecDepth 65536 in
theorem w_c14 : (Jvm.Cond.code ({ cls := "java/lang/String", name := "coder", desc := "()B" } : Jvm.MethodName) jdk_42_method_152_code (1 : Nat) (Option.some Jvm.ClassFile.FieldType.byte)).before args0 about1 = true := code_word (m := ⟨7, 9⟩) (meth := k7m9) (c := k7c9) (by decide +kernel) rfl rfl rfl (by decide +kernel)
set_option maxRecDepth 65536 in
theorem w_c15 : (Jvm.Cond.code ({ cls := "java/lang/StringLatin1", name := "indexOf", desc := "([BIII)I" } : Jvm.MethodName) jdk_43_method_22_code (4 : Nat) (Option.some Jvm.ClassFile.FieldType.int)).before args0 about1 = true := code_word (m := ⟨8, 3⟩) (meth := k8m3) (c := k8c3) (by decide +kernel) rfl rfl rfl (by decide +kernel)
set_option maxRecDepth 65536 in
theorem w_c16 : (Jvm.Cond.code ({ cls := "java/lang/StringLatin1", name := "canEncode", desc := "(I)Z" } : Jvm.MethodName) jdk_43_method_4_code (1 : Nat) (Option.some Jvm.ClassFile.FieldType.boolean)).before args0 about1 = true := code_word (m := ⟨8, 2⟩) (meth := k8m2) (c := k8c2) (by decide +kernel) rfl rfl rfl (by decide +kernel)
set_option maxRecDepth 65536 in
theorem w_c17 : (Jvm.Cond.code ({ cls := "java/lang/Math", name := "max", desc := "(II)I" } : Jvm.MethodName) jdk_29_method_65_code (2 : Nat) (Option.some Jvm.ClassFile.FieldType.int)).before args0 about1 = true := code_word (m := ⟨10, 1⟩) (meth := k10m1) (c := k10c1) (by decide +kernel) rfl rfl rfl (by decide +kernel)
set_option maxRecDepth 65536 in
theorem w_c18 : (Jvm.Cond.code ({ cls := "java/lang/Math", name := "min", desc := "(II)I" } : Jvm.MethodName) jdk_29_method_69_code (2 : Nat) (Option.some Jvm.ClassFile.FieldType.int)).before args0 about1 = true := code_word (m := ⟨10, 2⟩) (meth := k10m2) (c := k10c2) (by decide +kernel) rfl rfl rfl (by decide +kernel)
set_option maxRecDepth 65536 in
theorem w_c19 : (Jvm.Cond.code ({ cls := "java/lang/String", name := "equals", desc := "(Ljava/lang/Object;)Z" } : Jvm.MethodName) jdk_42_method_66_code (3 : Nat) (Option.some Jvm.ClassFile.FieldType.boolean)).before args0 about1 = true := code_word (m := ⟨7, 3⟩) (meth := k7m3) (c := k7c3) (by decide +kernel) rfl rfl rfl (by decide +kernel)
set_option maxRecDepth 65536 in
theorem w_c20 : (Jvm.Cond.code ({ cls := "java/lang/StringUTF16", name := "compress", desc := "([CII)[B" } : Jvm.MethodName) jdk_52_method_16_code (6 : Nat) (Option.some (Jvm.ClassFile.FieldType.array Jvm.ClassFile.FieldType.byte))).before args0 about1 = true := code_word (m := ⟨11, 8⟩) (meth := k11m8) (c := k11c8) (by decide +kernel) rfl rfl rfl (by decide +kernel)
set_option maxRecDepth 65536 in
theorem w_c21 : (Jvm.Cond.code ({ cls := "java/lang/StringUTF16", name := "compress", desc := "([CI[BII)I" } : Jvm.MethodName) jdk_52_method_21_code (7 : Nat) (Option.some Jvm.ClassFile.FieldType.int)).before args0 about1 = true := code_word (m := ⟨11, 9⟩) (meth := k11m9) (c := k11c9) (by decide +kernel) rfl rfl rfl (by decide +kernel)
set_option maxRecDepth 65536 in
theorem w_c22 : (Jvm.Cond.code ({ cls := "java/lang/StringUTF16", name := "coderFromArrayLen", desc := "([BI)B" } : Jvm.MethodName) jdk_52_method_15_code (2 : Nat) (Option.some Jvm.ClassFile.FieldType.byte)).before args0 about1 = true := code_word (m := ⟨11, 7⟩) (meth := k11m7) (c := k11c7) (by decide +kernel) rfl rfl rfl (by decide +kernel)
set_option maxRecDepth 65536 in
theorem w_c23 : (Jvm.Cond.code ({ cls := "java/lang/StringLatin1", name := "indexOfChar", desc := "([BIII)I" } : Jvm.MethodName) jdk_43_method_23_code (6 : Nat) (Option.some Jvm.ClassFile.FieldType.int)).before args0 about1 = true := code_word (m := ⟨8, 4⟩) (meth := k8m4) (c := k8c4) (by decide +kernel) rfl rfl rfl (by decide +kernel)
set_option maxRecDepth 65536 in
theorem w_c24 : (Jvm.Cond.code ({ cls := "java/lang/StringUTF16", name := "toBytes", desc := "([CII)[B" } : Jvm.MethodName) jdk_52_method_14_code (5 : Nat) (Option.some (Jvm.ClassFile.FieldType.array Jvm.ClassFile.FieldType.byte))).before args0 about1 = true := code_word (m := ⟨11, 6⟩) (meth := k11m6) (c := k11c6) (by decide +kernel) rfl rfl rfl (by decide +kernel)
set_option maxRecDepth 65536 in
theorem w_c25 : (Jvm.Cond.code ({ cls := "java/lang/StringUTF16", name := "newBytesFor", desc := "(I)[B" } : Jvm.MethodName) jdk_52_method_2_code (1 : Nat) (Option.some (Jvm.ClassFile.FieldType.array Jvm.ClassFile.FieldType.byte))).before args0 about1 = true := code_word (m := ⟨11, 1⟩) (meth := k11m1) (c := k11c1) (by decide +kernel) rfl rfl rfl (by decide +kernel)
set_option maxRecDepth 65536 in
theorem w_c26 : (Jvm.Cond.code ({ cls := "java/lang/StringUTF16", name := "newBytesLength", desc := "(I)I" } : Jvm.MethodName) jdk_52_method_3_code (1 : Nat) (Option.some Jvm.ClassFile.FieldType.int)).before args0 about1 = true := code_word (m := ⟨11, 2⟩) (meth := k11m2) (c := k11c2) (by decide +kernel) rfl rfl rfl (by decide +kernel)
set_option maxRecDepth 65536 in
theorem w_c27 : (Jvm.Cond.code ({ cls := "java/lang/StringUTF16", name := "putChar", desc := "([BII)V" } : Jvm.MethodName) jdk_52_method_4_code (3 : Nat) (Option.none : Option Jvm.ClassFile.FieldType)).before args0 about1 = true := code_word (m := ⟨11, 3⟩) (meth := k11m3) (c := k11c3) (by decide +kernel) rfl rfl rfl (by decide +kernel)
set_option maxRecDepth 65536 in
theorem w_c28 : (Jvm.Cond.code ({ cls := "java/lang/StringUTF16", name := "getChar", desc := "([BI)C" } : Jvm.MethodName) jdk_52_method_5_code (2 : Nat) (Option.some Jvm.ClassFile.FieldType.char)).before args0 about1 = true := code_word (m := ⟨11, 4⟩) (meth := k11m4) (c := k11c4) (by decide +kernel) rfl rfl rfl (by decide +kernel)
set_option maxRecDepth 65536 in
theorem w_c29 : (Jvm.Cond.code ({ cls := "java/lang/StringUTF16", name := "indexOf", desc := "([BIII)I" } : Jvm.MethodName) jdk_52_method_40_code (4 : Nat) (Option.some Jvm.ClassFile.FieldType.int)).before args0 about1 = true := code_word (m := ⟨11, 10⟩) (meth := k11m10) (c := k11c10) (by decide +kernel) rfl rfl rfl (by decide +kernel)
set_option maxRecDepth 65536 in
theorem w_c30 : (Jvm.Cond.code ({ cls := "java/lang/StringUTF16", name := "indexOfChar", desc := "([BIII)I" } : Jvm.MethodName) jdk_52_method_47_code (4 : Nat) (Option.some Jvm.ClassFile.FieldType.int)).before args0 about1 = true := code_word (m := ⟨11, 11⟩) (meth := k11m11) (c := k11c11) (by decide +kernel) rfl rfl rfl (by decide +kernel)
set_option maxRecDepth 65536 in
theorem w_c31 : (Jvm.Cond.code ({ cls := "java/lang/StringUTF16", name := "checkBoundsBeginEnd", desc := "(II[B)V" } : Jvm.MethodName) jdk_52_method_93_code (3 : Nat) (Option.none : Option Jvm.ClassFile.FieldType)).before args0 about1 = true := code_word (m := ⟨11, 13⟩) (meth := k11m13) (c := k11c13) (by decide +kernel) rfl rfl rfl (by decide +kernel)
set_option maxRecDepth 65536 in
theorem w_c32 : (Jvm.Cond.code ({ cls := "java/lang/StringUTF16", name := "length", desc := "([B)I" } : Jvm.MethodName) jdk_52_method_6_code (1 : Nat) (Option.some Jvm.ClassFile.FieldType.int)).before args0 about1 = true := code_word (m := ⟨11, 5⟩) (meth := k11m5) (c := k11c5) (by decide +kernel) rfl rfl rfl (by decide +kernel)
set_option maxRecDepth 65536 in
theorem w_c33 : (Jvm.Cond.code ({ cls := "java/lang/String", name := "checkBoundsBeginEnd", desc := "(III)V" } : Jvm.MethodName) jdk_42_method_158_code (3 : Nat) (Option.none : Option Jvm.ClassFile.FieldType)).before args0 about1 = true := code_word (m := ⟨7, 11⟩) (meth := k7m11) (c := k7c11) (by decide +kernel) rfl rfl rfl (by decide +kernel)
set_option maxRecDepth 65536 in
theorem w_c34 : (Jvm.Cond.code ({ cls := "jdk/internal/util/Preconditions", name := "checkFromToIndex", desc := "(IIILjava/util/function/BiFunction;)I" } : Jvm.MethodName) jdk_41_method_12_code (4 : Nat) (Option.some Jvm.ClassFile.FieldType.int)).before args0 about1 = true := code_word (m := ⟨12, 1⟩) (meth := k12m1) (c := k12c1) (by decide +kernel) rfl rfl rfl (by decide +kernel)
set_option maxRecDepth 65536 in
theorem w_c35 : (Jvm.Cond.code ({ cls := "java/lang/StringUTF16", name := "indexOfCharUnsafe", desc := "([BIII)I" } : Jvm.MethodName) jdk_52_method_48_code (5 : Nat) (Option.some Jvm.ClassFile.FieldType.int)).before args0 about1 = true := code_word (m := ⟨11, 12⟩) (meth := k11m12) (c := k11c12) (by decide +kernel) rfl rfl rfl (by decide +kernel)
def codes1 : List Jvm.Cond := [Jvm.Cond.code x code maxLocals ret, Jvm.Cond.code ({ cls := "com/example/regent/regent/InputTextPinLaw", name := "nz", desc := "(I)C" } : Jvm.MethodName) method_2_code (1 : Nat) (Option.some Jvm.ClassFile.FieldType.char), Jvm.Cond.code ({ cls := "java/lang/String", name := "<init>", desc := "([C)V" } : Jvm.MethodName) jdk_42_method_3_code (2 : Nat) (Option.none : Option Jvm.ClassFile.FieldType), Jvm.Cond.code ({ cls := "java/lang/String", name := "<init>", desc := "([CIILjava/lang/Void;)V" } : Jvm.MethodName) jdk_42_method_149_code (6 : Nat) (Option.none : Option Jvm.ClassFile.FieldType), Jvm.Cond.code ({ cls := "java/lang/Object", name := "<init>", desc := "()V" } : Jvm.MethodName) object_method_1_code (1 : Nat) (Option.none : Option Jvm.ClassFile.FieldType), Jvm.Cond.code ({ cls := "java/lang/String", name := "valueOf", desc := "(C)Ljava/lang/String;" } : Jvm.MethodName) jdk_42_method_139_code (1 : Nat) (Option.some (Jvm.ClassFile.FieldType.object "java/lang/String")), Jvm.Cond.code ({ cls := "java/lang/StringLatin1", name := "canEncode", desc := "(C)Z" } : Jvm.MethodName) jdk_43_method_3_code (1 : Nat) (Option.some Jvm.ClassFile.FieldType.boolean), Jvm.Cond.code ({ cls := "java/lang/StringLatin1", name := "toBytes", desc := "(C)[B" } : Jvm.MethodName) jdk_43_method_46_code (1 : Nat) (Option.some (Jvm.ClassFile.FieldType.array Jvm.ClassFile.FieldType.byte)), Jvm.Cond.code ({ cls := "java/lang/String", name := "<init>", desc := "([BB)V" } : Jvm.MethodName) jdk_42_method_151_code (3 : Nat) (Option.none : Option Jvm.ClassFile.FieldType), Jvm.Cond.code ({ cls := "com/example/regent/regent/Input", name := "text", desc := "(Ljava/lang/String;Ljava/lang/String;)Ljava/lang/String;" } : Jvm.MethodName) prog_11_method_5_code (2 : Nat) (Option.some (Jvm.ClassFile.FieldType.object "java/lang/String")), Jvm.Cond.code ({ cls := "java/lang/String", name := "indexOf", desc := "(I)I" } : Jvm.MethodName) jdk_42_method_79_code (2 : Nat) (Option.some Jvm.ClassFile.FieldType.int), Jvm.Cond.code ({ cls := "java/lang/String", name := "indexOf", desc := "(II)I" } : Jvm.MethodName) jdk_42_method_80_code (3 : Nat) (Option.some Jvm.ClassFile.FieldType.int), Jvm.Cond.code ({ cls := "java/lang/String", name := "isLatin1", desc := "()Z" } : Jvm.MethodName) jdk_42_method_154_code (1 : Nat) (Option.some Jvm.ClassFile.FieldType.boolean), Jvm.Cond.code ({ cls := "java/lang/String", name := "length", desc := "()I" } : Jvm.MethodName) jdk_42_method_54_code (1 : Nat) (Option.some Jvm.ClassFile.FieldType.int), Jvm.Cond.code ({ cls := "java/lang/String", name := "coder", desc := "()B" } : Jvm.MethodName) jdk_42_method_152_code (1 : Nat) (Option.some Jvm.ClassFile.FieldType.byte), Jvm.Cond.code ({ cls := "java/lang/StringLatin1", name := "indexOf", desc := "([BIII)I" } : Jvm.MethodName) jdk_43_method_22_code (4 : Nat) (Option.some Jvm.ClassFile.FieldType.int), Jvm.Cond.code ({ cls := "java/lang/StringLatin1", name := "canEncode", desc := "(I)Z" } : Jvm.MethodName) jdk_43_method_4_code (1 : Nat) (Option.some Jvm.ClassFile.FieldType.boolean), Jvm.Cond.code ({ cls := "java/lang/Math", name := "max", desc := "(II)I" } : Jvm.MethodName) jdk_29_method_65_code (2 : Nat) (Option.some Jvm.ClassFile.FieldType.int), Jvm.Cond.code ({ cls := "java/lang/Math", name := "min", desc := "(II)I" } : Jvm.MethodName) jdk_29_method_69_code (2 : Nat) (Option.some Jvm.ClassFile.FieldType.int), Jvm.Cond.code ({ cls := "java/lang/String", name := "equals", desc := "(Ljava/lang/Object;)Z" } : Jvm.MethodName) jdk_42_method_66_code (3 : Nat) (Option.some Jvm.ClassFile.FieldType.boolean), Jvm.Cond.code ({ cls := "java/lang/StringUTF16", name := "compress", desc := "([CII)[B" } : Jvm.MethodName) jdk_52_method_16_code (6 : Nat) (Option.some (Jvm.ClassFile.FieldType.array Jvm.ClassFile.FieldType.byte)), Jvm.Cond.code ({ cls := "java/lang/StringUTF16", name := "compress", desc := "([CI[BII)I" } : Jvm.MethodName) jdk_52_method_21_code (7 : Nat) (Option.some Jvm.ClassFile.FieldType.int), Jvm.Cond.code ({ cls := "java/lang/StringUTF16", name := "coderFromArrayLen", desc := "([BI)B" } : Jvm.MethodName) jdk_52_method_15_code (2 : Nat) (Option.some Jvm.ClassFile.FieldType.byte), Jvm.Cond.code ({ cls := "java/lang/StringLatin1", name := "indexOfChar", desc := "([BIII)I" } : Jvm.MethodName) jdk_43_method_23_code (6 : Nat) (Option.some Jvm.ClassFile.FieldType.int), Jvm.Cond.code ({ cls := "java/lang/StringUTF16", name := "toBytes", desc := "([CII)[B" } : Jvm.MethodName) jdk_52_method_14_code (5 : Nat) (Option.some (Jvm.ClassFile.FieldType.array Jvm.ClassFile.FieldType.byte)), Jvm.Cond.code ({ cls := "java/lang/StringUTF16", name := "newBytesFor", desc := "(I)[B" } : Jvm.MethodName) jdk_52_method_2_code (1 : Nat) (Option.some (Jvm.ClassFile.FieldType.array Jvm.ClassFile.FieldType.byte)), Jvm.Cond.code ({ cls := "java/lang/StringUTF16", name := "newBytesLength", desc := "(I)I" } : Jvm.MethodName) jdk_52_method_3_code (1 : Nat) (Option.some Jvm.ClassFile.FieldType.int), Jvm.Cond.code ({ cls := "java/lang/StringUTF16", name := "putChar", desc := "([BII)V" } : Jvm.MethodName) jdk_52_method_4_code (3 : Nat) (Option.none : Option Jvm.ClassFile.FieldType), Jvm.Cond.code ({ cls := "java/lang/StringUTF16", name := "getChar", desc := "([BI)C" } : Jvm.MethodName) jdk_52_method_5_code (2 : Nat) (Option.some Jvm.ClassFile.FieldType.char), Jvm.Cond.code ({ cls := "java/lang/StringUTF16", name := "indexOf", desc := "([BIII)I" } : Jvm.MethodName) jdk_52_method_40_code (4 : Nat) (Option.some Jvm.ClassFile.FieldType.int), Jvm.Cond.code ({ cls := "java/lang/StringUTF16", name := "indexOfChar", desc := "([BIII)I" } : Jvm.MethodName) jdk_52_method_47_code (4 : Nat) (Option.some Jvm.ClassFile.FieldType.int), Jvm.Cond.code ({ cls := "java/lang/StringUTF16", name := "checkBoundsBeginEnd", desc := "(II[B)V" } : Jvm.MethodName) jdk_52_method_93_code (3 : Nat) (Option.none : Option Jvm.ClassFile.FieldType), Jvm.Cond.code ({ cls := "java/lang/StringUTF16", name := "length", desc := "([B)I" } : Jvm.MethodName) jdk_52_method_6_code (1 : Nat) (Option.some Jvm.ClassFile.FieldType.int), Jvm.Cond.code ({ cls := "java/lang/String", name := "checkBoundsBeginEnd", desc := "(III)V" } : Jvm.MethodName) jdk_42_method_158_code (3 : Nat) (Option.none : Option Jvm.ClassFile.FieldType), Jvm.Cond.code ({ cls := "jdk/internal/util/Preconditions", name := "checkFromToIndex", desc := "(IIILjava/util/function/BiFunction;)I" } : Jvm.MethodName) jdk_41_method_12_code (4 : Nat) (Option.some Jvm.ClassFile.FieldType.int), Jvm.Cond.code ({ cls := "java/lang/StringUTF16", name := "indexOfCharUnsafe", desc := "([BIII)I" } : Jvm.MethodName) jdk_52_method_48_code (5 : Nat) (Option.some Jvm.ClassFile.FieldType.int)]
set_option maxRecDepth 65536 in
theorem codes_eq : words1.filter isCode = codes1 := rfl
theorem w_codes : ∀ c ∈ words1.filter isCode, c.before args0 about1 = true := by
  rw [codes_eq]
  intro c hc
  simp only [codes1, List.mem_cons, List.not_mem_nil, or_false] at hc
  rcases hc with rfl | rfl | rfl | rfl | rfl | rfl | rfl | rfl | rfl | rfl | rfl | rfl | rfl | rfl | rfl | rfl | rfl | rfl | rfl | rfl | rfl | rfl | rfl | rfl | rfl | rfl | rfl | rfl | rfl | rfl | rfl | rfl | rfl | rfl | rfl | rfl
  · exact w_c0
  · exact w_c1
  · exact w_c2
  · exact w_c3
  · exact w_c4
  · exact w_c5
  · exact w_c6
  · exact w_c7
  · exact w_c8
  · exact w_c9
  · exact w_c10
  · exact w_c11
  · exact w_c12
  · exact w_c13
  · exact w_c14
  · exact w_c15
  · exact w_c16
  · exact w_c17
  · exact w_c18
  · exact w_c19
  · exact w_c20
  · exact w_c21
  · exact w_c22
  · exact w_c23
  · exact w_c24
  · exact w_c25
  · exact w_c26
  · exact w_c27
  · exact w_c28
  · exact w_c29
  · exact w_c30
  · exact w_c31
  · exact w_c32
  · exact w_c33
  · exact w_c34
  · exact w_c35
set_option maxRecDepth 65536 in
theorem w_t1 : (words1.take 24).all (fun c => isCode c || c.before args0 about1) = true := by decide +kernel
set_option maxRecDepth 65536 in
theorem w_t2 : ((words1.drop 24).take 24).all (fun c => isCode c || c.before args0 about1) = true := by decide +kernel
set_option maxRecDepth 65536 in
theorem w_t3 : (((words1.drop 24).drop 24).take 24).all (fun c => isCode c || c.before args0 about1) = true := by decide +kernel
set_option maxRecDepth 65536 in
theorem w_t4 : ((((words1.drop 24).drop 24).drop 24).take 24).all (fun c => isCode c || c.before args0 about1) = true := by decide +kernel
set_option maxRecDepth 65536 in
theorem w_t5 : (((((words1.drop 24).drop 24).drop 24).drop 24).take 24).all (fun c => isCode c || c.before args0 about1) = true := by decide +kernel
set_option maxRecDepth 65536 in
theorem w_t6 : ((((((words1.drop 24).drop 24).drop 24).drop 24).drop 24).take 24).all (fun c => isCode c || c.before args0 about1) = true := by decide +kernel
set_option maxRecDepth 65536 in
theorem w_t7 : ((((((words1.drop 24).drop 24).drop 24).drop 24).drop 24).drop 24).all (fun c => isCode c || c.before args0 about1) = true := by decide +kernel
theorem w_tables : (allAtoms (Jvm.Cond.code x code maxLocals ret :: tables_1)).before args0 about1 = true := by
  rw [allAtoms_all]
  show words1.all (fun c => c.before args0 about1) = true
  refine all_split ?_ w_codes
  rw [← List.take_append_drop 24 words1, List.all_append, w_t1, ← List.take_append_drop 24 (words1.drop 24), List.all_append, w_t2, ← List.take_append_drop 24 ((words1.drop 24).drop 24), List.all_append, w_t3, ← List.take_append_drop 24 (((words1.drop 24).drop 24).drop 24), List.all_append, w_t4, ← List.take_append_drop 24 ((((words1.drop 24).drop 24).drop 24).drop 24), List.all_append, w_t5, ← List.take_append_drop 24 (((((words1.drop 24).drop 24).drop 24).drop 24).drop 24), List.all_append, w_t6, w_t7]
  rfl
set_option maxRecDepth 65536 in
theorem w_rest : rest_1_c.before args0 about1 = true := by decide +kernel
set_option maxRecDepth 65536 in
theorem w_case : (Jvm.Cond.and given_1 narrow_1).before args0 about1 = true := by decide +kernel
set_option maxRecDepth 65536 in
theorem w_consts : constsHeld consts_1 about1 := Jvm.Lit.constsHeldB_iff.mp (by decide +kernel)
theorem w_applies : (headSpec (Jvm.Cond.code x code maxLocals ret :: tables_1) room_1).applies x e0.platform about1 = true :=
  (Spec.applies_iff w_frames).mpr ⟨w_running, w_runnable, w_alone, w_named, w_hears, w_ripe, w_room, w_tables⟩
theorem atStart : AtStart classFile x code maxLocals ret World_1 tables_1 room_1 Calls_1 rest_1 Pre_1 launch0 p0 e0 about1 theMethod args0 below0 :=
  ⟨lists_1, trivial, launch0.admits_env _ _ _, launch0.least_env, fairChoices_fair.cas, fairChoices_fair.clock, w_frames, w_args, w_heap, w_applies, ⟨w_consts, trivial⟩, w_rest, w_case⟩
end start1
theorem witness_1 : WitnessClaimed_1 := ⟨start1.p0, start1.e0, start1.about1, start1.theMethod, start1.args0, start1.below0, start1.atStart⟩
end Jvm.Pilot.@@N@@
