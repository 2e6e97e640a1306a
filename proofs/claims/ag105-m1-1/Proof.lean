import JvmDerived
import JvmDerived.Pilot.@@N@@Statement
import JvmDerived.Pilot.@@N@@Code
set_option linter.unusedVariables false
set_option linter.unusedSimpArgs false
/- laws to paste: Road.backV, Road.eqW, Road.codOf (cut by pick.py; bodies as the Statement names them) -/
namespace Jvm.Pilot.@@N@@
namespace StrChars
open Jvm Sem ClassFile Op Lib Jvm.Stand Jvm.Free.XT Jvm.Free.ALB Jvm.Free.JM Jvm.Free
open Jvm.Lib.Cold (StaticIs)
/-- a char array whose places are chars -/
def Ch (a : Addr) (A : Cell) (U : State) : Prop := Arr .char a A U ∧ Typed .char A
theorem Ch.mv {a : Addr} {A : Cell} {U U' : State} (h : Ch a A U) (hal : U.vm.Alike U'.vm) (hh : U'.heap = U.heap) : Ch a A U' := ⟨h.1.mv hal hh, h.2⟩
theorem Ch.keep {a : Addr} {A : Cell} {U U' : State} (h : Ch a A U) (hal : U.vm.Alike U'.vm) (hk : U'.heap[a]? = some A) : Ch a A U' := ⟨h.1.keep hal hk, h.2⟩
/-- what place i of a char[]'s cell holds -/
def cv (A : Cell) (i : Nat) : Int32 := match A.slots[i]? with | some (.int x) => x | _ => 0
theorem Ch.get {a : Addr} {A : Cell} {U : State} (h : Ch a A U) {i : Nat} (hi : i < A.slots.size) : A.slots[i]? = some (.int (cv A i)) := by
  have e := Array.getElem?_eq_getElem hi
  have f := h.2 i _ e
  unfold cv; rw [e]
  generalize A.slots[i] = v at f
  cases v <;> simp [fits] at f ⊢
/-- the byte that i2b leaves of a char -/
def lo8 (x : Int32) : Int32 := x.toInt8.toInt32
theorem fits_lo8 (y : Int32) : fits .byte (.int (lo8 y)) = true := by
  have h1 := y.toInt8.le_toInt
  have h2 := y.toInt8.toInt_lt
  simp only [lo8, fits, Bool.and_eq_true, decide_eq_true_eq, Int32.le_iff_toInt_le, Int8.toInt_toInt32, show (-128 : Int32).toInt = -128 from by decide, show (127 : Int32).toInt = 127 from by decide]
  omega
/-- A' is A but that each place j of lo .. hi - 1 holds f j -/
def Laid (A A' : Cell) (lo hi : Nat) (f : Nat → Value) : Prop := A'.cls = A.cls ∧ A'.vm = A.vm ∧ A'.slots.size = A.slots.size ∧ ∀ i, A'.slots[i]? = if lo ≤ i ∧ i < hi then some (f i) else A.slots[i]?
theorem Laid.zero (A : Cell) (lo : Nat) (f : Nat → Value) : Laid A A lo (lo + 0) f := ⟨rfl, rfl, rfl, fun i => by rw [if_neg (by omega)]⟩
theorem Laid.step {A Ak : Cell} {lo k : Nat} {f : Nat → Value} {v : Value} (h : Laid A Ak lo k f) (hlo : lo ≤ k) (hk : k < Ak.slots.size) (hv : v = f k) : Laid A (Ak.setSlot k v) lo (k + 1) f := by
  refine ⟨h.1, h.2.1, by simpa [Cell.setSlot] using h.2.2.1, fun i => ?_⟩
  by_cases e : k = i
  · subst e; rw [Cell.slots_setSlot_self v hk, if_pos (by omega), hv]
  · rw [Cell.slots_setSlot_ne v e, h.2.2.2 i]
    by_cases q : lo ≤ i ∧ i < k
    · rw [if_pos q, if_pos (by omega)]
    · rw [if_neg q, if_neg (by omega)]
def U16 : String := "java/lang/StringUTF16"
namespace Cmp5
def yN : MethodName := ⟨"java/lang/StringUTF16", "compress", "([CI[BII)I"⟩
abbrev yB : ByteArray := jdk_52_method_21_code
theorem d0 : decode yB 0 = .ok (.iconst 0, 1) := by decide +kernel
theorem d1 : decode yB 1 = .ok (.istore 5, 2) := by decide +kernel
theorem d3 : decode yB 3 = .ok (.iload 5, 2) := by decide +kernel
theorem d5 : decode yB 5 = .ok (.iload 4, 2) := by decide +kernel
theorem d7 : decode yB 7 = .ok (.if_icmp (.ge) 37, 3) := by decide +kernel
theorem d10 : decode yB 10 = .ok (.aload_n 0, 1) := by decide +kernel
theorem d11 : decode yB 11 = .ok (.iload_n 1, 1) := by decide +kernel
theorem d12 : decode yB 12 = .ok (.caload, 1) := by decide +kernel
theorem d13 : decode yB 13 = .ok (.istore 6, 2) := by decide +kernel
theorem d15 : decode yB 15 = .ok (.iload 6, 2) := by decide +kernel
theorem d17 : decode yB 17 = .ok (.sipush 255, 3) := by decide +kernel
theorem d20 : decode yB 20 = .ok (.if_icmp (.le) 6, 3) := by decide +kernel
theorem d26 : decode yB 26 = .ok (.aload_n 2, 1) := by decide +kernel
theorem d27 : decode yB 27 = .ok (.iload_n 3, 1) := by decide +kernel
theorem d28 : decode yB 28 = .ok (.iload 6, 2) := by decide +kernel
theorem d30 : decode yB 30 = .ok (.i2b, 1) := by decide +kernel
theorem d31 : decode yB 31 = .ok (.bastore, 1) := by decide +kernel
theorem d32 : decode yB 32 = .ok (.iinc 1 1, 3) := by decide +kernel
theorem d35 : decode yB 35 = .ok (.iinc 3 1, 3) := by decide +kernel
theorem d38 : decode yB 38 = .ok (.iinc 5 1, 3) := by decide +kernel
theorem d41 : decode yB 41 = .ok (.goto (-38), 3) := by decide +kernel
theorem d44 : decode yB 44 = .ok (.iload 4, 2) := by decide +kernel
theorem d46 : decode yB 46 = .ok (.ireturn, 1) := by decide +kernel
def site : List Cond := []
def tab : Cond := tabOf yN yB 7 (some .int) site
def P (b : Addr) (A : Cell) (d : Addr) (B : Cell) (o q len : Nat) (args : Array Value) (s : State) : Prop := args = #[.ref b, .int (Int32.ofNat o), .ref d, .int (Int32.ofNat q), .int (Int32.ofNat len)] ∧ Ch b A s ∧ Arr .byte d B s ∧ b ≠ d ∧ o + len ≤ A.slots.size ∧ q + len ≤ B.slots.size ∧ ∀ i, i < len → ¬ 255 < cv A (o + i)
def E (b : Addr) (A : Cell) (d : Addr) (B : Cell) (o q len : Nat) (r : Option Value) (s u : State) : Prop := r = some (.int (Int32.ofNat len)) ∧ ∃ B', Put d B' s u ∧ Laid B B' q (q + len) (fun j => Value.int (lo8 (cv A (o + (j - q)))))
/-- no char of the range above 255: len; the places written hold each char's low byte -/
theorem law (l : Launch) (b : Addr) (A : Cell) (d : Addr) (B : Cell) (o q len : Nat) : Law l yN 5 5 0 0 yB 7 (some .int) site (P b A d B o q len) (E b A d B o q len) (copyLocs d q len) 0 0 := by
  refine Law.of_walk (plainFor_of_name (by decide +kernel)) (by decide +kernel) (by decide +kernel) (by decide) (fun _ _ h => by rw [h.1]; rfl) (fun _ U U' hal hh h => ⟨h.1, h.2.1.mv hal hh, h.2.2.1.mv hal hh, h.2.2.2⟩) (fun r U U' V V' h1 hal h2 h => ⟨h.1, h.2.elim fun B' q => ⟨B', q.1.mv h1 h2, q.2⟩⟩) ?_
  intro p e s m args below meth c s₁ X0 hexec hbytes hml hret hlk hnm hown hh0 W hP
  obtain ⟨rfl, hA, hB, hne, l1, l2, hp⟩ := hP
  have c1 : Steps p.tables e below (s₁.setTop (entryFrame m #[.ref b, .int (Int32.ofNat o), .ref d, .int (Int32.ofNat q), .int (Int32.ofNat len)] 7)) (s₁.setTop (mkF m 0 #[.val (.ref b), .val (.int (Int32.ofNat o)), .val (.ref d), .val (.int (Int32.ofNat q)), .val (.int (Int32.ofNat len)), .unset, .unset] [])) := entry rfl
  have hA0 := hA.1.mv X0.warmed.alike hh0
  have hB0 := hB.mv X0.warmed.alike hh0
  have a31 := hA.1.2.2.2
  have c2 : Steps p.tables e below (s₁.setTop (entryFrame m #[.ref b, .int (Int32.ofNat o), .ref d, .int (Int32.ofNat q), .int (Int32.ofNat len)] 7)) (s₁.setTop (mkF m 3 #[.val (.ref b), .val (.int (Int32.ofNat o)), .val (.ref d), .val (.int (Int32.ofNat q)), .val (.int (Int32.ofNat len)), .val (.int 0), .unset] [])) := c1.trans (by
    refine iconstV X0.here hexec rfl 0 (hb hbytes d0) (by decide) ?_
    refine XS.istore X0.here hexec rfl (hb hbytes d1) rfl rfl ?_
    exact Steps.refl _)
  have loop : ∀ (r i : Nat), i + r = len → ∀ (z : Slot), (z = .unset ∨ ∃ w, z = .val w ∧ w.category = 1) → ∀ (Tl : State) (Bk : Cell), Stand p l e { frames := 0, locals := 0, cells := 0, slots := 0 } s m #[.ref b, .int (Int32.ofNat o), .ref d, .int (Int32.ofNat q), .int (Int32.ofNat len)] below meth c Tl ([] ++ copyLocs d q i) 0 0 → Put d Bk s₁ Tl → Laid B Bk q (q + i) (fun j => Value.int (lo8 (cv A (o + (j - q))))) →
      Steps p.tables e below (s₁.setTop (entryFrame m #[.ref b, .int (Int32.ofNat o), .ref d, .int (Int32.ofNat q), .int (Int32.ofNat len)] 7)) (Tl.setTop (mkF m 3 #[.val (.ref b), .val (.int (Int32.ofNat (o + i))), .val (.ref d), .val (.int (Int32.ofNat (q + i))), .val (.int (Int32.ofNat len)), .val (.int (Int32.ofNat i)), z] [])) → ∃ (T' : State) (B' : Cell) (z' : Slot), Stand p l e { frames := 0, locals := 0, cells := 0, slots := 0 } s m #[.ref b, .int (Int32.ofNat o), .ref d, .int (Int32.ofNat q), .int (Int32.ofNat len)] below meth c T' ([] ++ copyLocs d q len) 0 0 ∧ Put d B' s₁ T' ∧ Laid B B' q (q + len) (fun j => Value.int (lo8 (cv A (o + (j - q))))) ∧
      Steps p.tables e below (s₁.setTop (entryFrame m #[.ref b, .int (Int32.ofNat o), .ref d, .int (Int32.ofNat q), .int (Int32.ofNat len)] 7)) (T'.setTop (mkF m 3 #[.val (.ref b), .val (.int (Int32.ofNat (o + len))), .val (.ref d), .val (.int (Int32.ofNat (q + len))), .val (.int (Int32.ofNat len)), .val (.int (Int32.ofNat len)), z'] [])) := by
    intro r
    induction r with
    | zero =>
      intro i hi z hz Tl Bk Xl pl fl cl
      have hil : i = len := by omega
      rw [hil] at Xl fl cl
      exact ⟨Tl, Bk, z, Xl, pl, fl, cl⟩
    | succ r ih =>
      intro i hi z hz Tl Bk Xl pl fl cl
      have all := X0.warmed.alike.symm.trans Xl.warmed.alike
      have hAl := hA0.keep all (pl.other hne hA0.1)
      have hBk := hB0.like all pl.1 fl.1 fl.2.1 fl.2.2.1
      have hlt : q + i < Bk.slots.size := by rw [fl.2.2.1]; omega
      have c3 : Steps p.tables e below (s₁.setTop (entryFrame m #[.ref b, .int (Int32.ofNat o), .ref d, .int (Int32.ofNat q), .int (Int32.ofNat len)] 7)) (Tl.setTop (mkF m 12 #[.val (.ref b), .val (.int (Int32.ofNat (o + i))), .val (.ref d), .val (.int (Int32.ofNat (q + i))), .val (.int (Int32.ofNat len)), .val (.int (Int32.ofNat i)), z] [.int (Int32.ofNat (o + i)), .ref b])) := cl.trans (by
        refine XS.iload Xl.here hexec rfl (hb hbytes d3) rfl ?_
        refine XS.iload Xl.here hexec rfl (hb hbytes d5) rfl ?_
        refine XS.icmpNo Xl.here hexec rfl (hb hbytes d7) rfl (ii_ge_f (lt32 (by omega) (by omega))) ?_
        refine XS.aloadN Xl.here hexec rfl (hb hbytes d10) rfl rfl ?_
        refine XS.iloadN Xl.here hexec rfl (hb hbytes d11) rfl ?_
        exact Steps.refl _)
      have c4 : Steps p.tables e below (s₁.setTop (entryFrame m #[.ref b, .int (Int32.ofNat o), .ref d, .int (Int32.ofNat q), .int (Int32.ofNat len)] 7)) (Tl.setTop (mkF m 13 #[.val (.ref b), .val (.int (Int32.ofNat (o + i))), .val (.ref d), .val (.int (Int32.ofNat (q + i))), .val (.int (Int32.ofNat len)), .val (.int (Int32.ofNat i)), z] [.int (cv A (o + i))])) := c3.trans (by
        refine Xl.aget hexec hAl rfl (hA.get (i := o + i) (by omega)) rfl rfl (hb hbytes d12) ?_
        exact Steps.refl _)
      have c5 : Steps p.tables e below (s₁.setTop (entryFrame m #[.ref b, .int (Int32.ofNat o), .ref d, .int (Int32.ofNat q), .int (Int32.ofNat len)] 7)) (Tl.setTop (mkF m 15 #[.val (.ref b), .val (.int (Int32.ofNat (o + i))), .val (.ref d), .val (.int (Int32.ofNat (q + i))), .val (.int (Int32.ofNat len)), .val (.int (Int32.ofNat i)), .val (.int (cv A (o + i)))] [])) := c4.trans (by
        refine XS.istoreS Xl.here hexec rfl (hb hbytes d13) rfl rfl hz ?_
        exact Steps.refl _)
      have c6 : Steps p.tables e below (s₁.setTop (entryFrame m #[.ref b, .int (Int32.ofNat o), .ref d, .int (Int32.ofNat q), .int (Int32.ofNat len)] 7)) (Tl.setTop (mkF m 31 #[.val (.ref b), .val (.int (Int32.ofNat (o + i))), .val (.ref d), .val (.int (Int32.ofNat (q + i))), .val (.int (Int32.ofNat len)), .val (.int (Int32.ofNat i)), .val (.int (cv A (o + i)))] [.int (lo8 (cv A (o + i))), .int (Int32.ofNat (q + i)), .ref d])) := c5.trans (by
        refine XS.iload Xl.here hexec rfl (hb hbytes d15) rfl ?_
        refine sipushV Xl.here hexec rfl 255 (hb hbytes d17) (by decide) ?_
        refine XS.icmpYes Xl.here hexec rfl (pc0 := 20) rfl (hb hbytes d20) rfl (ii_le_t (hp i (by omega))) (by decide) rfl ?_
        refine XS.aloadN Xl.here hexec rfl (hb hbytes d26) rfl rfl ?_
        refine XS.iloadN Xl.here hexec rfl (hb hbytes d27) rfl ?_
        refine XS.iload Xl.here hexec rfl (hb hbytes d28) rfl ?_
        refine i2b Xl.here hexec rfl (hb hbytes d30) rfl ?_
        exact Steps.refl _)
      obtain ⟨T7, X7, p7, st7⟩ := Xl.aput hexec hBk rfl hlt rfl (fits_lo8 (cv A (o + i))) (g := (mkF m 31 #[.val (.ref b), .val (.int (Int32.ofNat (o + i))), .val (.ref d), .val (.int (Int32.ofNat (q + i))), .val (.int (Int32.ofNat len)), .val (.int (Int32.ofNat i)), .val (.int (cv A (o + i)))] [.int (lo8 (cv A (o + i))), .int (Int32.ofNat (q + i)), .ref d])) rfl (rest := []) rfl (hb hbytes d31)
      have c8 : Steps p.tables e below (s₁.setTop (entryFrame m #[.ref b, .int (Int32.ofNat o), .ref d, .int (Int32.ofNat q), .int (Int32.ofNat len)] 7)) (T7.setTop (mkF m 32 #[.val (.ref b), .val (.int (Int32.ofNat (o + i))), .val (.ref d), .val (.int (Int32.ofNat (q + i))), .val (.int (Int32.ofNat len)), .val (.int (Int32.ofNat i)), .val (.int (cv A (o + i)))] [])) := c6.trans (st7 _ (Steps.refl _))
      have c9 : Steps p.tables e below (s₁.setTop (entryFrame m #[.ref b, .int (Int32.ofNat o), .ref d, .int (Int32.ofNat q), .int (Int32.ofNat len)] 7)) (T7.setTop (mkF m 3 #[.val (.ref b), .val (.int (Int32.ofNat (o + i) + 1)), .val (.ref d), .val (.int (Int32.ofNat (q + i) + 1)), .val (.int (Int32.ofNat len)), .val (.int (Int32.ofNat i + 1)), .val (.int (cv A (o + i)))] [])) := c8.trans (by
        refine iincV X7.here hexec rfl 1 (hb hbytes d32) (by decide) rfl rfl ?_
        refine iincV X7.here hexec rfl 1 (hb hbytes d35) (by decide) rfl rfl ?_
        refine iincV X7.here hexec rfl 1 (hb hbytes d38) (by decide) rfl rfl ?_
        refine XS.goto X7.here hexec rfl (pc0 := 41) rfl (hb hbytes d41) (by decide) rfl ?_
        exact Steps.refl _)
      have c10 : Steps p.tables e below (s₁.setTop (entryFrame m #[.ref b, .int (Int32.ofNat o), .ref d, .int (Int32.ofNat q), .int (Int32.ofNat len)] 7)) (T7.setTop (mkF m 3 #[.val (.ref b), .val (.int (Int32.ofNat (o + (i + 1)))), .val (.ref d), .val (.int (Int32.ofNat (q + (i + 1)))), .val (.int (Int32.ofNat len)), .val (.int (Int32.ofNat (i + 1))), .val (.int (cv A (o + i)))] [])) := by
        have := c9
        rw [succ32, succ32, succ32] at this
        exact this
      exact ih (i + 1) (by omega) _ (Or.inr ⟨_, rfl, rfl⟩) T7 _ (by rw [copyLocs_step, ← List.append_assoc]; exact X7) (pl.trans p7) (fl.step (by omega) hlt (by simp)) c10
  obtain ⟨T9, B9, z9, X9, p9, f9, g9⟩ := loop len 0 (by omega) .unset (Or.inl rfl) s₁ B (by simpa [copyLocs] using X0) ⟨hB0.1, fun _ _ => rfl, rfl⟩ (Laid.zero _ _ _) c2
  have c11 : Steps p.tables e below (s₁.setTop (entryFrame m #[.ref b, .int (Int32.ofNat o), .ref d, .int (Int32.ofNat q), .int (Int32.ofNat len)] 7)) (T9.setTop (mkF m 46 #[.val (.ref b), .val (.int (Int32.ofNat (o + len))), .val (.ref d), .val (.int (Int32.ofNat (q + len))), .val (.int (Int32.ofNat len)), .val (.int (Int32.ofNat len)), z9] [.int (Int32.ofNat len)])) := g9.trans (by
    refine XS.iload X9.here hexec rfl (hb hbytes d3) rfl ?_
    refine XS.iload X9.here hexec rfl (hb hbytes d5) rfl ?_
    refine XS.icmpYes X9.here hexec rfl (pc0 := 7) rfl (hb hbytes d7) rfl (ii_ge_t (nlt32 (by omega) (Nat.le_refl _))) (by decide) rfl ?_
    refine XS.iload X9.here hexec rfl (hb hbytes d44) rfl ?_
    exact Steps.refl _)
  exact ⟨T9, some (.int (Int32.ofNat len)), _, _, _, X9, by simp, rfl, rfl, (fun h => by cases h), ⟨rfl, B9, p9.from hh0, f9⟩, fun fs hl => c11.trans (X9.ireturnOut hexec hret rfl (Or.inl rfl) (hb hbytes d46) hl)⟩
end Cmp5
namespace Cmp3
def yN : MethodName := ⟨"java/lang/StringUTF16", "compress", "([CII)[B"⟩
abbrev yB : ByteArray := jdk_52_method_16_code
theorem d0 : decode yB 0 = .ok (.iload_n 2, 1) := by decide +kernel
theorem d1 : decode yB 1 = .ok (.newarray .byte, 2) := by decide +kernel
theorem d3 : decode yB 3 = .ok (.astore_n 3, 1) := by decide +kernel
theorem d4 : decode yB 4 = .ok (.aload_n 0, 1) := by decide +kernel
theorem d5 : decode yB 5 = .ok (.iload_n 1, 1) := by decide +kernel
theorem d6 : decode yB 6 = .ok (.aload_n 3, 1) := by decide +kernel
theorem d7 : decode yB 7 = .ok (.iconst 0, 1) := by decide +kernel
theorem d8 : decode yB 8 = .ok (.iload_n 2, 1) := by decide +kernel
theorem d9 : decode yB 9 = .ok (.invokestatic 115, 3) := by decide +kernel
theorem d12 : decode yB 12 = .ok (.istore 4, 2) := by decide +kernel
theorem d14 : decode yB 14 = .ok (.iload 4, 2) := by decide +kernel
theorem d16 : decode yB 16 = .ok (.iload_n 2, 1) := by decide +kernel
theorem d17 : decode yB 17 = .ok (.if_icmp (.eq) 40, 3) := by decide +kernel
theorem d57 : decode yB 57 = .ok (.aload_n 3, 1) := by decide +kernel
theorem d58 : decode yB 58 = .ok (.areturn, 1) := by decide +kernel
def site : List Cond := [.arrayClass .byte, Cmp5.tab] ++ staticW U16 115 Cmp5.yN
def tab : Cond := tabOf yN yB 6 (some (.array .byte)) site
def P (b : Addr) (A : Cell) (o len : Nat) (args : Array Value) (s : State) : Prop := args = #[.ref b, .int (Int32.ofNat o), .int (Int32.ofNat len)] ∧ Ch b A s ∧ o + len ≤ A.slots.size ∧ len ≤ 536870912 ∧ ∀ i, i < len → ¬ 255 < cv A (o + i)
def E (b : Addr) (A : Cell) (o len : Nat) (r : Option Value) (s u : State) : Prop := NewArr .byte "[B" len (fun j => .int (lo8 (cv A (o + j)))) r s u ∧ u.heap.size = s.heap.size + 1
/-- no char of the range above 255: a new byte[] of their low bytes -/
theorem law (l : Launch) (b : Addr) (A : Cell) (o len : Nat) : Law l yN 3 3 1 18 yB 6 (some (.array .byte)) site (P b A o len) (E b A o len) [] 1 len := by
  refine Law.of_walk (plainFor_of_name (by decide +kernel)) (by decide +kernel) (by decide +kernel) (by decide) (fun _ _ h => by rw [h.1]; rfl) (fun _ U U' hal hh h => ⟨h.1, h.2.1.mv hal hh, h.2.2⟩) (fun r U U' V V' h1 hal h2 h => ⟨NewArr.mv r U U' V V' h1 hal h2 h.1, by rw [h1, h2]; exact h.2⟩) ?_
  intro p e s m args below meth c s₁ X0 hexec hbytes hml hret hlk hnm hown hh0 W hP
  obtain ⟨rfl, hA, l1, l2, hp⟩ := hP
  have a31 := hA.1.2.2.2
  have c1 : Steps p.tables e below (s₁.setTop (entryFrame m #[.ref b, .int (Int32.ofNat o), .int (Int32.ofNat len)] 6)) (s₁.setTop (mkF m 0 #[.val (.ref b), .val (.int (Int32.ofNat o)), .val (.int (Int32.ofNat len)), .unset, .unset, .unset] [])) := entry rfl
  have c2 : Steps p.tables e below (s₁.setTop (entryFrame m #[.ref b, .int (Int32.ofNat o), .int (Int32.ofNat len)] 6)) (s₁.setTop (mkF m 1 #[.val (.ref b), .val (.int (Int32.ofNat o)), .val (.int (Int32.ofNat len)), .unset, .unset, .unset] [.int (Int32.ofNat len)])) := c1.trans (by
    refine XS.iloadN X0.here hexec rfl (hb hbytes d0) rfl ?_
    exact Steps.refl _)
  obtain ⟨T3, B3, X3, ba3, bs3, bv3, bh3, bf3, st3⟩ := X0.anew hexec (atype := .byte) (wk W (.arrayClass .byte)) rfl (by show len * 1 ≤ _; omega) (by omega) (g := (mkF m 1 #[.val (.ref b), .val (.int (Int32.ofNat o)), .val (.int (Int32.ofNat len)), .unset, .unset, .unset] [.int (Int32.ofNat len)])) rfl (hb hbytes d1) (rest := []) rfl (Nat.le_refl _) (by show 0 + len ≤ len; omega)
  rw [hh0] at ba3 st3
  have kp3 : XT.Kept s T3 := (XT.Kept.of_eq hh0).push bh3
  have hA3 := hA.keep X3.warmed.alike (kp3 _ _ hA.1.1)
  have hne : b ≠ s.heap.size := hA.1.ne
  have c4 : Steps p.tables e below (s₁.setTop (entryFrame m #[.ref b, .int (Int32.ofNat o), .int (Int32.ofNat len)] 6)) (T3.setTop (mkF m 3 #[.val (.ref b), .val (.int (Int32.ofNat o)), .val (.int (Int32.ofNat len)), .unset, .unset, .unset] [.ref s.heap.size])) := c2.trans (st3 _ (Steps.refl _))
  have c5 : Steps p.tables e below (s₁.setTop (entryFrame m #[.ref b, .int (Int32.ofNat o), .int (Int32.ofNat len)] 6)) (T3.setTop (mkF m 9 #[.val (.ref b), .val (.int (Int32.ofNat o)), .val (.int (Int32.ofNat len)), .val (.ref s.heap.size), .unset, .unset] [.int (Int32.ofNat len), .int 0, .ref s.heap.size, .int (Int32.ofNat o), .ref b])) := c4.trans (by
    refine XS.astoreN X3.here hexec rfl (hb hbytes d3) rfl rfl rfl ?_
    refine XS.aloadN X3.here hexec rfl (hb hbytes d4) rfl rfl ?_
    refine XS.iloadN X3.here hexec rfl (hb hbytes d5) rfl ?_
    refine XS.aloadN X3.here hexec rfl (hb hbytes d6) rfl rfl ?_
    refine iconstV X3.here hexec rfl 0 (hb hbytes d7) (by decide) ?_
    refine XS.iloadN X3.here hexec rfl (hb hbytes d8) rfl ?_
    exact Steps.refl _)
  obtain ⟨v6, T6, X6, E6, g6⟩ := X3.callS hexec (Cmp5.law l b A s.heap.size B3 o 0 len) hown (wks W (staticW U16 115 Cmp5.yN)) (wk W Cmp5.tab) (W := 0) (Nat.le_of_ble_eq_true rfl) (Nat.le_of_ble_eq_true rfl) (Nat.le_refl _) (by show 0 + len + 0 ≤ len; omega) (g := (mkF m 9 #[.val (.ref b), .val (.int (Int32.ofNat o)), .val (.int (Int32.ofNat len)), .val (.ref s.heap.size), .unset, .unset] [.int (Int32.ofNat len), .int (Int32.ofNat 0), .ref s.heap.size, .int (Int32.ofNat o), .ref b])) rfl (by rw [hml]; rfl) c5 (argsL := [.ref b, .int (Int32.ofNat o), .ref s.heap.size, .int (Int32.ofNat 0), .int (Int32.ofNat len)]) (rest := []) rfl rfl (by show 2 * 0 + 0 ≤ _; decide) (hb hbytes d9) (⟨rfl, hA3, ba3, hne, l1, by rw [bs3]; simp, hp⟩)
  obtain ⟨rfl, B6, p6, f6⟩ := E6
  have c7 : Steps p.tables e below (s₁.setTop (entryFrame m #[.ref b, .int (Int32.ofNat o), .int (Int32.ofNat len)] 6)) (T6.setTop (mkF m 12 #[.val (.ref b), .val (.int (Int32.ofNat o)), .val (.int (Int32.ofNat len)), .val (.ref s.heap.size), .unset, .unset] [.int (Int32.ofNat len)])) := g6
  have c8 : Steps p.tables e below (s₁.setTop (entryFrame m #[.ref b, .int (Int32.ofNat o), .int (Int32.ofNat len)] 6)) (T6.setTop (mkF m 58 #[.val (.ref b), .val (.int (Int32.ofNat o)), .val (.int (Int32.ofNat len)), .val (.ref s.heap.size), .val (.int (Int32.ofNat len)), .unset] [.ref s.heap.size])) := c7.trans (by
    refine XS.istore X6.here hexec rfl (hb hbytes d12) rfl rfl ?_
    refine XS.iload X6.here hexec rfl (hb hbytes d14) rfl ?_
    refine XS.iloadN X6.here hexec rfl (hb hbytes d16) rfl ?_
    refine XS.icmpYes X6.here hexec rfl (pc0 := 17) rfl (hb hbytes d17) rfl (ii_eq_t rfl) (by decide) rfl ?_
    refine XS.aloadN X6.here hexec rfl (hb hbytes d57) rfl rfl ?_
    exact Steps.refl _)
  have X8 := X6.wide (L' := []) (cells' := 1) (slots' := len) (fun x hx hlt => by
    simp only [List.nil_append, copyLocs, List.mem_map, List.mem_range] at hx
    obtain ⟨i, -, rfl⟩ := hx
    exact absurd hlt (Nat.lt_irrefl _)) (Nat.le_refl _) (by omega)
  exact ⟨T6, some (.ref s.heap.size), _, _, _, X8, rfl, rfl, rfl, (fun h => by cases h), ⟨⟨rfl, B6, ba3.like (X3.warmed.alike.symm.trans X6.warmed.alike) p6.1 f6.1 f6.2.1 f6.2.2.1, f6.2.1.trans bv3, by rw [X6.warmed.alike.findClass, f6.1]; exact bf3, by rw [f6.2.2.1, bs3]; simp, fun j hj => by rw [f6.2.2.2 j, if_pos (by omega)]; rfl, kp3.put p6 (Nat.le_refl _)⟩, by rw [p6.2.2, bh3, hh0]; simp⟩, fun fs hl => c8.trans (X8.areturnOut hexec rfl hret rfl (hb hbytes d58) hl)⟩
end Cmp3
namespace CodL
def yN : MethodName := ⟨"java/lang/StringUTF16", "coderFromArrayLen", "([BI)B"⟩
abbrev yB : ByteArray := jdk_52_method_15_code
theorem d0 : decode yB 0 = .ok (.iload_n 1, 1) := by decide +kernel
theorem d1 : decode yB 1 = .ok (.aload_n 0, 1) := by decide +kernel
theorem d2 : decode yB 2 = .ok (.arraylength, 1) := by decide +kernel
theorem d3 : decode yB 3 = .ok (.isub, 1) := by decide +kernel
theorem d4 : decode yB 4 = .ok (.bipush 31, 2) := by decide +kernel
theorem d6 : decode yB 6 = .ok (.iushr, 1) := by decide +kernel
theorem d7 : decode yB 7 = .ok (.i2b, 1) := by decide +kernel
theorem d8 : decode yB 8 = .ok (.ireturn, 1) := by decide +kernel
def site : List Cond := []
def tab : Cond := tabOf yN yB 2 (some .byte) site
def P (d : Addr) (B : Cell) (args : Array Value) (s : State) : Prop := args = #[.ref d, .int (Int32.ofNat B.slots.size)] ∧ Arr .byte d B s
def E (r : Option Value) (s u : State) : Prop := XT.PureE (some (.int 0)) r s u
/-- an array as long as the number of chars: LATIN1 -/
theorem law (l : Launch) (d : Addr) (B : Cell) : Law l yN 2 2 0 0 yB 2 (some .byte) site (P d B) E [] 0 0 := by
  refine Law.of_walk (plainFor_of_name (by decide +kernel)) (by decide +kernel) (by decide +kernel) (by decide) (fun _ _ h => by rw [h.1]; rfl) (fun _ U U' hal hh h => ⟨h.1, h.2.mv hal hh⟩) (fun r U U' V V' h1 hal h2 h => XT.PureE.mv r U U' V V' h1 hal h2 h) ?_
  intro p e s m args below meth c s₁ X0 hexec hbytes hml hret hlk hnm hown hh0 W hP
  obtain ⟨rfl, hB⟩ := hP
  have hB0 := hB.mv X0.warmed.alike hh0
  have c1 : Steps p.tables e below (s₁.setTop (entryFrame m #[.ref d, .int (Int32.ofNat B.slots.size)] 2)) (s₁.setTop (mkF m 0 #[.val (.ref d), .val (.int (Int32.ofNat B.slots.size))] [])) := entry rfl
  have c2 : Steps p.tables e below (s₁.setTop (entryFrame m #[.ref d, .int (Int32.ofNat B.slots.size)] 2)) (s₁.setTop (mkF m 2 #[.val (.ref d), .val (.int (Int32.ofNat B.slots.size))] [.ref d, .int (Int32.ofNat B.slots.size)])) := c1.trans (by
    refine XS.iloadN X0.here hexec rfl (hb hbytes d0) rfl ?_
    refine XS.aloadN X0.here hexec rfl (hb hbytes d1) rfl rfl ?_
    exact Steps.refl _)
  have c3 : Steps p.tables e below (s₁.setTop (entryFrame m #[.ref d, .int (Int32.ofNat B.slots.size)] 2)) (s₁.setTop (mkF m 8 #[.val (.ref d), .val (.int (Int32.ofNat B.slots.size))] [.int (lo8 (ushr (Int32.ofNat B.slots.size - Int32.ofNat B.slots.size) 31))])) := c2.trans (by
    refine X0.alen hexec hB0 rfl rfl (hb hbytes d2) ?_
    refine XS.isub X0.here hexec rfl (hb hbytes d3) rfl ?_
    refine bipushV X0.here hexec rfl 31 (hb hbytes d4) (by decide) ?_
    refine iushr X0.here hexec rfl (hb hbytes d6) rfl ?_
    refine i2b X0.here hexec rfl (hb hbytes d7) rfl ?_
    exact Steps.refl _)
  have e0 : lo8 (ushr (Int32.ofNat B.slots.size - Int32.ofNat B.slots.size) 31) = 0 := by rw [Int32.sub_self]; decide
  rw [e0] at c3
  exact ⟨s₁, some (.int 0), _, _, _, X0, rfl, rfl, rfl, (fun h => by cases h), ⟨rfl, hh0⟩, fun fs hl => c3.trans (X0.ireturnOut hexec hret rfl (Or.inr (Or.inr (Or.inl rfl))) (hb hbytes d8) hl)⟩
end CodL
/-- the String at a is Latin-1 over a new byte[] (the heap's one new cell): the low bytes of the len chars of A from o on; every cell but a is kept -/
def Got (a : Addr) (D : Cell) (fV fC : Field) (A : Cell) (o len : Nat) (r : Option Value) (s u : State) : Prop := r = none ∧ ∃ D' V : Cell, Blank "java/lang/String" a D' u ∧ Same D D' [fV.slot, fC.slot] ∧ D'.slots[fV.slot]? = some (.ref s.heap.size) ∧ D'.slots[fC.slot]? = some (.int 0) ∧ Arr .byte s.heap.size V u ∧ V.vm = .none ∧ u.vm.findClass "[B" = some V.cls ∧ V.slots.size = len ∧ (∀ j, j < len → V.slots[j]? = some (.int (lo8 (cv A (o + j))))) ∧ (∀ (y : Addr) (c : Cell), y ≠ a → s.heap[y]? = some c → u.heap[y]? = some c) ∧ u.heap.size = s.heap.size + 1
theorem Got.mv {a : Addr} {D A : Cell} {fV fC : Field} {o len : Nat} : ∀ r (U U' V V' : State), U'.heap = U.heap → V.vm.Alike V'.vm → V'.heap = V.heap → Got a D fV fC A o len r U V → Got a D fV fC A o len r U' V' :=
  fun r U U' V V' h1 hal h2 ⟨e0, D', X, a1, a2, a3, a4, a5, a6, a7, a8, a9, a10, a11⟩ => ⟨e0, D', X, a1.mv hal h2, a2, by rw [h1]; exact a3, a4, by rw [h1]; exact a5.mv hal h2, a6, by rw [hal.findClass]; exact a7, a8, a9, by rw [h1, h2]; exact a10, by rw [h1, h2]; exact a11⟩
namespace New4
def yN : MethodName := ⟨"java/lang/String", "<init>", "([CIILjava/lang/Void;)V"⟩
abbrev yB : ByteArray := jdk_42_method_149_code
theorem d0 : decode yB 0 = .ok (.aload_n 0, 1) := by decide +kernel
theorem d1 : decode yB 1 = .ok (.invokespecial 1, 3) := by decide +kernel
theorem d4 : decode yB 4 = .ok (.iload_n 3, 1) := by decide +kernel
theorem d5 : decode yB 5 = .ok (.ifCond (.ne) 22, 3) := by decide +kernel
theorem d27 : decode yB 27 = .ok (.getstatic 38, 3) := by decide +kernel
theorem d30 : decode yB 30 = .ok (.ifCond (.eq) 28, 3) := by decide +kernel
theorem d33 : decode yB 33 = .ok (.aload_n 1, 1) := by decide +kernel
theorem d34 : decode yB 34 = .ok (.iload_n 2, 1) := by decide +kernel
theorem d35 : decode yB 35 = .ok (.iload_n 3, 1) := by decide +kernel
theorem d36 : decode yB 36 = .ok (.invokestatic 177, 3) := by decide +kernel
theorem d39 : decode yB 39 = .ok (.astore 5, 2) := by decide +kernel
theorem d41 : decode yB 41 = .ok (.aload_n 0, 1) := by decide +kernel
theorem d42 : decode yB 42 = .ok (.aload 5, 2) := by decide +kernel
theorem d44 : decode yB 44 = .ok (.iload_n 3, 1) := by decide +kernel
theorem d45 : decode yB 45 = .ok (.invokestatic 47, 3) := by decide +kernel
theorem d48 : decode yB 48 = .ok (.putfield 15, 3) := by decide +kernel
theorem d51 : decode yB 51 = .ok (.aload_n 0, 1) := by decide +kernel
theorem d52 : decode yB 52 = .ok (.aload 5, 2) := by decide +kernel
theorem d54 : decode yB 54 = .ok (.putfield 9, 3) := by decide +kernel
theorem d57 : decode yB 57 = .ok (.return_, 1) := by decide +kernel
def site : List Cond := [.fieldLink "java/lang/String" 38 "java/lang/String" "COMPACT_STRINGS" "Z", Cmp3.tab, CodL.tab, .laysFinal "java/lang/String" "java/lang/String" "value" "[B", .fieldLink "java/lang/String" 9 "java/lang/String" "value" "[B", .laysFinal "java/lang/String" "java/lang/String" "coder" "B", .fieldLink "java/lang/String" 15 "java/lang/String" "coder" "B"] ++ objW "java/lang/String" 1 ++ staticW "java/lang/String" 177 Cmp3.yN ++ staticW "java/lang/String" 47 CodL.yN
def tab : Cond := tabOf yN yB 6 none site
def P (a : Addr) (D : Cell) (fV fC : Field) (b : Addr) (A : Cell) (z : Int32) (o len : Nat) (args : Array Value) (s : State) : Prop := args = #[.ref a, .ref b, .int (Int32.ofNat o), .int (Int32.ofNat len), .null] ∧ Blank "java/lang/String" a D s ∧ Found "java/lang/String" "value" "[B" fV s ∧ Found "java/lang/String" "coder" "B" fC s ∧ Ch b A s ∧ StaticIs s "java/lang/String" "COMPACT_STRINGS" "Z" (.int z) ∧ ¬ z = 0 ∧ 0 < len ∧ o + len ≤ A.slots.size ∧ len ≤ 536870912 ∧ ∀ i, i < len → ¬ 255 < cv A (o + i)
def E (a : Addr) (D : Cell) (fV fC : Field) (A : Cell) (o len : Nat) (r : Option Value) (s u : State) : Prop := Got a D fV fC A o len r s u
/-- len > 0, no char of the range above 255: a Latin-1 String of their low bytes -/
theorem law (l : Launch) (a : Addr) (D : Cell) (fV fC : Field) (b : Addr) (A : Cell) (z : Int32) (o len : Nat) : Law l yN 5 4 2 35 yB 6 none site (P a D fV fC b A z o len) (E a D fV fC A o len) [⟨a, fC.slot⟩, ⟨a, fV.slot⟩] 1 len := by
  refine Law.of_walk (plainFor_of_name (by decide +kernel)) (by decide +kernel) (by decide +kernel) (by decide) (fun _ _ h => by rw [h.1]; rfl) (fun _ U U' hal hh h => ⟨h.1, h.2.1.mv hal hh, h.2.2.1.al hal, h.2.2.2.1.al hal, h.2.2.2.2.1.mv hal hh, h.2.2.2.2.2.1.there hal hh, h.2.2.2.2.2.2⟩) (fun r U U' V V' h1 hal h2 h => Got.mv r U U' V V' h1 hal h2 h) ?_
  intro p e s m args below meth c s₁ X0 hexec hbytes hml hret hlk hnm hown hh0 W hP
  obtain ⟨rfl, hB, f1, f2, hA, s1, hz, l0, l1, l2, hp⟩ := hP
  have a31 := hA.1.2.2.2
  have c1 : Steps p.tables e below (s₁.setTop (entryFrame m #[.ref a, .ref b, .int (Int32.ofNat o), .int (Int32.ofNat len), .null] 6)) (s₁.setTop (mkF m 0 #[.val (.ref a), .val (.ref b), .val (.int (Int32.ofNat o)), .val (.int (Int32.ofNat len)), .val .null, .unset] [])) := entry rfl
  have c2 : Steps p.tables e below (s₁.setTop (entryFrame m #[.ref a, .ref b, .int (Int32.ofNat o), .int (Int32.ofNat len), .null] 6)) (s₁.setTop (mkF m 1 #[.val (.ref a), .val (.ref b), .val (.int (Int32.ofNat o)), .val (.int (Int32.ofNat len)), .val .null, .unset] [.ref a])) := c1.trans (by
    refine XS.aloadN X0.here hexec rfl (hb hbytes d0) rfl rfl ?_
    exact Steps.refl _)
  obtain ⟨T3, X3, q3, st3⟩ := X0.oinit hexec hown (wks W (objW "java/lang/String" 1)) (g := (mkF m 1 #[.val (.ref a), .val (.ref b), .val (.int (Int32.ofNat o)), .val (.int (Int32.ofNat len)), .val .null, .unset] [.ref a])) rfl (by rw [hml]; rfl) (rest := []) rfl (hb hbytes d1) (W := 0) (by show 2 * 0 + 0 ≤ _; decide) (Nat.le_of_ble_eq_true rfl) (Nat.le_of_ble_eq_true rfl)
  have hh3 := q3.trans hh0
  have c4 : Steps p.tables e below (s₁.setTop (entryFrame m #[.ref a, .ref b, .int (Int32.ofNat o), .int (Int32.ofNat len), .null] 6)) (T3.setTop (mkF m 27 #[.val (.ref a), .val (.ref b), .val (.int (Int32.ofNat o)), .val (.int (Int32.ofNat len)), .val .null, .unset] [])) := (c2.trans (st3 _ (Steps.refl _))).trans (by
    refine XS.iloadN X3.here hexec rfl (hb hbytes d4) rfl ?_
    refine XS.ifYes X3.here hexec rfl (pc0 := 5) rfl (hb hbytes d5) rfl (i0_ne_t (nz32 (by omega) l0)) (by decide) rfl ?_
    exact Steps.refl _)
  obtain ⟨T5, X5, q5, st5⟩ := X3.sget hexec hown (wk W (.fieldLink "java/lang/String" 38 "java/lang/String" "COMPACT_STRINGS" "Z")) s1 (fun _ _ h => by rw [hh3]; exact h) (g := (mkF m 27 #[.val (.ref a), .val (.ref b), .val (.int (Int32.ofNat o)), .val (.int (Int32.ofNat len)), .val .null, .unset] [])) rfl (hb hbytes d27)
  have hh5 := q5.trans hh3
  have c6 : Steps p.tables e below (s₁.setTop (entryFrame m #[.ref a, .ref b, .int (Int32.ofNat o), .int (Int32.ofNat len), .null] 6)) (T5.setTop (mkF m 30 #[.val (.ref a), .val (.ref b), .val (.int (Int32.ofNat o)), .val (.int (Int32.ofNat len)), .val .null, .unset] [.int z])) := c4.trans (st5 _ (Steps.refl _))
  have c7 : Steps p.tables e below (s₁.setTop (entryFrame m #[.ref a, .ref b, .int (Int32.ofNat o), .int (Int32.ofNat len), .null] 6)) (T5.setTop (mkF m 36 #[.val (.ref a), .val (.ref b), .val (.int (Int32.ofNat o)), .val (.int (Int32.ofNat len)), .val .null, .unset] [.int (Int32.ofNat len), .int (Int32.ofNat o), .ref b])) := c6.trans (by
    refine XS.ifNo X5.here hexec rfl (hb hbytes d30) rfl (i0_eq_f hz) ?_
    refine XS.aloadN X5.here hexec rfl (hb hbytes d33) rfl rfl ?_
    refine XS.iloadN X5.here hexec rfl (hb hbytes d34) rfl ?_
    refine XS.iloadN X5.here hexec rfl (hb hbytes d35) rfl ?_
    exact Steps.refl _)
  obtain ⟨v8, T8, X8, E8, g8⟩ := X5.callS hexec (Cmp3.law l b A o len) hown (wks W (staticW "java/lang/String" 177 Cmp3.yN)) (wk W Cmp3.tab) (W := 0) (Nat.le_of_ble_eq_true rfl) (Nat.le_of_ble_eq_true rfl) (Nat.le_refl _) (by show 0 + len ≤ len; omega) (g := (mkF m 36 #[.val (.ref a), .val (.ref b), .val (.int (Int32.ofNat o)), .val (.int (Int32.ofNat len)), .val .null, .unset] [.int (Int32.ofNat len), .int (Int32.ofNat o), .ref b])) rfl (by rw [hml]; rfl) c7 (argsL := [.ref b, .int (Int32.ofNat o), .int (Int32.ofNat len)]) (rest := []) rfl rfl (by show 2 * 0 + 0 ≤ _; decide) (hb hbytes d36) (⟨rfl, hA.mv X5.warmed.alike hh5, l1, l2, hp⟩)
  obtain ⟨e8, z8⟩ := E8
  obtain ⟨rfl, N, n1, n2, n3, n4, n5, n6⟩ := NewArr.mv _ T5 s _ _ hh5.symm (Vm.Alike.refl _) rfl e8
  rw [hh5] at z8
  have hB1 := hB.keep X8.warmed.alike (n6 _ _ hB.1)
  have hne : s.heap.size ≠ a := (Nat.ne_of_lt (Array.getElem?_eq_some_iff.mp hB.1).1).symm
  have c9 : Steps p.tables e below (s₁.setTop (entryFrame m #[.ref a, .ref b, .int (Int32.ofNat o), .int (Int32.ofNat len), .null] 6)) (T8.setTop (mkF m 39 #[.val (.ref a), .val (.ref b), .val (.int (Int32.ofNat o)), .val (.int (Int32.ofNat len)), .val .null, .unset] [.ref s.heap.size])) := g8
  have c10 : Steps p.tables e below (s₁.setTop (entryFrame m #[.ref a, .ref b, .int (Int32.ofNat o), .int (Int32.ofNat len), .null] 6)) (T8.setTop (mkF m 45 #[.val (.ref a), .val (.ref b), .val (.int (Int32.ofNat o)), .val (.int (Int32.ofNat len)), .val .null, .val (.ref s.heap.size)] [.int (Int32.ofNat N.slots.size), .ref s.heap.size, .ref a])) := by
    have hc : Steps p.tables e below (s₁.setTop (entryFrame m #[.ref a, .ref b, .int (Int32.ofNat o), .int (Int32.ofNat len), .null] 6)) (T8.setTop (mkF m 45 #[.val (.ref a), .val (.ref b), .val (.int (Int32.ofNat o)), .val (.int (Int32.ofNat len)), .val .null, .val (.ref s.heap.size)] [.int (Int32.ofNat len), .ref s.heap.size, .ref a])) := c9.trans (by
      refine XS.astore X8.here hexec rfl (hb hbytes d39) rfl rfl rfl ?_
      refine XS.aloadN X8.here hexec rfl (hb hbytes d41) rfl rfl ?_
      refine XS.aload X8.here hexec rfl (hb hbytes d42) rfl rfl ?_
      refine XS.iloadN X8.here hexec rfl (hb hbytes d44) rfl ?_
      exact Steps.refl _)
    rw [n4]; exact hc
  obtain ⟨v11, T11, X11, E11, g11⟩ := X8.callS hexec (CodL.law l s.heap.size N) hown (wks W (staticW "java/lang/String" 47 CodL.yN)) (wk W CodL.tab) (W := 1) (Nat.le_of_ble_eq_true rfl) (Nat.le_of_ble_eq_true rfl) (Nat.le_refl _) (by show 0 + len + 0 ≤ len; omega) (g := (mkF m 45 #[.val (.ref a), .val (.ref b), .val (.int (Int32.ofNat o)), .val (.int (Int32.ofNat len)), .val .null, .val (.ref s.heap.size)] [.int (Int32.ofNat N.slots.size), .ref s.heap.size, .ref a])) rfl (by rw [hml]; rfl) c10 (argsL := [.ref s.heap.size, .int (Int32.ofNat N.slots.size)]) (rest := [.ref a]) rfl rfl (by show 2 * 0 + (1 + 0) ≤ _; decide) (hb hbytes d45) (⟨rfl, n1⟩)
  obtain ⟨rfl, q11⟩ := E11
  have hB11 := hB1.mv (X8.warmed.alike.symm.trans X11.warmed.alike) q11
  have c12 : Steps p.tables e below (s₁.setTop (entryFrame m #[.ref a, .ref b, .int (Int32.ofNat o), .int (Int32.ofNat len), .null] 6)) (T11.setTop (mkF m 48 #[.val (.ref a), .val (.ref b), .val (.int (Int32.ofNat o)), .val (.int (Int32.ofNat len)), .val .null, .val (.ref s.heap.size)] [.int 0, .ref a])) := g11
  obtain ⟨T13, X13, p13, bl13, sl13, st13⟩ := X11.finit hexec hown (wk W (.fieldLink "java/lang/String" 15 "java/lang/String" "coder" "B")) (Or.inr ⟨_, (wk W (.laysFinal "java/lang/String" "java/lang/String" "coder" "B"))⟩) (Or.inl ⟨rfl, hnm⟩) f2 (Or.inl rfl) hB11 (t := .byte) (by decide +kernel) rfl (g := (mkF m 48 #[.val (.ref a), .val (.ref b), .val (.int (Int32.ofNat o)), .val (.int (Int32.ofNat len)), .val .null, .val (.ref s.heap.size)] [.int 0, .ref a])) rfl (rest := []) rfl (hb hbytes d48)
  have c14 : Steps p.tables e below (s₁.setTop (entryFrame m #[.ref a, .ref b, .int (Int32.ofNat o), .int (Int32.ofNat len), .null] 6)) (T13.setTop (mkF m 54 #[.val (.ref a), .val (.ref b), .val (.int (Int32.ofNat o)), .val (.int (Int32.ofNat len)), .val .null, .val (.ref s.heap.size)] [.ref s.heap.size, .ref a])) := (c12.trans (st13 _ (Steps.refl _))).trans (by
    refine XS.aloadN X13.here hexec rfl (hb hbytes d51) rfl rfl ?_
    refine XS.aload X13.here hexec rfl (hb hbytes d52) rfl rfl ?_
    exact Steps.refl _)
  obtain ⟨T15, X15, p15, bl15, sl15, st15⟩ := X13.finit hexec hown (wk W (.fieldLink "java/lang/String" 9 "java/lang/String" "value" "[B")) (Or.inr ⟨_, (wk W (.laysFinal "java/lang/String" "java/lang/String" "value" "[B"))⟩) (Or.inl ⟨rfl, hnm⟩) f1 (Or.inl rfl) bl13 (t := (.array .byte)) (by decide +kernel) rfl (g := (mkF m 54 #[.val (.ref a), .val (.ref b), .val (.int (Int32.ofNat o)), .val (.int (Int32.ofNat len)), .val .null, .val (.ref s.heap.size)] [.ref s.heap.size, .ref a])) rfl (rest := []) rfl (hb hbytes d54)
  have c16 : Steps p.tables e below (s₁.setTop (entryFrame m #[.ref a, .ref b, .int (Int32.ofNat o), .int (Int32.ofNat len), .null] 6)) (T15.setTop (mkF m 57 #[.val (.ref a), .val (.ref b), .val (.int (Int32.ofNat o)), .val (.int (Int32.ofNat len)), .val .null, .val (.ref s.heap.size)] [])) := c14.trans (st15 _ (Steps.refl _))
  have ap := apart (Or.inr ⟨_, (wk W (.laysFinal "java/lang/String" "java/lang/String" "value" "[B"))⟩) (Or.inr ⟨_, (wk W (.laysFinal "java/lang/String" "java/lang/String" "coder" "B"))⟩) f1 f2 (t₁ := .array .byte) (t₂ := .byte) (by decide +kernel) (by decide +kernel) (by decide)
  have al := X8.warmed.alike.symm.trans X15.warmed.alike
  have n7 : T11.heap[s.heap.size]? = some N := by rw [q11]; exact n1.1
  exact ⟨T15, none, _, _, _, X15, by simp, rfl, by omega, (fun _ => rfl), ⟨rfl, _, N, bl15, ((Same.refl D _).set _ (by simp)).set _ (by simp), sl15, (Cell.slots_setSlot_ne _ ap).trans sl13, n1.keep al (p15.other hne (p13.other hne n7)), n2, by rw [al.findClass]; exact n3, n4, n5, fun y c h1 h2 => p15.other h1 (p13.other h1 (by rw [q11]; exact n6 y c h2)), by rw [p15.2.2, p13.2.2, q11]; exact z8⟩, fun fs hl => c16.trans (X15.returnOut hexec hret (hb hbytes d57) hl)⟩
end New4
namespace New1
def yN : MethodName := ⟨"java/lang/String", "<init>", "([C)V"⟩
abbrev yB : ByteArray := jdk_42_method_3_code
theorem d0 : decode yB 0 = .ok (.aload_n 0, 1) := by decide +kernel
theorem d1 : decode yB 1 = .ok (.aload_n 1, 1) := by decide +kernel
theorem d2 : decode yB 2 = .ok (.iconst 0, 1) := by decide +kernel
theorem d3 : decode yB 3 = .ok (.aload_n 1, 1) := by decide +kernel
theorem d4 : decode yB 4 = .ok (.arraylength, 1) := by decide +kernel
theorem d5 : decode yB 5 = .ok (.aconst_null, 1) := by decide +kernel
theorem d6 : decode yB 6 = .ok (.invokespecial 27, 3) := by decide +kernel
theorem d9 : decode yB 9 = .ok (.return_, 1) := by decide +kernel
def site : List Cond := [New4.tab] ++ initW "java/lang/String" 27 New4.yN
def tab : Cond := tabOf yN yB 2 none site
def P (a : Addr) (D : Cell) (fV fC : Field) (b : Addr) (A : Cell) (z : Int32) (args : Array Value) (s : State) : Prop := args = #[.ref a, .ref b] ∧ Blank "java/lang/String" a D s ∧ Found "java/lang/String" "value" "[B" fV s ∧ Found "java/lang/String" "coder" "B" fC s ∧ Ch b A s ∧ StaticIs s "java/lang/String" "COMPACT_STRINGS" "Z" (.int z) ∧ ¬ z = 0 ∧ 0 < A.slots.size ∧ A.slots.size ≤ 536870912 ∧ ∀ i, i < A.slots.size → ¬ 255 < cv A i
def E (a : Addr) (D : Cell) (fV fC : Field) (A : Cell) (r : Option Value) (s u : State) : Prop := Got a D fV fC A 0 A.slots.size r s u
/-- new String(chars), not empty, no char above 255: a Latin-1 String of their low bytes -/
theorem law (l : Launch) (a : Addr) (D : Cell) (fV fC : Field) (b : Addr) (A : Cell) (z : Int32) : Law l yN 2 1 3 52 yB 2 none site (P a D fV fC b A z) (E a D fV fC A) [⟨a, fC.slot⟩, ⟨a, fV.slot⟩] 1 A.slots.size := by
  refine Law.of_walk (plainFor_of_name (by decide +kernel)) (by decide +kernel) (by decide +kernel) (by decide) (fun _ _ h => by rw [h.1]; rfl) (fun _ U U' hal hh h => ⟨h.1, h.2.1.mv hal hh, h.2.2.1.al hal, h.2.2.2.1.al hal, h.2.2.2.2.1.mv hal hh, h.2.2.2.2.2.1.there hal hh, h.2.2.2.2.2.2⟩) (fun r U U' V V' h1 hal h2 h => Got.mv r U U' V V' h1 hal h2 h) ?_
  intro p e s m args below meth c s₁ X0 hexec hbytes hml hret hlk hnm hown hh0 W hP
  obtain ⟨rfl, hB, f1, f2, hA, s1, hz, l0, l2, hp⟩ := hP
  have c1 : Steps p.tables e below (s₁.setTop (entryFrame m #[.ref a, .ref b] 2)) (s₁.setTop (mkF m 0 #[.val (.ref a), .val (.ref b)] [])) := entry rfl
  have c2 : Steps p.tables e below (s₁.setTop (entryFrame m #[.ref a, .ref b] 2)) (s₁.setTop (mkF m 6 #[.val (.ref a), .val (.ref b)] [.null, .int (Int32.ofNat A.slots.size), .int 0, .ref b, .ref a])) := c1.trans (by
    refine XS.aloadN X0.here hexec rfl (hb hbytes d0) rfl rfl ?_
    refine XS.aloadN X0.here hexec rfl (hb hbytes d1) rfl rfl ?_
    refine iconstV X0.here hexec rfl 0 (hb hbytes d2) (by decide) ?_
    refine XS.aloadN X0.here hexec rfl (hb hbytes d3) rfl rfl ?_
    refine X0.alen hexec (hA.1.mv X0.warmed.alike hh0) rfl rfl (hb hbytes d4) ?_
    refine XS.aconstNull X0.here hexec rfl (hb hbytes d5) ?_
    exact Steps.refl _)
  obtain ⟨v3, T3, X3, E3, g3⟩ := X0.callN hexec (New4.law l a D fV fC b A z 0 A.slots.size) rfl hown (wks W (initW "java/lang/String" 27 New4.yN)) (W New4.tab (by simp only [site, List.mem_cons, List.mem_append, true_or, or_true])) (W := 0) (Nat.le_of_ble_eq_true rfl) (Nat.le_of_ble_eq_true rfl) (Nat.le_refl _) (by show 0 + A.slots.size ≤ A.slots.size; omega) (g := (mkF m 6 #[.val (.ref a), .val (.ref b)] [.null, .int (Int32.ofNat A.slots.size), .int (Int32.ofNat 0), .ref b, .ref a])) rfl (by rw [hml]; rfl) c2 (argsL := [.ref b, .int (Int32.ofNat 0), .int (Int32.ofNat A.slots.size), .null]) (rest := []) rfl rfl (by show 2 * 0 + 0 ≤ _; decide) (hb hbytes d6) (⟨rfl, hB.mv X0.warmed.alike hh0, f1.al X0.warmed.alike, f2.al X0.warmed.alike, hA.mv X0.warmed.alike hh0, s1.there X0.warmed.alike hh0, hz, l0, by omega, l2, fun i hi => by rw [Nat.zero_add]; exact hp i hi⟩)
  have e0 := Got.mv _ s₁ s _ _ hh0.symm (Vm.Alike.refl _) rfl E3
  obtain rfl := e0.1
  have c4 : Steps p.tables e below (s₁.setTop (entryFrame m #[.ref a, .ref b] 2)) (T3.setTop (mkF m 9 #[.val (.ref a), .val (.ref b)] [])) := g3
  exact ⟨T3, none, _, _, _, X3, by simp, rfl, by omega, (fun _ => rfl), e0, fun fs hl => c4.trans (X3.returnOut hexec hret (hb hbytes d9) hl)⟩
theorem pays {l : Launch} {R : Room} {p : Program} {e : Env} {below : List Frame} {s : State} {sargs : Array Value} {len W : Nat} (a : Addr) (D : Cell) (fV fC : Field) (b : Addr) (A : Cell) (z : Int32) (htab : tab.before sargs s = true) (hfr : 4 ≤ R.frames) (hlo : W + 65 ≤ R.locals) :
    Back l R p e below s sargs yN len W (fun A₁ a₁ => A₁.cells + 1 ≤ R.cells ∧ A₁.slots + A.slots.size ≤ R.slots ∧ P a D fV fC b A z a₁ A₁.U) (fun A₁ _ v₁ B₁ => E a D fV fC A v₁ A₁.U B₁.U ∧ B₁.locs = A₁.locs ++ [⟨a, fC.slot⟩, ⟨a, fV.slot⟩] ∧ B₁.cells = A₁.cells + 1 ∧ B₁.slots = A₁.slots + A.slots.size) :=
  (law l a D fV fC b A z).pays htab hfr (by omega)
end New1
/-- the byte, read back as charAt reads it, is the char -/
theorem lo8_mask {x : Int32} (h0 : ¬ x < 0) (h1 : ¬ 255 < x) : lo8 x &&& 255 = x := by
  have t : ∀ k : Fin 256, lo8 (Int32.ofNat k.val) &&& 255 = Int32.ofNat k.val := by decide +kernel
  rw [Int32.lt_iff_toInt_lt] at h0 h1
  have e0 : (0 : Int32).toInt = 0 := rfl
  have e1 : (255 : Int32).toInt = 255 := rfl
  obtain ⟨k, hk⟩ : ∃ k : Nat, x.toInt = k := ⟨x.toInt.toNat, by omega⟩
  have hx : x = Int32.ofNat k := Int32.toInt_inj.mp (by rw [hk, Int32.toInt_ofNat_small (by omega)])
  rw [hx]
  exact t ⟨k, by omega⟩
end StrChars
namespace StrChars.Road
open Jvm Sem ClassFile Op Lib Jvm.Stand Jvm.Free Jvm.Free.XT
open Jvm.Lib.Cold (StaticIs)
abbrev ST : String := "java/lang/String"
/-- every table word that New1's law asks, flat -/
abbrev words : List Jvm.Cond := [.code New1.yN New1.yB 2 none, .initialized ST, .methodLink ST 27 New4.yN, .instanceMethod New4.yN,
  .code New4.yN New4.yB 6 none, .fieldLink ST 38 ST "COMPACT_STRINGS" "Z", .laysFinal ST ST "value" "[B", .fieldLink ST 9 ST "value" "[B", .laysFinal ST ST "coder" "B", .fieldLink ST 15 ST "coder" "B",
  .methodLink ST 1 Lib.objectInit, .instanceMethod Lib.objectInit, .code Lib.objectInit ⟨#[0xb1]⟩ 1 none, .methodLink ST 177 Cmp3.yN, .static Cmp3.yN, .methodLink ST 47 CodL.yN, .static CodL.yN,
  .code Cmp3.yN Cmp3.yB 6 (some (.array .byte)), .initialized U16, .arrayClass .byte, .methodLink U16 115 Cmp5.yN, .static Cmp5.yN, .code Cmp5.yN Cmp5.yB 7 (some .int), .code CodL.yN CodL.yB 2 (some .byte)]
theorem tab_of {a : Array Value} {s : State} (h : ∀ w ∈ words, w.before a s = true) : New1.tab.before a s = true := by
  have h5 : Cmp5.tab.before a s = true := unparts (wk h (.code Cmp5.yN Cmp5.yB 7 (some .int))) (wks h (.initialized Cmp5.yN.cls :: Cmp5.site))
  have hc : CodL.tab.before a s = true := unparts (wk h (.code CodL.yN CodL.yB 2 (some .byte))) (wks h (.initialized CodL.yN.cls :: CodL.site))
  have q5 : ∀ w ∈ Cmp5.tab :: words, w.before a s = true := fun w hw => (List.mem_cons.mp hw).elim (fun e => e ▸ h5) (h w)
  have h3 : Cmp3.tab.before a s = true := unparts (wk q5 (.code Cmp3.yN Cmp3.yB 6 (some (.array .byte)))) (wks q5 (.initialized Cmp3.yN.cls :: Cmp3.site))
  have q3 : ∀ w ∈ Cmp3.tab :: CodL.tab :: words, w.before a s = true := fun w hw => (List.mem_cons.mp hw).elim (fun e => e ▸ h3) fun hw => (List.mem_cons.mp hw).elim (fun e => e ▸ hc) (h w)
  have h4 : New4.tab.before a s = true := unparts (wk q3 (.code New4.yN New4.yB 6 none)) (wks q3 (.initialized New4.yN.cls :: New4.site))
  have q4 : ∀ w ∈ New4.tab :: words, w.before a s = true := fun w hw => (List.mem_cons.mp hw).elim (fun e => e ▸ h4) (h w)
  exact unparts (wk q4 (.code New1.yN New1.yB 2 none)) (wks q4 (.initialized New1.yN.cls :: New1.site))
/-- the words ride from the start Z to the walk's own state -/
theorem moved {Z s : State} {a0 args : Array Value} (hZ : Z.Warmed39 s.vm) (hw : ∀ d ∈ words, d.before a0 Z = true) : ∀ d ∈ words, d.before args s = true := fun d hd => by
  have q := hw d hd
  have t : ∀ d ∈ words, d = .arrayClass .byte ∨ (d.onTables && d.keepsFace) = true := by decide +kernel
  rcases t d hd with rfl | t
  · exact RoadKit.mvA hZ q
  · exact RoadKit.mv hZ q t
/-- WHAT COMES BACK, over the tables of the start Z: h the heap at the call, h' behind it -/
def Q (Z : State) (x : Addr) (A : Cell) (h : Heap) (v : Option Value) (h' : Heap) (L : List Loc) : Prop := v = none ∧ (∀ y ∈ L, y.base = x) ∧ RoadKit.Keep h h' [x] ∧ h'.size = h.size + 1 ∧ RoadKit.Exa Z h' x ST ∧ RoadKit.Fld Z h' x ST "value" "[B" (.ref h.size) ∧ RoadKit.Fld Z h' x ST "coder" "B" (.int 0) ∧
  (∃ V : Cell, RoadKit.Arr Z h' h.size V .byte ∧ V.vm = .none ∧ Z.vm.findClass "[B" = some V.cls ∧ V.slots.size = A.slots.size ∧ ∀ j, j < A.slots.size → V.slots[j]? = some (.int (lo8 (cv A j)))) ∧
  ∀ (O n d : String) (w : Value), RoadKit.Fld Z h x O n d w → RoadKit.slotOf Z O n d ≠ RoadKit.slotOf Z ST "value" "[B" → RoadKit.slotOf Z O n d ≠ RoadKit.slotOf Z ST "coder" "B" → RoadKit.Fld Z h' x O n d w
/-- **new String(chars) AT A CALL, IN THE ROAD'S FORM**: for specialBack behind newO: x the fresh String, b the char[] with the cell A -/
theorem back {p : Program} {l : Launch} {e : Env} {R : Room} {s : State} {args : Array Value} {below : List Frame} {len W : Nat} {Z : State} {a0 : Array Value} {h : Heap} (hZ : Z.Warmed39 s.vm) (hw : ∀ d ∈ words, d.before a0 Z = true) {kI : Nat} (wi : (Jvm.Cond.instantiable ST kI).before a0 Z = true)
    {x b : Addr} {A : Cell} {z : Int32} {v0 c0 : Value} (E : RoadKit.Exa Z h x ST) (V : RoadKit.Fld Z h x ST "value" "[B" v0) (C : RoadKit.Fld Z h x ST "coder" "B" c0) (K : RoadKit.Arr Z h b A .char) (hty : Typed .char A) (S : RoadKit.Sta Z h ST "COMPACT_STRINGS" "Z" (.int z)) (hz : ¬ z = 0)
    (l0 : 0 < A.slots.size) (l2 : A.slots.size ≤ 536870912) (hp : ∀ i, i < A.slots.size → ¬ 255 < cv A i) (hfr : 4 ≤ R.frames) (hlo : W + 65 ≤ R.locals) :
    Back l R p e below s args New1.yN len W (fun P a => a = #[.ref x, .ref b] ∧ P.U.heap = h ∧ P.cells + 1 ≤ R.cells ∧ P.slots + A.slots.size ≤ R.slots)
      (fun P _ v B => ∃ L, Q Z x A h v B.U.heap L ∧ B.locs = P.locs ++ L ∧ B.cells = P.cells + 1 ∧ B.slots = P.slots + A.slots.size) := by
  intro m meth c P g ig mk a X hg hsize hdg hW hn hp'
  obtain ⟨rfl, rfl, r1, r2⟩ := hp'
  have al : Z.vm.Alike P.U.vm := hZ.alike.trans X.warmed.alike
  obtain ⟨D, cfV, kV, iV, fV, hD, gV, stV, knV, obV, asV, slV⟩ := id V
  obtain ⟨D', cfC, kC, iC, fC, hD', gC, stC, -, -, asC, slC⟩ := id C
  cases hD.symm.trans hD'
  obtain ⟨D2, kD, e1, e2, e3, e4, e5⟩ := id E
  cases hD.symm.trans e1
  obtain ⟨c2, k2, i1, i2, i3, -⟩ := Cond.instantiable_spec wi
  cases e2.symm.trans i1
  cases e3.symm.trans i2
  obtain ⟨kU, u1, u2⟩ := al.2.2 _ _ e3
  have hB : Blank ST x D P.U := ⟨hD, ⟨knV, fun q hq => by rw [hq] at obV; cases obV⟩, by rw [al.findClass]; exact e2, kU, u1, by rw [u2]; exact i3, by rw [u2]; exact e5 i3⟩
  have F1 : Found ST "value" "[B" fV P.U := ⟨SBG.found_only al ⟨cfV, kV, iV, gV⟩, stV⟩
  have F2 : Found ST "coder" "B" fC P.U := ⟨SBG.found_only al ⟨cfC, kC, iC, gC⟩, stC⟩
  have hA : Ch b A P.U := ⟨⟨K.1, State.isArrayOf_alike al K.2.1, K.2.2, by omega⟩, hty⟩
  have hS : StaticIs P.U ST "COMPACT_STRINGS" "Z" (.int z) := by
    obtain ⟨cfS, iS, kS, fS, st, cS, t1, t2, t3, t4, t5, t6, t7⟩ := S
    exact StaticIs.there (s := { Z with heap := P.U.heap }) ⟨cfS, iS, kS, fS, st, cS, t1, t2, t3, t4, t5, (fun q => by rw [q] at t6; cases t6), t7⟩ al rfl
  obtain ⟨v, B, X', ⟨⟨hv, E', V', q1, q2, q3, q4, q5, q6, q7, q8, q9, q10, q11⟩, hl, hc, hs⟩, st⟩ := New1.pays x D fV fC b A z (tab_of (moved hZ hw)) hfr hlo m meth c P g ig mk _ X hg hsize hdg hW hn ⟨r1, r2, rfl, hB, F1, F2, hA, hS, hz, l0, l2, hp⟩
  have al' : Z.vm.Alike B.U.vm := hZ.alike.trans X'.warmed.alike
  have hsz : E'.slots.size = D.slots.size := by
    obtain ⟨-, -, -, kB, w1, w2, w3⟩ := q1
    obtain ⟨kB', y1, y2⟩ := al'.2.2 _ _ e3
    rw [q2.2.1] at w1
    cases w1.symm.trans y1
    rw [w3, e5 i3, y2]
  refine ⟨v, B, X', ⟨_, ⟨hv, ?_, ⟨by omega, fun y cy hy hn' => q10 y cy (by simpa using hn') hy, fun y cy hy => ?_⟩, q11, ⟨E', _, q1.1, by rw [q2.2.1]; exact e2, by rw [q2.2.1]; exact e3, by rw [q2.1]; exact obV, fun _ => by rw [hsz]; exact e5 i3⟩,
    ⟨E', cfV, kV, iV, fV, q1.1, gV, stV, by rw [q2.1]; exact knV, by rw [q2.1]; exact obV, by rw [q2.2.1]; exact asV, q3⟩, ⟨E', cfC, kC, iC, fC, q1.1, gC, stC, by rw [q2.1]; exact knV, by rw [q2.1]; exact obV, by rw [q2.2.1]; exact asC, q4⟩,
    ⟨V', ⟨q5.1, State.isArrayOf_alike al'.symm q5.2.1, q5.2.2.1⟩, q6, by rw [← al'.findClass]; exact q7, q8, fun j hj => by have := q9 j hj; rwa [Nat.zero_add] at this⟩, fun O n d w F n1 n2 => ?_⟩, hl, hc, hs⟩, st⟩
  · intro y hy
    simp only [List.mem_cons, List.not_mem_nil, or_false] at hy
    rcases hy with rfl | rfl <;> rfl
  · by_cases q : y = x
    · subst q
      cases hD.symm.trans hy
      exact ⟨E', q1.1, q2.2.1, q2.1, hsz⟩
    · exact ⟨cy, q10 y cy q hy, rfl, rfl, rfl⟩
  · obtain ⟨D3, cf, k, i, f, g1, g2, g3, g4, g5, g6, g7⟩ := F
    cases hD.symm.trans g1
    simp only [RoadKit.slotOf, g2, gV, gC, Option.map_some, Option.getD_some] at n1 n2
    exact ⟨E', cf, k, i, f, q1.1, g2, g3, by rw [q2.1]; exact g4, by rw [q2.1]; exact g5, by rw [q2.2.1]; exact g6, by rw [q2.2.2 f.slot (by simp [n1, n2])]; exact g7⟩
end StrChars.Road
namespace StrChars.Road
open Jvm Sem ClassFile Op Lib Jvm.Stand Jvm.Free Jvm.Free.XT
/-- WHAT COMES BACK, the byte[] as a list of values -/
def QA (Z : State) (x : Addr) (zn : Int32) (cs : List Int32) (h : Heap) (v : Option Value) (h' : Heap) (L : List Loc) : Prop := v = none ∧ (∀ y ∈ L, y.base = x) ∧ RoadKit.Keep h h' [x] ∧ h'.size = h.size + 1 ∧ RoadKit.Exa Z h' x ST ∧ RoadKit.Fld Z h' x ST "value" "[B" (.ref h.size) ∧ RoadKit.Fld Z h' x ST "coder" "B" (.int 0) ∧
  (∃ kb, Z.vm.findClass "[B" = some kb ∧ RoadKit.Arv Z h' h.size kb .byte zn (cs.map fun c => .int (lo8 c)) (.int 0)) ∧
  ∀ (O n d : String) (w : Value), RoadKit.Fld Z h x O n d w → RoadKit.slotOf Z O n d ≠ RoadKit.slotOf Z ST "value" "[B" → RoadKit.slotOf Z O n d ≠ RoadKit.slotOf Z ST "coder" "B" → RoadKit.Fld Z h' x O n d w
/-- **new String(chars) AT A CALL, THE ARRAYS AS LISTS**: the char[] at b holds cs, not empty, no char above 255 -/
theorem backArv {p : Program} {l : Launch} {e : Env} {R : Room} {s : State} {args : Array Value} {below : List Frame} {len W : Nat} {Z : State} {a0 : Array Value} {h : Heap} (hZ : Z.Warmed39 s.vm) (hw : ∀ d ∈ words, d.before a0 Z = true) {kI : Nat} (wi : (Jvm.Cond.instantiable ST kI).before a0 Z = true)
    {x b : Addr} {k : ClassId} {zn z : Int32} {cs : List Int32} {dv v0 c0 : Value} (E : RoadKit.Exa Z h x ST) (V : RoadKit.Fld Z h x ST "value" "[B" v0) (C : RoadKit.Fld Z h x ST "coder" "B" c0) (K : RoadKit.Arv Z h b k .char zn (cs.map Value.int) dv) (S : RoadKit.Sta Z h ST "COMPACT_STRINGS" "Z" (.int z)) (hz : ¬ z = 0)
    (hlen : zn.toNatClampNeg = cs.length) (h0 : 0 < cs.length) (hbig : cs.length ≤ 536870912) (hall : ∀ c ∈ cs, ¬ 255 < c) (hfr : 4 ≤ R.frames) (hlo : W + 65 ≤ R.locals) :
    Back l R p e below s args New1.yN len W (fun P a => a = #[.ref x, .ref b] ∧ P.U.heap = h ∧ P.cells + 1 ≤ R.cells ∧ P.slots + cs.length ≤ R.slots)
      (fun P _ v B => ∃ L, QA Z x zn cs h v B.U.heap L ∧ B.locs = P.locs ++ L ∧ B.cells = P.cells + 1 ∧ B.slots = P.slots + cs.length) := by
  obtain ⟨A, K1, K2, K3, K4, K5, K6⟩ := K
  have e : A.slots.size = cs.length := K3.trans hlen
  have hat : ∀ (i : Nat) (hi : i < cs.length), A.slots[i]? = some (.int cs[i]) := fun i hi => by rw [K5 i (by omega)]; simp [List.getD_eq_getElem?_getD, hi]
  have hcv : ∀ (i : Nat) (hi : i < cs.length), cv A i = cs[i] := fun i hi => by unfold cv; rw [hat i hi]
  have hty : Typed .char A := fun i v hv => by
    have hi : i < A.slots.size := (Array.getElem?_eq_some_iff.mp hv).1
    have q := K5 i hi
    rw [hv] at q
    rw [Option.some.inj q]
    exact K6 i hi
  refine Back.mono (back hZ hw wi E V C K1 hty S hz (by omega) (by omega) (fun i hi => by rw [hcv i (by omega)]; exact hall _ (List.getElem_mem _)) hfr hlo) (fun P a hp => ⟨hp.1, hp.2.1, hp.2.2.1, by rw [e]; exact hp.2.2.2⟩) (fun P a v B hp hq => ?_)
  obtain ⟨L, ⟨q1, q2, q3, q4, q5, q6, q7, ⟨V', v1, v2, v3, v4, v5⟩, q9⟩, hl, hc, hs⟩ := hq
  refine ⟨L, ⟨q1, q2, q3, q4, q5, q6, q7, ⟨V'.cls, v3, V', v1, rfl, by rw [v4, e, hlen], K4, fun i hi => ?_, fun i hi => ?_⟩, q9⟩, hl, hc, by rw [hs, e]⟩
  · have hi' : i < cs.length := by omega
    rw [v5 i (by omega), hcv i hi']; simp [List.getD_eq_getElem?_getD, hi']
  · have hi' : i < cs.length := by omega
    simp only [List.getD_eq_getElem?_getD, List.getElem?_map, List.getElem?_eq_getElem hi', Option.map_some, Option.getD_some]
    exact fits_lo8 _
end StrChars.Road
namespace StrChars.Road
open Jvm Sem ClassFile Op Lib Jvm.Stand Jvm.Free Jvm.Free.XT
/-- WHAT COMES BACK, in the writer's own shape -/
def QV (Z : State) (x : Addr) (N : Int32) (bs : List Int32) (h : Heap) (n0 : Nat) (v : Option Value) (h' : Heap) (L : List Loc) : Prop := v = none ∧ RoadKit.Fr n0 L ∧ RoadKit.Keep h h' [x] ∧ RoadKit.Exa Z h' x ST ∧ RoadKit.Fld Z h' x ST "coder" "B" (.int 0) ∧
  ∃ (t : Addr) (kb : ClassId), n0 ≤ t ∧ h.size ≤ t ∧ ¬ t = x ∧ RoadKit.Fld Z h' x ST "value" "[B" (.ref t) ∧ RoadKit.Arv Z h' t kb .byte N (bs.map Value.int) (.int 0)
/-- **new String(chars) AT A CALL, FOR THE WRITER**: a char[] of n known ints, each 0 to 255 -/
theorem backV {p : Program} {l : Launch} {e : Env} {R : Room} {s : State} {args : Array Value} {below : List Frame} {len W : Nat} {Z : State} {a0 : Array Value} {h : Heap} (hZ : Z.Warmed39 s.vm) (hw : ∀ d ∈ words, d.before a0 Z = true) {kI : Nat} (wi : (Jvm.Cond.instantiable ST kI).before a0 Z = true)
    {x b : Addr} {kC : ClassId} {cs bs : List Int32} {d v0 c0 : Value} {z N : Int32} {n n0 : Nat} (hx0 : n0 ≤ x) (hh0 : n0 ≤ h.size) (E : RoadKit.Exa Z h x ST) (V : RoadKit.Fld Z h x ST "value" "[B" v0) (C : RoadKit.Fld Z h x ST "coder" "B" c0) (K : RoadKit.Arv Z h b kC .char N (cs.map Value.int) d) (S : RoadKit.Sta Z h ST "COMPACT_STRINGS" "Z" (.int z)) (hz : ¬ z = 0)
    (hn : cs.length = n) (hN : N = Int32.ofNat n) (l0 : 0 < n) (l2 : n ≤ 4000) (hp : ∀ c ∈ cs, ¬ c < 0 ∧ ¬ (255 : Int32) < c) (hb : bs = cs.map (fun c => c.toInt8.toInt32)) (hfr : 4 ≤ R.frames) (hlo : W + 65 ≤ R.locals) :
    Back l R p e below s args (⟨"java/lang/String", "<init>", "([C)V"⟩ : MethodName) len W (fun P a => a = #[.ref x, .ref b] ∧ P.U.heap = h ∧ P.cells + 1 ≤ R.cells ∧ P.slots + n ≤ R.slots)
      (fun P _ v B => ∃ L, QV Z x N bs h n0 v B.U.heap L ∧ B.locs = P.locs ++ L ∧ B.cells = P.cells + 1 ∧ B.slots = P.slots + n) := by
  subst hn hN hb
  refine Back.mono (backArv hZ hw wi E V C K S hz (n32 (by omega)) l0 (by omega) (fun c hc => (hp c hc).2) hfr hlo) (fun P a hp => hp) (fun P a v B hp hq => ?_)
  obtain ⟨L, ⟨q1, q2, q3, q4, q5, q6, q7, ⟨kb, v1, v2⟩, q9⟩, hl, hc, hs⟩ := hq
  exact ⟨L, ⟨q1, fun y hy => by rw [q2 y hy]; exact hx0, q3, q5, q7, h.size, kb, hh0, Nat.le_refl _, Nat.ne_of_gt E.lt, q6, by rw [List.map_map]; exact v2⟩, hl, hc, hs⟩
end StrChars.Road
namespace StrChars
open Jvm Sem ClassFile Op Lib Jvm.Stand Jvm.Free.XT Jvm.Free.ALB Jvm.Free.JM Jvm.Free
open Jvm.Lib.Cold (StaticIs)
def hi8 (x : Int32) : Int32 := lo8 (x >>> ((8 : Int32) &&& 31))
/-- what StringUTF16.getChar makes of two bytes -/
def pairCh (u v : Int32) : Int32 := (((u &&& 255) <<< ((0 : Int32) &&& 31)) ||| ((v &&& 255) <<< ((8 : Int32) &&& 31))).toUInt32.toUInt16.toUInt32.toInt32
theorem lo8_and (x : Int32) : (lo8 x &&& 255).toBitVec.toNat = x.toBitVec.toNat % 256 := by
  have h : (lo8 x).toBitVec = (x.toBitVec.signExtend 8).signExtend 32 := by rw [lo8, Int8.toBitVec_toInt32, Int32.toBitVec_toInt8]
  rw [Int32.toBitVec_and, BitVec.toNat_and, h]
  have e : ((x.toBitVec.signExtend 8).signExtend 32).toNat % 256 = x.toBitVec.toNat % 256 := by
    rw [BitVec.toNat_signExtend]
    have hlt := x.toBitVec.isLt
    simp only [BitVec.toNat_setWidth, BitVec.toNat_signExtend]
    split <;> split <;> omega
  rw [← e]
  exact Nat.and_two_pow_sub_one_eq_mod _ 8
theorem pair_says {c : Int32} (h0 : ¬ c < 0) (h1 : ¬ 65535 < c) : pairCh (lo8 c) (hi8 c) = c := by
  rw [Int32.lt_iff_toInt_lt] at h0 h1
  have e0 : (0 : Int32).toInt = 0 := rfl
  have e1 : (65535 : Int32).toInt = 65535 := rfl
  have hc : c.toInt = c.toBitVec.toNat := by
    have := c.toBitVec.isLt
    have e : c.toInt = c.toBitVec.toInt := rfl
    rw [e] at h0 h1
    rw [e]
    rw [BitVec.toInt_eq_toNat_cond] at h0 h1 ⊢
    split at h0 <;> split <;> omega
  have hn : c.toBitVec.toNat < 65536 := by omega
  have a1 := lo8_and c
  have a2 : (hi8 c &&& 255).toBitVec.toNat = c.toBitVec.toNat / 256 := by
    rw [hi8, lo8_and]
    have e : ((8 : Int32) &&& 31) = 8 := by decide
    rw [e, Int32.toBitVec_shiftRight]
    have e2 : ((8 : Int32).toBitVec.smod 32) = 8#32 := by decide
    rw [e2, BitVec.sshiftRight_eq', BitVec.toNat_sshiftRight_of_msb_false (by rw [BitVec.msb_eq_false_iff_two_mul_lt]; omega)]
    show c.toBitVec.toNat >>> 8 % 256 = _
    rw [Nat.shiftRight_eq_div_pow]
    omega
  unfold pairCh
  apply Int32.toBitVec_inj.mp
  apply BitVec.eq_of_toNat_eq
  have f0 : ((0 : Int32) &&& 31) = 0 := by decide
  have f8 : ((8 : Int32) &&& 31) = 8 := by decide
  rw [f0, f8]
  have g : (((lo8 c &&& 255) <<< (0 : Int32)) ||| ((hi8 c &&& 255) <<< (8 : Int32))).toBitVec.toNat = c.toBitVec.toNat := by
    rw [Int32.toBitVec_or, Int32.toBitVec_shiftLeft, Int32.toBitVec_shiftLeft]
    have s0 : ((0 : Int32).toBitVec.smod 32) = 0#32 := by decide
    have s8 : ((8 : Int32).toBitVec.smod 32) = 8#32 := by decide
    rw [s0, s8, BitVec.toNat_or]
    simp only [BitVec.shiftLeft_eq', BitVec.toNat_shiftLeft, a1, a2]
    show (c.toBitVec.toNat % 256) <<< 0 % 2 ^ 32 ||| (c.toBitVec.toNat / 256) <<< 8 % 2 ^ 32 = _
    rw [Nat.shiftLeft_zero, Nat.mod_eq_of_lt (show c.toBitVec.toNat % 256 < 2 ^ 32 by omega), Nat.mod_eq_of_lt (show (c.toBitVec.toNat / 256) <<< 8 < 2 ^ 32 by rw [Nat.shiftLeft_eq]; omega), Nat.or_comm, ← Nat.shiftLeft_add_eq_or_of_lt (by omega), Nat.shiftLeft_eq]
    omega
  show BitVec.toNat (((((lo8 c &&& 255) <<< (0 : Int32)) ||| ((hi8 c &&& 255) <<< (8 : Int32))).toBitVec.setWidth 16).setWidth 32) = _
  rw [BitVec.toNat_setWidth, BitVec.toNat_setWidth, g]
  omega
end StrChars
namespace StrChars
open Jvm Sem ClassFile Op Lib Jvm.Stand Jvm.Free.XT Jvm.Free.ALB Jvm.Free.JM Jvm.Free
open Jvm.Lib.Cold (StaticIs)
/-- the array's cell V codes the n chars f 0 .. f (n - 1) by the coder cd, as the JDK does: coder 1 just where some char is above 255 -/
def Cod (cd : Int32) (n : Nat) (f : Nat → Int32) (V : Cell) : Prop := (cd = 0 ∧ V.slots.size = n ∧ ∀ j, j < n → V.slots[j]? = some (.int (lo8 (f j))) ∧ ¬ 255 < f j) ∨ (cd = 1 ∧ V.slots.size = 2 * n ∧ (∀ j, j < n → V.slots[2 * j]? = some (.int (lo8 (f j))) ∧ V.slots[2 * j + 1]? = some (.int (hi8 (f j)))) ∧ ∃ j, j < n ∧ 255 < f j)
/-- **x is a String of the n chars f 0 .. f (n - 1)**, Latin-1 or UTF-16; its array at t has the cell V -/
def Txt (x t : Addr) (V : Cell) (cd : Int32) (n : Nat) (f : Nat → Int32) (U : State) : Prop := Exact "java/lang/String" x U ∧ Has x "java/lang/String" "value" "[B" (.ref t) U ∧ Has x "java/lang/String" "coder" "B" (.int cd) U ∧ XT.Arr .byte t V U ∧ Cod cd n f V ∧ ∀ j, j < n → ¬ f j < 0 ∧ ¬ 65535 < f j
theorem Txt.mv {x t : Addr} {V : Cell} {cd : Int32} {n : Nat} {f : Nat → Int32} {U U' : State} (h : Txt x t V cd n f U) (hal : U.vm.Alike U'.vm) (hh : U'.heap = U.heap) : Txt x t V cd n f U' := ⟨h.1.mv hal hh, h.2.1.mv hal hh, h.2.2.1.mv hal hh, h.2.2.2.1.mv hal hh, h.2.2.2.2⟩
end StrChars
namespace StrChars.Road
open Jvm Sem ClassFile Op Lib Jvm.Stand Jvm.Free Jvm.Free.XT
open Jvm.Lib.Cold (StaticIs)
theorem consq {a : Array Value} {s : State} {c : Jvm.Cond} {L : List Jvm.Cond} (h0 : c.before a s = true) (h : ∀ w ∈ L, w.before a s = true) : ∀ w ∈ c :: L, w.before a s = true := fun w hw => (List.mem_cons.mp hw).elim (fun e => e ▸ h0) (h w)
/-- the bytes of the chars cs, low before high -/
def wideBytes : List Int32 → List Value
  | [] => []
  | c :: cs => .int (lo8 c) :: .int (hi8 c) :: wideBytes cs
theorem wide_lo (d : Value) : ∀ (cs : List Int32) (j : Nat), j < cs.length → (wideBytes cs).getD (2 * j) d = .int (lo8 (cs.getD j 0))
  | [], j, h => absurd h (Nat.not_lt_zero j)
  | c :: cs, 0, _ => rfl
  | c :: cs, j + 1, h => by
    have q := wide_lo d cs j (by simpa using h)
    rw [show 2 * (j + 1) = 2 * j + 1 + 1 from by omega]
    simpa [wideBytes] using q
theorem wide_hi (d : Value) : ∀ (cs : List Int32) (j : Nat), j < cs.length → (wideBytes cs).getD (2 * j + 1) d = .int (hi8 (cs.getD j 0))
  | [], j, h => absurd h (Nat.not_lt_zero j)
  | c :: cs, 0, _ => rfl
  | c :: cs, j + 1, h => by
    have q := wide_hi d cs j (by simpa using h)
    rw [show 2 * (j + 1) + 1 = 2 * j + 1 + 1 + 1 from by omega]
    simpa [wideBytes] using q
theorem low_at (d : Value) (cs : List Int32) (j : Nat) (h : j < cs.length) : (cs.map fun c => Value.int (lo8 c)).getD j d = .int (lo8 (cs.getD j 0)) := by
  simp [List.getD_eq_getElem?_getD, h]
/-- an array of N2 bytes vs codes the chars cs by the coder cd -/
def CodA (cs : List Int32) (cd N2 : Int32) (vs : List Value) : Prop := (cd = 0 ∧ N2 = Int32.ofNat cs.length ∧ vs = (cs.map fun c => Value.int (lo8 c)) ∧ ∀ c ∈ cs, ¬ 255 < c) ∨ (cd = 1 ∧ N2 = Int32.ofNat (2 * cs.length) ∧ vs = wideBytes cs ∧ ∃ c ∈ cs, 255 < c)
theorem CodA.cod {cs : List Int32} {cd N2 : Int32} {vs : List Value} {V : Cell} (h : CodA cs cd N2 vs) (hn : 2 * cs.length < 2 ^ 31) (hs : V.slots.size = N2.toNatClampNeg) (hv : RoadKit.Has V vs (.int 0)) : Cod cd cs.length (fun j => cs.getD j 0) V := by
  rcases h with ⟨rfl, rfl, rfl, h⟩ | ⟨rfl, rfl, rfl, c, hc, hw⟩
  · rw [n32 (by omega)] at hs
    exact Or.inl ⟨rfl, hs, fun j hj => ⟨by rw [hv j (by omega), low_at _ _ _ hj], by
      have e : cs.getD j 0 = cs[j] := by simp [List.getD_eq_getElem?_getD, hj]
      show ¬ 255 < cs.getD j 0
      rw [e]; exact h _ (List.getElem_mem _)⟩⟩
  · rw [n32 (by omega)] at hs
    obtain ⟨j, hj, rfl⟩ := List.getElem_of_mem hc
    exact Or.inr ⟨rfl, hs, fun j hj => ⟨by rw [hv _ (by omega), wide_lo _ _ _ hj], by rw [hv _ (by omega), wide_hi _ _ _ hj]⟩, j, hj, by
      have e : cs.getD j 0 = cs[j] := by simp [List.getD_eq_getElem?_getD, hj]
      show 255 < cs.getD j 0
      rw [e]; exact hw⟩
/-- an object of exactly java/lang/String, its two fields found: as the laws ask it -/
theorem strObj {Z U : State} {a0 : Array Value} {kI : Nat} (wi : (Jvm.Cond.instantiable ST kI).before a0 Z = true) (al : Z.vm.Alike U.vm) {x : Addr} {v0 c0 : Value} (E : RoadKit.Exa Z U.heap x ST) (V : RoadKit.Fld Z U.heap x ST "value" "[B" v0) (C : RoadKit.Fld Z U.heap x ST "coder" "B" c0) :
    ∃ (D : Cell) (fV fC : Field), Blank ST x D U ∧ Found ST "value" "[B" fV U ∧ Found ST "coder" "B" fC U ∧ D.slots[fV.slot]? = some v0 ∧ D.slots[fC.slot]? = some c0 ∧ RoadKit.slotOf Z ST "value" "[B" = fV.slot ∧ RoadKit.slotOf Z ST "coder" "B" = fC.slot := by
  obtain ⟨D, cfV, kV, iV, fV, hD, gV, stV, knV, obV, asV, slV⟩ := V
  obtain ⟨D', cfC, kC, iC, fC, hD', gC, stC, -, -, asC, slC⟩ := C
  cases hD.symm.trans hD'
  obtain ⟨D2, kD, e1, e2, e3, e4, e5⟩ := E
  cases hD.symm.trans e1
  obtain ⟨c2, k2, i1, i2, i3, -⟩ := Cond.instantiable_spec wi
  cases e2.symm.trans i1
  cases e3.symm.trans i2
  obtain ⟨kU, u1, u2⟩ := al.2.2 _ _ e3
  exact ⟨D, fV, fC, ⟨hD, ⟨knV, fun q hq => by rw [hq] at obV; cases obV⟩, by rw [al.findClass]; exact e2, kU, u1, by rw [u2]; exact i3, by rw [u2]; exact e5 i3⟩, ⟨SBG.found_only al ⟨cfV, kV, iV, gV⟩, stV⟩, ⟨SBG.found_only al ⟨cfC, kC, iC, gC⟩, stC⟩, slV, slC, by simp [RoadKit.slotOf, gV], by simp [RoadKit.slotOf, gC]⟩
theorem sta_is {Z U : State} (al : Z.vm.Alike U.vm) {C n d : String} {v : Value} (S : RoadKit.Sta Z U.heap C n d v) : StaticIs U C n d v := by
  obtain ⟨cfS, iS, kS, fS, st, cS, t1, t2, t3, t4, t5, t6, t7⟩ := S
  exact StaticIs.there (s := { Z with heap := U.heap }) ⟨cfS, iS, kS, fS, st, cS, t1, t2, t3, t4, t5, (fun q => by rw [q] at t6; cases t6), t7⟩ al rfl
end StrChars.Road
namespace StrChars
open Jvm Sem ClassFile Op Lib Jvm.Stand Jvm.Free.XT Jvm.Free.ALB Jvm.Free.JM Jvm.Free
open Jvm.Lib.Cold (StaticIs)
/-- what place i of a byte[]'s cell holds -/
def yv (A : Cell) (i : Nat) : Int32 := match A.slots[i]? with | some (.int x) => x | _ => 0
theorem yv_get {a : Addr} {A : Cell} {U : State} (h : XT.Arr .byte a A U) (ht : Typed .byte A) {i : Nat} (hi : i < A.slots.size) : A.slots[i]? = some (.int (yv A i)) := by
  have e := Array.getElem?_eq_getElem hi
  have f := ht i _ e
  unfold yv; rw [e]
  generalize A.slots[i] = v at f
  cases v <;> simp [fits] at f ⊢
/-- the two arrays are equal, place for place -/
def EqC (A B : Cell) : Prop := A.slots.size = B.slots.size ∧ ∀ i, i < A.slots.size → yv A i = yv B i
/-- a boolean that says whether p -/
def Says01 (q : Prop) (r : Option Value) (s u : State) : Prop := ∃ v : Int32, r = some (.int v) ∧ u.heap = s.heap ∧ ((v = 1 ∧ q) ∨ (v = 0 ∧ ¬ q))
theorem Says01.mv {q : Prop} : ∀ r (U U' V V' : State), U'.heap = U.heap → V.vm.Alike V'.vm → V'.heap = V.heap → Says01 q r U V → Says01 q r U' V' :=
  fun r U U' V V' h1 _ h2 ⟨v, a, b, c⟩ => ⟨v, a, by rw [h1, h2]; exact b, c⟩
namespace LEq
def yN : MethodName := ⟨"java/lang/StringLatin1", "equals", "([B[B)Z"⟩
abbrev yB : ByteArray := jdk_43_method_13_code
theorem d0 : decode yB 0 = .ok (.aload_n 0, 1) := by decide +kernel
theorem d1 : decode yB 1 = .ok (.arraylength, 1) := by decide +kernel
theorem d2 : decode yB 2 = .ok (.aload_n 1, 1) := by decide +kernel
theorem d3 : decode yB 3 = .ok (.arraylength, 1) := by decide +kernel
theorem d4 : decode yB 4 = .ok (.if_icmp (.ne) 30, 3) := by decide +kernel
theorem d7 : decode yB 7 = .ok (.iconst 0, 1) := by decide +kernel
theorem d8 : decode yB 8 = .ok (.istore_n 2, 1) := by decide +kernel
theorem d9 : decode yB 9 = .ok (.iload_n 2, 1) := by decide +kernel
theorem d10 : decode yB 10 = .ok (.aload_n 0, 1) := by decide +kernel
theorem d11 : decode yB 11 = .ok (.arraylength, 1) := by decide +kernel
theorem d12 : decode yB 12 = .ok (.if_icmp (.ge) 20, 3) := by decide +kernel
theorem d15 : decode yB 15 = .ok (.aload_n 0, 1) := by decide +kernel
theorem d16 : decode yB 16 = .ok (.iload_n 2, 1) := by decide +kernel
theorem d17 : decode yB 17 = .ok (.baload, 1) := by decide +kernel
theorem d18 : decode yB 18 = .ok (.aload_n 1, 1) := by decide +kernel
theorem d19 : decode yB 19 = .ok (.iload_n 2, 1) := by decide +kernel
theorem d20 : decode yB 20 = .ok (.baload, 1) := by decide +kernel
theorem d21 : decode yB 21 = .ok (.if_icmp (.eq) 5, 3) := by decide +kernel
theorem d24 : decode yB 24 = .ok (.iconst 0, 1) := by decide +kernel
theorem d25 : decode yB 25 = .ok (.ireturn, 1) := by decide +kernel
theorem d26 : decode yB 26 = .ok (.iinc 2 1, 3) := by decide +kernel
theorem d29 : decode yB 29 = .ok (.goto (-20), 3) := by decide +kernel
theorem d32 : decode yB 32 = .ok (.iconst 1, 1) := by decide +kernel
theorem d33 : decode yB 33 = .ok (.ireturn, 1) := by decide +kernel
theorem d34 : decode yB 34 = .ok (.iconst 0, 1) := by decide +kernel
theorem d35 : decode yB 35 = .ok (.ireturn, 1) := by decide +kernel
def site : List Cond := []
def tab : Cond := tabOf yN yB 3 (some .boolean) site
def P (a : Addr) (A : Cell) (b : Addr) (B : Cell) (args : Array Value) (s : State) : Prop := args = #[.ref a, .ref b] ∧ XT.Arr .byte a A s ∧ Typed .byte A ∧ XT.Arr .byte b B s ∧ Typed .byte B
/-- whether two byte[] are equal, place for place -/
theorem law (l : Launch) (a : Addr) (A : Cell) (b : Addr) (B : Cell) : Law l yN 2 2 0 0 yB 3 (some .boolean) site (P a A b B) (Says01 (EqC A B)) [] 0 0 := by
  refine Law.of_walk (plainFor_of_name (by decide +kernel)) (by decide +kernel) (by decide +kernel) (by decide) (fun _ _ h => by rw [h.1]; rfl) (fun _ U U' hal hh h => ⟨h.1, h.2.1.mv hal hh, h.2.2.1, h.2.2.2.1.mv hal hh, h.2.2.2.2⟩) (fun r U U' V V' h1 hal h2 h => Says01.mv r U U' V V' h1 hal h2 h) ?_
  intro p e s m args below meth c s₁ X0 hexec hbytes hml hret hlk hnm hown hh0 W hP
  obtain ⟨rfl, hA, tA, hB, tB⟩ := hP
  have a31 := hA.2.2.2
  have b31 := hB.2.2.2
  have hA0 := hA.mv X0.warmed.alike hh0
  have hB0 := hB.mv X0.warmed.alike hh0
  have c1 : Steps p.tables e below (s₁.setTop (entryFrame m #[.ref a, .ref b] 3)) (s₁.setTop (mkF m 0 #[.val (.ref a), .val (.ref b), .unset] [])) := entry rfl
  have c2 : Steps p.tables e below (s₁.setTop (entryFrame m #[.ref a, .ref b] 3)) (s₁.setTop (mkF m 4 #[.val (.ref a), .val (.ref b), .unset] [.int (Int32.ofNat B.slots.size), .int (Int32.ofNat A.slots.size)])) := c1.trans (by
    refine XS.aloadN X0.here hexec rfl (hb hbytes d0) rfl rfl ?_
    refine X0.alen hexec hA0 rfl rfl (hb hbytes d1) ?_
    refine XS.aloadN X0.here hexec rfl (hb hbytes d2) rfl rfl ?_
    refine X0.alen hexec hB0 rfl rfl (hb hbytes d3) ?_
    exact Steps.refl _)
  by_cases hs : A.slots.size = B.slots.size
  · have c3 : Steps p.tables e below (s₁.setTop (entryFrame m #[.ref a, .ref b] 3)) (s₁.setTop (mkF m 9 #[.val (.ref a), .val (.ref b), .val (.int 0)] [])) := c2.trans (by
      refine XS.icmpNo X0.here hexec rfl (hb hbytes d4) rfl (ii_ne_f (by rw [hs])) ?_
      refine iconstV X0.here hexec rfl 0 (hb hbytes d7) (by decide) ?_
      refine XS.istoreN X0.here hexec rfl (hb hbytes d8) rfl rfl ?_
      exact Steps.refl _)
    have loop : ∀ (r i : Nat), i + r = A.slots.size → (∀ j, j < i → yv A j = yv B j) → Steps p.tables e below (s₁.setTop (entryFrame m #[.ref a, .ref b] 3)) (s₁.setTop (mkF m 9 #[.val (.ref a), .val (.ref b), .val (.int (Int32.ofNat i))] [])) → ∃ (pc : Nat) (Ls : Array Slot) (v : Int32), (pc = 25 ∨ pc = 33) ∧ ((v = 1 ∧ EqC A B) ∨ (v = 0 ∧ ¬ EqC A B)) ∧ Steps p.tables e below (s₁.setTop (entryFrame m #[.ref a, .ref b] 3)) (s₁.setTop (mkF m pc Ls [.int v])) := by
      intro r
      induction r with
      | zero =>
        intro i hi he cl
        exact ⟨33, _, 1, Or.inr rfl, Or.inl ⟨rfl, hs, fun j hj => he j (by omega)⟩, cl.trans (by
          refine XS.iloadN X0.here hexec rfl (hb hbytes d9) rfl ?_
          refine XS.aloadN X0.here hexec rfl (hb hbytes d10) rfl rfl ?_
          refine X0.alen hexec hA0 rfl rfl (hb hbytes d11) ?_
          refine XS.icmpYes X0.here hexec rfl (pc0 := 12) rfl (hb hbytes d12) rfl (ii_ge_t (nlt32 (by omega) (by omega))) (by decide) rfl ?_
          refine iconstV X0.here hexec rfl 1 (hb hbytes d32) (by decide) ?_
          exact Steps.refl _)⟩
      | succ r ih =>
        intro i hi he cl
        have c4 : Steps p.tables e below (s₁.setTop (entryFrame m #[.ref a, .ref b] 3)) (s₁.setTop (mkF m 21 #[.val (.ref a), .val (.ref b), .val (.int (Int32.ofNat i))] [.int (yv B i), .int (yv A i)])) := cl.trans (by
          refine XS.iloadN X0.here hexec rfl (hb hbytes d9) rfl ?_
          refine XS.aloadN X0.here hexec rfl (hb hbytes d10) rfl rfl ?_
          refine X0.alen hexec hA0 rfl rfl (hb hbytes d11) ?_
          refine XS.icmpNo X0.here hexec rfl (hb hbytes d12) rfl (ii_ge_f (lt32 (by omega) (by omega))) ?_
          refine XS.aloadN X0.here hexec rfl (hb hbytes d15) rfl rfl ?_
          refine XS.iloadN X0.here hexec rfl (hb hbytes d16) rfl ?_
          refine X0.aget hexec hA0 rfl (yv_get hA tA (i := i) (by omega)) rfl rfl (hb hbytes d17) ?_
          refine XS.aloadN X0.here hexec rfl (hb hbytes d18) rfl rfl ?_
          refine XS.iloadN X0.here hexec rfl (hb hbytes d19) rfl ?_
          refine X0.aget hexec hB0 rfl (yv_get hB tB (i := i) (by omega)) rfl rfl (hb hbytes d20) ?_
          exact Steps.refl _)
        by_cases hv : yv A i = yv B i
        · have c5 : Steps p.tables e below (s₁.setTop (entryFrame m #[.ref a, .ref b] 3)) (s₁.setTop (mkF m 9 #[.val (.ref a), .val (.ref b), .val (.int (Int32.ofNat i + 1))] [])) := c4.trans (by
            refine XS.icmpYes X0.here hexec rfl (pc0 := 21) rfl (hb hbytes d21) rfl (ii_eq_t hv) (by decide) rfl ?_
            refine iincV X0.here hexec rfl 1 (hb hbytes d26) (by decide) rfl rfl ?_
            refine XS.goto X0.here hexec rfl (pc0 := 29) rfl (hb hbytes d29) (by decide) rfl ?_
            exact Steps.refl _)
          rw [succ32] at c5
          exact ih (i + 1) (by omega) (fun j hj => by
            by_cases e : j = i
            · rw [e]; exact hv
            · exact he j (by omega)) c5
        · exact ⟨25, _, 0, Or.inl rfl, Or.inr ⟨rfl, fun q => hv (q.2 i (by omega))⟩, c4.trans (by
            refine XS.icmpNo X0.here hexec rfl (hb hbytes d21) rfl (ii_eq_f hv) ?_
            refine iconstV X0.here hexec rfl 0 (hb hbytes d24) (by decide) ?_
            exact Steps.refl _)⟩
    obtain ⟨pc, Ls, v, hpc, hv, cz⟩ := loop A.slots.size 0 (by omega) (fun j hj => absurd hj (Nat.not_lt_zero j)) c3
    have nv : narrow .boolean (.int v) = .int v := by rcases hv with ⟨rfl, -⟩ | ⟨rfl, -⟩ <;> rfl
    rcases hpc with rfl | rfl
    · exact ⟨s₁, some (.int v), _, _, _, X0, rfl, rfl, rfl, (fun h => by cases h), ⟨v, rfl, hh0, hv⟩, fun fs hl => cz.trans (X0.ireturnOut hexec hret nv (Or.inr (Or.inl rfl)) (hb hbytes d25) hl)⟩
    · exact ⟨s₁, some (.int v), _, _, _, X0, rfl, rfl, rfl, (fun h => by cases h), ⟨v, rfl, hh0, hv⟩, fun fs hl => cz.trans (X0.ireturnOut hexec hret nv (Or.inr (Or.inl rfl)) (hb hbytes d33) hl)⟩
  · have c3 : Steps p.tables e below (s₁.setTop (entryFrame m #[.ref a, .ref b] 3)) (s₁.setTop (mkF m 35 #[.val (.ref a), .val (.ref b), .unset] [.int 0])) := c2.trans (by
      refine XS.icmpYes X0.here hexec rfl (pc0 := 4) rfl (hb hbytes d4) rfl (ii_ne_t (ne32 a31 b31 hs)) (by decide) rfl ?_
      refine iconstV X0.here hexec rfl 0 (hb hbytes d34) (by decide) ?_
      exact Steps.refl _)
    exact ⟨s₁, some (.int 0), _, _, _, X0, rfl, rfl, rfl, (fun h => by cases h), ⟨0, rfl, hh0, Or.inr ⟨rfl, fun q => hs q.1⟩⟩, fun fs hl => c3.trans (X0.ireturnOut hexec hret rfl (Or.inr (Or.inl rfl)) (hb hbytes d35) hl)⟩
end LEq
theorem Cod.ty {cd : Int32} {n : Nat} {f : Nat → Int32} {V : Cell} (h : Cod cd n f V) : Typed .byte V := fun i v hv => by
  have hi : i < V.slots.size := (Array.getElem?_eq_some_iff.mp hv).1
  rcases h with ⟨-, k1, k2⟩ | ⟨-, k1, k2, -⟩
  · rw [(k2 i (by omega)).1] at hv; cases hv; exact fits_lo8 _
  · rcases Nat.mod_two_eq_zero_or_one i with e | e
    · obtain ⟨j, rfl⟩ : ∃ j, i = 2 * j := ⟨i / 2, by omega⟩
      rw [(k2 j (by omega)).1] at hv; cases hv; exact fits_lo8 _
    · obtain ⟨j, rfl⟩ : ∃ j, i = 2 * j + 1 := ⟨i / 2, by omega⟩
      rw [(k2 j (by omega)).2] at hv; cases hv; exact fits_lo8 _
/-- the same text -/
def SameT (n : Nat) (f : Nat → Int32) (k : Nat) (g : Nat → Int32) : Prop := n = k ∧ ∀ j, j < n → f j = g j
theorem lo8_inj {x y : Int32} (h0 : ¬ x < 0) (h1 : ¬ 255 < x) (k0 : ¬ y < 0) (k1 : ¬ 255 < y) (h : lo8 x = lo8 y) : x = y := by
  rw [← lo8_mask h0 h1, ← lo8_mask k0 k1, h]
/-- arrays coded by one coder are equal just where the texts are -/
theorem Cod.eqv {cd : Int32} {n k : Nat} {f g : Nat → Int32} {V V' : Cell} (h : Cod cd n f V) (h' : Cod cd k g V') (hf : ∀ j, j < n → ¬ f j < 0 ∧ ¬ 65535 < f j) (hg : ∀ j, j < k → ¬ g j < 0 ∧ ¬ 65535 < g j) : EqC V V' ↔ SameT n f k g := by
  have yvv : ∀ {W : Cell} {i : Nat} {x : Int32}, W.slots[i]? = some (.int x) → yv W i = x := fun q => by unfold yv; rw [q]
  rcases h with ⟨rfl, k1, k2⟩ | ⟨rfl, k1, k2, -⟩
  · rcases h' with ⟨-, m1, m2⟩ | ⟨e, -⟩
    · constructor
      · rintro ⟨e1, e2⟩
        refine ⟨by omega, fun j hj => ?_⟩
        have q := e2 j (by omega)
        rw [yvv (k2 j hj).1, yvv (m2 j (by omega)).1] at q
        exact lo8_inj (hf j hj).1 (k2 j hj).2 (hg j (by omega)).1 (m2 j (by omega)).2 q
      · rintro ⟨rfl, e2⟩
        refine ⟨by omega, fun j hj => ?_⟩
        rw [yvv (k2 j (by omega)).1, yvv (m2 j (by omega)).1, e2 j (by omega)]
    · exact absurd e (by decide)
  · rcases h' with ⟨e, -⟩ | ⟨-, m1, m2, -⟩
    · exact absurd e (by decide)
    · constructor
      · rintro ⟨e1, e2⟩
        refine ⟨by omega, fun j hj => ?_⟩
        have q1 := e2 (2 * j) (by omega)
        have q2 := e2 (2 * j + 1) (by omega)
        rw [yvv (k2 j hj).1, yvv (m2 j (by omega)).1] at q1
        rw [yvv (k2 j hj).2, yvv (m2 j (by omega)).2] at q2
        rw [← pair_says (hf j hj).1 (hf j hj).2, ← pair_says (hg j (by omega)).1 (hg j (by omega)).2, q1, q2]
      · rintro ⟨rfl, e2⟩
        refine ⟨by omega, fun i hi => ?_⟩
        rcases Nat.mod_two_eq_zero_or_one i with e | e
        · obtain ⟨j, rfl⟩ : ∃ j, i = 2 * j := ⟨i / 2, by omega⟩
          rw [yvv (k2 j (by omega)).1, yvv (m2 j (by omega)).1, e2 j (by omega)]
        · obtain ⟨j, rfl⟩ : ∃ j, i = 2 * j + 1 := ⟨i / 2, by omega⟩
          rw [yvv (k2 j (by omega)).2, yvv (m2 j (by omega)).2, e2 j (by omega)]
/-- two codings differ: so do the texts -/
theorem Cod.dif {cd cd' : Int32} {n k : Nat} {f g : Nat → Int32} {V V' : Cell} (h : Cod cd n f V) (h' : Cod cd' k g V') (hne : ¬ cd = cd') : ¬ SameT n f k g := by
  rintro ⟨rfl, e⟩
  rcases h with ⟨rfl, -, k2⟩ | ⟨rfl, -, -, j, hj, hw⟩
  · rcases h' with ⟨rfl, -⟩ | ⟨-, -, -, j, hj, hw⟩
    · exact hne rfl
    · exact (k2 j hj).2 (by rw [e j hj]; exact hw)
  · rcases h' with ⟨-, -, m2⟩ | ⟨rfl, -⟩
    · exact (m2 j hj).2 (by rw [← e j hj]; exact hw)
    · exact hne rfl
/-- an object of exactly C is an instance of C -/
theorem cinst {p : Program} {l : Launch} {e : Env} {R : Room} {s : State} {m : MethodId} {args : Array Value} {below : List Frame} {meth : Method} {c : Code} {T : State} {locs : List Loc} {cells slots : Nat} (X : Stand p l e R s m args below meth c T locs cells slots) (hexec : p.tables.exec = Jvm.exec) {own C : String} {index : Nat} (hown : s.vm.findClass own = some m.cls) (hlink : (Cond.classLink own index C).before args s = true) {a : Addr} (hE : Exact C a T)
    {g : JFrame} (hg : g.method = m) {rest : List Value} (hstack : g.stack = .ref a :: rest) (hdg : decode c.code g.pc = .ok (.instanceof index, 3)) :
    ∃ T', Stand p l e R s m args below meth c T' locs cells slots ∧ T'.heap = T.heap ∧ ∀ target, Steps p.tables e below (T'.setTop { g with pc := g.pc + 3, stack := .int 1 :: rest }) target → Steps p.tables e below (T.setTop g) target := by
  obtain ⟨cB, h1, D, h2, h3, h4⟩ := hE
  have h1' : s.vm.findClass C = some cB := by rw [← X.warmed.alike.findClass]; exact h1
  obtain ⟨vm', X', st⟩ := X.instanceofYes hexec hown hlink h2 h4 h1' (by rw [h3]; exact Jvm.Free.SB.assignable_self _ _) hg hstack hdg
  exact ⟨_, X', rfl, st⟩
theorem cself {p : Program} {l : Launch} {e : Env} {R : Room} {s : State} {m : MethodId} {args : Array Value} {below : List Frame} {meth : Method} {c : Code} {T : State} {locs : List Loc} {cells slots : Nat} (X : Stand p l e R s m args below meth c T locs cells slots) (hexec : p.tables.exec = Jvm.exec) {own C : String} {index : Nat} (hown : s.vm.findClass own = some m.cls) (hlink : (Cond.classLink own index C).before args s = true) {a : Addr} (hE : Exact C a T)
    {g : JFrame} (hg : g.method = m) {rest : List Value} (hstack : g.stack = .ref a :: rest) (hdg : decode c.code g.pc = .ok (.checkcast index, 3)) :
    ∃ T', Stand p l e R s m args below meth c T' locs cells slots ∧ T'.heap = T.heap ∧ ∀ target, Steps p.tables e below (T'.setTop { g with pc := g.pc + 3, stack := .ref a :: rest }) target → Steps p.tables e below (T.setTop g) target := by
  obtain ⟨cB, h1, D, h2, h3, h4⟩ := hE
  have h1' : s.vm.findClass C = some cB := by rw [← X.warmed.alike.findClass]; exact h1
  obtain ⟨vm', X', st⟩ := X.checkcastYes hexec hown hlink h2 h4 h1' (by rw [h3]; exact Jvm.Free.SB.assignable_self _ _) hg hstack hdg
  exact ⟨_, X', rfl, fun t h => st t (by rw [← hstack] at h; exact h)⟩
namespace SEq
def yN : MethodName := ⟨"java/lang/String", "equals", "(Ljava/lang/Object;)Z"⟩
abbrev yB : ByteArray := jdk_42_method_66_code
theorem d0 : decode yB 0 = .ok (.aload_n 0, 1) := by decide +kernel
theorem d1 : decode yB 1 = .ok (.aload_n 1, 1) := by decide +kernel
theorem d2 : decode yB 2 = .ok (.if_acmp (.ne) 5, 3) := by decide +kernel
theorem d5 : decode yB 5 = .ok (.iconst 1, 1) := by decide +kernel
theorem d6 : decode yB 6 = .ok (.ireturn, 1) := by decide +kernel
theorem d7 : decode yB 7 = .ok (.aload_n 1, 1) := by decide +kernel
theorem d8 : decode yB 8 = .ok (.instanceof 10, 3) := by decide +kernel
theorem d11 : decode yB 11 = .ok (.ifCond (.eq) 43, 3) := by decide +kernel
theorem d14 : decode yB 14 = .ok (.aload_n 1, 1) := by decide +kernel
theorem d15 : decode yB 15 = .ok (.checkcast 10, 3) := by decide +kernel
theorem d18 : decode yB 18 = .ok (.astore_n 2, 1) := by decide +kernel
theorem d19 : decode yB 19 = .ok (.getstatic 38, 3) := by decide +kernel
theorem d22 : decode yB 22 = .ok (.ifCond (.eq) 14, 3) := by decide +kernel
theorem d25 : decode yB 25 = .ok (.aload_n 0, 1) := by decide +kernel
theorem d26 : decode yB 26 = .ok (.getfield 15, 3) := by decide +kernel
theorem d29 : decode yB 29 = .ok (.aload_n 2, 1) := by decide +kernel
theorem d30 : decode yB 30 = .ok (.getfield 15, 3) := by decide +kernel
theorem d33 : decode yB 33 = .ok (.if_icmp (.ne) 21, 3) := by decide +kernel
theorem d36 : decode yB 36 = .ok (.aload_n 0, 1) := by decide +kernel
theorem d37 : decode yB 37 = .ok (.getfield 9, 3) := by decide +kernel
theorem d40 : decode yB 40 = .ok (.aload_n 2, 1) := by decide +kernel
theorem d41 : decode yB 41 = .ok (.getfield 9, 3) := by decide +kernel
theorem d44 : decode yB 44 = .ok (.invokestatic 541, 3) := by decide +kernel
theorem d47 : decode yB 47 = .ok (.ifCond (.eq) 7, 3) := by decide +kernel
theorem d50 : decode yB 50 = .ok (.iconst 1, 1) := by decide +kernel
theorem d51 : decode yB 51 = .ok (.goto 4, 3) := by decide +kernel
theorem d54 : decode yB 54 = .ok (.iconst 0, 1) := by decide +kernel
theorem d55 : decode yB 55 = .ok (.ireturn, 1) := by decide +kernel
def site : List Cond := [.classLink "java/lang/String" 10 "java/lang/String", .fieldLink "java/lang/String" 38 "java/lang/String" "COMPACT_STRINGS" "Z", .fieldLink "java/lang/String" 15 "java/lang/String" "coder" "B", .fieldLink "java/lang/String" 9 "java/lang/String" "value" "[B", LEq.tab] ++ staticW "java/lang/String" 541 LEq.yN
def tab : Cond := tabOf yN yB 3 (some .boolean) site
def P (x t : Addr) (V : Cell) (cd : Int32) (n : Nat) (f : Nat → Int32) (y t' : Addr) (V' : Cell) (cd' : Int32) (k : Nat) (g : Nat → Int32) (z : Int32) (args : Array Value) (s : State) : Prop := args = #[.ref x, .ref y] ∧ Txt x t V cd n f s ∧ Txt y t' V' cd' k g s ∧ StaticIs s "java/lang/String" "COMPACT_STRINGS" "Z" (.int z) ∧ ¬ z = 0
/-- equals(Object) of two Strings: whether the texts are the same -/
theorem law (l : Launch) (x t : Addr) (V : Cell) (cd : Int32) (n : Nat) (f : Nat → Int32) (y t' : Addr) (V' : Cell) (cd' : Int32) (k : Nat) (g : Nat → Int32) (z : Int32) : Law l yN 2 1 1 14 yB 3 (some .boolean) site (P x t V cd n f y t' V' cd' k g z) (Says01 (SameT n f k g)) [] 0 0 := by
  refine Law.of_walk (plainFor_of_name (by decide +kernel)) (by decide +kernel) (by decide +kernel) (by decide) (fun _ _ h => by rw [h.1]; rfl) (fun _ U U' hal hh h => ⟨h.1, h.2.1.mv hal hh, h.2.2.1.mv hal hh, h.2.2.2.1.there hal hh, h.2.2.2.2⟩) (fun r U U' V V' h1 hal h2 h => Says01.mv r U U' V V' h1 hal h2 h) ?_
  intro p e s m args below meth c s₁ X0 hexec hbytes hml hret hlk hnm hown hh0 W hP
  obtain ⟨rfl, hx, hy, s1, hz⟩ := hP
  have c1 : Steps p.tables e below (s₁.setTop (entryFrame m #[.ref x, .ref y] 3)) (s₁.setTop (mkF m 2 #[.val (.ref x), .val (.ref y), .unset] [.ref y, .ref x])) := Steps.trans (entry rfl) (by
    show Steps p.tables e below (s₁.setTop (mkF m 0 #[.val (.ref x), .val (.ref y), .unset] [])) _
    refine XS.aloadN X0.here hexec rfl (hb hbytes d0) rfl rfl ?_
    refine XS.aloadN X0.here hexec rfl (hb hbytes d1) rfl rfl ?_
    exact Steps.refl _)
  by_cases hxy : x = y
  · have c2 : Steps p.tables e below (s₁.setTop (entryFrame m #[.ref x, .ref y] 3)) (s₁.setTop (mkF m 6 #[.val (.ref x), .val (.ref y), .unset] [.int 1])) := c1.trans (by
      refine acmpNo X0.here hexec rfl (hb hbytes d2) rfl rfl rfl (by simp [acmp, hxy]) ?_
      refine iconstV X0.here hexec rfl 1 (hb hbytes d5) (by decide) ?_
      exact Steps.refl _)
    subst hxy
    have ec : cd = cd' := by
      obtain ⟨D, fd, a1, a2, a3⟩ := hx.2.2.1
      obtain ⟨D', fd', b1, b2, b3⟩ := hy.2.2.1
      cases a1.symm.trans b1
      obtain ⟨q1, q2, q3, q4⟩ := a2.1
      obtain ⟨r1, r2, r3, r4⟩ := b2.1
      cases q4.symm.trans r4
      cases a3.symm.trans b3; rfl
    have et : t = t' := by
      obtain ⟨D, fd, a1, a2, a3⟩ := hx.2.1
      obtain ⟨D', fd', b1, b2, b3⟩ := hy.2.1
      cases a1.symm.trans b1
      obtain ⟨q1, q2, q3, q4⟩ := a2.1
      obtain ⟨r1, r2, r3, r4⟩ := b2.1
      cases q4.symm.trans r4
      cases a3.symm.trans b3; rfl
    subst ec et
    have ev : V = V' := by cases hx.2.2.2.1.1.symm.trans hy.2.2.2.1.1; rfl
    subst ev
    have hs : SameT n f k g := (Cod.eqv hx.2.2.2.2.1 hy.2.2.2.2.1 hx.2.2.2.2.2 hy.2.2.2.2.2).mp ⟨rfl, fun _ _ => rfl⟩
    exact ⟨s₁, some (.int 1), _, _, _, X0, rfl, rfl, rfl, (fun h => by cases h), ⟨1, rfl, hh0, Or.inl ⟨rfl, hs⟩⟩, fun fs hl => c2.trans (X0.ireturnOut hexec hret rfl (Or.inr (Or.inl rfl)) (hb hbytes d6) hl)⟩
  · have c2 : Steps p.tables e below (s₁.setTop (entryFrame m #[.ref x, .ref y] 3)) (s₁.setTop (mkF m 8 #[.val (.ref x), .val (.ref y), .unset] [.ref y])) := c1.trans (by
      refine acmpYes X0.here hexec rfl (pc0 := 2) rfl (hb hbytes d2) rfl rfl rfl (by simp [acmp, hxy]) (by decide) rfl ?_
      refine XS.aloadN X0.here hexec rfl (hb hbytes d7) rfl rfl ?_
      exact Steps.refl _)
    obtain ⟨T3, X3, q3, st3⟩ := cinst X0 hexec hown (wk W (.classLink "java/lang/String" 10 "java/lang/String")) (hy.mv X0.warmed.alike hh0).1 (g := (mkF m 8 #[.val (.ref x), .val (.ref y), .unset] [.ref y])) rfl (rest := []) rfl (hb hbytes d8)
    have hh3 := q3.trans hh0
    have c4 : Steps p.tables e below (s₁.setTop (entryFrame m #[.ref x, .ref y] 3)) (T3.setTop (mkF m 15 #[.val (.ref x), .val (.ref y), .unset] [.ref y])) := (c2.trans (st3 _ (Steps.refl _))).trans (by
      refine XS.ifNo X3.here hexec rfl (hb hbytes d11) rfl (i0_eq_f (by decide)) ?_
      refine XS.aloadN X3.here hexec rfl (hb hbytes d14) rfl rfl ?_
      exact Steps.refl _)
    obtain ⟨T5, X5, q5, st5⟩ := cself X3 hexec hown (wk W (.classLink "java/lang/String" 10 "java/lang/String")) (hy.mv X3.warmed.alike hh3).1 (g := (mkF m 15 #[.val (.ref x), .val (.ref y), .unset] [.ref y])) rfl (rest := []) rfl (hb hbytes d15)
    have hh5 := q5.trans hh3
    have c6 : Steps p.tables e below (s₁.setTop (entryFrame m #[.ref x, .ref y] 3)) (T5.setTop (mkF m 19 #[.val (.ref x), .val (.ref y), .val (.ref y)] [])) := (c4.trans (st5 _ (Steps.refl _))).trans (by
      refine XS.astoreN X5.here hexec rfl (hb hbytes d18) rfl rfl rfl ?_
      exact Steps.refl _)
    obtain ⟨T7, X7, q7, st7⟩ := X5.sget hexec hown (wk W (.fieldLink "java/lang/String" 38 "java/lang/String" "COMPACT_STRINGS" "Z")) s1 (fun _ _ h => by rw [hh5]; exact h) (g := (mkF m 19 #[.val (.ref x), .val (.ref y), .val (.ref y)] [])) rfl (hb hbytes d19)
    have hh7 := q7.trans hh5
    have c8 : Steps p.tables e below (s₁.setTop (entryFrame m #[.ref x, .ref y] 3)) (T7.setTop (mkF m 26 #[.val (.ref x), .val (.ref y), .val (.ref y)] [.ref x])) := (c6.trans (st7 _ (Steps.refl _))).trans (by
      refine XS.ifNo X7.here hexec rfl (hb hbytes d22) rfl (i0_eq_f hz) ?_
      refine XS.aloadN X7.here hexec rfl (hb hbytes d25) rfl rfl ?_
      exact Steps.refl _)
    obtain ⟨T9, X9, q9, st9⟩ := X7.hget hexec hown (wk W (.fieldLink "java/lang/String" 15 "java/lang/String" "coder" "B")) (hx.mv X7.warmed.alike hh7).2.2.1 (g := (mkF m 26 #[.val (.ref x), .val (.ref y), .val (.ref y)] [.ref x])) rfl (rest := []) rfl (hb hbytes d26)
    have hh9 := q9.trans hh7
    have c10 : Steps p.tables e below (s₁.setTop (entryFrame m #[.ref x, .ref y] 3)) (T9.setTop (mkF m 30 #[.val (.ref x), .val (.ref y), .val (.ref y)] [.ref y, .int cd])) := (c8.trans (st9 _ (Steps.refl _))).trans (by
      refine XS.aloadN X9.here hexec rfl (hb hbytes d29) rfl rfl ?_
      exact Steps.refl _)
    obtain ⟨T11, X11, q11, st11⟩ := X9.hget hexec hown (wk W (.fieldLink "java/lang/String" 15 "java/lang/String" "coder" "B")) (hy.mv X9.warmed.alike hh9).2.2.1 (g := (mkF m 30 #[.val (.ref x), .val (.ref y), .val (.ref y)] [.ref y, .int cd])) rfl (rest := [.int cd]) rfl (hb hbytes d30)
    have hh11 := q11.trans hh9
    have c12 : Steps p.tables e below (s₁.setTop (entryFrame m #[.ref x, .ref y] 3)) (T11.setTop (mkF m 33 #[.val (.ref x), .val (.ref y), .val (.ref y)] [.int cd', .int cd])) := c10.trans (st11 _ (Steps.refl _))
    by_cases hcd : cd = cd'
    · subst hcd
      have c13 : Steps p.tables e below (s₁.setTop (entryFrame m #[.ref x, .ref y] 3)) (T11.setTop (mkF m 37 #[.val (.ref x), .val (.ref y), .val (.ref y)] [.ref x])) := c12.trans (by
        refine XS.icmpNo X11.here hexec rfl (hb hbytes d33) rfl (ii_ne_f rfl) ?_
        refine XS.aloadN X11.here hexec rfl (hb hbytes d36) rfl rfl ?_
        exact Steps.refl _)
      obtain ⟨T14, X14, q14, st14⟩ := X11.hget hexec hown (wk W (.fieldLink "java/lang/String" 9 "java/lang/String" "value" "[B")) (hx.mv X11.warmed.alike hh11).2.1 (g := (mkF m 37 #[.val (.ref x), .val (.ref y), .val (.ref y)] [.ref x])) rfl (rest := []) rfl (hb hbytes d37)
      have hh14 := q14.trans hh11
      have c15 : Steps p.tables e below (s₁.setTop (entryFrame m #[.ref x, .ref y] 3)) (T14.setTop (mkF m 41 #[.val (.ref x), .val (.ref y), .val (.ref y)] [.ref y, .ref t])) := (c13.trans (st14 _ (Steps.refl _))).trans (by
        refine XS.aloadN X14.here hexec rfl (hb hbytes d40) rfl rfl ?_
        exact Steps.refl _)
      obtain ⟨T16, X16, q16, st16⟩ := X14.hget hexec hown (wk W (.fieldLink "java/lang/String" 9 "java/lang/String" "value" "[B")) (hy.mv X14.warmed.alike hh14).2.1 (g := (mkF m 41 #[.val (.ref x), .val (.ref y), .val (.ref y)] [.ref y, .ref t])) rfl (rest := [.ref t]) rfl (hb hbytes d41)
      have hh16 := q16.trans hh14
      have c17 : Steps p.tables e below (s₁.setTop (entryFrame m #[.ref x, .ref y] 3)) (T16.setTop (mkF m 44 #[.val (.ref x), .val (.ref y), .val (.ref y)] [.ref t', .ref t])) := c15.trans (st16 _ (Steps.refl _))
      obtain ⟨v18, T18, X18, E18, g18⟩ := X16.callS hexec (LEq.law l t V t' V') hown (wks W (staticW "java/lang/String" 541 LEq.yN)) (wk W LEq.tab) (W := 0) (Nat.le_of_ble_eq_true rfl) (Nat.le_of_ble_eq_true rfl) (Nat.le_refl _) (Nat.le_refl _) (g := (mkF m 44 #[.val (.ref x), .val (.ref y), .val (.ref y)] [.ref t', .ref t])) rfl (by rw [hml]; rfl) c17 (argsL := [.ref t, .ref t']) (rest := []) rfl rfl (by show 2 * 0 + 0 ≤ _; decide) (hb hbytes d44) (⟨rfl, hx.2.2.2.1.mv X16.warmed.alike hh16, hx.2.2.2.2.1.ty, hy.2.2.2.1.mv X16.warmed.alike hh16, hy.2.2.2.2.1.ty⟩)
      obtain ⟨v, rfl, q18, hv⟩ := E18
      have iff := Cod.eqv hx.2.2.2.2.1 hy.2.2.2.2.1 hx.2.2.2.2.2 hy.2.2.2.2.2
      rcases hv with ⟨rfl, he⟩ | ⟨rfl, he⟩
      · have c19 : Steps p.tables e below (s₁.setTop (entryFrame m #[.ref x, .ref y] 3)) (T18.setTop (mkF m 55 #[.val (.ref x), .val (.ref y), .val (.ref y)] [.int 1])) := Steps.trans g18 (by
          refine XS.ifNo X18.here hexec rfl (hb hbytes d47) rfl (i0_eq_f (by decide)) ?_
          refine iconstV X18.here hexec rfl 1 (hb hbytes d50) (by decide) ?_
          refine XS.goto X18.here hexec rfl (pc0 := 51) rfl (hb hbytes d51) (by decide) rfl ?_
          exact Steps.refl _)
        exact ⟨T18, some (.int 1), _, _, _, X18, rfl, rfl, rfl, (fun h => by cases h), ⟨1, rfl, q18.trans hh16, Or.inl ⟨rfl, iff.mp he⟩⟩, fun fs hl => c19.trans (X18.ireturnOut hexec hret rfl (Or.inr (Or.inl rfl)) (hb hbytes d55) hl)⟩
      · have c19 : Steps p.tables e below (s₁.setTop (entryFrame m #[.ref x, .ref y] 3)) (T18.setTop (mkF m 55 #[.val (.ref x), .val (.ref y), .val (.ref y)] [.int 0])) := Steps.trans g18 (by
          refine XS.ifYes X18.here hexec rfl (pc0 := 47) rfl (hb hbytes d47) rfl (i0_eq_t rfl) (by decide) rfl ?_
          refine iconstV X18.here hexec rfl 0 (hb hbytes d54) (by decide) ?_
          exact Steps.refl _)
        exact ⟨T18, some (.int 0), _, _, _, X18, rfl, rfl, rfl, (fun h => by cases h), ⟨0, rfl, q18.trans hh16, Or.inr ⟨rfl, fun q => he (iff.mpr q)⟩⟩, fun fs hl => c19.trans (X18.ireturnOut hexec hret rfl (Or.inr (Or.inl rfl)) (hb hbytes d55) hl)⟩
    · have c13 : Steps p.tables e below (s₁.setTop (entryFrame m #[.ref x, .ref y] 3)) (T11.setTop (mkF m 55 #[.val (.ref x), .val (.ref y), .val (.ref y)] [.int 0])) := c12.trans (by
        refine XS.icmpYes X11.here hexec rfl (pc0 := 33) rfl (hb hbytes d33) rfl (ii_ne_t hcd) (by decide) rfl ?_
        refine iconstV X11.here hexec rfl 0 (hb hbytes d54) (by decide) ?_
        exact Steps.refl _)
      exact ⟨T11, some (.int 0), _, _, _, X11, rfl, rfl, rfl, (fun h => by cases h), ⟨0, rfl, hh11, Or.inr ⟨rfl, Cod.dif hx.2.2.2.2.1 hy.2.2.2.2.1 hcd⟩⟩, fun fs hl => c13.trans (X11.ireturnOut hexec hret rfl (Or.inr (Or.inl rfl)) (hb hbytes d55) hl)⟩
theorem pays {l : Launch} {R : Room} {p : Program} {e : Env} {below : List Frame} {s : State} {sargs : Array Value} {len W : Nat} (x t : Addr) (V : Cell) (cd : Int32) (n : Nat) (f : Nat → Int32) (y t' : Addr) (V' : Cell) (cd' : Int32) (k : Nat) (g : Nat → Int32) (z : Int32) (htab : tab.before sargs s = true) (hfr : 2 ≤ R.frames) (hlo : W + 28 ≤ R.locals) :
    Back l R p e below s sargs yN len W (fun A₁ a₁ => A₁.cells + 0 ≤ R.cells ∧ A₁.slots + 0 ≤ R.slots ∧ P x t V cd n f y t' V' cd' k g z a₁ A₁.U) (fun A₁ _ v₁ B₁ => Says01 (SameT n f k g) v₁ A₁.U B₁.U ∧ B₁.locs = A₁.locs ++ [] ∧ B₁.cells = A₁.cells + 0 ∧ B₁.slots = A₁.slots + 0) :=
  (law l x t V cd n f y t' V' cd' k g z).pays htab hfr (by omega)
end SEq
end StrChars
namespace StrChars.Road
open Jvm Sem ClassFile Op Lib Jvm.Stand Jvm.Free Jvm.Free.XT
open Jvm.Lib.Cold (StaticIs)
/-- the words of String.equals(Object) -/
abbrev wordsEq : List Jvm.Cond := [.code SEq.yN SEq.yB 3 (some .boolean), .initialized ST, .classLink ST 10 ST, .fieldLink ST 38 ST "COMPACT_STRINGS" "Z", .fieldLink ST 15 ST "coder" "B", .fieldLink ST 9 ST "value" "[B", .methodLink ST 541 LEq.yN, .static LEq.yN, .code LEq.yN LEq.yB 3 (some .boolean), .initialized "java/lang/StringLatin1"]
theorem tabEq_of {a : Array Value} {s : State} (h : ∀ w ∈ wordsEq, w.before a s = true) : SEq.tab.before a s = true := by
  have hl : LEq.tab.before a s = true := unparts (wk h (.code LEq.yN LEq.yB 3 (some .boolean))) (wks h (.initialized LEq.yN.cls :: LEq.site))
  have q := consq hl h
  exact unparts (wk q (.code SEq.yN SEq.yB 3 (some .boolean))) (wks q (.initialized SEq.yN.cls :: SEq.site))
theorem movedEq {Z s : State} {a0 args : Array Value} (hZ : Z.Warmed39 s.vm) (hw : ∀ d ∈ wordsEq, d.before a0 Z = true) : ∀ d ∈ wordsEq, d.before args s = true := fun d hd => by
  have t : ∀ d ∈ wordsEq, (d.onTables && d.keepsFace) = true := by decide +kernel
  exact RoadKit.mv hZ (hw d hd) (t d hd)
/-- the road's facts of a String, as the laws ask it -/
theorem txt_of {Z U : State} {a0 : Array Value} {kI : Nat} (wi : (Jvm.Cond.instantiable ST kI).before a0 Z = true) (al : Z.vm.Alike U.vm) {x t : Addr} {kb : ClassId} {cs : List Int32} {cd N2 : Int32} {vs : List Value} (E : RoadKit.Exa Z U.heap x ST) (V : RoadKit.Fld Z U.heap x ST "value" "[B" (.ref t)) (C : RoadKit.Fld Z U.heap x ST "coder" "B" (.int cd)) (K : RoadKit.Arv Z U.heap t kb .byte N2 vs (.int 0)) (hc : CodA cs cd N2 vs) (hb : ∀ c ∈ cs, ¬ c < 0 ∧ ¬ (65535 : Int32) < c) (l2 : cs.length ≤ 4000) :
    ∃ A, Txt x t A cd cs.length (fun j => cs.getD j 0) U := by
  obtain ⟨A, K1, K2, K3, K4, K5, K6⟩ := K
  have hcod := hc.cod (by omega) K3 K5
  obtain ⟨D, fV, fC, hB, F1, F2, g1, g2, -, -⟩ := strObj wi al E V C
  exact ⟨A, ⟨_, hB.2.2.1, D, hB.1, rfl, by cases q : D.vm <;> first | rfl | exact absurd q (hB.2.1.2 _)⟩, Has.of hB F1 g1, Has.of hB F2 g2, ⟨K1.1, State.isArrayOf_alike al K1.2.1, K1.2.2, by rcases hcod with ⟨-, q, -⟩ | ⟨-, q, -⟩ <;> omega⟩, hcod, fun j hj => by
    have e : cs.getD j 0 = cs[j] := by simp [List.getD_eq_getElem?_getD, hj]
    show ¬ cs.getD j 0 < 0 ∧ ¬ 65535 < cs.getD j 0
    rw [e]; exact hb _ (List.getElem_mem _)⟩
theorem same_list (cs ds : List Int32) : SameT cs.length (fun j => cs.getD j 0) ds.length (fun j => ds.getD j 0) ↔ cs = ds := by
  constructor
  · rintro ⟨e, q⟩
    refine List.ext_getElem e fun j h1 h2 => ?_
    have := q j h1
    simpa [List.getD_eq_getElem?_getD, h1, h2] using this
  · rintro rfl
    exact ⟨rfl, fun _ _ => rfl⟩
/-- **equals(Object) OF TWO SUCH STRINGS**: 1 just where the chars are the same -/
theorem eqW {p : Program} {l : Launch} {e : Env} {R : Room} {s : State} {args : Array Value} {below : List Frame} {len W : Nat} {Z : State} {a0 : Array Value} {h : Heap} (hZ : Z.Warmed39 s.vm) (hw : ∀ d ∈ wordsEq, d.before a0 Z = true) {kI : Nat} (wi : (Jvm.Cond.instantiable ST kI).before a0 Z = true)
    {x t : Addr} {kb : ClassId} {cs : List Int32} {cd N2 : Int32} {vs : List Value} (E : RoadKit.Exa Z h x ST) (V : RoadKit.Fld Z h x ST "value" "[B" (.ref t)) (C : RoadKit.Fld Z h x ST "coder" "B" (.int cd)) (K : RoadKit.Arv Z h t kb .byte N2 vs (.int 0)) (hc : CodA cs cd N2 vs) (hb : ∀ c ∈ cs, ¬ c < 0 ∧ ¬ (65535 : Int32) < c) (l2 : cs.length ≤ 4000)
    {y t' : Addr} {kb' : ClassId} {ds : List Int32} {cd' N2' : Int32} {vs' : List Value} (E' : RoadKit.Exa Z h y ST) (V' : RoadKit.Fld Z h y ST "value" "[B" (.ref t')) (C' : RoadKit.Fld Z h y ST "coder" "B" (.int cd')) (K' : RoadKit.Arv Z h t' kb' .byte N2' vs' (.int 0)) (hc' : CodA ds cd' N2' vs') (hb' : ∀ c ∈ ds, ¬ c < 0 ∧ ¬ (65535 : Int32) < c) (l2' : ds.length ≤ 4000)
    {z : Int32} (S : RoadKit.Sta Z h ST "COMPACT_STRINGS" "Z" (.int z)) (hz : ¬ z = 0) (hfr : 2 ≤ R.frames) (hlo : W + 28 ≤ R.locals) :
    Back l R p e below s args (⟨"java/lang/String", "equals", "(Ljava/lang/Object;)Z"⟩ : MethodName) len W (fun P a => a = #[.ref x, .ref y] ∧ P.U.heap = h ∧ P.cells + 0 ≤ R.cells ∧ P.slots + 0 ≤ R.slots)
      (fun P _ v B => ∃ L, (((v = some (.int 1) ∧ cs = ds) ∨ (v = some (.int 0) ∧ ¬ cs = ds)) ∧ L = [] ∧ B.U.heap = h) ∧ B.locs = P.locs ++ L ∧ B.cells = P.cells + 0 ∧ B.slots = P.slots + 0) := by
  intro m meth c P g ig mk a X hg hsize hdg hW hn hp'
  obtain ⟨rfl, rfl, r1, r2⟩ := hp'
  have al : Z.vm.Alike P.U.vm := hZ.alike.trans X.warmed.alike
  obtain ⟨A, hx⟩ := txt_of wi al E V C K hc hb l2
  obtain ⟨A', hy⟩ := txt_of wi al E' V' C' K' hc' hb' l2'
  obtain ⟨v, B, X', ⟨⟨w, hv, hh, hq⟩, hl, hk, hs⟩, st⟩ := SEq.pays x t A cd cs.length (fun j => cs.getD j 0) y t' A' cd' ds.length (fun j => ds.getD j 0) z (tabEq_of (movedEq hZ hw)) hfr hlo m meth c P g ig mk _ X hg hsize hdg hW hn ⟨r1, r2, rfl, hx, hy, sta_is al S, hz⟩
  refine ⟨v, B, X', ⟨[], ⟨?_, rfl, hh⟩, hl, hk, hs⟩, st⟩
  rcases hq with ⟨rfl, q⟩ | ⟨rfl, q⟩
  · exact Or.inl ⟨hv, (same_list cs ds).mp q⟩
  · exact Or.inr ⟨hv, fun e => q ((same_list cs ds).mpr e)⟩
end StrChars.Road
namespace StrChars.Road
open Jvm Sem ClassFile Op Lib Jvm.Stand Jvm.Free Jvm.Free.XT
open Jvm.Lib.Cold (StaticIs)
/-- what backV says of its String, as the contracts of this text ask it: cs's low bytes, coder 0 -/
theorem codOf {cs : List Int32} {n : Nat} (hn : cs.length = n) (hb : ∀ c ∈ cs, ¬ 255 < c) : CodA cs 0 (Int32.ofNat n) ((cs.map lo8).map Value.int) := Or.inl ⟨rfl, by rw [hn], by simp [List.map_map, Function.comp_def], hb⟩
end StrChars.Road
end Jvm.Pilot.@@N@@
namespace Jvm.Pilot.@@N@@
open Jvm Jvm.ClassFile Sem Op Lib Jvm.Free Jvm.Stand Jvm.LawKit Jvm.RoadKit Bundle Jvm.Pilot.@@N@@.Jvm.D
def own_Done (p : Program) (e : Env) (below : List Frame) (P : Outcome → State → Prop) (S : State) : Prop := ∃ s₂ o, Steps p.tables e below S s₂ ∧ s₂.status = .running ∧ Ended s₂ below o ∧ P o s₂
section Own
variable {p : Program} {e : Env} {below : List Frame} {P : Outcome → State → Prop} {S S' : State}
theorem own_open (d : own_Done p e below P S) : ∃ s₂ o, Steps p.tables e below S s₂ ∧ s₂.status = .running ∧ Ended s₂ below o ∧ P o s₂ := d
theorem own_via (k : ∀ t, Steps p.tables e below S' t → Steps p.tables e below S t) (d : own_Done p e below P S') : own_Done p e below P S := by
  obtain ⟨s₂, o, h1, h2⟩ := d
  exact ⟨s₂, o, k _ h1, h2⟩
theorem own_tr (k : Steps p.tables e below S S') (d : own_Done p e below P S') : own_Done p e below P S := own_via (fun _ h => k.trans h) d
theorem own_ret {l : Launch} {R : Room} {s : State} {m : MethodId} {args : Array Value} {meth : Method} {c : Code} {T : State} {locs : List Loc} {cells slots : Nat} {Q : Option Value → Heap → List Loc → Prop} {C N : Nat} (X : Stand p l e R s m args below meth c T locs cells slots) {v : Option Value} (hv : meth.sig.returnType = none → v = none) (hlocks : meth.locks = false) (hq : Q v T.heap locs) (hc : cells ≤ C) (hs : slots ≤ N)
    (k : ∀ fs, (∀ (f : JFrame) (acts : List Action), f.method = m → f.locked = none → f.entered = [] → (doReturn e (T.setTop f) acts v).1 = T.setFrames fs) → Steps p.tables e below S (T.setFrames fs)) :
    own_Done p e below (fun o U' => ∃ v L, o = .returned v ∧ Q v U'.heap L ∧ FrameEnd s o U' L C N) S := by
  obtain ⟨fs, hr, hrun, hended, hW, hsame⟩ := X.leave hv hlocks
  exact ⟨_, _, k fs hr, hrun, hended, v, locs, rfl, hq, ⟨_, rfl⟩, hW, hsame.mono hc hs⟩
theorem own_nface {args : Array Value} {s : State} {C : String} {y z : MethodName} (hsel : (Cond.selects C y y).before args s = true) (e : z.cls = y.cls) : NotFace s z := fun r0 h0 => by
  obtain ⟨c2, r2, m2, q1, q2, q3, q4, kP, hkP, hkPi⟩ := Cond.selects_spec hsel
  have e1 := findClass_of_methodNamed h0
  have e2 := findClass_of_methodNamed q3
  rw [e] at e1
  have e3 : r0.cls = m2.cls := Option.some.inj (e1.symm.trans e2)
  exact ⟨kP, by rw [e3]; exact hkP, hkPi⟩
theorem own_sameM {args : Array Value} {s : State} {y : MethodName} (h1 : (Cond.instanceMethod y).before args s = true) (hnf : NotFace s y) (hy : y.cls ≠ "java/lang/invoke/MethodHandle" ∧ y.cls ≠ "java/lang/invoke/VarHandle") : (Cond.sameMethod y.cls y.cls y.name y.desc).before args s = true := by
  obtain ⟨mk, meth, hn, hm, -, -⟩ := Cond.instanceMethod_spec h1
  have e1 := findClass_of_methodNamed hn
  have e2 := State.methodFound?_of_named hn hy
  obtain ⟨k, hk, hi⟩ := hnf _ hn
  have e3 : s.methodNamed? ⟨y.cls, y.name, y.desc⟩ = some mk := hn
  simp [Cond.before, Cond.holds, Cond.value, e1, e2, e3, hk, hi]
theorem own_declares {args : Array Value} {s : State} {y : MethodName} {bytes : ByteArray} {maxL : Nat} {ret : Option FieldType} (h1 : (Cond.instanceMethod y).before args s = true) (h2 : (Cond.code y bytes maxL ret).before args s = true) : (Cond.declares y).before args s = true := by
  obtain ⟨mk, meth, hn, hm, hst, -⟩ := Cond.instanceMethod_spec h1
  obtain ⟨meth', c, hm', -, -, -, -, -, -, hsig⟩ := Cond.code_spec hn h2
  cases hm.symm.trans hm'
  simp [Cond.before, Cond.holds, Cond.value, hn, hm, hst, hsig]
theorem own_ltA {a : Addr} {n : Nat} (h : n > a) : a < n := h
theorem own_shr0 (x : Int32) : x >>> ((0 : Int32) &&& 31) = x := by rw [show ((0 : Int32) &&& 31) = 0 from by decide]; simp
theorem own_shl0 (x : Int32) : x <<< ((0 : Int32) &&& 31) = x := by rw [show ((0 : Int32) &&& 31) = 0 from by decide]; simp
theorem own_sub0 (x : Int32) : x - (0 : Int32) = x := by simp
abbrev own_cp (vd vs : List Value) (dp sp nn : Int32) : List Value := vd.take dp.toNatClampNeg ++ ((List.range nn.toNatClampNeg).map fun i => vs.getD (sp.toNatClampNeg + i) (.int (0 : Int32))) ++ vd.drop (dp.toNatClampNeg + nn.toNatClampNeg)
theorem own_inst {Z : State} {h : Heap} {a : Addr} {C own K : String} {idx : Nat} {a0 : Array Value} {d : ClassId} (E : Exa Z h a C) (w : (Cond.classLink own idx K).before a0 Z = true) (hd : Z.vm.findClass own = some d) : Ins Z h a K true ∨ ∃ c t, Z.vm.findClass C = some c ∧ Z.vm.findClass K = some t ∧ Z.vm.assignable c t = false := by
  obtain ⟨cell, k, h1, h2, h3, h4, h5⟩ := E
  obtain ⟨cT, hT, -⟩ := Cond.classLink_spec hd w {} rfl
  cases hb : Z.vm.assignable cell.cls cT
  · exact Or.inr ⟨cell.cls, cT, h2, hT, hb⟩
  · exact Or.inl ⟨cell, cT, h1, hT, by simp [h4, hb]⟩
end Own
abbrev mt0 : MethodName := (⟨"java/lang/String", "coder", "()B"⟩ : MethodName)
theorem pn_java_lang_String : plainName "java/lang/String" = true := by first | (simp [plainName, overriddenIn]; done) | decide +kernel
theorem ef_own_coder (m : MethodId) (x0 : Addr) : entryFrame m #[(.ref x0)] 1 = mkF m 0 #[.val (.ref x0)] [] := by first | (simp [entryFrame, mkF, argsToLocals, Value.category]; done) | rfl
theorem d13_0 : decode jdk_42_method_152_code 0 = .ok (.getstatic 38, 3) := by decide +kernel
theorem wd29 {Z : State} {a0 : Array Value} (hw : ∀ d ∈ tables_1, d.before a0 Z = true) : ((Jvm.Cond.fieldLink "java/lang/String" (38 : Nat) "java/lang/String" "COMPACT_STRINGS" "Z") : Jvm.Cond).before a0 Z = true := hw _ (List.mem_of_getElem? (i := 29) rfl)
theorem d13_3 : decode jdk_42_method_152_code 3 = .ok (.ifCond .eq 10, 3) := by decide +kernel
theorem d13_6 : decode jdk_42_method_152_code 6 = .ok (.aload_n 0, 1) := by decide +kernel
theorem d13_7 : decode jdk_42_method_152_code 7 = .ok (.getfield 15, 3) := by decide +kernel
theorem wd25 {Z : State} {a0 : Array Value} (hw : ∀ d ∈ tables_1, d.before a0 Z = true) : ((Jvm.Cond.fieldLink "java/lang/String" (15 : Nat) "java/lang/String" "coder" "B") : Jvm.Cond).before a0 Z = true := hw _ (List.mem_of_getElem? (i := 25) rfl)
theorem d13_10 : decode jdk_42_method_152_code 10 = .ok (.goto 4, 3) := by decide +kernel
theorem d13_14 : decode jdk_42_method_152_code 14 = .ok (.ireturn, 1) := by decide +kernel
abbrev mt1 : MethodName := (⟨"java/lang/String", "length", "()I"⟩ : MethodName)
theorem ef_own_len (m : MethodId) (x0 : Addr) : entryFrame m #[(.ref x0)] 1 = mkF m 0 #[.val (.ref x0)] [] := by first | (simp [entryFrame, mkF, argsToLocals, Value.category]; done) | rfl
theorem wd5 {Z : State} {a0 : Array Value} (hw : ∀ d ∈ tables_1, d.before a0 Z = true) : ((Jvm.Cond.instantiable "java/lang/String" (4 : Nat)) : Jvm.Cond).before a0 Z = true := hw _ (List.mem_of_getElem? (i := 5) rfl)
theorem d12_0 : decode jdk_42_method_54_code 0 = .ok (.aload_n 0, 1) := by decide +kernel
theorem d12_1 : decode jdk_42_method_54_code 1 = .ok (.getfield 9, 3) := by decide +kernel
theorem wd24 {Z : State} {a0 : Array Value} (hw : ∀ d ∈ tables_1, d.before a0 Z = true) : ((Jvm.Cond.fieldLink "java/lang/String" (9 : Nat) "java/lang/String" "value" "[B") : Jvm.Cond).before a0 Z = true := hw _ (List.mem_of_getElem? (i := 24) rfl)
theorem d12_4 : decode jdk_42_method_54_code 4 = .ok (.arraylength, 1) := by decide +kernel
theorem d12_5 : decode jdk_42_method_54_code 5 = .ok (.aload_n 0, 1) := by decide +kernel
theorem d12_6 : decode jdk_42_method_54_code 6 = .ok (.invokevirtual 335, 3) := by decide +kernel
theorem wd66 {Z : State} {a0 : Array Value} (hw : ∀ d ∈ tables_1, d.before a0 Z = true) : ((Jvm.Cond.methodLink "java/lang/String" (335 : Nat) ({ cls := "java/lang/String", name := "coder", desc := "()B" } : Jvm.MethodName)) : Jvm.Cond).before a0 Z = true := hw _ (List.mem_of_getElem? (i := 66) rfl)
theorem wd70 {Z : State} {a0 : Array Value} (hw : ∀ d ∈ tables_1, d.before a0 Z = true) : ((Jvm.Cond.code ({ cls := "java/lang/String", name := "coder", desc := "()B" } : Jvm.MethodName) jdk_42_method_152_code (1 : Nat) (Option.some Jvm.ClassFile.FieldType.byte)) : Jvm.Cond).before a0 Z = true := hw _ (List.mem_of_getElem? (i := 70) rfl)
theorem wd6 {Z : State} {a0 : Array Value} (hw : ∀ d ∈ tables_1, d.before a0 Z = true) : ((Jvm.Cond.initialized "java/lang/String") : Jvm.Cond).before a0 Z = true := hw _ (List.mem_of_getElem? (i := 6) rfl)
theorem pd___B_147 : parseMethodDescriptor "()B" = some ⟨[], some .byte⟩ := by decide +kernel
theorem wd69 {Z : State} {a0 : Array Value} (hw : ∀ d ∈ tables_1, d.before a0 Z = true) : ((Jvm.Cond.selects "java/lang/String" ({ cls := "java/lang/String", name := "coder", desc := "()B" } : Jvm.MethodName) ({ cls := "java/lang/String", name := "coder", desc := "()B" } : Jvm.MethodName)) : Jvm.Cond).before a0 Z = true := hw _ (List.mem_of_getElem? (i := 69) rfl)
theorem wd67 {Z : State} {a0 : Array Value} (hw : ∀ d ∈ tables_1, d.before a0 Z = true) : ((Jvm.Cond.declares ({ cls := "java/lang/String", name := "coder", desc := "()B" } : Jvm.MethodName)) : Jvm.Cond).before a0 Z = true := hw _ (List.mem_of_getElem? (i := 67) rfl)
theorem wd68 {Z : State} {a0 : Array Value} (hw : ∀ d ∈ tables_1, d.before a0 Z = true) : ((Jvm.Cond.instanceMethod ({ cls := "java/lang/String", name := "coder", desc := "()B" } : Jvm.MethodName)) : Jvm.Cond).before a0 Z = true := hw _ (List.mem_of_getElem? (i := 68) rfl)
theorem d12_9 : decode jdk_42_method_54_code 9 = .ok (.ishr, 1) := by decide +kernel
theorem d12_10 : decode jdk_42_method_54_code 10 = .ok (.ireturn, 1) := by decide +kernel
abbrev mt2 : MethodName := (⟨"java/lang/AbstractStringBuilder", "isLatin1", "()Z"⟩ : MethodName)
theorem pn_java_lang_AbstractStringBuilder : plainName "java/lang/AbstractStringBuilder" = true := by first | (simp [plainName, overriddenIn]; done) | decide +kernel
theorem ef_own_isL1 (m : MethodId) (x0 : Addr) : entryFrame m #[(.ref x0)] 1 = mkF m 0 #[.val (.ref x0)] [] := by first | (simp [entryFrame, mkF, argsToLocals, Value.category]; done) | rfl
theorem d24_0 : decode jdk_68_method_68_code 0 = .ok (.getstatic 18, 3) := by decide +kernel
theorem wd108 {Z : State} {a0 : Array Value} (hw : ∀ d ∈ tables_1, d.before a0 Z = true) : ((Jvm.Cond.fieldLink "java/lang/AbstractStringBuilder" (18 : Nat) "java/lang/String" "COMPACT_STRINGS" "Z") : Jvm.Cond).before a0 Z = true := hw _ (List.mem_of_getElem? (i := 108) rfl)
theorem d24_3 : decode jdk_68_method_68_code 3 = .ok (.ifCond .eq 14, 3) := by decide +kernel
theorem d24_6 : decode jdk_68_method_68_code 6 = .ok (.aload_n 0, 1) := by decide +kernel
theorem d24_7 : decode jdk_68_method_68_code 7 = .ok (.getfield 22, 3) := by decide +kernel
theorem wd73 {Z : State} {a0 : Array Value} (hw : ∀ d ∈ tables_1, d.before a0 Z = true) : ((Jvm.Cond.fieldLink "java/lang/AbstractStringBuilder" (22 : Nat) "java/lang/AbstractStringBuilder" "coder" "B") : Jvm.Cond).before a0 Z = true := hw _ (List.mem_of_getElem? (i := 73) rfl)
theorem d24_10 : decode jdk_68_method_68_code 10 = .ok (.ifCond .ne 7, 3) := by decide +kernel
theorem d24_13 : decode jdk_68_method_68_code 13 = .ok (.iconst 1, 1) := by decide +kernel
theorem d24_14 : decode jdk_68_method_68_code 14 = .ok (.goto 4, 3) := by decide +kernel
theorem d24_18 : decode jdk_68_method_68_code 18 = .ok (.ireturn, 1) := by decide +kernel
abbrev mt3 : MethodName := (⟨"java/lang/AbstractStringBuilder", "ensureCapacityInternal", "(I)V"⟩ : MethodName)
theorem ef_own_ens (m : MethodId) (x0 : Addr) (x1 : Int32) : entryFrame m #[(.ref x0), (.int x1)] 3 = mkF m 0 #[.val (.ref x0), .val (.int x1), .unset] [] := by first | (simp [entryFrame, mkF, argsToLocals, Value.category]; done) | rfl
theorem d17_0 : decode jdk_68_method_9_code 0 = .ok (.aload_n 0, 1) := by decide +kernel
theorem d17_1 : decode jdk_68_method_9_code 1 = .ok (.getfield 15, 3) := by decide +kernel
theorem wd75 {Z : State} {a0 : Array Value} (hw : ∀ d ∈ tables_1, d.before a0 Z = true) : ((Jvm.Cond.fieldLink "java/lang/AbstractStringBuilder" (15 : Nat) "java/lang/AbstractStringBuilder" "value" "[B") : Jvm.Cond).before a0 Z = true := hw _ (List.mem_of_getElem? (i := 75) rfl)
theorem d17_4 : decode jdk_68_method_9_code 4 = .ok (.arraylength, 1) := by decide +kernel
theorem d17_5 : decode jdk_68_method_9_code 5 = .ok (.aload_n 0, 1) := by decide +kernel
theorem d17_6 : decode jdk_68_method_9_code 6 = .ok (.getfield 22, 3) := by decide +kernel
theorem d17_9 : decode jdk_68_method_9_code 9 = .ok (.ishr, 1) := by decide +kernel
theorem d17_10 : decode jdk_68_method_9_code 10 = .ok (.istore_n 2, 1) := by decide +kernel
theorem d17_11 : decode jdk_68_method_9_code 11 = .ok (.iload_n 1, 1) := by decide +kernel
theorem d17_12 : decode jdk_68_method_9_code 12 = .ok (.iload_n 2, 1) := by decide +kernel
theorem d17_13 : decode jdk_68_method_9_code 13 = .ok (.isub, 1) := by decide +kernel
theorem d17_14 : decode jdk_68_method_9_code 14 = .ok (.ifCond .le 24, 3) := by decide +kernel
theorem d17_38 : decode jdk_68_method_9_code 38 = .ok (.return_, 1) := by decide +kernel
abbrev mt4 : MethodName := (⟨"java/lang/AbstractStringBuilder", "inflateIfNeededFor", "(Ljava/lang/String;)V"⟩ : MethodName)
theorem ef_own_infl (m : MethodId) (x0 : Addr) (x1 : Addr) : entryFrame m #[(.ref x0), (.ref x1)] 2 = mkF m 0 #[.val (.ref x0), .val (.ref x1)] [] := by first | (simp [entryFrame, mkF, argsToLocals, Value.category]; done) | rfl
theorem d19_0 : decode jdk_68_method_71_code 0 = .ok (.getstatic 18, 3) := by decide +kernel
theorem d19_3 : decode jdk_68_method_71_code 3 = .ok (.ifCond .eq 18, 3) := by decide +kernel
theorem d19_6 : decode jdk_68_method_71_code 6 = .ok (.aload_n 0, 1) := by decide +kernel
theorem d19_7 : decode jdk_68_method_71_code 7 = .ok (.getfield 22, 3) := by decide +kernel
theorem d19_10 : decode jdk_68_method_71_code 10 = .ok (.aload_n 1, 1) := by decide +kernel
theorem d19_11 : decode jdk_68_method_71_code 11 = .ok (.invokevirtual 40, 3) := by decide +kernel
theorem wd72 {Z : State} {a0 : Array Value} (hw : ∀ d ∈ tables_1, d.before a0 Z = true) : ((Jvm.Cond.methodLink "java/lang/AbstractStringBuilder" (40 : Nat) ({ cls := "java/lang/String", name := "coder", desc := "()B" } : Jvm.MethodName)) : Jvm.Cond).before a0 Z = true := hw _ (List.mem_of_getElem? (i := 72) rfl)
theorem d19_14 : decode jdk_68_method_71_code 14 = .ok (.if_icmp .eq 7, 3) := by decide +kernel
theorem d19_21 : decode jdk_68_method_71_code 21 = .ok (.return_, 1) := by decide +kernel
abbrev mt5 : MethodName := (⟨"java/lang/String", "getBytes", "([BIB)V"⟩ : MethodName)
theorem ef_own_gb (m : MethodId) (x0 : Addr) (x1 : Addr) (x2 : Int32) (x3 : Int32) : entryFrame m #[(.ref x0), (.ref x1), (.int x2), (.int x3)] 4 = mkF m 0 #[.val (.ref x0), .val (.ref x1), .val (.int x2), .val (.int x3)] [] := by first | (simp [entryFrame, mkF, argsToLocals, Value.category]; done) | rfl
theorem d20_0 : decode jdk_42_method_147_code 0 = .ok (.aload_n 0, 1) := by decide +kernel
theorem d20_1 : decode jdk_42_method_147_code 1 = .ok (.invokevirtual 335, 3) := by decide +kernel
theorem d20_4 : decode jdk_42_method_147_code 4 = .ok (.iload_n 3, 1) := by decide +kernel
theorem d20_5 : decode jdk_42_method_147_code 5 = .ok (.if_icmp .ne 23, 3) := by decide +kernel
theorem d20_8 : decode jdk_42_method_147_code 8 = .ok (.aload_n 0, 1) := by decide +kernel
theorem d20_9 : decode jdk_42_method_147_code 9 = .ok (.getfield 9, 3) := by decide +kernel
theorem d20_12 : decode jdk_42_method_147_code 12 = .ok (.iconst 0, 1) := by decide +kernel
theorem d20_13 : decode jdk_42_method_147_code 13 = .ok (.aload_n 1, 1) := by decide +kernel
theorem d20_14 : decode jdk_42_method_147_code 14 = .ok (.iload_n 2, 1) := by decide +kernel
theorem d20_15 : decode jdk_42_method_147_code 15 = .ok (.iload_n 3, 1) := by decide +kernel
theorem d20_16 : decode jdk_42_method_147_code 16 = .ok (.ishl, 1) := by decide +kernel
theorem d20_17 : decode jdk_42_method_147_code 17 = .ok (.aload_n 0, 1) := by decide +kernel
theorem d20_18 : decode jdk_42_method_147_code 18 = .ok (.getfield 9, 3) := by decide +kernel
theorem d20_21 : decode jdk_42_method_147_code 21 = .ok (.arraylength, 1) := by decide +kernel
theorem d20_22 : decode jdk_42_method_147_code 22 = .ok (.invokestatic 212, 3) := by decide +kernel
theorem wd114 {Z : State} {a0 : Array Value} (hw : ∀ d ∈ tables_1, d.before a0 Z = true) : ((Jvm.Cond.methodLink "java/lang/String" (212 : Nat) ({ cls := "java/lang/System", name := "arraycopy", desc := "(Ljava/lang/Object;ILjava/lang/Object;II)V" } : Jvm.MethodName)) : Jvm.Cond).before a0 Z = true := hw _ (List.mem_of_getElem? (i := 114) rfl)
theorem wd117 {Z : State} {a0 : Array Value} (hw : ∀ d ∈ tables_1, d.before a0 Z = true) : ((Jvm.Cond.native ({ cls := "java/lang/System", name := "arraycopy", desc := "(Ljava/lang/Object;ILjava/lang/Object;II)V" } : Jvm.MethodName)) : Jvm.Cond).before a0 Z = true := hw _ (List.mem_of_getElem? (i := 117) rfl)
theorem wd115 {Z : State} {a0 : Array Value} (hw : ∀ d ∈ tables_1, d.before a0 Z = true) : ((Jvm.Cond.static ({ cls := "java/lang/System", name := "arraycopy", desc := "(Ljava/lang/Object;ILjava/lang/Object;II)V" } : Jvm.MethodName)) : Jvm.Cond).before a0 Z = true := hw _ (List.mem_of_getElem? (i := 115) rfl)
theorem wd116 {Z : State} {a0 : Array Value} (hw : ∀ d ∈ tables_1, d.before a0 Z = true) : ((Jvm.Cond.initialized "java/lang/System") : Jvm.Cond).before a0 Z = true := hw _ (List.mem_of_getElem? (i := 116) rfl)
theorem d20_25 : decode jdk_42_method_147_code 25 = .ok (.goto 18, 3) := by decide +kernel
theorem d20_43 : decode jdk_42_method_147_code 43 = .ok (.return_, 1) := by decide +kernel
abbrev mt6 : MethodName := (⟨"java/lang/AbstractStringBuilder", "putStringAt", "(ILjava/lang/String;)V"⟩ : MethodName)
theorem ef_own_ps (m : MethodId) (x0 : Addr) (x1 : Int32) (x2 : Addr) : entryFrame m #[(.ref x0), (.int x1), (.ref x2)] 3 = mkF m 0 #[.val (.ref x0), .val (.int x1), .val (.ref x2)] [] := by first | (simp [entryFrame, mkF, argsToLocals, Value.category]; done) | rfl
theorem wd48 {Z : State} {a0 : Array Value} (hw : ∀ d ∈ tables_1, d.before a0 Z = true) : ((Jvm.Cond.instantiable "java/lang/StringBuilder" (4 : Nat)) : Jvm.Cond).before a0 Z = true := hw _ (List.mem_of_getElem? (i := 48) rfl)
theorem d18_0 : decode jdk_68_method_73_code 0 = .ok (.aload_n 0, 1) := by decide +kernel
theorem d18_1 : decode jdk_68_method_73_code 1 = .ok (.aload_n 2, 1) := by decide +kernel
theorem d18_2 : decode jdk_68_method_73_code 2 = .ok (.invokevirtual 397, 3) := by decide +kernel
theorem wd103 {Z : State} {a0 : Array Value} (hw : ∀ d ∈ tables_1, d.before a0 Z = true) : ((Jvm.Cond.methodLink "java/lang/AbstractStringBuilder" (397 : Nat) ({ cls := "java/lang/AbstractStringBuilder", name := "inflateIfNeededFor", desc := "(Ljava/lang/String;)V" } : Jvm.MethodName)) : Jvm.Cond).before a0 Z = true := hw _ (List.mem_of_getElem? (i := 103) rfl)
theorem wd107 {Z : State} {a0 : Array Value} (hw : ∀ d ∈ tables_1, d.before a0 Z = true) : ((Jvm.Cond.code ({ cls := "java/lang/AbstractStringBuilder", name := "inflateIfNeededFor", desc := "(Ljava/lang/String;)V" } : Jvm.MethodName) jdk_68_method_71_code (2 : Nat) (Option.none : Option Jvm.ClassFile.FieldType)) : Jvm.Cond).before a0 Z = true := hw _ (List.mem_of_getElem? (i := 107) rfl)
theorem wd58 {Z : State} {a0 : Array Value} (hw : ∀ d ∈ tables_1, d.before a0 Z = true) : ((Jvm.Cond.initialized "java/lang/AbstractStringBuilder") : Jvm.Cond).before a0 Z = true := hw _ (List.mem_of_getElem? (i := 58) rfl)
theorem pd__Ljava_lang_String__V_1863 : parseMethodDescriptor "(Ljava/lang/String;)V" = some ⟨[(.object "java/lang/String")], none⟩ := by decide +kernel
theorem wd106 {Z : State} {a0 : Array Value} (hw : ∀ d ∈ tables_1, d.before a0 Z = true) : ((Jvm.Cond.selects "java/lang/StringBuilder" ({ cls := "java/lang/AbstractStringBuilder", name := "inflateIfNeededFor", desc := "(Ljava/lang/String;)V" } : Jvm.MethodName) ({ cls := "java/lang/AbstractStringBuilder", name := "inflateIfNeededFor", desc := "(Ljava/lang/String;)V" } : Jvm.MethodName)) : Jvm.Cond).before a0 Z = true := hw _ (List.mem_of_getElem? (i := 106) rfl)
theorem wd104 {Z : State} {a0 : Array Value} (hw : ∀ d ∈ tables_1, d.before a0 Z = true) : ((Jvm.Cond.instanceMethod ({ cls := "java/lang/AbstractStringBuilder", name := "inflateIfNeededFor", desc := "(Ljava/lang/String;)V" } : Jvm.MethodName)) : Jvm.Cond).before a0 Z = true := hw _ (List.mem_of_getElem? (i := 104) rfl)
theorem d18_5 : decode jdk_68_method_73_code 5 = .ok (.aload_n 2, 1) := by decide +kernel
theorem d18_6 : decode jdk_68_method_73_code 6 = .ok (.aload_n 0, 1) := by decide +kernel
theorem d18_7 : decode jdk_68_method_73_code 7 = .ok (.getfield 15, 3) := by decide +kernel
theorem d18_10 : decode jdk_68_method_73_code 10 = .ok (.iload_n 1, 1) := by decide +kernel
theorem d18_11 : decode jdk_68_method_73_code 11 = .ok (.aload_n 0, 1) := by decide +kernel
theorem d18_12 : decode jdk_68_method_73_code 12 = .ok (.getfield 22, 3) := by decide +kernel
theorem d18_15 : decode jdk_68_method_73_code 15 = .ok (.invokevirtual 399, 3) := by decide +kernel
theorem wd109 {Z : State} {a0 : Array Value} (hw : ∀ d ∈ tables_1, d.before a0 Z = true) : ((Jvm.Cond.methodLink "java/lang/AbstractStringBuilder" (399 : Nat) ({ cls := "java/lang/String", name := "getBytes", desc := "([BIB)V" } : Jvm.MethodName)) : Jvm.Cond).before a0 Z = true := hw _ (List.mem_of_getElem? (i := 109) rfl)
theorem wd113 {Z : State} {a0 : Array Value} (hw : ∀ d ∈ tables_1, d.before a0 Z = true) : ((Jvm.Cond.code ({ cls := "java/lang/String", name := "getBytes", desc := "([BIB)V" } : Jvm.MethodName) jdk_42_method_147_code (4 : Nat) (Option.none : Option Jvm.ClassFile.FieldType)) : Jvm.Cond).before a0 Z = true := hw _ (List.mem_of_getElem? (i := 113) rfl)
theorem pd___BIB_V_463 : parseMethodDescriptor "([BIB)V" = some ⟨[(.array .byte), .int, .byte], none⟩ := by decide +kernel
theorem wd112 {Z : State} {a0 : Array Value} (hw : ∀ d ∈ tables_1, d.before a0 Z = true) : ((Jvm.Cond.selects "java/lang/String" ({ cls := "java/lang/String", name := "getBytes", desc := "([BIB)V" } : Jvm.MethodName) ({ cls := "java/lang/String", name := "getBytes", desc := "([BIB)V" } : Jvm.MethodName)) : Jvm.Cond).before a0 Z = true := hw _ (List.mem_of_getElem? (i := 112) rfl)
theorem wd110 {Z : State} {a0 : Array Value} (hw : ∀ d ∈ tables_1, d.before a0 Z = true) : ((Jvm.Cond.declares ({ cls := "java/lang/String", name := "getBytes", desc := "([BIB)V" } : Jvm.MethodName)) : Jvm.Cond).before a0 Z = true := hw _ (List.mem_of_getElem? (i := 110) rfl)
theorem wd111 {Z : State} {a0 : Array Value} (hw : ∀ d ∈ tables_1, d.before a0 Z = true) : ((Jvm.Cond.instanceMethod ({ cls := "java/lang/String", name := "getBytes", desc := "([BIB)V" } : Jvm.MethodName)) : Jvm.Cond).before a0 Z = true := hw _ (List.mem_of_getElem? (i := 111) rfl)
theorem d18_18 : decode jdk_68_method_73_code 18 = .ok (.return_, 1) := by decide +kernel
abbrev mt7 : MethodName := (⟨"java/lang/AbstractStringBuilder", "append", "(Ljava/lang/String;)Ljava/lang/AbstractStringBuilder;"⟩ : MethodName)
theorem ef_own_as (m : MethodId) (x0 : Addr) (x1 : Addr) : entryFrame m #[(.ref x0), (.ref x1)] 3 = mkF m 0 #[.val (.ref x0), .val (.ref x1), .unset] [] := by first | (simp [entryFrame, mkF, argsToLocals, Value.category]; done) | rfl
theorem d16_0 : decode jdk_68_method_22_code 0 = .ok (.aload_n 1, 1) := by decide +kernel
theorem d16_1 : decode jdk_68_method_22_code 1 = .ok (.ifnonnull 8, 3) := by decide +kernel
theorem d16_9 : decode jdk_68_method_22_code 9 = .ok (.aload_n 1, 1) := by decide +kernel
theorem d16_10 : decode jdk_68_method_22_code 10 = .ok (.invokevirtual 32, 3) := by decide +kernel
theorem wd61 {Z : State} {a0 : Array Value} (hw : ∀ d ∈ tables_1, d.before a0 Z = true) : ((Jvm.Cond.methodLink "java/lang/AbstractStringBuilder" (32 : Nat) ({ cls := "java/lang/String", name := "length", desc := "()I" } : Jvm.MethodName)) : Jvm.Cond).before a0 Z = true := hw _ (List.mem_of_getElem? (i := 61) rfl)
theorem wd65 {Z : State} {a0 : Array Value} (hw : ∀ d ∈ tables_1, d.before a0 Z = true) : ((Jvm.Cond.code ({ cls := "java/lang/String", name := "length", desc := "()I" } : Jvm.MethodName) jdk_42_method_54_code (1 : Nat) (Option.some Jvm.ClassFile.FieldType.int)) : Jvm.Cond).before a0 Z = true := hw _ (List.mem_of_getElem? (i := 65) rfl)
theorem pd___I_154 : parseMethodDescriptor "()I" = some ⟨[], some .int⟩ := by decide +kernel
theorem wd64 {Z : State} {a0 : Array Value} (hw : ∀ d ∈ tables_1, d.before a0 Z = true) : ((Jvm.Cond.selects "java/lang/String" ({ cls := "java/lang/String", name := "length", desc := "()I" } : Jvm.MethodName) ({ cls := "java/lang/String", name := "length", desc := "()I" } : Jvm.MethodName)) : Jvm.Cond).before a0 Z = true := hw _ (List.mem_of_getElem? (i := 64) rfl)
theorem wd62 {Z : State} {a0 : Array Value} (hw : ∀ d ∈ tables_1, d.before a0 Z = true) : ((Jvm.Cond.declares ({ cls := "java/lang/String", name := "length", desc := "()I" } : Jvm.MethodName)) : Jvm.Cond).before a0 Z = true := hw _ (List.mem_of_getElem? (i := 62) rfl)
theorem wd63 {Z : State} {a0 : Array Value} (hw : ∀ d ∈ tables_1, d.before a0 Z = true) : ((Jvm.Cond.instanceMethod ({ cls := "java/lang/String", name := "length", desc := "()I" } : Jvm.MethodName)) : Jvm.Cond).before a0 Z = true := hw _ (List.mem_of_getElem? (i := 63) rfl)
theorem d16_13 : decode jdk_68_method_22_code 13 = .ok (.istore_n 2, 1) := by decide +kernel
theorem d16_14 : decode jdk_68_method_22_code 14 = .ok (.aload_n 0, 1) := by decide +kernel
theorem d16_15 : decode jdk_68_method_22_code 15 = .ok (.aload_n 0, 1) := by decide +kernel
theorem d16_16 : decode jdk_68_method_22_code 16 = .ok (.getfield 79, 3) := by decide +kernel
theorem wd91 {Z : State} {a0 : Array Value} (hw : ∀ d ∈ tables_1, d.before a0 Z = true) : ((Jvm.Cond.fieldLink "java/lang/AbstractStringBuilder" (79 : Nat) "java/lang/AbstractStringBuilder" "count" "I") : Jvm.Cond).before a0 Z = true := hw _ (List.mem_of_getElem? (i := 91) rfl)
theorem d16_19 : decode jdk_68_method_22_code 19 = .ok (.iload_n 2, 1) := by decide +kernel
theorem d16_20 : decode jdk_68_method_22_code 20 = .ok (.iadd, 1) := by decide +kernel
theorem d16_21 : decode jdk_68_method_22_code 21 = .ok (.invokevirtual 100, 3) := by decide +kernel
theorem wd93 {Z : State} {a0 : Array Value} (hw : ∀ d ∈ tables_1, d.before a0 Z = true) : ((Jvm.Cond.methodLink "java/lang/AbstractStringBuilder" (100 : Nat) ({ cls := "java/lang/AbstractStringBuilder", name := "ensureCapacityInternal", desc := "(I)V" } : Jvm.MethodName)) : Jvm.Cond).before a0 Z = true := hw _ (List.mem_of_getElem? (i := 93) rfl)
theorem wd97 {Z : State} {a0 : Array Value} (hw : ∀ d ∈ tables_1, d.before a0 Z = true) : ((Jvm.Cond.code ({ cls := "java/lang/AbstractStringBuilder", name := "ensureCapacityInternal", desc := "(I)V" } : Jvm.MethodName) jdk_68_method_9_code (3 : Nat) (Option.none : Option Jvm.ClassFile.FieldType)) : Jvm.Cond).before a0 Z = true := hw _ (List.mem_of_getElem? (i := 97) rfl)
theorem pd__I_V_240 : parseMethodDescriptor "(I)V" = some ⟨[.int], none⟩ := by decide +kernel
theorem wd96 {Z : State} {a0 : Array Value} (hw : ∀ d ∈ tables_1, d.before a0 Z = true) : ((Jvm.Cond.selects "java/lang/StringBuilder" ({ cls := "java/lang/AbstractStringBuilder", name := "ensureCapacityInternal", desc := "(I)V" } : Jvm.MethodName) ({ cls := "java/lang/AbstractStringBuilder", name := "ensureCapacityInternal", desc := "(I)V" } : Jvm.MethodName)) : Jvm.Cond).before a0 Z = true := hw _ (List.mem_of_getElem? (i := 96) rfl)
theorem wd94 {Z : State} {a0 : Array Value} (hw : ∀ d ∈ tables_1, d.before a0 Z = true) : ((Jvm.Cond.instanceMethod ({ cls := "java/lang/AbstractStringBuilder", name := "ensureCapacityInternal", desc := "(I)V" } : Jvm.MethodName)) : Jvm.Cond).before a0 Z = true := hw _ (List.mem_of_getElem? (i := 94) rfl)
theorem d16_24 : decode jdk_68_method_22_code 24 = .ok (.aload_n 0, 1) := by decide +kernel
theorem d16_25 : decode jdk_68_method_22_code 25 = .ok (.aload_n 0, 1) := by decide +kernel
theorem d16_26 : decode jdk_68_method_22_code 26 = .ok (.getfield 79, 3) := by decide +kernel
theorem d16_29 : decode jdk_68_method_22_code 29 = .ok (.aload_n 1, 1) := by decide +kernel
theorem d16_30 : decode jdk_68_method_22_code 30 = .ok (.invokevirtual 208, 3) := by decide +kernel
theorem wd98 {Z : State} {a0 : Array Value} (hw : ∀ d ∈ tables_1, d.before a0 Z = true) : ((Jvm.Cond.methodLink "java/lang/AbstractStringBuilder" (208 : Nat) ({ cls := "java/lang/AbstractStringBuilder", name := "putStringAt", desc := "(ILjava/lang/String;)V" } : Jvm.MethodName)) : Jvm.Cond).before a0 Z = true := hw _ (List.mem_of_getElem? (i := 98) rfl)
theorem wd102 {Z : State} {a0 : Array Value} (hw : ∀ d ∈ tables_1, d.before a0 Z = true) : ((Jvm.Cond.code ({ cls := "java/lang/AbstractStringBuilder", name := "putStringAt", desc := "(ILjava/lang/String;)V" } : Jvm.MethodName) jdk_68_method_73_code (3 : Nat) (Option.none : Option Jvm.ClassFile.FieldType)) : Jvm.Cond).before a0 Z = true := hw _ (List.mem_of_getElem? (i := 102) rfl)
theorem pd__ILjava_lang_String__V_1936 : parseMethodDescriptor "(ILjava/lang/String;)V" = some ⟨[.int, (.object "java/lang/String")], none⟩ := by decide +kernel
theorem wd101 {Z : State} {a0 : Array Value} (hw : ∀ d ∈ tables_1, d.before a0 Z = true) : ((Jvm.Cond.selects "java/lang/StringBuilder" ({ cls := "java/lang/AbstractStringBuilder", name := "putStringAt", desc := "(ILjava/lang/String;)V" } : Jvm.MethodName) ({ cls := "java/lang/AbstractStringBuilder", name := "putStringAt", desc := "(ILjava/lang/String;)V" } : Jvm.MethodName)) : Jvm.Cond).before a0 Z = true := hw _ (List.mem_of_getElem? (i := 101) rfl)
theorem wd99 {Z : State} {a0 : Array Value} (hw : ∀ d ∈ tables_1, d.before a0 Z = true) : ((Jvm.Cond.instanceMethod ({ cls := "java/lang/AbstractStringBuilder", name := "putStringAt", desc := "(ILjava/lang/String;)V" } : Jvm.MethodName)) : Jvm.Cond).before a0 Z = true := hw _ (List.mem_of_getElem? (i := 99) rfl)
theorem d16_33 : decode jdk_68_method_22_code 33 = .ok (.aload_n 0, 1) := by decide +kernel
theorem d16_34 : decode jdk_68_method_22_code 34 = .ok (.dup, 1) := by decide +kernel
theorem d16_35 : decode jdk_68_method_22_code 35 = .ok (.getfield 79, 3) := by decide +kernel
theorem d16_38 : decode jdk_68_method_22_code 38 = .ok (.iload_n 2, 1) := by decide +kernel
theorem d16_39 : decode jdk_68_method_22_code 39 = .ok (.iadd, 1) := by decide +kernel
theorem d16_40 : decode jdk_68_method_22_code 40 = .ok (.putfield 79, 3) := by decide +kernel
theorem wd92 {Z : State} {a0 : Array Value} (hw : ∀ d ∈ tables_1, d.before a0 Z = true) : ((Jvm.Cond.lays "java/lang/StringBuilder" "java/lang/AbstractStringBuilder" "count" "I") : Jvm.Cond).before a0 Z = true := hw _ (List.mem_of_getElem? (i := 92) rfl)
theorem d16_43 : decode jdk_68_method_22_code 43 = .ok (.aload_n 0, 1) := by decide +kernel
theorem d16_44 : decode jdk_68_method_22_code 44 = .ok (.areturn, 1) := by decide +kernel
theorem wd76 {Z : State} {a0 : Array Value} (hw : ∀ d ∈ tables_1, d.before a0 Z = true) : ((Jvm.Cond.lays "java/lang/StringBuilder" "java/lang/AbstractStringBuilder" "value" "[B") : Jvm.Cond).before a0 Z = true := hw _ (List.mem_of_getElem? (i := 76) rfl)
theorem wd74 {Z : State} {a0 : Array Value} (hw : ∀ d ∈ tables_1, d.before a0 Z = true) : ((Jvm.Cond.lays "java/lang/StringBuilder" "java/lang/AbstractStringBuilder" "coder" "B") : Jvm.Cond).before a0 Z = true := hw _ (List.mem_of_getElem? (i := 74) rfl)
abbrev mt8 : MethodName := (⟨"java/lang/StringBuilder", "append", "(Ljava/lang/String;)Ljava/lang/StringBuilder;"⟩ : MethodName)
theorem pn_java_lang_StringBuilder : plainName "java/lang/StringBuilder" = true := by first | (simp [plainName, overriddenIn]; done) | decide +kernel
theorem ef_own_bs (m : MethodId) (x0 : Addr) (x1 : Addr) : entryFrame m #[(.ref x0), (.ref x1)] 2 = mkF m 0 #[.val (.ref x0), .val (.ref x1)] [] := by first | (simp [entryFrame, mkF, argsToLocals, Value.category]; done) | rfl
theorem d15_0 : decode jdk_67_method_7_code 0 = .ok (.aload_n 0, 1) := by decide +kernel
theorem d15_1 : decode jdk_67_method_7_code 1 = .ok (.aload_n 1, 1) := by decide +kernel
theorem d15_2 : decode jdk_67_method_7_code 2 = .ok (.invokespecial 29, 3) := by decide +kernel
theorem wd88 {Z : State} {a0 : Array Value} (hw : ∀ d ∈ tables_1, d.before a0 Z = true) : ((Jvm.Cond.methodLink "java/lang/StringBuilder" (29 : Nat) ({ cls := "java/lang/AbstractStringBuilder", name := "append", desc := "(Ljava/lang/String;)Ljava/lang/AbstractStringBuilder;" } : Jvm.MethodName)) : Jvm.Cond).before a0 Z = true := hw _ (List.mem_of_getElem? (i := 88) rfl)
theorem wd90 {Z : State} {a0 : Array Value} (hw : ∀ d ∈ tables_1, d.before a0 Z = true) : ((Jvm.Cond.code ({ cls := "java/lang/AbstractStringBuilder", name := "append", desc := "(Ljava/lang/String;)Ljava/lang/AbstractStringBuilder;" } : Jvm.MethodName) jdk_68_method_22_code (3 : Nat) (Option.some (Jvm.ClassFile.FieldType.object "java/lang/AbstractStringBuilder"))) : Jvm.Cond).before a0 Z = true := hw _ (List.mem_of_getElem? (i := 90) rfl)
theorem pd__Ljava_lang_String__Ljava_lang_AbstractStringBuilder__5004 : parseMethodDescriptor "(Ljava/lang/String;)Ljava/lang/AbstractStringBuilder;" = some ⟨[(.object "java/lang/String")], some (.object "java/lang/AbstractStringBuilder")⟩ := by decide +kernel
theorem wd79 {Z : State} {a0 : Array Value} (hw : ∀ d ∈ tables_1, d.before a0 Z = true) : ((Jvm.Cond.instanceMethod ({ cls := "java/lang/AbstractStringBuilder", name := "append", desc := "(Ljava/lang/String;)Ljava/lang/AbstractStringBuilder;" } : Jvm.MethodName)) : Jvm.Cond).before a0 Z = true := hw _ (List.mem_of_getElem? (i := 79) rfl)
theorem wd89 {Z : State} {a0 : Array Value} (hw : ∀ d ∈ tables_1, d.before a0 Z = true) : ((Jvm.Cond.superclass "java/lang/StringBuilder" "java/lang/AbstractStringBuilder") : Jvm.Cond).before a0 Z = true := hw _ (List.mem_of_getElem? (i := 89) rfl)
theorem d15_5 : decode jdk_67_method_7_code 5 = .ok (.pop, 1) := by decide +kernel
theorem d15_6 : decode jdk_67_method_7_code 6 = .ok (.aload_n 0, 1) := by decide +kernel
theorem d15_7 : decode jdk_67_method_7_code 7 = .ok (.areturn, 1) := by decide +kernel
abbrev mt9 : MethodName := (⟨"java/lang/StringBuilder", "append", "(Ljava/lang/String;)Ljava/lang/AbstractStringBuilder;"⟩ : MethodName)
theorem ef_own_br (m : MethodId) (x0 : Addr) (x1 : Addr) : entryFrame m #[(.ref x0), (.ref x1)] 2 = mkF m 0 #[.val (.ref x0), .val (.ref x1)] [] := by first | (simp [entryFrame, mkF, argsToLocals, Value.category]; done) | rfl
theorem d14_0 : decode jdk_67_method_80_code 0 = .ok (.aload_n 0, 1) := by decide +kernel
theorem d14_1 : decode jdk_67_method_80_code 1 = .ok (.aload_n 1, 1) := by decide +kernel
theorem d14_2 : decode jdk_67_method_80_code 2 = .ok (.invokevirtual 23, 3) := by decide +kernel
theorem wd83 {Z : State} {a0 : Array Value} (hw : ∀ d ∈ tables_1, d.before a0 Z = true) : ((Jvm.Cond.methodLink "java/lang/StringBuilder" (23 : Nat) ({ cls := "java/lang/StringBuilder", name := "append", desc := "(Ljava/lang/String;)Ljava/lang/StringBuilder;" } : Jvm.MethodName)) : Jvm.Cond).before a0 Z = true := hw _ (List.mem_of_getElem? (i := 83) rfl)
theorem wd87 {Z : State} {a0 : Array Value} (hw : ∀ d ∈ tables_1, d.before a0 Z = true) : ((Jvm.Cond.code ({ cls := "java/lang/StringBuilder", name := "append", desc := "(Ljava/lang/String;)Ljava/lang/StringBuilder;" } : Jvm.MethodName) jdk_67_method_7_code (2 : Nat) (Option.some (Jvm.ClassFile.FieldType.object "java/lang/StringBuilder"))) : Jvm.Cond).before a0 Z = true := hw _ (List.mem_of_getElem? (i := 87) rfl)
theorem wd49 {Z : State} {a0 : Array Value} (hw : ∀ d ∈ tables_1, d.before a0 Z = true) : ((Jvm.Cond.initialized "java/lang/StringBuilder") : Jvm.Cond).before a0 Z = true := hw _ (List.mem_of_getElem? (i := 49) rfl)
theorem pd__Ljava_lang_String__Ljava_lang_StringBuilder__4184 : parseMethodDescriptor "(Ljava/lang/String;)Ljava/lang/StringBuilder;" = some ⟨[(.object "java/lang/String")], some (.object "java/lang/StringBuilder")⟩ := by decide +kernel
theorem wd86 {Z : State} {a0 : Array Value} (hw : ∀ d ∈ tables_1, d.before a0 Z = true) : ((Jvm.Cond.selects "java/lang/StringBuilder" ({ cls := "java/lang/StringBuilder", name := "append", desc := "(Ljava/lang/String;)Ljava/lang/StringBuilder;" } : Jvm.MethodName) ({ cls := "java/lang/StringBuilder", name := "append", desc := "(Ljava/lang/String;)Ljava/lang/StringBuilder;" } : Jvm.MethodName)) : Jvm.Cond).before a0 Z = true := hw _ (List.mem_of_getElem? (i := 86) rfl)
theorem wd84 {Z : State} {a0 : Array Value} (hw : ∀ d ∈ tables_1, d.before a0 Z = true) : ((Jvm.Cond.declares ({ cls := "java/lang/StringBuilder", name := "append", desc := "(Ljava/lang/String;)Ljava/lang/StringBuilder;" } : Jvm.MethodName)) : Jvm.Cond).before a0 Z = true := hw _ (List.mem_of_getElem? (i := 84) rfl)
theorem wd85 {Z : State} {a0 : Array Value} (hw : ∀ d ∈ tables_1, d.before a0 Z = true) : ((Jvm.Cond.instanceMethod ({ cls := "java/lang/StringBuilder", name := "append", desc := "(Ljava/lang/String;)Ljava/lang/StringBuilder;" } : Jvm.MethodName)) : Jvm.Cond).before a0 Z = true := hw _ (List.mem_of_getElem? (i := 85) rfl)
theorem d14_5 : decode jdk_67_method_80_code 5 = .ok (.areturn, 1) := by decide +kernel
abbrev mt10 : MethodName := (⟨"java/lang/StringLatin1", "canEncode", "(C)Z"⟩ : MethodName)
theorem pn_java_lang_StringLatin1 : plainName "java/lang/StringLatin1" = true := by first | (simp [plainName, overriddenIn]; done) | decide +kernel
theorem ef_own_canEncL (m : MethodId) (x0 : Int32) : entryFrame m #[(.int x0)] 1 = mkF m 0 #[.val (.int x0)] [] := by first | (simp [entryFrame, mkF, argsToLocals, Value.category]; done) | rfl
theorem d25_0 : decode jdk_43_method_3_code 0 = .ok (.iload_n 0, 1) := by decide +kernel
theorem d25_1 : decode jdk_43_method_3_code 1 = .ok (.sipush 255, 3) := by decide +kernel
theorem d25_4 : decode jdk_43_method_3_code 4 = .ok (.if_icmp .gt 7, 3) := by decide +kernel
theorem d25_11 : decode jdk_43_method_3_code 11 = .ok (.iconst 0, 1) := by decide +kernel
theorem d25_12 : decode jdk_43_method_3_code 12 = .ok (.ireturn, 1) := by decide +kernel
theorem d25_7 : decode jdk_43_method_3_code 7 = .ok (.iconst 1, 1) := by decide +kernel
theorem d25_8 : decode jdk_43_method_3_code 8 = .ok (.goto 4, 3) := by decide +kernel
abbrev mt11 : MethodName := (⟨"java/lang/AbstractStringBuilder", "append", "(C)Ljava/lang/AbstractStringBuilder;"⟩ : MethodName)
theorem ef_own_ac (m : MethodId) (x0 : Addr) (x1 : Int32) : entryFrame m #[(.ref x0), (.int x1)] 2 = mkF m 0 #[.val (.ref x0), .val (.int x1)] [] := by first | (simp [entryFrame, mkF, argsToLocals, Value.category]; done) | rfl
theorem d23_0 : decode jdk_68_method_31_code 0 = .ok (.aload_n 0, 1) := by decide +kernel
theorem d23_1 : decode jdk_68_method_31_code 1 = .ok (.aload_n 0, 1) := by decide +kernel
theorem d23_2 : decode jdk_68_method_31_code 2 = .ok (.getfield 79, 3) := by decide +kernel
theorem d23_5 : decode jdk_68_method_31_code 5 = .ok (.iconst 1, 1) := by decide +kernel
theorem d23_6 : decode jdk_68_method_31_code 6 = .ok (.iadd, 1) := by decide +kernel
theorem d23_7 : decode jdk_68_method_31_code 7 = .ok (.invokevirtual 100, 3) := by decide +kernel
theorem d23_10 : decode jdk_68_method_31_code 10 = .ok (.aload_n 0, 1) := by decide +kernel
theorem d23_11 : decode jdk_68_method_31_code 11 = .ok (.invokevirtual 83, 3) := by decide +kernel
theorem wd136 {Z : State} {a0 : Array Value} (hw : ∀ d ∈ tables_1, d.before a0 Z = true) : ((Jvm.Cond.methodLink "java/lang/AbstractStringBuilder" (83 : Nat) ({ cls := "java/lang/AbstractStringBuilder", name := "isLatin1", desc := "()Z" } : Jvm.MethodName)) : Jvm.Cond).before a0 Z = true := hw _ (List.mem_of_getElem? (i := 136) rfl)
theorem wd140 {Z : State} {a0 : Array Value} (hw : ∀ d ∈ tables_1, d.before a0 Z = true) : ((Jvm.Cond.code ({ cls := "java/lang/AbstractStringBuilder", name := "isLatin1", desc := "()Z" } : Jvm.MethodName) jdk_68_method_68_code (1 : Nat) (Option.some Jvm.ClassFile.FieldType.boolean)) : Jvm.Cond).before a0 Z = true := hw _ (List.mem_of_getElem? (i := 140) rfl)
theorem pd___Z_171 : parseMethodDescriptor "()Z" = some ⟨[], some .boolean⟩ := by decide +kernel
theorem wd139 {Z : State} {a0 : Array Value} (hw : ∀ d ∈ tables_1, d.before a0 Z = true) : ((Jvm.Cond.selects "java/lang/StringBuilder" ({ cls := "java/lang/AbstractStringBuilder", name := "isLatin1", desc := "()Z" } : Jvm.MethodName) ({ cls := "java/lang/AbstractStringBuilder", name := "isLatin1", desc := "()Z" } : Jvm.MethodName)) : Jvm.Cond).before a0 Z = true := hw _ (List.mem_of_getElem? (i := 139) rfl)
theorem wd137 {Z : State} {a0 : Array Value} (hw : ∀ d ∈ tables_1, d.before a0 Z = true) : ((Jvm.Cond.declares ({ cls := "java/lang/AbstractStringBuilder", name := "isLatin1", desc := "()Z" } : Jvm.MethodName)) : Jvm.Cond).before a0 Z = true := hw _ (List.mem_of_getElem? (i := 137) rfl)
theorem wd138 {Z : State} {a0 : Array Value} (hw : ∀ d ∈ tables_1, d.before a0 Z = true) : ((Jvm.Cond.instanceMethod ({ cls := "java/lang/AbstractStringBuilder", name := "isLatin1", desc := "()Z" } : Jvm.MethodName)) : Jvm.Cond).before a0 Z = true := hw _ (List.mem_of_getElem? (i := 138) rfl)
theorem d23_14 : decode jdk_68_method_31_code 14 = .ok (.ifCond .eq 31, 3) := by decide +kernel
theorem d23_17 : decode jdk_68_method_31_code 17 = .ok (.iload_n 1, 1) := by decide +kernel
theorem d23_18 : decode jdk_68_method_31_code 18 = .ok (.invokestatic 191, 3) := by decide +kernel
theorem wd141 {Z : State} {a0 : Array Value} (hw : ∀ d ∈ tables_1, d.before a0 Z = true) : ((Jvm.Cond.methodLink "java/lang/AbstractStringBuilder" (191 : Nat) ({ cls := "java/lang/StringLatin1", name := "canEncode", desc := "(C)Z" } : Jvm.MethodName)) : Jvm.Cond).before a0 Z = true := hw _ (List.mem_of_getElem? (i := 141) rfl)
theorem wd144 {Z : State} {a0 : Array Value} (hw : ∀ d ∈ tables_1, d.before a0 Z = true) : ((Jvm.Cond.code ({ cls := "java/lang/StringLatin1", name := "canEncode", desc := "(C)Z" } : Jvm.MethodName) jdk_43_method_3_code (1 : Nat) (Option.some Jvm.ClassFile.FieldType.boolean)) : Jvm.Cond).before a0 Z = true := hw _ (List.mem_of_getElem? (i := 144) rfl)
theorem wd143 {Z : State} {a0 : Array Value} (hw : ∀ d ∈ tables_1, d.before a0 Z = true) : ((Jvm.Cond.initialized "java/lang/StringLatin1") : Jvm.Cond).before a0 Z = true := hw _ (List.mem_of_getElem? (i := 143) rfl)
theorem pd__C_Z_238 : parseMethodDescriptor "(C)Z" = some ⟨[.char], some .boolean⟩ := by decide +kernel
theorem wd142 {Z : State} {a0 : Array Value} (hw : ∀ d ∈ tables_1, d.before a0 Z = true) : ((Jvm.Cond.static ({ cls := "java/lang/StringLatin1", name := "canEncode", desc := "(C)Z" } : Jvm.MethodName)) : Jvm.Cond).before a0 Z = true := hw _ (List.mem_of_getElem? (i := 142) rfl)
theorem d23_21 : decode jdk_68_method_31_code 21 = .ok (.ifCond .eq 24, 3) := by decide +kernel
theorem d23_24 : decode jdk_68_method_31_code 24 = .ok (.aload_n 0, 1) := by decide +kernel
theorem d23_25 : decode jdk_68_method_31_code 25 = .ok (.getfield 15, 3) := by decide +kernel
theorem d23_28 : decode jdk_68_method_31_code 28 = .ok (.aload_n 0, 1) := by decide +kernel
theorem d23_29 : decode jdk_68_method_31_code 29 = .ok (.dup, 1) := by decide +kernel
theorem d23_30 : decode jdk_68_method_31_code 30 = .ok (.getfield 79, 3) := by decide +kernel
theorem d23_33 : decode jdk_68_method_31_code 33 = .ok (.dup_x1, 1) := by decide +kernel
theorem d23_34 : decode jdk_68_method_31_code 34 = .ok (.iconst 1, 1) := by decide +kernel
theorem d23_35 : decode jdk_68_method_31_code 35 = .ok (.iadd, 1) := by decide +kernel
theorem d23_36 : decode jdk_68_method_31_code 36 = .ok (.putfield 79, 3) := by decide +kernel
theorem d23_39 : decode jdk_68_method_31_code 39 = .ok (.iload_n 1, 1) := by decide +kernel
theorem d23_40 : decode jdk_68_method_31_code 40 = .ok (.i2b, 1) := by decide +kernel
theorem d23_41 : decode jdk_68_method_31_code 41 = .ok (.bastore, 1) := by decide +kernel
theorem d23_42 : decode jdk_68_method_31_code 42 = .ok (.goto 33, 3) := by decide +kernel
theorem d23_75 : decode jdk_68_method_31_code 75 = .ok (.aload_n 0, 1) := by decide +kernel
theorem d23_76 : decode jdk_68_method_31_code 76 = .ok (.areturn, 1) := by decide +kernel
abbrev mt12 : MethodName := (⟨"java/lang/StringBuilder", "append", "(C)Ljava/lang/StringBuilder;"⟩ : MethodName)
theorem ef_own_bc (m : MethodId) (x0 : Addr) (x1 : Int32) : entryFrame m #[(.ref x0), (.int x1)] 2 = mkF m 0 #[.val (.ref x0), .val (.int x1)] [] := by first | (simp [entryFrame, mkF, argsToLocals, Value.category]; done) | rfl
theorem d22_0 : decode jdk_67_method_14_code 0 = .ok (.aload_n 0, 1) := by decide +kernel
theorem d22_1 : decode jdk_67_method_14_code 1 = .ok (.iload_n 1, 1) := by decide +kernel
theorem d22_2 : decode jdk_67_method_14_code 2 = .ok (.invokespecial 50, 3) := by decide +kernel
theorem wd132 {Z : State} {a0 : Array Value} (hw : ∀ d ∈ tables_1, d.before a0 Z = true) : ((Jvm.Cond.methodLink "java/lang/StringBuilder" (50 : Nat) ({ cls := "java/lang/AbstractStringBuilder", name := "append", desc := "(C)Ljava/lang/AbstractStringBuilder;" } : Jvm.MethodName)) : Jvm.Cond).before a0 Z = true := hw _ (List.mem_of_getElem? (i := 132) rfl)
theorem wd135 {Z : State} {a0 : Array Value} (hw : ∀ d ∈ tables_1, d.before a0 Z = true) : ((Jvm.Cond.code ({ cls := "java/lang/AbstractStringBuilder", name := "append", desc := "(C)Ljava/lang/AbstractStringBuilder;" } : Jvm.MethodName) jdk_68_method_31_code (2 : Nat) (Option.some (Jvm.ClassFile.FieldType.object "java/lang/AbstractStringBuilder"))) : Jvm.Cond).before a0 Z = true := hw _ (List.mem_of_getElem? (i := 135) rfl)
theorem pd__C_Ljava_lang_AbstractStringBuilder__3375 : parseMethodDescriptor "(C)Ljava/lang/AbstractStringBuilder;" = some ⟨[.char], some (.object "java/lang/AbstractStringBuilder")⟩ := by decide +kernel
theorem wd133 {Z : State} {a0 : Array Value} (hw : ∀ d ∈ tables_1, d.before a0 Z = true) : ((Jvm.Cond.instanceMethod ({ cls := "java/lang/AbstractStringBuilder", name := "append", desc := "(C)Ljava/lang/AbstractStringBuilder;" } : Jvm.MethodName)) : Jvm.Cond).before a0 Z = true := hw _ (List.mem_of_getElem? (i := 133) rfl)
theorem d22_5 : decode jdk_67_method_14_code 5 = .ok (.pop, 1) := by decide +kernel
theorem d22_6 : decode jdk_67_method_14_code 6 = .ok (.aload_n 0, 1) := by decide +kernel
theorem d22_7 : decode jdk_67_method_14_code 7 = .ok (.areturn, 1) := by decide +kernel
abbrev mt13 : MethodName := (⟨"java/util/Arrays", "checkLength", "(II)V"⟩ : MethodName)
theorem pn_java_util_Arrays : plainName "java/util/Arrays" = true := by first | (simp [plainName, overriddenIn]; done) | decide +kernel
theorem ef_own_chk (m : MethodId) (x0 : Int32) (x1 : Int32) : entryFrame m #[(.int x0), (.int x1)] 2 = mkF m 0 #[.val (.int x0), .val (.int x1)] [] := by first | (simp [entryFrame, mkF, argsToLocals, Value.category]; done) | rfl
theorem d35_0 : decode jdk_65_method_131_code 0 = .ok (.iload_n 1, 1) := by decide +kernel
theorem d35_1 : decode jdk_65_method_131_code 1 = .ok (.iload_n 0, 1) := by decide +kernel
theorem d35_2 : decode jdk_65_method_131_code 2 = .ok (.if_icmp .ge 35, 3) := by decide +kernel
theorem d35_37 : decode jdk_65_method_131_code 37 = .ok (.return_, 1) := by decide +kernel
abbrev mt14 : MethodName := (⟨"java/lang/Math", "min", "(II)I"⟩ : MethodName)
theorem ef_own_min (m : MethodId) (x0 : Int32) (x1 : Int32) : entryFrame m #[(.int x0), (.int x1)] 2 = mkF m 0 #[.val (.int x0), .val (.int x1)] [] := by first | (simp [entryFrame, mkF, argsToLocals, Value.category]; done) | rfl
theorem d36_0 : decode jdk_29_method_69_code 0 = .ok (.iload_n 0, 1) := by decide +kernel
theorem d36_1 : decode jdk_29_method_69_code 1 = .ok (.iload_n 1, 1) := by decide +kernel
theorem d36_2 : decode jdk_29_method_69_code 2 = .ok (.if_icmp .gt 7, 3) := by decide +kernel
theorem d36_9 : decode jdk_29_method_69_code 9 = .ok (.iload_n 1, 1) := by decide +kernel
theorem d36_10 : decode jdk_29_method_69_code 10 = .ok (.ireturn, 1) := by decide +kernel
abbrev mt15 : MethodName := (⟨"java/util/Arrays", "copyOfRangeByte", "([BII)[B"⟩ : MethodName)
theorem ef_own_crb (m : MethodId) (x0 : Addr) (x1 : Int32) (x2 : Int32) : entryFrame m #[(.ref x0), (.int x1), (.int x2)] 5 = mkF m 0 #[.val (.ref x0), .val (.int x1), .val (.int x2), .unset, .unset] [] := by first | (simp [entryFrame, mkF, argsToLocals, Value.category]; done) | rfl
theorem d34_0 : decode jdk_65_method_133_code 0 = .ok (.iload_n 1, 1) := by decide +kernel
theorem d34_1 : decode jdk_65_method_133_code 1 = .ok (.iload_n 2, 1) := by decide +kernel
theorem d34_2 : decode jdk_65_method_133_code 2 = .ok (.invokestatic 343, 3) := by decide +kernel
theorem wd183 {Z : State} {a0 : Array Value} (hw : ∀ d ∈ tables_1, d.before a0 Z = true) : ((Jvm.Cond.methodLink "java/util/Arrays" (343 : Nat) ({ cls := "java/util/Arrays", name := "checkLength", desc := "(II)V" } : Jvm.MethodName)) : Jvm.Cond).before a0 Z = true := hw _ (List.mem_of_getElem? (i := 183) rfl)
theorem wd185 {Z : State} {a0 : Array Value} (hw : ∀ d ∈ tables_1, d.before a0 Z = true) : ((Jvm.Cond.code ({ cls := "java/util/Arrays", name := "checkLength", desc := "(II)V" } : Jvm.MethodName) jdk_65_method_131_code (2 : Nat) (Option.none : Option Jvm.ClassFile.FieldType)) : Jvm.Cond).before a0 Z = true := hw _ (List.mem_of_getElem? (i := 185) rfl)
theorem wd178 {Z : State} {a0 : Array Value} (hw : ∀ d ∈ tables_1, d.before a0 Z = true) : ((Jvm.Cond.initialized "java/util/Arrays") : Jvm.Cond).before a0 Z = true := hw _ (List.mem_of_getElem? (i := 178) rfl)
theorem pd__II_V_313 : parseMethodDescriptor "(II)V" = some ⟨[.int, .int], none⟩ := by decide +kernel
theorem wd184 {Z : State} {a0 : Array Value} (hw : ∀ d ∈ tables_1, d.before a0 Z = true) : ((Jvm.Cond.static ({ cls := "java/util/Arrays", name := "checkLength", desc := "(II)V" } : Jvm.MethodName)) : Jvm.Cond).before a0 Z = true := hw _ (List.mem_of_getElem? (i := 184) rfl)
theorem d34_5 : decode jdk_65_method_133_code 5 = .ok (.iload_n 2, 1) := by decide +kernel
theorem d34_6 : decode jdk_65_method_133_code 6 = .ok (.iload_n 1, 1) := by decide +kernel
theorem d34_7 : decode jdk_65_method_133_code 7 = .ok (.isub, 1) := by decide +kernel
theorem d34_8 : decode jdk_65_method_133_code 8 = .ok (.istore_n 3, 1) := by decide +kernel
theorem d34_9 : decode jdk_65_method_133_code 9 = .ok (.iload_n 3, 1) := by decide +kernel
theorem d34_10 : decode jdk_65_method_133_code 10 = .ok (.newarray .byte, 2) := by decide +kernel
theorem wd19 {Z : State} {a0 : Array Value} (hw : ∀ d ∈ tables_1, d.before a0 Z = true) : ((Jvm.Cond.arrayClass Jvm.ClassFile.FieldType.byte) : Jvm.Cond).before a0 Z = true := hw _ (List.mem_of_getElem? (i := 19) rfl)
theorem d34_12 : decode jdk_65_method_133_code 12 = .ok (.astore 4, 2) := by decide +kernel
theorem d34_14 : decode jdk_65_method_133_code 14 = .ok (.aload_n 0, 1) := by decide +kernel
theorem d34_15 : decode jdk_65_method_133_code 15 = .ok (.iload_n 1, 1) := by decide +kernel
theorem d34_16 : decode jdk_65_method_133_code 16 = .ok (.aload 4, 2) := by decide +kernel
theorem d34_18 : decode jdk_65_method_133_code 18 = .ok (.iconst 0, 1) := by decide +kernel
theorem d34_19 : decode jdk_65_method_133_code 19 = .ok (.aload_n 0, 1) := by decide +kernel
theorem d34_20 : decode jdk_65_method_133_code 20 = .ok (.arraylength, 1) := by decide +kernel
theorem d34_21 : decode jdk_65_method_133_code 21 = .ok (.iload_n 1, 1) := by decide +kernel
theorem d34_22 : decode jdk_65_method_133_code 22 = .ok (.isub, 1) := by decide +kernel
theorem d34_23 : decode jdk_65_method_133_code 23 = .ok (.iload_n 3, 1) := by decide +kernel
theorem d34_24 : decode jdk_65_method_133_code 24 = .ok (.invokestatic 304, 3) := by decide +kernel
theorem wd186 {Z : State} {a0 : Array Value} (hw : ∀ d ∈ tables_1, d.before a0 Z = true) : ((Jvm.Cond.methodLink "java/util/Arrays" (304 : Nat) ({ cls := "java/lang/Math", name := "min", desc := "(II)I" } : Jvm.MethodName)) : Jvm.Cond).before a0 Z = true := hw _ (List.mem_of_getElem? (i := 186) rfl)
theorem wd189 {Z : State} {a0 : Array Value} (hw : ∀ d ∈ tables_1, d.before a0 Z = true) : ((Jvm.Cond.code ({ cls := "java/lang/Math", name := "min", desc := "(II)I" } : Jvm.MethodName) jdk_29_method_69_code (2 : Nat) (Option.some Jvm.ClassFile.FieldType.int)) : Jvm.Cond).before a0 Z = true := hw _ (List.mem_of_getElem? (i := 189) rfl)
theorem wd188 {Z : State} {a0 : Array Value} (hw : ∀ d ∈ tables_1, d.before a0 Z = true) : ((Jvm.Cond.initialized "java/lang/Math") : Jvm.Cond).before a0 Z = true := hw _ (List.mem_of_getElem? (i := 188) rfl)
theorem pd__II_I_300 : parseMethodDescriptor "(II)I" = some ⟨[.int, .int], some .int⟩ := by decide +kernel
theorem wd187 {Z : State} {a0 : Array Value} (hw : ∀ d ∈ tables_1, d.before a0 Z = true) : ((Jvm.Cond.static ({ cls := "java/lang/Math", name := "min", desc := "(II)I" } : Jvm.MethodName)) : Jvm.Cond).before a0 Z = true := hw _ (List.mem_of_getElem? (i := 187) rfl)
theorem d34_27 : decode jdk_65_method_133_code 27 = .ok (.invokestatic 150, 3) := by decide +kernel
theorem wd190 {Z : State} {a0 : Array Value} (hw : ∀ d ∈ tables_1, d.before a0 Z = true) : ((Jvm.Cond.methodLink "java/util/Arrays" (150 : Nat) ({ cls := "java/lang/System", name := "arraycopy", desc := "(Ljava/lang/Object;ILjava/lang/Object;II)V" } : Jvm.MethodName)) : Jvm.Cond).before a0 Z = true := hw _ (List.mem_of_getElem? (i := 190) rfl)
theorem d34_30 : decode jdk_65_method_133_code 30 = .ok (.aload 4, 2) := by decide +kernel
theorem d34_32 : decode jdk_65_method_133_code 32 = .ok (.areturn, 1) := by decide +kernel
abbrev mt16 : MethodName := (⟨"java/util/Arrays", "copyOfRange", "([BII)[B"⟩ : MethodName)
theorem ef_own_cr (m : MethodId) (x0 : Addr) (x1 : Int32) (x2 : Int32) : entryFrame m #[(.ref x0), (.int x1), (.int x2)] 3 = mkF m 0 #[.val (.ref x0), .val (.int x1), .val (.int x2)] [] := by first | (simp [entryFrame, mkF, argsToLocals, Value.category]; done) | rfl
theorem d33_0 : decode jdk_65_method_132_code 0 = .ok (.iload_n 1, 1) := by decide +kernel
theorem d33_1 : decode jdk_65_method_132_code 1 = .ok (.ifCond .ne 9, 3) := by decide +kernel
theorem d33_4 : decode jdk_65_method_132_code 4 = .ok (.iload_n 2, 1) := by decide +kernel
theorem d33_5 : decode jdk_65_method_132_code 5 = .ok (.aload_n 0, 1) := by decide +kernel
theorem d33_6 : decode jdk_65_method_132_code 6 = .ok (.arraylength, 1) := by decide +kernel
theorem d33_7 : decode jdk_65_method_132_code 7 = .ok (.if_icmp .eq 10, 3) := by decide +kernel
theorem d33_10 : decode jdk_65_method_132_code 10 = .ok (.aload_n 0, 1) := by decide +kernel
theorem d33_11 : decode jdk_65_method_132_code 11 = .ok (.iload_n 1, 1) := by decide +kernel
theorem d33_12 : decode jdk_65_method_132_code 12 = .ok (.iload_n 2, 1) := by decide +kernel
theorem d33_13 : decode jdk_65_method_132_code 13 = .ok (.invokestatic 339, 3) := by decide +kernel
theorem wd180 {Z : State} {a0 : Array Value} (hw : ∀ d ∈ tables_1, d.before a0 Z = true) : ((Jvm.Cond.methodLink "java/util/Arrays" (339 : Nat) ({ cls := "java/util/Arrays", name := "copyOfRangeByte", desc := "([BII)[B" } : Jvm.MethodName)) : Jvm.Cond).before a0 Z = true := hw _ (List.mem_of_getElem? (i := 180) rfl)
theorem wd182 {Z : State} {a0 : Array Value} (hw : ∀ d ∈ tables_1, d.before a0 Z = true) : ((Jvm.Cond.code ({ cls := "java/util/Arrays", name := "copyOfRangeByte", desc := "([BII)[B" } : Jvm.MethodName) jdk_65_method_133_code (5 : Nat) (Option.some (Jvm.ClassFile.FieldType.array Jvm.ClassFile.FieldType.byte))) : Jvm.Cond).before a0 Z = true := hw _ (List.mem_of_getElem? (i := 182) rfl)
theorem pd___BII__B_541 : parseMethodDescriptor "([BII)[B" = some ⟨[(.array .byte), .int, .int], some (.array .byte)⟩ := by decide +kernel
theorem wd181 {Z : State} {a0 : Array Value} (hw : ∀ d ∈ tables_1, d.before a0 Z = true) : ((Jvm.Cond.static ({ cls := "java/util/Arrays", name := "copyOfRangeByte", desc := "([BII)[B" } : Jvm.MethodName)) : Jvm.Cond).before a0 Z = true := hw _ (List.mem_of_getElem? (i := 181) rfl)
theorem d33_16 : decode jdk_65_method_132_code 16 = .ok (.areturn, 1) := by decide +kernel
abbrev mt17 : MethodName := (⟨"java/lang/AbstractStringBuilder", "getValue", "()[B"⟩ : MethodName)
theorem ef_own_getv (m : MethodId) (x0 : Addr) : entryFrame m #[(.ref x0)] 1 = mkF m 0 #[.val (.ref x0)] [] := by first | (simp [entryFrame, mkF, argsToLocals, Value.category]; done) | rfl
theorem d30_0 : decode jdk_68_method_64_code 0 = .ok (.aload_n 0, 1) := by decide +kernel
theorem d30_1 : decode jdk_68_method_64_code 1 = .ok (.getfield 15, 3) := by decide +kernel
theorem d30_4 : decode jdk_68_method_64_code 4 = .ok (.areturn, 1) := by decide +kernel
abbrev mt18 : MethodName := (⟨"java/lang/AbstractStringBuilder", "length", "()I"⟩ : MethodName)
theorem ef_own_alen (m : MethodId) (x0 : Addr) : entryFrame m #[(.ref x0)] 1 = mkF m 0 #[.val (.ref x0)] [] := by first | (simp [entryFrame, mkF, argsToLocals, Value.category]; done) | rfl
theorem d32_0 : decode jdk_68_method_6_code 0 = .ok (.aload_n 0, 1) := by decide +kernel
theorem d32_1 : decode jdk_68_method_6_code 1 = .ok (.getfield 79, 3) := by decide +kernel
theorem d32_4 : decode jdk_68_method_6_code 4 = .ok (.ireturn, 1) := by decide +kernel
abbrev mt19 : MethodName := (⟨"java/lang/StringBuilder", "length", "()I"⟩ : MethodName)
theorem ef_own_slen (m : MethodId) (x0 : Addr) : entryFrame m #[(.ref x0)] 1 = mkF m 0 #[.val (.ref x0)] [] := by first | (simp [entryFrame, mkF, argsToLocals, Value.category]; done) | rfl
theorem d31_0 : decode jdk_67_method_93_code 0 = .ok (.aload_n 0, 1) := by decide +kernel
theorem d31_1 : decode jdk_67_method_93_code 1 = .ok (.invokespecial 343, 3) := by decide +kernel
theorem wd173 {Z : State} {a0 : Array Value} (hw : ∀ d ∈ tables_1, d.before a0 Z = true) : ((Jvm.Cond.methodLink "java/lang/StringBuilder" (343 : Nat) ({ cls := "java/lang/AbstractStringBuilder", name := "length", desc := "()I" } : Jvm.MethodName)) : Jvm.Cond).before a0 Z = true := hw _ (List.mem_of_getElem? (i := 173) rfl)
theorem wd174 {Z : State} {a0 : Array Value} (hw : ∀ d ∈ tables_1, d.before a0 Z = true) : ((Jvm.Cond.code ({ cls := "java/lang/AbstractStringBuilder", name := "length", desc := "()I" } : Jvm.MethodName) jdk_68_method_6_code (1 : Nat) (Option.some Jvm.ClassFile.FieldType.int)) : Jvm.Cond).before a0 Z = true := hw _ (List.mem_of_getElem? (i := 174) rfl)
theorem wd169 {Z : State} {a0 : Array Value} (hw : ∀ d ∈ tables_1, d.before a0 Z = true) : ((Jvm.Cond.instanceMethod ({ cls := "java/lang/AbstractStringBuilder", name := "length", desc := "()I" } : Jvm.MethodName)) : Jvm.Cond).before a0 Z = true := hw _ (List.mem_of_getElem? (i := 169) rfl)
theorem d31_4 : decode jdk_67_method_93_code 4 = .ok (.ireturn, 1) := by decide +kernel
abbrev mt20 : MethodName := (⟨"java/lang/String", "<init>", "(Ljava/lang/AbstractStringBuilder;Ljava/lang/Void;)V"⟩ : MethodName)
theorem ef_own_sia (m : MethodId) (x0 : Addr) (x1 : Addr) : entryFrame m #[(.ref x0), (.ref x1), .null] 5 = mkF m 0 #[.val (.ref x0), .val (.ref x1), .val .null, .unset, .unset] [] := by first | (simp [entryFrame, mkF, argsToLocals, Value.category]; done) | rfl
theorem d29_0 : decode jdk_42_method_150_code 0 = .ok (.aload_n 0, 1) := by decide +kernel
theorem d29_1 : decode jdk_42_method_150_code 1 = .ok (.invokespecial 1, 3) := by decide +kernel
theorem wd15 {Z : State} {a0 : Array Value} (hw : ∀ d ∈ tables_1, d.before a0 Z = true) : ((Jvm.Cond.methodLink "java/lang/String" (1 : Nat) ({ cls := "java/lang/Object", name := "<init>", desc := "()V" } : Jvm.MethodName)) : Jvm.Cond).before a0 Z = true := hw _ (List.mem_of_getElem? (i := 15) rfl)
theorem wd16 {Z : State} {a0 : Array Value} (hw : ∀ d ∈ tables_1, d.before a0 Z = true) : ((Jvm.Cond.instanceMethod ({ cls := "java/lang/Object", name := "<init>", desc := "()V" } : Jvm.MethodName)) : Jvm.Cond).before a0 Z = true := hw _ (List.mem_of_getElem? (i := 16) rfl)
theorem wd17 {Z : State} {a0 : Array Value} (hw : ∀ d ∈ tables_1, d.before a0 Z = true) : ((Jvm.Cond.code ({ cls := "java/lang/Object", name := "<init>", desc := "()V" } : Jvm.MethodName) object_method_1_code (1 : Nat) (Option.none : Option Jvm.ClassFile.FieldType)) : Jvm.Cond).before a0 Z = true := hw _ (List.mem_of_getElem? (i := 17) rfl)
theorem d29_4 : decode jdk_42_method_150_code 4 = .ok (.aload_n 1, 1) := by decide +kernel
theorem d29_5 : decode jdk_42_method_150_code 5 = .ok (.invokevirtual 552, 3) := by decide +kernel
theorem wd162 {Z : State} {a0 : Array Value} (hw : ∀ d ∈ tables_1, d.before a0 Z = true) : ((Jvm.Cond.methodLink "java/lang/String" (552 : Nat) ({ cls := "java/lang/AbstractStringBuilder", name := "getValue", desc := "()[B" } : Jvm.MethodName)) : Jvm.Cond).before a0 Z = true := hw _ (List.mem_of_getElem? (i := 162) rfl)
theorem wd166 {Z : State} {a0 : Array Value} (hw : ∀ d ∈ tables_1, d.before a0 Z = true) : ((Jvm.Cond.code ({ cls := "java/lang/AbstractStringBuilder", name := "getValue", desc := "()[B" } : Jvm.MethodName) jdk_68_method_64_code (1 : Nat) (Option.some (Jvm.ClassFile.FieldType.array Jvm.ClassFile.FieldType.byte))) : Jvm.Cond).before a0 Z = true := hw _ (List.mem_of_getElem? (i := 166) rfl)
theorem pd____B_238 : parseMethodDescriptor "()[B" = some ⟨[], some (.array .byte)⟩ := by decide +kernel
theorem wd165 {Z : State} {a0 : Array Value} (hw : ∀ d ∈ tables_1, d.before a0 Z = true) : ((Jvm.Cond.selects "java/lang/StringBuilder" ({ cls := "java/lang/AbstractStringBuilder", name := "getValue", desc := "()[B" } : Jvm.MethodName) ({ cls := "java/lang/AbstractStringBuilder", name := "getValue", desc := "()[B" } : Jvm.MethodName)) : Jvm.Cond).before a0 Z = true := hw _ (List.mem_of_getElem? (i := 165) rfl)
theorem wd163 {Z : State} {a0 : Array Value} (hw : ∀ d ∈ tables_1, d.before a0 Z = true) : ((Jvm.Cond.declares ({ cls := "java/lang/AbstractStringBuilder", name := "getValue", desc := "()[B" } : Jvm.MethodName)) : Jvm.Cond).before a0 Z = true := hw _ (List.mem_of_getElem? (i := 163) rfl)
theorem wd164 {Z : State} {a0 : Array Value} (hw : ∀ d ∈ tables_1, d.before a0 Z = true) : ((Jvm.Cond.instanceMethod ({ cls := "java/lang/AbstractStringBuilder", name := "getValue", desc := "()[B" } : Jvm.MethodName)) : Jvm.Cond).before a0 Z = true := hw _ (List.mem_of_getElem? (i := 164) rfl)
theorem d29_8 : decode jdk_42_method_150_code 8 = .ok (.astore_n 3, 1) := by decide +kernel
theorem d29_9 : decode jdk_42_method_150_code 9 = .ok (.aload_n 1, 1) := by decide +kernel
theorem d29_10 : decode jdk_42_method_150_code 10 = .ok (.invokevirtual 549, 3) := by decide +kernel
theorem wd167 {Z : State} {a0 : Array Value} (hw : ∀ d ∈ tables_1, d.before a0 Z = true) : ((Jvm.Cond.methodLink "java/lang/String" (549 : Nat) ({ cls := "java/lang/AbstractStringBuilder", name := "length", desc := "()I" } : Jvm.MethodName)) : Jvm.Cond).before a0 Z = true := hw _ (List.mem_of_getElem? (i := 167) rfl)
theorem wd172 {Z : State} {a0 : Array Value} (hw : ∀ d ∈ tables_1, d.before a0 Z = true) : ((Jvm.Cond.code ({ cls := "java/lang/StringBuilder", name := "length", desc := "()I" } : Jvm.MethodName) jdk_67_method_93_code (1 : Nat) (Option.some Jvm.ClassFile.FieldType.int)) : Jvm.Cond).before a0 Z = true := hw _ (List.mem_of_getElem? (i := 172) rfl)
theorem wd170 {Z : State} {a0 : Array Value} (hw : ∀ d ∈ tables_1, d.before a0 Z = true) : ((Jvm.Cond.selects "java/lang/StringBuilder" ({ cls := "java/lang/AbstractStringBuilder", name := "length", desc := "()I" } : Jvm.MethodName) ({ cls := "java/lang/StringBuilder", name := "length", desc := "()I" } : Jvm.MethodName)) : Jvm.Cond).before a0 Z = true := hw _ (List.mem_of_getElem? (i := 170) rfl)
theorem wd168 {Z : State} {a0 : Array Value} (hw : ∀ d ∈ tables_1, d.before a0 Z = true) : ((Jvm.Cond.declares ({ cls := "java/lang/AbstractStringBuilder", name := "length", desc := "()I" } : Jvm.MethodName)) : Jvm.Cond).before a0 Z = true := hw _ (List.mem_of_getElem? (i := 168) rfl)
theorem wd171 {Z : State} {a0 : Array Value} (hw : ∀ d ∈ tables_1, d.before a0 Z = true) : ((Jvm.Cond.instanceMethod ({ cls := "java/lang/StringBuilder", name := "length", desc := "()I" } : Jvm.MethodName)) : Jvm.Cond).before a0 Z = true := hw _ (List.mem_of_getElem? (i := 171) rfl)
theorem d29_13 : decode jdk_42_method_150_code 13 = .ok (.istore 4, 2) := by decide +kernel
theorem d29_15 : decode jdk_42_method_150_code 15 = .ok (.aload_n 1, 1) := by decide +kernel
theorem d29_16 : decode jdk_42_method_150_code 16 = .ok (.invokevirtual 1047, 3) := by decide +kernel
theorem wd175 {Z : State} {a0 : Array Value} (hw : ∀ d ∈ tables_1, d.before a0 Z = true) : ((Jvm.Cond.methodLink "java/lang/String" (1047 : Nat) ({ cls := "java/lang/AbstractStringBuilder", name := "isLatin1", desc := "()Z" } : Jvm.MethodName)) : Jvm.Cond).before a0 Z = true := hw _ (List.mem_of_getElem? (i := 175) rfl)
theorem d29_19 : decode jdk_42_method_150_code 19 = .ok (.ifCond .eq 22, 3) := by decide +kernel
theorem d29_22 : decode jdk_42_method_150_code 22 = .ok (.aload_n 0, 1) := by decide +kernel
theorem d29_23 : decode jdk_42_method_150_code 23 = .ok (.iconst 0, 1) := by decide +kernel
theorem d29_24 : decode jdk_42_method_150_code 24 = .ok (.putfield 15, 3) := by decide +kernel
theorem wd21 {Z : State} {a0 : Array Value} (hw : ∀ d ∈ tables_1, d.before a0 Z = true) : ((Jvm.Cond.laysFinal "java/lang/String" "java/lang/String" "coder" "B") : Jvm.Cond).before a0 Z = true := hw _ (List.mem_of_getElem? (i := 21) rfl)
theorem d29_27 : decode jdk_42_method_150_code 27 = .ok (.aload_n 0, 1) := by decide +kernel
theorem d29_28 : decode jdk_42_method_150_code 28 = .ok (.aload_n 3, 1) := by decide +kernel
theorem d29_29 : decode jdk_42_method_150_code 29 = .ok (.iconst 0, 1) := by decide +kernel
theorem d29_30 : decode jdk_42_method_150_code 30 = .ok (.iload 4, 2) := by decide +kernel
theorem d29_32 : decode jdk_42_method_150_code 32 = .ok (.invokestatic 54, 3) := by decide +kernel
theorem wd176 {Z : State} {a0 : Array Value} (hw : ∀ d ∈ tables_1, d.before a0 Z = true) : ((Jvm.Cond.methodLink "java/lang/String" (54 : Nat) ({ cls := "java/util/Arrays", name := "copyOfRange", desc := "([BII)[B" } : Jvm.MethodName)) : Jvm.Cond).before a0 Z = true := hw _ (List.mem_of_getElem? (i := 176) rfl)
theorem wd179 {Z : State} {a0 : Array Value} (hw : ∀ d ∈ tables_1, d.before a0 Z = true) : ((Jvm.Cond.code ({ cls := "java/util/Arrays", name := "copyOfRange", desc := "([BII)[B" } : Jvm.MethodName) jdk_65_method_132_code (3 : Nat) (Option.some (Jvm.ClassFile.FieldType.array Jvm.ClassFile.FieldType.byte))) : Jvm.Cond).before a0 Z = true := hw _ (List.mem_of_getElem? (i := 179) rfl)
theorem wd177 {Z : State} {a0 : Array Value} (hw : ∀ d ∈ tables_1, d.before a0 Z = true) : ((Jvm.Cond.static ({ cls := "java/util/Arrays", name := "copyOfRange", desc := "([BII)[B" } : Jvm.MethodName)) : Jvm.Cond).before a0 Z = true := hw _ (List.mem_of_getElem? (i := 177) rfl)
theorem d29_35 : decode jdk_42_method_150_code 35 = .ok (.putfield 9, 3) := by decide +kernel
theorem wd20 {Z : State} {a0 : Array Value} (hw : ∀ d ∈ tables_1, d.before a0 Z = true) : ((Jvm.Cond.laysFinal "java/lang/String" "java/lang/String" "value" "[B") : Jvm.Cond).before a0 Z = true := hw _ (List.mem_of_getElem? (i := 20) rfl)
theorem d29_38 : decode jdk_42_method_150_code 38 = .ok (.goto 59, 3) := by decide +kernel
theorem d29_97 : decode jdk_42_method_150_code 97 = .ok (.return_, 1) := by decide +kernel
abbrev mt21 : MethodName := (⟨"java/lang/String", "<init>", "(Ljava/lang/StringBuilder;)V"⟩ : MethodName)
theorem ef_own_sib (m : MethodId) (x0 : Addr) (x1 : Addr) : entryFrame m #[(.ref x0), (.ref x1)] 2 = mkF m 0 #[.val (.ref x0), .val (.ref x1)] [] := by first | (simp [entryFrame, mkF, argsToLocals, Value.category]; done) | rfl
theorem d28_0 : decode jdk_42_method_53_code 0 = .ok (.aload_n 0, 1) := by decide +kernel
theorem d28_1 : decode jdk_42_method_53_code 1 = .ok (.aload_n 1, 1) := by decide +kernel
theorem d28_2 : decode jdk_42_method_53_code 2 = .ok (.aconst_null, 1) := by decide +kernel
theorem d28_3 : decode jdk_42_method_53_code 3 = .ok (.invokespecial 489, 3) := by decide +kernel
theorem wd159 {Z : State} {a0 : Array Value} (hw : ∀ d ∈ tables_1, d.before a0 Z = true) : ((Jvm.Cond.methodLink "java/lang/String" (489 : Nat) ({ cls := "java/lang/String", name := "<init>", desc := "(Ljava/lang/AbstractStringBuilder;Ljava/lang/Void;)V" } : Jvm.MethodName)) : Jvm.Cond).before a0 Z = true := hw _ (List.mem_of_getElem? (i := 159) rfl)
theorem wd161 {Z : State} {a0 : Array Value} (hw : ∀ d ∈ tables_1, d.before a0 Z = true) : ((Jvm.Cond.code ({ cls := "java/lang/String", name := "<init>", desc := "(Ljava/lang/AbstractStringBuilder;Ljava/lang/Void;)V" } : Jvm.MethodName) jdk_42_method_150_code (5 : Nat) (Option.none : Option Jvm.ClassFile.FieldType)) : Jvm.Cond).before a0 Z = true := hw _ (List.mem_of_getElem? (i := 161) rfl)
theorem pd__Ljava_lang_AbstractStringBuilder_Ljava_lang_Void__V_4861 : parseMethodDescriptor "(Ljava/lang/AbstractStringBuilder;Ljava/lang/Void;)V" = some ⟨[(.object "java/lang/AbstractStringBuilder"), (.object "java/lang/Void")], none⟩ := by decide +kernel
theorem wd160 {Z : State} {a0 : Array Value} (hw : ∀ d ∈ tables_1, d.before a0 Z = true) : ((Jvm.Cond.instanceMethod ({ cls := "java/lang/String", name := "<init>", desc := "(Ljava/lang/AbstractStringBuilder;Ljava/lang/Void;)V" } : Jvm.MethodName)) : Jvm.Cond).before a0 Z = true := hw _ (List.mem_of_getElem? (i := 160) rfl)
theorem d28_6 : decode jdk_42_method_53_code 6 = .ok (.return_, 1) := by decide +kernel
abbrev mt22 : MethodName := (⟨"java/lang/StringBuilder", "toString", "()Ljava/lang/String;"⟩ : MethodName)
theorem ef_own_ts (m : MethodId) (x0 : Addr) : entryFrame m #[(.ref x0)] 1 = mkF m 0 #[.val (.ref x0)] [] := by first | (simp [entryFrame, mkF, argsToLocals, Value.category]; done) | rfl
theorem d27_0 : decode jdk_67_method_42_code 0 = .ok (.new 18, 3) := by decide +kernel
theorem wd155 {Z : State} {a0 : Array Value} (hw : ∀ d ∈ tables_1, d.before a0 Z = true) : ((Jvm.Cond.classLink "java/lang/StringBuilder" (18 : Nat) "java/lang/String") : Jvm.Cond).before a0 Z = true := hw _ (List.mem_of_getElem? (i := 155) rfl)
theorem d27_3 : decode jdk_67_method_42_code 3 = .ok (.dup, 1) := by decide +kernel
theorem d27_4 : decode jdk_67_method_42_code 4 = .ok (.aload_n 0, 1) := by decide +kernel
theorem d27_5 : decode jdk_67_method_42_code 5 = .ok (.invokespecial 137, 3) := by decide +kernel
theorem wd156 {Z : State} {a0 : Array Value} (hw : ∀ d ∈ tables_1, d.before a0 Z = true) : ((Jvm.Cond.methodLink "java/lang/StringBuilder" (137 : Nat) ({ cls := "java/lang/String", name := "<init>", desc := "(Ljava/lang/StringBuilder;)V" } : Jvm.MethodName)) : Jvm.Cond).before a0 Z = true := hw _ (List.mem_of_getElem? (i := 156) rfl)
theorem wd158 {Z : State} {a0 : Array Value} (hw : ∀ d ∈ tables_1, d.before a0 Z = true) : ((Jvm.Cond.code ({ cls := "java/lang/String", name := "<init>", desc := "(Ljava/lang/StringBuilder;)V" } : Jvm.MethodName) jdk_42_method_53_code (2 : Nat) (Option.none : Option Jvm.ClassFile.FieldType)) : Jvm.Cond).before a0 Z = true := hw _ (List.mem_of_getElem? (i := 158) rfl)
theorem pd__Ljava_lang_StringBuilder__V_2574 : parseMethodDescriptor "(Ljava/lang/StringBuilder;)V" = some ⟨[(.object "java/lang/StringBuilder")], none⟩ := by decide +kernel
theorem wd157 {Z : State} {a0 : Array Value} (hw : ∀ d ∈ tables_1, d.before a0 Z = true) : ((Jvm.Cond.instanceMethod ({ cls := "java/lang/String", name := "<init>", desc := "(Ljava/lang/StringBuilder;)V" } : Jvm.MethodName)) : Jvm.Cond).before a0 Z = true := hw _ (List.mem_of_getElem? (i := 157) rfl)
theorem d27_8 : decode jdk_67_method_42_code 8 = .ok (.areturn, 1) := by decide +kernel
abbrev mt23 : MethodName := (⟨"java/lang/String", "<init>", "([CIILjava/lang/Void;)V"⟩ : MethodName)
theorem ef_own_new4e (m : MethodId) (x0 : Addr) (x1 : Addr) (x2 : Int32) (x3 : Int32) : entryFrame m #[(.ref x0), (.ref x1), (.int x2), (.int x3), .null] 6 = mkF m 0 #[.val (.ref x0), .val (.ref x1), .val (.int x2), .val (.int x3), .val .null, .unset] [] := by first | (simp [entryFrame, mkF, argsToLocals, Value.category]; done) | rfl
theorem d3_0 : decode jdk_42_method_149_code 0 = .ok (.aload_n 0, 1) := by decide +kernel
theorem d3_1 : decode jdk_42_method_149_code 1 = .ok (.invokespecial 1, 3) := by decide +kernel
theorem d3_4 : decode jdk_42_method_149_code 4 = .ok (.iload_n 3, 1) := by decide +kernel
theorem d3_5 : decode jdk_42_method_149_code 5 = .ok (.ifCond .ne 22, 3) := by decide +kernel
theorem d3_8 : decode jdk_42_method_149_code 8 = .ok (.aload_n 0, 1) := by decide +kernel
theorem d3_9 : decode jdk_42_method_149_code 9 = .ok (.ldc 7, 2) := by decide +kernel
theorem wd18 {Z : State} {a0 : Array Value} (hw : ∀ d ∈ tables_1, d.before a0 Z = true) : ((Jvm.Cond.stringLink "java/lang/String" (7 : Nat) "") : Jvm.Cond).before a0 Z = true := hw _ (List.mem_of_getElem? (i := 18) rfl)
theorem d3_11 : decode jdk_42_method_149_code 11 = .ok (.getfield 9, 3) := by decide +kernel
theorem d3_14 : decode jdk_42_method_149_code 14 = .ok (.putfield 9, 3) := by decide +kernel
theorem d3_17 : decode jdk_42_method_149_code 17 = .ok (.aload_n 0, 1) := by decide +kernel
theorem d3_18 : decode jdk_42_method_149_code 18 = .ok (.ldc 7, 2) := by decide +kernel
theorem d3_20 : decode jdk_42_method_149_code 20 = .ok (.getfield 15, 3) := by decide +kernel
theorem d3_23 : decode jdk_42_method_149_code 23 = .ok (.putfield 15, 3) := by decide +kernel
theorem d3_26 : decode jdk_42_method_149_code 26 = .ok (.return_, 1) := by decide +kernel
abbrev mt24 : MethodName := (⟨"java/lang/String", "<init>", "([C)V"⟩ : MethodName)
theorem ef_own_new1e (m : MethodId) (x0 : Addr) (x1 : Addr) : entryFrame m #[(.ref x0), (.ref x1)] 2 = mkF m 0 #[.val (.ref x0), .val (.ref x1)] [] := by first | (simp [entryFrame, mkF, argsToLocals, Value.category]; done) | rfl
theorem d2_0 : decode jdk_42_method_3_code 0 = .ok (.aload_n 0, 1) := by decide +kernel
theorem d2_1 : decode jdk_42_method_3_code 1 = .ok (.aload_n 1, 1) := by decide +kernel
theorem d2_2 : decode jdk_42_method_3_code 2 = .ok (.iconst 0, 1) := by decide +kernel
theorem d2_3 : decode jdk_42_method_3_code 3 = .ok (.aload_n 1, 1) := by decide +kernel
theorem d2_4 : decode jdk_42_method_3_code 4 = .ok (.arraylength, 1) := by decide +kernel
theorem d2_5 : decode jdk_42_method_3_code 5 = .ok (.aconst_null, 1) := by decide +kernel
theorem d2_6 : decode jdk_42_method_3_code 6 = .ok (.invokespecial 27, 3) := by decide +kernel
theorem wd11 {Z : State} {a0 : Array Value} (hw : ∀ d ∈ tables_1, d.before a0 Z = true) : ((Jvm.Cond.methodLink "java/lang/String" (27 : Nat) ({ cls := "java/lang/String", name := "<init>", desc := "([CIILjava/lang/Void;)V" } : Jvm.MethodName)) : Jvm.Cond).before a0 Z = true := hw _ (List.mem_of_getElem? (i := 11) rfl)
theorem wd14 {Z : State} {a0 : Array Value} (hw : ∀ d ∈ tables_1, d.before a0 Z = true) : ((Jvm.Cond.code ({ cls := "java/lang/String", name := "<init>", desc := "([CIILjava/lang/Void;)V" } : Jvm.MethodName) jdk_42_method_149_code (6 : Nat) (Option.none : Option Jvm.ClassFile.FieldType)) : Jvm.Cond).before a0 Z = true := hw _ (List.mem_of_getElem? (i := 14) rfl)
theorem pd___CIILjava_lang_Void__V_1938 : parseMethodDescriptor "([CIILjava/lang/Void;)V" = some ⟨[(.array .char), .int, .int, (.object "java/lang/Void")], none⟩ := by decide +kernel
theorem wd12 {Z : State} {a0 : Array Value} (hw : ∀ d ∈ tables_1, d.before a0 Z = true) : ((Jvm.Cond.instanceMethod ({ cls := "java/lang/String", name := "<init>", desc := "([CIILjava/lang/Void;)V" } : Jvm.MethodName)) : Jvm.Cond).before a0 Z = true := hw _ (List.mem_of_getElem? (i := 12) rfl)
theorem d2_9 : decode jdk_42_method_3_code 9 = .ok (.return_, 1) := by decide +kernel
abbrev own_L0 : List Value := [(.int (60 : Int32)), (.int (33 : Int32)), (.int (68 : Int32)), (.int (79 : Int32)), (.int (67 : Int32)), (.int (84 : Int32)), (.int (89 : Int32)), (.int (80 : Int32)), (.int (69 : Int32)), (.int (32 : Int32)), (.int (104 : Int32)), (.int (116 : Int32)), (.int (109 : Int32)), (.int (108 : Int32)), (.int (62 : Int32)), (.int (10 : Int32))]
abbrev own_L1 : List Value := [(.int (60 : Int32)), (.int (33 : Int32)), (.int (68 : Int32)), (.int (79 : Int32)), (.int (67 : Int32)), (.int (84 : Int32)), (.int (89 : Int32)), (.int (80 : Int32)), (.int (69 : Int32)), (.int (32 : Int32)), (.int (104 : Int32)), (.int (116 : Int32)), (.int (109 : Int32)), (.int (108 : Int32)), (.int (62 : Int32)), (.int (10 : Int32)), (.int (0 : Int32)), (.int (0 : Int32)), (.int (0 : Int32)), (.int (0 : Int32)), (.int (0 : Int32)), (.int (0 : Int32)), (.int (0 : Int32)), (.int (0 : Int32)), (.int (0 : Int32)), (.int (0 : Int32)), (.int (0 : Int32)), (.int (0 : Int32)), (.int (0 : Int32)), (.int (0 : Int32)), (.int (0 : Int32)), (.int (0 : Int32))]
abbrev own_L2 : List Value := [(.int (60 : Int32)), (.int (33 : Int32)), (.int (68 : Int32)), (.int (79 : Int32)), (.int (67 : Int32)), (.int (84 : Int32)), (.int (89 : Int32)), (.int (80 : Int32)), (.int (69 : Int32)), (.int (32 : Int32)), (.int (104 : Int32)), (.int (116 : Int32)), (.int (109 : Int32)), (.int (108 : Int32)), (.int (62 : Int32)), (.int (10 : Int32)), (.int (60 : Int32)), (.int (47 : Int32)), (.int (0 : Int32)), (.int (0 : Int32)), (.int (0 : Int32)), (.int (0 : Int32)), (.int (0 : Int32)), (.int (0 : Int32)), (.int (0 : Int32)), (.int (0 : Int32)), (.int (0 : Int32)), (.int (0 : Int32)), (.int (0 : Int32)), (.int (0 : Int32)), (.int (0 : Int32)), (.int (0 : Int32))]
abbrev mt25 : MethodName := (⟨"java/lang/AbstractStringBuilder", "<init>", "(Ljava/lang/String;)V"⟩ : MethodName)
theorem ef_own_asbi (m : MethodId) (x0 : Addr) (x1 : Addr) : entryFrame m #[(.ref x0), (.ref x1)] 5 = mkF m 0 #[.val (.ref x0), .val (.ref x1), .unset, .unset, .unset] [] := by first | (simp [entryFrame, mkF, argsToLocals, Value.category]; done) | rfl
theorem d11_0 : decode jdk_68_method_3_code 0 = .ok (.aload_n 0, 1) := by decide +kernel
theorem d11_1 : decode jdk_68_method_3_code 1 = .ok (.invokespecial 3, 3) := by decide +kernel
theorem wd60 {Z : State} {a0 : Array Value} (hw : ∀ d ∈ tables_1, d.before a0 Z = true) : ((Jvm.Cond.methodLink "java/lang/AbstractStringBuilder" (3 : Nat) ({ cls := "java/lang/Object", name := "<init>", desc := "()V" } : Jvm.MethodName)) : Jvm.Cond).before a0 Z = true := hw _ (List.mem_of_getElem? (i := 60) rfl)
theorem d11_4 : decode jdk_68_method_3_code 4 = .ok (.aload_n 1, 1) := by decide +kernel
theorem d11_5 : decode jdk_68_method_3_code 5 = .ok (.invokevirtual 32, 3) := by decide +kernel
theorem d11_8 : decode jdk_68_method_3_code 8 = .ok (.istore_n 2, 1) := by decide +kernel
theorem d11_9 : decode jdk_68_method_3_code 9 = .ok (.iload_n 2, 1) := by decide +kernel
theorem d11_10 : decode jdk_68_method_3_code 10 = .ok (.ldc 38, 2) := by decide +kernel
theorem wd71 {Z : State} {a0 : Array Value} (hw : ∀ d ∈ tables_1, d.before a0 Z = true) : ((Jvm.Cond.constant "java/lang/AbstractStringBuilder" (38 : Nat) (2147483631 : Int32)) : Jvm.Cond).before a0 Z = true := hw _ (List.mem_of_getElem? (i := 71) rfl)
theorem d11_12 : decode jdk_68_method_3_code 12 = .ok (.if_icmp .ge 10, 3) := by decide +kernel
theorem d11_15 : decode jdk_68_method_3_code 15 = .ok (.iload_n 2, 1) := by decide +kernel
theorem d11_16 : decode jdk_68_method_3_code 16 = .ok (.bipush 16, 2) := by decide +kernel
theorem d11_18 : decode jdk_68_method_3_code 18 = .ok (.iadd, 1) := by decide +kernel
theorem d11_19 : decode jdk_68_method_3_code 19 = .ok (.goto 5, 3) := by decide +kernel
theorem d11_24 : decode jdk_68_method_3_code 24 = .ok (.istore_n 3, 1) := by decide +kernel
theorem d11_25 : decode jdk_68_method_3_code 25 = .ok (.aload_n 1, 1) := by decide +kernel
theorem d11_26 : decode jdk_68_method_3_code 26 = .ok (.invokevirtual 40, 3) := by decide +kernel
theorem d11_29 : decode jdk_68_method_3_code 29 = .ok (.istore 4, 2) := by decide +kernel
theorem d11_31 : decode jdk_68_method_3_code 31 = .ok (.aload_n 0, 1) := by decide +kernel
theorem d11_32 : decode jdk_68_method_3_code 32 = .ok (.iload 4, 2) := by decide +kernel
theorem d11_34 : decode jdk_68_method_3_code 34 = .ok (.putfield 22, 3) := by decide +kernel
theorem d11_37 : decode jdk_68_method_3_code 37 = .ok (.aload_n 0, 1) := by decide +kernel
theorem d11_38 : decode jdk_68_method_3_code 38 = .ok (.iload 4, 2) := by decide +kernel
theorem d11_40 : decode jdk_68_method_3_code 40 = .ok (.ifCond .ne 9, 3) := by decide +kernel
theorem d11_43 : decode jdk_68_method_3_code 43 = .ok (.iload_n 3, 1) := by decide +kernel
theorem d11_44 : decode jdk_68_method_3_code 44 = .ok (.newarray .byte, 2) := by decide +kernel
theorem d11_46 : decode jdk_68_method_3_code 46 = .ok (.goto 7, 3) := by decide +kernel
theorem d11_53 : decode jdk_68_method_3_code 53 = .ok (.putfield 15, 3) := by decide +kernel
theorem d11_56 : decode jdk_68_method_3_code 56 = .ok (.aload_n 0, 1) := by decide +kernel
theorem d11_57 : decode jdk_68_method_3_code 57 = .ok (.aload_n 1, 1) := by decide +kernel
theorem d11_58 : decode jdk_68_method_3_code 58 = .ok (.invokevirtual 43, 3) := by decide +kernel
theorem wd77 {Z : State} {a0 : Array Value} (hw : ∀ d ∈ tables_1, d.before a0 Z = true) : ((Jvm.Cond.methodLink "java/lang/AbstractStringBuilder" (43 : Nat) ({ cls := "java/lang/AbstractStringBuilder", name := "append", desc := "(Ljava/lang/String;)Ljava/lang/AbstractStringBuilder;" } : Jvm.MethodName)) : Jvm.Cond).before a0 Z = true := hw _ (List.mem_of_getElem? (i := 77) rfl)
theorem wd82 {Z : State} {a0 : Array Value} (hw : ∀ d ∈ tables_1, d.before a0 Z = true) : ((Jvm.Cond.code ({ cls := "java/lang/StringBuilder", name := "append", desc := "(Ljava/lang/String;)Ljava/lang/AbstractStringBuilder;" } : Jvm.MethodName) jdk_67_method_80_code (2 : Nat) (Option.some (Jvm.ClassFile.FieldType.object "java/lang/AbstractStringBuilder"))) : Jvm.Cond).before a0 Z = true := hw _ (List.mem_of_getElem? (i := 82) rfl)
theorem wd80 {Z : State} {a0 : Array Value} (hw : ∀ d ∈ tables_1, d.before a0 Z = true) : ((Jvm.Cond.selects "java/lang/StringBuilder" ({ cls := "java/lang/AbstractStringBuilder", name := "append", desc := "(Ljava/lang/String;)Ljava/lang/AbstractStringBuilder;" } : Jvm.MethodName) ({ cls := "java/lang/StringBuilder", name := "append", desc := "(Ljava/lang/String;)Ljava/lang/AbstractStringBuilder;" } : Jvm.MethodName)) : Jvm.Cond).before a0 Z = true := hw _ (List.mem_of_getElem? (i := 80) rfl)
theorem wd78 {Z : State} {a0 : Array Value} (hw : ∀ d ∈ tables_1, d.before a0 Z = true) : ((Jvm.Cond.declares ({ cls := "java/lang/AbstractStringBuilder", name := "append", desc := "(Ljava/lang/String;)Ljava/lang/AbstractStringBuilder;" } : Jvm.MethodName)) : Jvm.Cond).before a0 Z = true := hw _ (List.mem_of_getElem? (i := 78) rfl)
theorem wd81 {Z : State} {a0 : Array Value} (hw : ∀ d ∈ tables_1, d.before a0 Z = true) : ((Jvm.Cond.instanceMethod ({ cls := "java/lang/StringBuilder", name := "append", desc := "(Ljava/lang/String;)Ljava/lang/AbstractStringBuilder;" } : Jvm.MethodName)) : Jvm.Cond).before a0 Z = true := hw _ (List.mem_of_getElem? (i := 81) rfl)
theorem d11_61 : decode jdk_68_method_3_code 61 = .ok (.pop, 1) := by decide +kernel
theorem d11_62 : decode jdk_68_method_3_code 62 = .ok (.return_, 1) := by decide +kernel
abbrev mt26 : MethodName := (⟨"java/lang/StringBuilder", "<init>", "(Ljava/lang/String;)V"⟩ : MethodName)
theorem ef_own_sbi (m : MethodId) (x0 : Addr) (x1 : Addr) : entryFrame m #[(.ref x0), (.ref x1)] 2 = mkF m 0 #[.val (.ref x0), .val (.ref x1)] [] := by first | (simp [entryFrame, mkF, argsToLocals, Value.category]; done) | rfl
theorem d10_0 : decode jdk_67_method_3_code 0 = .ok (.aload_n 0, 1) := by decide +kernel
theorem d10_1 : decode jdk_67_method_3_code 1 = .ok (.aload_n 1, 1) := by decide +kernel
theorem d10_2 : decode jdk_67_method_3_code 2 = .ok (.invokespecial 7, 3) := by decide +kernel
theorem wd54 {Z : State} {a0 : Array Value} (hw : ∀ d ∈ tables_1, d.before a0 Z = true) : ((Jvm.Cond.methodLink "java/lang/StringBuilder" (7 : Nat) ({ cls := "java/lang/AbstractStringBuilder", name := "<init>", desc := "(Ljava/lang/String;)V" } : Jvm.MethodName)) : Jvm.Cond).before a0 Z = true := hw _ (List.mem_of_getElem? (i := 54) rfl)
theorem wd59 {Z : State} {a0 : Array Value} (hw : ∀ d ∈ tables_1, d.before a0 Z = true) : ((Jvm.Cond.code ({ cls := "java/lang/AbstractStringBuilder", name := "<init>", desc := "(Ljava/lang/String;)V" } : Jvm.MethodName) jdk_68_method_3_code (5 : Nat) (Option.none : Option Jvm.ClassFile.FieldType)) : Jvm.Cond).before a0 Z = true := hw _ (List.mem_of_getElem? (i := 59) rfl)
theorem wd55 {Z : State} {a0 : Array Value} (hw : ∀ d ∈ tables_1, d.before a0 Z = true) : ((Jvm.Cond.instanceMethod ({ cls := "java/lang/AbstractStringBuilder", name := "<init>", desc := "(Ljava/lang/String;)V" } : Jvm.MethodName)) : Jvm.Cond).before a0 Z = true := hw _ (List.mem_of_getElem? (i := 55) rfl)
theorem d10_5 : decode jdk_67_method_3_code 5 = .ok (.return_, 1) := by decide +kernel
abbrev mt27 : MethodName := (⟨"com/example/regent/regent/Html", "<init>", "()V"⟩ : MethodName)
theorem pn_com_example_regent_regent_Html : plainName "com/example/regent/regent/Html" = true := by first | (simp [plainName, overriddenIn]; done) | decide +kernel
theorem ef_own_hti (m : MethodId) (x0 : Addr) : entryFrame m #[(.ref x0)] 1 = mkF m 0 #[.val (.ref x0)] [] := by first | (simp [entryFrame, mkF, argsToLocals, Value.category]; done) | rfl
theorem d9_0 : decode prog_9_method_1_code 0 = .ok (.aload_n 0, 1) := by decide +kernel
theorem d9_1 : decode prog_9_method_1_code 1 = .ok (.invokespecial 1, 3) := by decide +kernel
theorem wd46 {Z : State} {a0 : Array Value} (hw : ∀ d ∈ tables_1, d.before a0 Z = true) : ((Jvm.Cond.methodLink "com/example/regent/regent/Html" (1 : Nat) ({ cls := "java/lang/Object", name := "<init>", desc := "()V" } : Jvm.MethodName)) : Jvm.Cond).before a0 Z = true := hw _ (List.mem_of_getElem? (i := 46) rfl)
theorem d9_4 : decode prog_9_method_1_code 4 = .ok (.aload_n 0, 1) := by decide +kernel
theorem d9_5 : decode prog_9_method_1_code 5 = .ok (.new 7, 3) := by decide +kernel
theorem wd47 {Z : State} {a0 : Array Value} (hw : ∀ d ∈ tables_1, d.before a0 Z = true) : ((Jvm.Cond.classLink "com/example/regent/regent/Html" (7 : Nat) "java/lang/StringBuilder") : Jvm.Cond).before a0 Z = true := hw _ (List.mem_of_getElem? (i := 47) rfl)
theorem d9_8 : decode prog_9_method_1_code 8 = .ok (.dup, 1) := by decide +kernel
theorem d9_9 : decode prog_9_method_1_code 9 = .ok (.ldc 9, 2) := by decide +kernel
theorem wd50 {Z : State} {a0 : Array Value} (hw : ∀ d ∈ tables_1, d.before a0 Z = true) : ((Jvm.Cond.stringLink "com/example/regent/regent/Html" (9 : Nat) "<!DOCTYPE html>\n") : Jvm.Cond).before a0 Z = true := hw _ (List.mem_of_getElem? (i := 50) rfl)
theorem d9_11 : decode prog_9_method_1_code 11 = .ok (.invokespecial 11, 3) := by decide +kernel
theorem wd51 {Z : State} {a0 : Array Value} (hw : ∀ d ∈ tables_1, d.before a0 Z = true) : ((Jvm.Cond.methodLink "com/example/regent/regent/Html" (11 : Nat) ({ cls := "java/lang/StringBuilder", name := "<init>", desc := "(Ljava/lang/String;)V" } : Jvm.MethodName)) : Jvm.Cond).before a0 Z = true := hw _ (List.mem_of_getElem? (i := 51) rfl)
theorem wd53 {Z : State} {a0 : Array Value} (hw : ∀ d ∈ tables_1, d.before a0 Z = true) : ((Jvm.Cond.code ({ cls := "java/lang/StringBuilder", name := "<init>", desc := "(Ljava/lang/String;)V" } : Jvm.MethodName) jdk_67_method_3_code (2 : Nat) (Option.none : Option Jvm.ClassFile.FieldType)) : Jvm.Cond).before a0 Z = true := hw _ (List.mem_of_getElem? (i := 53) rfl)
theorem wd52 {Z : State} {a0 : Array Value} (hw : ∀ d ∈ tables_1, d.before a0 Z = true) : ((Jvm.Cond.instanceMethod ({ cls := "java/lang/StringBuilder", name := "<init>", desc := "(Ljava/lang/String;)V" } : Jvm.MethodName)) : Jvm.Cond).before a0 Z = true := hw _ (List.mem_of_getElem? (i := 52) rfl)
theorem d9_14 : decode prog_9_method_1_code 14 = .ok (.putfield 14, 3) := by decide +kernel
theorem wd118 {Z : State} {a0 : Array Value} (hw : ∀ d ∈ tables_1, d.before a0 Z = true) : ((Jvm.Cond.fieldLink "com/example/regent/regent/Html" (14 : Nat) "com/example/regent/regent/Html" "out" "Ljava/lang/StringBuilder;") : Jvm.Cond).before a0 Z = true := hw _ (List.mem_of_getElem? (i := 118) rfl)
theorem wd41 {Z : State} {a0 : Array Value} (hw : ∀ d ∈ tables_1, d.before a0 Z = true) : ((Jvm.Cond.instantiable "com/example/regent/regent/Html" (1 : Nat)) : Jvm.Cond).before a0 Z = true := hw _ (List.mem_of_getElem? (i := 41) rfl)
theorem wd119 {Z : State} {a0 : Array Value} (hw : ∀ d ∈ tables_1, d.before a0 Z = true) : ((Jvm.Cond.laysFinal "com/example/regent/regent/Html" "com/example/regent/regent/Html" "out" "Ljava/lang/StringBuilder;") : Jvm.Cond).before a0 Z = true := hw _ (List.mem_of_getElem? (i := 119) rfl)
theorem d9_17 : decode prog_9_method_1_code 17 = .ok (.return_, 1) := by decide +kernel
abbrev mt28 : MethodName := (⟨"com/example/regent/regent/Html", "close", "(Ljava/lang/String;)Lcom/example/regent/regent/Html;"⟩ : MethodName)
theorem ef_own_cl (m : MethodId) (x0 : Addr) (x1 : Addr) : entryFrame m #[(.ref x0), (.ref x1)] 2 = mkF m 0 #[.val (.ref x0), .val (.ref x1)] [] := by first | (simp [entryFrame, mkF, argsToLocals, Value.category]; done) | rfl
theorem d21_0 : decode prog_9_method_3_code 0 = .ok (.aload_n 0, 1) := by decide +kernel
theorem d21_1 : decode prog_9_method_3_code 1 = .ok (.getfield 14, 3) := by decide +kernel
theorem d21_4 : decode prog_9_method_3_code 4 = .ok (.ldc 33, 2) := by decide +kernel
theorem wd125 {Z : State} {a0 : Array Value} (hw : ∀ d ∈ tables_1, d.before a0 Z = true) : ((Jvm.Cond.stringLink "com/example/regent/regent/Html" (33 : Nat) "</") : Jvm.Cond).before a0 Z = true := hw _ (List.mem_of_getElem? (i := 125) rfl)
theorem d21_6 : decode prog_9_method_3_code 6 = .ok (.invokevirtual 24, 3) := by decide +kernel
theorem wd126 {Z : State} {a0 : Array Value} (hw : ∀ d ∈ tables_1, d.before a0 Z = true) : ((Jvm.Cond.methodLink "com/example/regent/regent/Html" (24 : Nat) ({ cls := "java/lang/StringBuilder", name := "append", desc := "(Ljava/lang/String;)Ljava/lang/StringBuilder;" } : Jvm.MethodName)) : Jvm.Cond).before a0 Z = true := hw _ (List.mem_of_getElem? (i := 126) rfl)
theorem d21_9 : decode prog_9_method_3_code 9 = .ok (.aload_n 1, 1) := by decide +kernel
theorem d21_10 : decode prog_9_method_3_code 10 = .ok (.invokevirtual 24, 3) := by decide +kernel
theorem d21_13 : decode prog_9_method_3_code 13 = .ok (.bipush 62, 2) := by decide +kernel
theorem d21_15 : decode prog_9_method_3_code 15 = .ok (.invokevirtual 20, 3) := by decide +kernel
theorem wd127 {Z : State} {a0 : Array Value} (hw : ∀ d ∈ tables_1, d.before a0 Z = true) : ((Jvm.Cond.methodLink "com/example/regent/regent/Html" (20 : Nat) ({ cls := "java/lang/StringBuilder", name := "append", desc := "(C)Ljava/lang/StringBuilder;" } : Jvm.MethodName)) : Jvm.Cond).before a0 Z = true := hw _ (List.mem_of_getElem? (i := 127) rfl)
theorem wd131 {Z : State} {a0 : Array Value} (hw : ∀ d ∈ tables_1, d.before a0 Z = true) : ((Jvm.Cond.code ({ cls := "java/lang/StringBuilder", name := "append", desc := "(C)Ljava/lang/StringBuilder;" } : Jvm.MethodName) jdk_67_method_14_code (2 : Nat) (Option.some (Jvm.ClassFile.FieldType.object "java/lang/StringBuilder"))) : Jvm.Cond).before a0 Z = true := hw _ (List.mem_of_getElem? (i := 131) rfl)
theorem pd__C_Ljava_lang_StringBuilder__2555 : parseMethodDescriptor "(C)Ljava/lang/StringBuilder;" = some ⟨[.char], some (.object "java/lang/StringBuilder")⟩ := by decide +kernel
theorem wd130 {Z : State} {a0 : Array Value} (hw : ∀ d ∈ tables_1, d.before a0 Z = true) : ((Jvm.Cond.selects "java/lang/StringBuilder" ({ cls := "java/lang/StringBuilder", name := "append", desc := "(C)Ljava/lang/StringBuilder;" } : Jvm.MethodName) ({ cls := "java/lang/StringBuilder", name := "append", desc := "(C)Ljava/lang/StringBuilder;" } : Jvm.MethodName)) : Jvm.Cond).before a0 Z = true := hw _ (List.mem_of_getElem? (i := 130) rfl)
theorem wd128 {Z : State} {a0 : Array Value} (hw : ∀ d ∈ tables_1, d.before a0 Z = true) : ((Jvm.Cond.declares ({ cls := "java/lang/StringBuilder", name := "append", desc := "(C)Ljava/lang/StringBuilder;" } : Jvm.MethodName)) : Jvm.Cond).before a0 Z = true := hw _ (List.mem_of_getElem? (i := 128) rfl)
theorem wd129 {Z : State} {a0 : Array Value} (hw : ∀ d ∈ tables_1, d.before a0 Z = true) : ((Jvm.Cond.instanceMethod ({ cls := "java/lang/StringBuilder", name := "append", desc := "(C)Ljava/lang/StringBuilder;" } : Jvm.MethodName)) : Jvm.Cond).before a0 Z = true := hw _ (List.mem_of_getElem? (i := 129) rfl)
theorem d21_18 : decode prog_9_method_3_code 18 = .ok (.pop, 1) := by decide +kernel
theorem d21_19 : decode prog_9_method_3_code 19 = .ok (.aload_n 0, 1) := by decide +kernel
theorem d21_20 : decode prog_9_method_3_code 20 = .ok (.areturn, 1) := by decide +kernel
abbrev mt29 : MethodName := (⟨"com/example/regent/regent/Html", "toString", "()Ljava/lang/String;"⟩ : MethodName)
theorem ef_own_hts (m : MethodId) (x0 : Addr) : entryFrame m #[(.ref x0)] 1 = mkF m 0 #[.val (.ref x0)] [] := by first | (simp [entryFrame, mkF, argsToLocals, Value.category]; done) | rfl
theorem d26_0 : decode prog_9_method_6_code 0 = .ok (.aload_n 0, 1) := by decide +kernel
theorem d26_1 : decode prog_9_method_6_code 1 = .ok (.getfield 14, 3) := by decide +kernel
theorem d26_4 : decode prog_9_method_6_code 4 = .ok (.invokevirtual 46, 3) := by decide +kernel
theorem wd150 {Z : State} {a0 : Array Value} (hw : ∀ d ∈ tables_1, d.before a0 Z = true) : ((Jvm.Cond.methodLink "com/example/regent/regent/Html" (46 : Nat) ({ cls := "java/lang/StringBuilder", name := "toString", desc := "()Ljava/lang/String;" } : Jvm.MethodName)) : Jvm.Cond).before a0 Z = true := hw _ (List.mem_of_getElem? (i := 150) rfl)
theorem wd154 {Z : State} {a0 : Array Value} (hw : ∀ d ∈ tables_1, d.before a0 Z = true) : ((Jvm.Cond.code ({ cls := "java/lang/StringBuilder", name := "toString", desc := "()Ljava/lang/String;" } : Jvm.MethodName) jdk_67_method_42_code (1 : Nat) (Option.some (Jvm.ClassFile.FieldType.object "java/lang/String"))) : Jvm.Cond).before a0 Z = true := hw _ (List.mem_of_getElem? (i := 154) rfl)
theorem pd___Ljava_lang_String__1777 : parseMethodDescriptor "()Ljava/lang/String;" = some ⟨[], some (.object "java/lang/String")⟩ := by decide +kernel
theorem wd153 {Z : State} {a0 : Array Value} (hw : ∀ d ∈ tables_1, d.before a0 Z = true) : ((Jvm.Cond.selects "java/lang/StringBuilder" ({ cls := "java/lang/StringBuilder", name := "toString", desc := "()Ljava/lang/String;" } : Jvm.MethodName) ({ cls := "java/lang/StringBuilder", name := "toString", desc := "()Ljava/lang/String;" } : Jvm.MethodName)) : Jvm.Cond).before a0 Z = true := hw _ (List.mem_of_getElem? (i := 153) rfl)
theorem wd151 {Z : State} {a0 : Array Value} (hw : ∀ d ∈ tables_1, d.before a0 Z = true) : ((Jvm.Cond.declares ({ cls := "java/lang/StringBuilder", name := "toString", desc := "()Ljava/lang/String;" } : Jvm.MethodName)) : Jvm.Cond).before a0 Z = true := hw _ (List.mem_of_getElem? (i := 151) rfl)
theorem wd152 {Z : State} {a0 : Array Value} (hw : ∀ d ∈ tables_1, d.before a0 Z = true) : ((Jvm.Cond.instanceMethod ({ cls := "java/lang/StringBuilder", name := "toString", desc := "()Ljava/lang/String;" } : Jvm.MethodName)) : Jvm.Cond).before a0 Z = true := hw _ (List.mem_of_getElem? (i := 152) rfl)
theorem d26_7 : decode prog_9_method_6_code 7 = .ok (.areturn, 1) := by decide +kernel
abbrev mt30 : MethodName := (⟨"com/example/regent/regent/HtmlClosePinLaw", "tag", "(ICCC)Ljava/lang/String;"⟩ : MethodName)
theorem pn_com_example_regent_regent_HtmlClosePinLaw : plainName "com/example/regent/regent/HtmlClosePinLaw" = true := by first | (simp [plainName, overriddenIn]; done) | decide +kernel
theorem ef_own_tag0 (m : MethodId) (x0 : Int32) (x1 : Int32) (x2 : Int32) (x3 : Int32) : entryFrame m #[(.int x0), (.int x1), (.int x2), (.int x3)] 4 = mkF m 0 #[.val (.int x0), .val (.int x1), .val (.int x2), .val (.int x3)] [] := by first | (simp [entryFrame, mkF, argsToLocals, Value.category]; done) | rfl
theorem d1_0 : decode method_3_code 0 = .ok (.iload_n 0, 1) := by decide +kernel
theorem d1_1 : decode method_3_code 1 = .ok (.ifCond .ne 14, 3) := by decide +kernel
theorem d1_4 : decode method_3_code 4 = .ok (.new 28, 3) := by decide +kernel
theorem wd4 {Z : State} {a0 : Array Value} (hw : ∀ d ∈ tables_1, d.before a0 Z = true) : ((Jvm.Cond.classLink "com/example/regent/regent/HtmlClosePinLaw" (28 : Nat) "java/lang/String") : Jvm.Cond).before a0 Z = true := hw _ (List.mem_of_getElem? (i := 4) rfl)
theorem d1_7 : decode method_3_code 7 = .ok (.dup, 1) := by decide +kernel
theorem d1_8 : decode method_3_code 8 = .ok (.iconst 0, 1) := by decide +kernel
theorem d1_9 : decode method_3_code 9 = .ok (.newarray .char, 2) := by decide +kernel
theorem wd7 {Z : State} {a0 : Array Value} (hw : ∀ d ∈ tables_1, d.before a0 Z = true) : ((Jvm.Cond.arrayClass Jvm.ClassFile.FieldType.char) : Jvm.Cond).before a0 Z = true := hw _ (List.mem_of_getElem? (i := 7) rfl)
theorem d1_11 : decode method_3_code 11 = .ok (.invokespecial 33, 3) := by decide +kernel
theorem wd8 {Z : State} {a0 : Array Value} (hw : ∀ d ∈ tables_1, d.before a0 Z = true) : ((Jvm.Cond.methodLink "com/example/regent/regent/HtmlClosePinLaw" (33 : Nat) ({ cls := "java/lang/String", name := "<init>", desc := "([C)V" } : Jvm.MethodName)) : Jvm.Cond).before a0 Z = true := hw _ (List.mem_of_getElem? (i := 8) rfl)
theorem wd10 {Z : State} {a0 : Array Value} (hw : ∀ d ∈ tables_1, d.before a0 Z = true) : ((Jvm.Cond.code ({ cls := "java/lang/String", name := "<init>", desc := "([C)V" } : Jvm.MethodName) jdk_42_method_3_code (2 : Nat) (Option.none : Option Jvm.ClassFile.FieldType)) : Jvm.Cond).before a0 Z = true := hw _ (List.mem_of_getElem? (i := 10) rfl)
theorem pd___C_V_325 : parseMethodDescriptor "([C)V" = some ⟨[(.array .char)], none⟩ := by decide +kernel
theorem wd9 {Z : State} {a0 : Array Value} (hw : ∀ d ∈ tables_1, d.before a0 Z = true) : ((Jvm.Cond.instanceMethod ({ cls := "java/lang/String", name := "<init>", desc := "([C)V" } : Jvm.MethodName)) : Jvm.Cond).before a0 Z = true := hw _ (List.mem_of_getElem? (i := 9) rfl)
theorem d1_14 : decode method_3_code 14 = .ok (.areturn, 1) := by decide +kernel
abbrev mt31 : MethodName := (⟨"com/example/regent/regent/HtmlClosePinLaw", "expected", "(ICCC)Ljava/lang/String;"⟩ : MethodName)
theorem ef_own_exp0 (m : MethodId) (x0 : Int32) (x1 : Int32) (x2 : Int32) (x3 : Int32) : entryFrame m #[(.int x0), (.int x1), (.int x2), (.int x3)] 4 = mkF m 0 #[.val (.int x0), .val (.int x1), .val (.int x2), .val (.int x3)] [] := by first | (simp [entryFrame, mkF, argsToLocals, Value.category]; done) | rfl
theorem d5_0 : decode method_4_code 0 = .ok (.iload_n 0, 1) := by decide +kernel
theorem d5_1 : decode method_4_code 1 = .ok (.ifCond .ne 123, 3) := by decide +kernel
theorem d5_4 : decode method_4_code 4 = .ok (.new 28, 3) := by decide +kernel
theorem d5_7 : decode method_4_code 7 = .ok (.dup, 1) := by decide +kernel
theorem d5_8 : decode method_4_code 8 = .ok (.bipush 19, 2) := by decide +kernel
theorem d5_10 : decode method_4_code 10 = .ok (.newarray .char, 2) := by decide +kernel
theorem d5_12 : decode method_4_code 12 = .ok (.dup, 1) := by decide +kernel
theorem d5_13 : decode method_4_code 13 = .ok (.iconst 0, 1) := by decide +kernel
theorem d5_14 : decode method_4_code 14 = .ok (.bipush 60, 2) := by decide +kernel
theorem d5_16 : decode method_4_code 16 = .ok (.castore, 1) := by decide +kernel
theorem d5_17 : decode method_4_code 17 = .ok (.dup, 1) := by decide +kernel
theorem d5_18 : decode method_4_code 18 = .ok (.iconst 1, 1) := by decide +kernel
theorem d5_19 : decode method_4_code 19 = .ok (.bipush 33, 2) := by decide +kernel
theorem d5_21 : decode method_4_code 21 = .ok (.castore, 1) := by decide +kernel
theorem d5_22 : decode method_4_code 22 = .ok (.dup, 1) := by decide +kernel
theorem d5_23 : decode method_4_code 23 = .ok (.iconst 2, 1) := by decide +kernel
theorem d5_24 : decode method_4_code 24 = .ok (.bipush 68, 2) := by decide +kernel
theorem d5_26 : decode method_4_code 26 = .ok (.castore, 1) := by decide +kernel
theorem d5_27 : decode method_4_code 27 = .ok (.dup, 1) := by decide +kernel
theorem d5_28 : decode method_4_code 28 = .ok (.iconst 3, 1) := by decide +kernel
theorem d5_29 : decode method_4_code 29 = .ok (.bipush 79, 2) := by decide +kernel
theorem d5_31 : decode method_4_code 31 = .ok (.castore, 1) := by decide +kernel
theorem d5_32 : decode method_4_code 32 = .ok (.dup, 1) := by decide +kernel
theorem d5_33 : decode method_4_code 33 = .ok (.iconst 4, 1) := by decide +kernel
theorem d5_34 : decode method_4_code 34 = .ok (.bipush 67, 2) := by decide +kernel
theorem d5_36 : decode method_4_code 36 = .ok (.castore, 1) := by decide +kernel
theorem d5_37 : decode method_4_code 37 = .ok (.dup, 1) := by decide +kernel
theorem d5_38 : decode method_4_code 38 = .ok (.iconst 5, 1) := by decide +kernel
theorem d5_39 : decode method_4_code 39 = .ok (.bipush 84, 2) := by decide +kernel
theorem d5_41 : decode method_4_code 41 = .ok (.castore, 1) := by decide +kernel
theorem d5_42 : decode method_4_code 42 = .ok (.dup, 1) := by decide +kernel
theorem d5_43 : decode method_4_code 43 = .ok (.bipush 6, 2) := by decide +kernel
theorem d5_45 : decode method_4_code 45 = .ok (.bipush 89, 2) := by decide +kernel
theorem d5_47 : decode method_4_code 47 = .ok (.castore, 1) := by decide +kernel
theorem d5_48 : decode method_4_code 48 = .ok (.dup, 1) := by decide +kernel
theorem d5_49 : decode method_4_code 49 = .ok (.bipush 7, 2) := by decide +kernel
theorem d5_51 : decode method_4_code 51 = .ok (.bipush 80, 2) := by decide +kernel
theorem d5_53 : decode method_4_code 53 = .ok (.castore, 1) := by decide +kernel
theorem d5_54 : decode method_4_code 54 = .ok (.dup, 1) := by decide +kernel
theorem d5_55 : decode method_4_code 55 = .ok (.bipush 8, 2) := by decide +kernel
theorem d5_57 : decode method_4_code 57 = .ok (.bipush 69, 2) := by decide +kernel
theorem d5_59 : decode method_4_code 59 = .ok (.castore, 1) := by decide +kernel
theorem d5_60 : decode method_4_code 60 = .ok (.dup, 1) := by decide +kernel
theorem d5_61 : decode method_4_code 61 = .ok (.bipush 9, 2) := by decide +kernel
theorem d5_63 : decode method_4_code 63 = .ok (.bipush 32, 2) := by decide +kernel
theorem d5_65 : decode method_4_code 65 = .ok (.castore, 1) := by decide +kernel
theorem d5_66 : decode method_4_code 66 = .ok (.dup, 1) := by decide +kernel
theorem d5_67 : decode method_4_code 67 = .ok (.bipush 10, 2) := by decide +kernel
theorem d5_69 : decode method_4_code 69 = .ok (.bipush 104, 2) := by decide +kernel
theorem d5_71 : decode method_4_code 71 = .ok (.castore, 1) := by decide +kernel
theorem d5_72 : decode method_4_code 72 = .ok (.dup, 1) := by decide +kernel
theorem d5_73 : decode method_4_code 73 = .ok (.bipush 11, 2) := by decide +kernel
theorem d5_75 : decode method_4_code 75 = .ok (.bipush 116, 2) := by decide +kernel
theorem d5_77 : decode method_4_code 77 = .ok (.castore, 1) := by decide +kernel
theorem d5_78 : decode method_4_code 78 = .ok (.dup, 1) := by decide +kernel
theorem d5_79 : decode method_4_code 79 = .ok (.bipush 12, 2) := by decide +kernel
theorem d5_81 : decode method_4_code 81 = .ok (.bipush 109, 2) := by decide +kernel
theorem d5_83 : decode method_4_code 83 = .ok (.castore, 1) := by decide +kernel
theorem d5_84 : decode method_4_code 84 = .ok (.dup, 1) := by decide +kernel
theorem d5_85 : decode method_4_code 85 = .ok (.bipush 13, 2) := by decide +kernel
theorem d5_87 : decode method_4_code 87 = .ok (.bipush 108, 2) := by decide +kernel
theorem d5_89 : decode method_4_code 89 = .ok (.castore, 1) := by decide +kernel
theorem d5_90 : decode method_4_code 90 = .ok (.dup, 1) := by decide +kernel
theorem d5_91 : decode method_4_code 91 = .ok (.bipush 14, 2) := by decide +kernel
theorem d5_93 : decode method_4_code 93 = .ok (.bipush 62, 2) := by decide +kernel
theorem d5_95 : decode method_4_code 95 = .ok (.castore, 1) := by decide +kernel
theorem d5_96 : decode method_4_code 96 = .ok (.dup, 1) := by decide +kernel
theorem d5_97 : decode method_4_code 97 = .ok (.bipush 15, 2) := by decide +kernel
theorem d5_99 : decode method_4_code 99 = .ok (.bipush 10, 2) := by decide +kernel
theorem d5_101 : decode method_4_code 101 = .ok (.castore, 1) := by decide +kernel
theorem d5_102 : decode method_4_code 102 = .ok (.dup, 1) := by decide +kernel
theorem d5_103 : decode method_4_code 103 = .ok (.bipush 16, 2) := by decide +kernel
theorem d5_105 : decode method_4_code 105 = .ok (.bipush 60, 2) := by decide +kernel
theorem d5_107 : decode method_4_code 107 = .ok (.castore, 1) := by decide +kernel
theorem d5_108 : decode method_4_code 108 = .ok (.dup, 1) := by decide +kernel
theorem d5_109 : decode method_4_code 109 = .ok (.bipush 17, 2) := by decide +kernel
theorem d5_111 : decode method_4_code 111 = .ok (.bipush 47, 2) := by decide +kernel
theorem d5_113 : decode method_4_code 113 = .ok (.castore, 1) := by decide +kernel
theorem d5_114 : decode method_4_code 114 = .ok (.dup, 1) := by decide +kernel
theorem d5_115 : decode method_4_code 115 = .ok (.bipush 18, 2) := by decide +kernel
theorem d5_117 : decode method_4_code 117 = .ok (.bipush 62, 2) := by decide +kernel
theorem d5_119 : decode method_4_code 119 = .ok (.castore, 1) := by decide +kernel
theorem d5_120 : decode method_4_code 120 = .ok (.invokespecial 33, 3) := by decide +kernel
theorem own_mw {Z : State} {a0 : Array Value} (hw : ∀ d ∈ tables_1, d.before a0 Z = true) : ∀ d ∈ StrChars.Road.words, d.before a0 Z = true := fun d hd => hw d ((by decide +kernel : ∀ d ∈ StrChars.Road.words, d ∈ tables_1) d hd)
theorem d5_123 : decode method_4_code 123 = .ok (.areturn, 1) := by decide +kernel
theorem ef_own_tag1 (m : MethodId) (x0 : Int32) (x1 : Int32) (x2 : Int32) (x3 : Int32) : entryFrame m #[(.int x0), (.int x1), (.int x2), (.int x3)] 4 = mkF m 0 #[.val (.int x0), .val (.int x1), .val (.int x2), .val (.int x3)] [] := by first | (simp [entryFrame, mkF, argsToLocals, Value.category]; done) | rfl
theorem d1_15 : decode method_3_code 15 = .ok (.iload_n 0, 1) := by decide +kernel
theorem d1_16 : decode method_3_code 16 = .ok (.iconst 1, 1) := by decide +kernel
theorem d1_17 : decode method_3_code 17 = .ok (.if_icmp .ne 18, 3) := by decide +kernel
theorem d1_20 : decode method_3_code 20 = .ok (.new 28, 3) := by decide +kernel
theorem d1_23 : decode method_3_code 23 = .ok (.dup, 1) := by decide +kernel
theorem d1_24 : decode method_3_code 24 = .ok (.iconst 1, 1) := by decide +kernel
theorem d1_25 : decode method_3_code 25 = .ok (.newarray .char, 2) := by decide +kernel
theorem d1_27 : decode method_3_code 27 = .ok (.dup, 1) := by decide +kernel
theorem d1_28 : decode method_3_code 28 = .ok (.iconst 0, 1) := by decide +kernel
theorem d1_29 : decode method_3_code 29 = .ok (.iload_n 1, 1) := by decide +kernel
theorem d1_30 : decode method_3_code 30 = .ok (.castore, 1) := by decide +kernel
theorem d1_31 : decode method_3_code 31 = .ok (.invokespecial 33, 3) := by decide +kernel
theorem d1_34 : decode method_3_code 34 = .ok (.areturn, 1) := by decide +kernel
theorem ef_own_exp1 (m : MethodId) (x0 : Int32) (x1 : Int32) (x2 : Int32) (x3 : Int32) : entryFrame m #[(.int x0), (.int x1), (.int x2), (.int x3)] 4 = mkF m 0 #[.val (.int x0), .val (.int x1), .val (.int x2), .val (.int x3)] [] := by first | (simp [entryFrame, mkF, argsToLocals, Value.category]; done) | rfl
theorem d5_124 : decode method_4_code 124 = .ok (.iload_n 0, 1) := by decide +kernel
theorem d5_125 : decode method_4_code 125 = .ok (.iconst 1, 1) := by decide +kernel
theorem d5_126 : decode method_4_code 126 = .ok (.if_icmp .ne 128, 3) := by decide +kernel
theorem d5_129 : decode method_4_code 129 = .ok (.new 28, 3) := by decide +kernel
theorem d5_132 : decode method_4_code 132 = .ok (.dup, 1) := by decide +kernel
theorem d5_133 : decode method_4_code 133 = .ok (.bipush 20, 2) := by decide +kernel
theorem d5_135 : decode method_4_code 135 = .ok (.newarray .char, 2) := by decide +kernel
theorem d5_137 : decode method_4_code 137 = .ok (.dup, 1) := by decide +kernel
theorem d5_138 : decode method_4_code 138 = .ok (.iconst 0, 1) := by decide +kernel
theorem d5_139 : decode method_4_code 139 = .ok (.bipush 60, 2) := by decide +kernel
theorem d5_141 : decode method_4_code 141 = .ok (.castore, 1) := by decide +kernel
theorem d5_142 : decode method_4_code 142 = .ok (.dup, 1) := by decide +kernel
theorem d5_143 : decode method_4_code 143 = .ok (.iconst 1, 1) := by decide +kernel
theorem d5_144 : decode method_4_code 144 = .ok (.bipush 33, 2) := by decide +kernel
theorem d5_146 : decode method_4_code 146 = .ok (.castore, 1) := by decide +kernel
theorem d5_147 : decode method_4_code 147 = .ok (.dup, 1) := by decide +kernel
theorem d5_148 : decode method_4_code 148 = .ok (.iconst 2, 1) := by decide +kernel
theorem d5_149 : decode method_4_code 149 = .ok (.bipush 68, 2) := by decide +kernel
theorem d5_151 : decode method_4_code 151 = .ok (.castore, 1) := by decide +kernel
theorem d5_152 : decode method_4_code 152 = .ok (.dup, 1) := by decide +kernel
theorem d5_153 : decode method_4_code 153 = .ok (.iconst 3, 1) := by decide +kernel
theorem d5_154 : decode method_4_code 154 = .ok (.bipush 79, 2) := by decide +kernel
theorem d5_156 : decode method_4_code 156 = .ok (.castore, 1) := by decide +kernel
theorem d5_157 : decode method_4_code 157 = .ok (.dup, 1) := by decide +kernel
theorem d5_158 : decode method_4_code 158 = .ok (.iconst 4, 1) := by decide +kernel
theorem d5_159 : decode method_4_code 159 = .ok (.bipush 67, 2) := by decide +kernel
theorem d5_161 : decode method_4_code 161 = .ok (.castore, 1) := by decide +kernel
theorem d5_162 : decode method_4_code 162 = .ok (.dup, 1) := by decide +kernel
theorem d5_163 : decode method_4_code 163 = .ok (.iconst 5, 1) := by decide +kernel
theorem d5_164 : decode method_4_code 164 = .ok (.bipush 84, 2) := by decide +kernel
theorem d5_166 : decode method_4_code 166 = .ok (.castore, 1) := by decide +kernel
theorem d5_167 : decode method_4_code 167 = .ok (.dup, 1) := by decide +kernel
theorem d5_168 : decode method_4_code 168 = .ok (.bipush 6, 2) := by decide +kernel
theorem d5_170 : decode method_4_code 170 = .ok (.bipush 89, 2) := by decide +kernel
theorem d5_172 : decode method_4_code 172 = .ok (.castore, 1) := by decide +kernel
theorem d5_173 : decode method_4_code 173 = .ok (.dup, 1) := by decide +kernel
theorem d5_174 : decode method_4_code 174 = .ok (.bipush 7, 2) := by decide +kernel
theorem d5_176 : decode method_4_code 176 = .ok (.bipush 80, 2) := by decide +kernel
theorem d5_178 : decode method_4_code 178 = .ok (.castore, 1) := by decide +kernel
theorem d5_179 : decode method_4_code 179 = .ok (.dup, 1) := by decide +kernel
theorem d5_180 : decode method_4_code 180 = .ok (.bipush 8, 2) := by decide +kernel
theorem d5_182 : decode method_4_code 182 = .ok (.bipush 69, 2) := by decide +kernel
theorem d5_184 : decode method_4_code 184 = .ok (.castore, 1) := by decide +kernel
theorem d5_185 : decode method_4_code 185 = .ok (.dup, 1) := by decide +kernel
theorem d5_186 : decode method_4_code 186 = .ok (.bipush 9, 2) := by decide +kernel
theorem d5_188 : decode method_4_code 188 = .ok (.bipush 32, 2) := by decide +kernel
theorem d5_190 : decode method_4_code 190 = .ok (.castore, 1) := by decide +kernel
theorem d5_191 : decode method_4_code 191 = .ok (.dup, 1) := by decide +kernel
theorem d5_192 : decode method_4_code 192 = .ok (.bipush 10, 2) := by decide +kernel
theorem d5_194 : decode method_4_code 194 = .ok (.bipush 104, 2) := by decide +kernel
theorem d5_196 : decode method_4_code 196 = .ok (.castore, 1) := by decide +kernel
theorem d5_197 : decode method_4_code 197 = .ok (.dup, 1) := by decide +kernel
theorem d5_198 : decode method_4_code 198 = .ok (.bipush 11, 2) := by decide +kernel
theorem d5_200 : decode method_4_code 200 = .ok (.bipush 116, 2) := by decide +kernel
theorem d5_202 : decode method_4_code 202 = .ok (.castore, 1) := by decide +kernel
theorem d5_203 : decode method_4_code 203 = .ok (.dup, 1) := by decide +kernel
theorem d5_204 : decode method_4_code 204 = .ok (.bipush 12, 2) := by decide +kernel
theorem d5_206 : decode method_4_code 206 = .ok (.bipush 109, 2) := by decide +kernel
theorem d5_208 : decode method_4_code 208 = .ok (.castore, 1) := by decide +kernel
theorem d5_209 : decode method_4_code 209 = .ok (.dup, 1) := by decide +kernel
theorem d5_210 : decode method_4_code 210 = .ok (.bipush 13, 2) := by decide +kernel
theorem d5_212 : decode method_4_code 212 = .ok (.bipush 108, 2) := by decide +kernel
theorem d5_214 : decode method_4_code 214 = .ok (.castore, 1) := by decide +kernel
theorem d5_215 : decode method_4_code 215 = .ok (.dup, 1) := by decide +kernel
theorem d5_216 : decode method_4_code 216 = .ok (.bipush 14, 2) := by decide +kernel
theorem d5_218 : decode method_4_code 218 = .ok (.bipush 62, 2) := by decide +kernel
theorem d5_220 : decode method_4_code 220 = .ok (.castore, 1) := by decide +kernel
theorem d5_221 : decode method_4_code 221 = .ok (.dup, 1) := by decide +kernel
theorem d5_222 : decode method_4_code 222 = .ok (.bipush 15, 2) := by decide +kernel
theorem d5_224 : decode method_4_code 224 = .ok (.bipush 10, 2) := by decide +kernel
theorem d5_226 : decode method_4_code 226 = .ok (.castore, 1) := by decide +kernel
theorem d5_227 : decode method_4_code 227 = .ok (.dup, 1) := by decide +kernel
theorem d5_228 : decode method_4_code 228 = .ok (.bipush 16, 2) := by decide +kernel
theorem d5_230 : decode method_4_code 230 = .ok (.bipush 60, 2) := by decide +kernel
theorem d5_232 : decode method_4_code 232 = .ok (.castore, 1) := by decide +kernel
theorem d5_233 : decode method_4_code 233 = .ok (.dup, 1) := by decide +kernel
theorem d5_234 : decode method_4_code 234 = .ok (.bipush 17, 2) := by decide +kernel
theorem d5_236 : decode method_4_code 236 = .ok (.bipush 47, 2) := by decide +kernel
theorem d5_238 : decode method_4_code 238 = .ok (.castore, 1) := by decide +kernel
theorem d5_239 : decode method_4_code 239 = .ok (.dup, 1) := by decide +kernel
theorem d5_240 : decode method_4_code 240 = .ok (.bipush 18, 2) := by decide +kernel
theorem d5_242 : decode method_4_code 242 = .ok (.iload_n 1, 1) := by decide +kernel
theorem d5_243 : decode method_4_code 243 = .ok (.castore, 1) := by decide +kernel
theorem d5_244 : decode method_4_code 244 = .ok (.dup, 1) := by decide +kernel
theorem d5_245 : decode method_4_code 245 = .ok (.bipush 19, 2) := by decide +kernel
theorem d5_247 : decode method_4_code 247 = .ok (.bipush 62, 2) := by decide +kernel
theorem d5_249 : decode method_4_code 249 = .ok (.castore, 1) := by decide +kernel
theorem d5_250 : decode method_4_code 250 = .ok (.invokespecial 33, 3) := by decide +kernel
theorem d5_253 : decode method_4_code 253 = .ok (.areturn, 1) := by decide +kernel
theorem ef_own_tag2 (m : MethodId) (x0 : Int32) (x1 : Int32) (x2 : Int32) (x3 : Int32) : entryFrame m #[(.int x0), (.int x1), (.int x2), (.int x3)] 4 = mkF m 0 #[.val (.int x0), .val (.int x1), .val (.int x2), .val (.int x3)] [] := by first | (simp [entryFrame, mkF, argsToLocals, Value.category]; done) | rfl
theorem d1_35 : decode method_3_code 35 = .ok (.iload_n 0, 1) := by decide +kernel
theorem d1_36 : decode method_3_code 36 = .ok (.iconst 2, 1) := by decide +kernel
theorem d1_37 : decode method_3_code 37 = .ok (.if_icmp .ne 22, 3) := by decide +kernel
theorem d1_40 : decode method_3_code 40 = .ok (.new 28, 3) := by decide +kernel
theorem d1_43 : decode method_3_code 43 = .ok (.dup, 1) := by decide +kernel
theorem d1_44 : decode method_3_code 44 = .ok (.iconst 2, 1) := by decide +kernel
theorem d1_45 : decode method_3_code 45 = .ok (.newarray .char, 2) := by decide +kernel
theorem d1_47 : decode method_3_code 47 = .ok (.dup, 1) := by decide +kernel
theorem d1_48 : decode method_3_code 48 = .ok (.iconst 0, 1) := by decide +kernel
theorem d1_49 : decode method_3_code 49 = .ok (.iload_n 1, 1) := by decide +kernel
theorem d1_50 : decode method_3_code 50 = .ok (.castore, 1) := by decide +kernel
theorem d1_51 : decode method_3_code 51 = .ok (.dup, 1) := by decide +kernel
theorem d1_52 : decode method_3_code 52 = .ok (.iconst 1, 1) := by decide +kernel
theorem d1_53 : decode method_3_code 53 = .ok (.iload_n 2, 1) := by decide +kernel
theorem d1_54 : decode method_3_code 54 = .ok (.castore, 1) := by decide +kernel
theorem d1_55 : decode method_3_code 55 = .ok (.invokespecial 33, 3) := by decide +kernel
theorem d1_58 : decode method_3_code 58 = .ok (.areturn, 1) := by decide +kernel
theorem ef_own_exp2 (m : MethodId) (x0 : Int32) (x1 : Int32) (x2 : Int32) (x3 : Int32) : entryFrame m #[(.int x0), (.int x1), (.int x2), (.int x3)] 4 = mkF m 0 #[.val (.int x0), .val (.int x1), .val (.int x2), .val (.int x3)] [] := by first | (simp [entryFrame, mkF, argsToLocals, Value.category]; done) | rfl
theorem d5_254 : decode method_4_code 254 = .ok (.iload_n 0, 1) := by decide +kernel
theorem d5_255 : decode method_4_code 255 = .ok (.iconst 2, 1) := by decide +kernel
theorem d5_256 : decode method_4_code 256 = .ok (.if_icmp .ne 133, 3) := by decide +kernel
theorem d5_259 : decode method_4_code 259 = .ok (.new 28, 3) := by decide +kernel
theorem d5_262 : decode method_4_code 262 = .ok (.dup, 1) := by decide +kernel
theorem d5_263 : decode method_4_code 263 = .ok (.bipush 21, 2) := by decide +kernel
theorem d5_265 : decode method_4_code 265 = .ok (.newarray .char, 2) := by decide +kernel
theorem d5_267 : decode method_4_code 267 = .ok (.dup, 1) := by decide +kernel
theorem d5_268 : decode method_4_code 268 = .ok (.iconst 0, 1) := by decide +kernel
theorem d5_269 : decode method_4_code 269 = .ok (.bipush 60, 2) := by decide +kernel
theorem d5_271 : decode method_4_code 271 = .ok (.castore, 1) := by decide +kernel
theorem d5_272 : decode method_4_code 272 = .ok (.dup, 1) := by decide +kernel
theorem d5_273 : decode method_4_code 273 = .ok (.iconst 1, 1) := by decide +kernel
theorem d5_274 : decode method_4_code 274 = .ok (.bipush 33, 2) := by decide +kernel
theorem d5_276 : decode method_4_code 276 = .ok (.castore, 1) := by decide +kernel
theorem d5_277 : decode method_4_code 277 = .ok (.dup, 1) := by decide +kernel
theorem d5_278 : decode method_4_code 278 = .ok (.iconst 2, 1) := by decide +kernel
theorem d5_279 : decode method_4_code 279 = .ok (.bipush 68, 2) := by decide +kernel
theorem d5_281 : decode method_4_code 281 = .ok (.castore, 1) := by decide +kernel
theorem d5_282 : decode method_4_code 282 = .ok (.dup, 1) := by decide +kernel
theorem d5_283 : decode method_4_code 283 = .ok (.iconst 3, 1) := by decide +kernel
theorem d5_284 : decode method_4_code 284 = .ok (.bipush 79, 2) := by decide +kernel
theorem d5_286 : decode method_4_code 286 = .ok (.castore, 1) := by decide +kernel
theorem d5_287 : decode method_4_code 287 = .ok (.dup, 1) := by decide +kernel
theorem d5_288 : decode method_4_code 288 = .ok (.iconst 4, 1) := by decide +kernel
theorem d5_289 : decode method_4_code 289 = .ok (.bipush 67, 2) := by decide +kernel
theorem d5_291 : decode method_4_code 291 = .ok (.castore, 1) := by decide +kernel
theorem d5_292 : decode method_4_code 292 = .ok (.dup, 1) := by decide +kernel
theorem d5_293 : decode method_4_code 293 = .ok (.iconst 5, 1) := by decide +kernel
theorem d5_294 : decode method_4_code 294 = .ok (.bipush 84, 2) := by decide +kernel
theorem d5_296 : decode method_4_code 296 = .ok (.castore, 1) := by decide +kernel
theorem d5_297 : decode method_4_code 297 = .ok (.dup, 1) := by decide +kernel
theorem d5_298 : decode method_4_code 298 = .ok (.bipush 6, 2) := by decide +kernel
theorem d5_300 : decode method_4_code 300 = .ok (.bipush 89, 2) := by decide +kernel
theorem d5_302 : decode method_4_code 302 = .ok (.castore, 1) := by decide +kernel
theorem d5_303 : decode method_4_code 303 = .ok (.dup, 1) := by decide +kernel
theorem d5_304 : decode method_4_code 304 = .ok (.bipush 7, 2) := by decide +kernel
theorem d5_306 : decode method_4_code 306 = .ok (.bipush 80, 2) := by decide +kernel
theorem d5_308 : decode method_4_code 308 = .ok (.castore, 1) := by decide +kernel
theorem d5_309 : decode method_4_code 309 = .ok (.dup, 1) := by decide +kernel
theorem d5_310 : decode method_4_code 310 = .ok (.bipush 8, 2) := by decide +kernel
theorem d5_312 : decode method_4_code 312 = .ok (.bipush 69, 2) := by decide +kernel
theorem d5_314 : decode method_4_code 314 = .ok (.castore, 1) := by decide +kernel
theorem d5_315 : decode method_4_code 315 = .ok (.dup, 1) := by decide +kernel
theorem d5_316 : decode method_4_code 316 = .ok (.bipush 9, 2) := by decide +kernel
theorem d5_318 : decode method_4_code 318 = .ok (.bipush 32, 2) := by decide +kernel
theorem d5_320 : decode method_4_code 320 = .ok (.castore, 1) := by decide +kernel
theorem d5_321 : decode method_4_code 321 = .ok (.dup, 1) := by decide +kernel
theorem d5_322 : decode method_4_code 322 = .ok (.bipush 10, 2) := by decide +kernel
theorem d5_324 : decode method_4_code 324 = .ok (.bipush 104, 2) := by decide +kernel
theorem d5_326 : decode method_4_code 326 = .ok (.castore, 1) := by decide +kernel
theorem d5_327 : decode method_4_code 327 = .ok (.dup, 1) := by decide +kernel
theorem d5_328 : decode method_4_code 328 = .ok (.bipush 11, 2) := by decide +kernel
theorem d5_330 : decode method_4_code 330 = .ok (.bipush 116, 2) := by decide +kernel
theorem d5_332 : decode method_4_code 332 = .ok (.castore, 1) := by decide +kernel
theorem d5_333 : decode method_4_code 333 = .ok (.dup, 1) := by decide +kernel
theorem d5_334 : decode method_4_code 334 = .ok (.bipush 12, 2) := by decide +kernel
theorem d5_336 : decode method_4_code 336 = .ok (.bipush 109, 2) := by decide +kernel
theorem d5_338 : decode method_4_code 338 = .ok (.castore, 1) := by decide +kernel
theorem d5_339 : decode method_4_code 339 = .ok (.dup, 1) := by decide +kernel
theorem d5_340 : decode method_4_code 340 = .ok (.bipush 13, 2) := by decide +kernel
theorem d5_342 : decode method_4_code 342 = .ok (.bipush 108, 2) := by decide +kernel
theorem d5_344 : decode method_4_code 344 = .ok (.castore, 1) := by decide +kernel
theorem d5_345 : decode method_4_code 345 = .ok (.dup, 1) := by decide +kernel
theorem d5_346 : decode method_4_code 346 = .ok (.bipush 14, 2) := by decide +kernel
theorem d5_348 : decode method_4_code 348 = .ok (.bipush 62, 2) := by decide +kernel
theorem d5_350 : decode method_4_code 350 = .ok (.castore, 1) := by decide +kernel
theorem d5_351 : decode method_4_code 351 = .ok (.dup, 1) := by decide +kernel
theorem d5_352 : decode method_4_code 352 = .ok (.bipush 15, 2) := by decide +kernel
theorem d5_354 : decode method_4_code 354 = .ok (.bipush 10, 2) := by decide +kernel
theorem d5_356 : decode method_4_code 356 = .ok (.castore, 1) := by decide +kernel
theorem d5_357 : decode method_4_code 357 = .ok (.dup, 1) := by decide +kernel
theorem d5_358 : decode method_4_code 358 = .ok (.bipush 16, 2) := by decide +kernel
theorem d5_360 : decode method_4_code 360 = .ok (.bipush 60, 2) := by decide +kernel
theorem d5_362 : decode method_4_code 362 = .ok (.castore, 1) := by decide +kernel
theorem d5_363 : decode method_4_code 363 = .ok (.dup, 1) := by decide +kernel
theorem d5_364 : decode method_4_code 364 = .ok (.bipush 17, 2) := by decide +kernel
theorem d5_366 : decode method_4_code 366 = .ok (.bipush 47, 2) := by decide +kernel
theorem d5_368 : decode method_4_code 368 = .ok (.castore, 1) := by decide +kernel
theorem d5_369 : decode method_4_code 369 = .ok (.dup, 1) := by decide +kernel
theorem d5_370 : decode method_4_code 370 = .ok (.bipush 18, 2) := by decide +kernel
theorem d5_372 : decode method_4_code 372 = .ok (.iload_n 1, 1) := by decide +kernel
theorem d5_373 : decode method_4_code 373 = .ok (.castore, 1) := by decide +kernel
theorem d5_374 : decode method_4_code 374 = .ok (.dup, 1) := by decide +kernel
theorem d5_375 : decode method_4_code 375 = .ok (.bipush 19, 2) := by decide +kernel
theorem d5_377 : decode method_4_code 377 = .ok (.iload_n 2, 1) := by decide +kernel
theorem d5_378 : decode method_4_code 378 = .ok (.castore, 1) := by decide +kernel
theorem d5_379 : decode method_4_code 379 = .ok (.dup, 1) := by decide +kernel
theorem d5_380 : decode method_4_code 380 = .ok (.bipush 20, 2) := by decide +kernel
theorem d5_382 : decode method_4_code 382 = .ok (.bipush 62, 2) := by decide +kernel
theorem d5_384 : decode method_4_code 384 = .ok (.castore, 1) := by decide +kernel
theorem d5_385 : decode method_4_code 385 = .ok (.invokespecial 33, 3) := by decide +kernel
theorem d5_388 : decode method_4_code 388 = .ok (.areturn, 1) := by decide +kernel
theorem ef_own_tag3 (m : MethodId) (x0 : Int32) (x1 : Int32) (x2 : Int32) (x3 : Int32) : entryFrame m #[(.int x0), (.int x1), (.int x2), (.int x3)] 4 = mkF m 0 #[.val (.int x0), .val (.int x1), .val (.int x2), .val (.int x3)] [] := by first | (simp [entryFrame, mkF, argsToLocals, Value.category]; done) | rfl
theorem d1_59 : decode method_3_code 59 = .ok (.new 28, 3) := by decide +kernel
theorem d1_62 : decode method_3_code 62 = .ok (.dup, 1) := by decide +kernel
theorem d1_63 : decode method_3_code 63 = .ok (.iconst 3, 1) := by decide +kernel
theorem d1_64 : decode method_3_code 64 = .ok (.newarray .char, 2) := by decide +kernel
theorem d1_66 : decode method_3_code 66 = .ok (.dup, 1) := by decide +kernel
theorem d1_67 : decode method_3_code 67 = .ok (.iconst 0, 1) := by decide +kernel
theorem d1_68 : decode method_3_code 68 = .ok (.iload_n 1, 1) := by decide +kernel
theorem d1_69 : decode method_3_code 69 = .ok (.castore, 1) := by decide +kernel
theorem d1_70 : decode method_3_code 70 = .ok (.dup, 1) := by decide +kernel
theorem d1_71 : decode method_3_code 71 = .ok (.iconst 1, 1) := by decide +kernel
theorem d1_72 : decode method_3_code 72 = .ok (.iload_n 2, 1) := by decide +kernel
theorem d1_73 : decode method_3_code 73 = .ok (.castore, 1) := by decide +kernel
theorem d1_74 : decode method_3_code 74 = .ok (.dup, 1) := by decide +kernel
theorem d1_75 : decode method_3_code 75 = .ok (.iconst 2, 1) := by decide +kernel
theorem d1_76 : decode method_3_code 76 = .ok (.iload_n 3, 1) := by decide +kernel
theorem d1_77 : decode method_3_code 77 = .ok (.castore, 1) := by decide +kernel
theorem d1_78 : decode method_3_code 78 = .ok (.invokespecial 33, 3) := by decide +kernel
theorem d1_81 : decode method_3_code 81 = .ok (.areturn, 1) := by decide +kernel
theorem ef_own_exp3 (m : MethodId) (x0 : Int32) (x1 : Int32) (x2 : Int32) (x3 : Int32) : entryFrame m #[(.int x0), (.int x1), (.int x2), (.int x3)] 4 = mkF m 0 #[.val (.int x0), .val (.int x1), .val (.int x2), .val (.int x3)] [] := by first | (simp [entryFrame, mkF, argsToLocals, Value.category]; done) | rfl
theorem d5_389 : decode method_4_code 389 = .ok (.new 28, 3) := by decide +kernel
theorem d5_392 : decode method_4_code 392 = .ok (.dup, 1) := by decide +kernel
theorem d5_393 : decode method_4_code 393 = .ok (.bipush 22, 2) := by decide +kernel
theorem d5_395 : decode method_4_code 395 = .ok (.newarray .char, 2) := by decide +kernel
theorem d5_397 : decode method_4_code 397 = .ok (.dup, 1) := by decide +kernel
theorem d5_398 : decode method_4_code 398 = .ok (.iconst 0, 1) := by decide +kernel
theorem d5_399 : decode method_4_code 399 = .ok (.bipush 60, 2) := by decide +kernel
theorem d5_401 : decode method_4_code 401 = .ok (.castore, 1) := by decide +kernel
theorem d5_402 : decode method_4_code 402 = .ok (.dup, 1) := by decide +kernel
theorem d5_403 : decode method_4_code 403 = .ok (.iconst 1, 1) := by decide +kernel
theorem d5_404 : decode method_4_code 404 = .ok (.bipush 33, 2) := by decide +kernel
theorem d5_406 : decode method_4_code 406 = .ok (.castore, 1) := by decide +kernel
theorem d5_407 : decode method_4_code 407 = .ok (.dup, 1) := by decide +kernel
theorem d5_408 : decode method_4_code 408 = .ok (.iconst 2, 1) := by decide +kernel
theorem d5_409 : decode method_4_code 409 = .ok (.bipush 68, 2) := by decide +kernel
theorem d5_411 : decode method_4_code 411 = .ok (.castore, 1) := by decide +kernel
theorem d5_412 : decode method_4_code 412 = .ok (.dup, 1) := by decide +kernel
theorem d5_413 : decode method_4_code 413 = .ok (.iconst 3, 1) := by decide +kernel
theorem d5_414 : decode method_4_code 414 = .ok (.bipush 79, 2) := by decide +kernel
theorem d5_416 : decode method_4_code 416 = .ok (.castore, 1) := by decide +kernel
theorem d5_417 : decode method_4_code 417 = .ok (.dup, 1) := by decide +kernel
theorem d5_418 : decode method_4_code 418 = .ok (.iconst 4, 1) := by decide +kernel
theorem d5_419 : decode method_4_code 419 = .ok (.bipush 67, 2) := by decide +kernel
theorem d5_421 : decode method_4_code 421 = .ok (.castore, 1) := by decide +kernel
theorem d5_422 : decode method_4_code 422 = .ok (.dup, 1) := by decide +kernel
theorem d5_423 : decode method_4_code 423 = .ok (.iconst 5, 1) := by decide +kernel
theorem d5_424 : decode method_4_code 424 = .ok (.bipush 84, 2) := by decide +kernel
theorem d5_426 : decode method_4_code 426 = .ok (.castore, 1) := by decide +kernel
theorem d5_427 : decode method_4_code 427 = .ok (.dup, 1) := by decide +kernel
theorem d5_428 : decode method_4_code 428 = .ok (.bipush 6, 2) := by decide +kernel
theorem d5_430 : decode method_4_code 430 = .ok (.bipush 89, 2) := by decide +kernel
theorem d5_432 : decode method_4_code 432 = .ok (.castore, 1) := by decide +kernel
theorem d5_433 : decode method_4_code 433 = .ok (.dup, 1) := by decide +kernel
theorem d5_434 : decode method_4_code 434 = .ok (.bipush 7, 2) := by decide +kernel
theorem d5_436 : decode method_4_code 436 = .ok (.bipush 80, 2) := by decide +kernel
theorem d5_438 : decode method_4_code 438 = .ok (.castore, 1) := by decide +kernel
theorem d5_439 : decode method_4_code 439 = .ok (.dup, 1) := by decide +kernel
theorem d5_440 : decode method_4_code 440 = .ok (.bipush 8, 2) := by decide +kernel
theorem d5_442 : decode method_4_code 442 = .ok (.bipush 69, 2) := by decide +kernel
theorem d5_444 : decode method_4_code 444 = .ok (.castore, 1) := by decide +kernel
theorem d5_445 : decode method_4_code 445 = .ok (.dup, 1) := by decide +kernel
theorem d5_446 : decode method_4_code 446 = .ok (.bipush 9, 2) := by decide +kernel
theorem d5_448 : decode method_4_code 448 = .ok (.bipush 32, 2) := by decide +kernel
theorem d5_450 : decode method_4_code 450 = .ok (.castore, 1) := by decide +kernel
theorem d5_451 : decode method_4_code 451 = .ok (.dup, 1) := by decide +kernel
theorem d5_452 : decode method_4_code 452 = .ok (.bipush 10, 2) := by decide +kernel
theorem d5_454 : decode method_4_code 454 = .ok (.bipush 104, 2) := by decide +kernel
theorem d5_456 : decode method_4_code 456 = .ok (.castore, 1) := by decide +kernel
theorem d5_457 : decode method_4_code 457 = .ok (.dup, 1) := by decide +kernel
theorem d5_458 : decode method_4_code 458 = .ok (.bipush 11, 2) := by decide +kernel
theorem d5_460 : decode method_4_code 460 = .ok (.bipush 116, 2) := by decide +kernel
theorem d5_462 : decode method_4_code 462 = .ok (.castore, 1) := by decide +kernel
theorem d5_463 : decode method_4_code 463 = .ok (.dup, 1) := by decide +kernel
theorem d5_464 : decode method_4_code 464 = .ok (.bipush 12, 2) := by decide +kernel
theorem d5_466 : decode method_4_code 466 = .ok (.bipush 109, 2) := by decide +kernel
theorem d5_468 : decode method_4_code 468 = .ok (.castore, 1) := by decide +kernel
theorem d5_469 : decode method_4_code 469 = .ok (.dup, 1) := by decide +kernel
theorem d5_470 : decode method_4_code 470 = .ok (.bipush 13, 2) := by decide +kernel
theorem d5_472 : decode method_4_code 472 = .ok (.bipush 108, 2) := by decide +kernel
theorem d5_474 : decode method_4_code 474 = .ok (.castore, 1) := by decide +kernel
theorem d5_475 : decode method_4_code 475 = .ok (.dup, 1) := by decide +kernel
theorem d5_476 : decode method_4_code 476 = .ok (.bipush 14, 2) := by decide +kernel
theorem d5_478 : decode method_4_code 478 = .ok (.bipush 62, 2) := by decide +kernel
theorem d5_480 : decode method_4_code 480 = .ok (.castore, 1) := by decide +kernel
theorem d5_481 : decode method_4_code 481 = .ok (.dup, 1) := by decide +kernel
theorem d5_482 : decode method_4_code 482 = .ok (.bipush 15, 2) := by decide +kernel
theorem d5_484 : decode method_4_code 484 = .ok (.bipush 10, 2) := by decide +kernel
theorem d5_486 : decode method_4_code 486 = .ok (.castore, 1) := by decide +kernel
theorem d5_487 : decode method_4_code 487 = .ok (.dup, 1) := by decide +kernel
theorem d5_488 : decode method_4_code 488 = .ok (.bipush 16, 2) := by decide +kernel
theorem d5_490 : decode method_4_code 490 = .ok (.bipush 60, 2) := by decide +kernel
theorem d5_492 : decode method_4_code 492 = .ok (.castore, 1) := by decide +kernel
theorem d5_493 : decode method_4_code 493 = .ok (.dup, 1) := by decide +kernel
theorem d5_494 : decode method_4_code 494 = .ok (.bipush 17, 2) := by decide +kernel
theorem d5_496 : decode method_4_code 496 = .ok (.bipush 47, 2) := by decide +kernel
theorem d5_498 : decode method_4_code 498 = .ok (.castore, 1) := by decide +kernel
theorem d5_499 : decode method_4_code 499 = .ok (.dup, 1) := by decide +kernel
theorem d5_500 : decode method_4_code 500 = .ok (.bipush 18, 2) := by decide +kernel
theorem d5_502 : decode method_4_code 502 = .ok (.iload_n 1, 1) := by decide +kernel
theorem d5_503 : decode method_4_code 503 = .ok (.castore, 1) := by decide +kernel
theorem d5_504 : decode method_4_code 504 = .ok (.dup, 1) := by decide +kernel
theorem d5_505 : decode method_4_code 505 = .ok (.bipush 19, 2) := by decide +kernel
theorem d5_507 : decode method_4_code 507 = .ok (.iload_n 2, 1) := by decide +kernel
theorem d5_508 : decode method_4_code 508 = .ok (.castore, 1) := by decide +kernel
theorem d5_509 : decode method_4_code 509 = .ok (.dup, 1) := by decide +kernel
theorem d5_510 : decode method_4_code 510 = .ok (.bipush 20, 2) := by decide +kernel
theorem d5_512 : decode method_4_code 512 = .ok (.iload_n 3, 1) := by decide +kernel
theorem d5_513 : decode method_4_code 513 = .ok (.castore, 1) := by decide +kernel
theorem d5_514 : decode method_4_code 514 = .ok (.dup, 1) := by decide +kernel
theorem d5_515 : decode method_4_code 515 = .ok (.bipush 21, 2) := by decide +kernel
theorem d5_517 : decode method_4_code 517 = .ok (.bipush 62, 2) := by decide +kernel
theorem d5_519 : decode method_4_code 519 = .ok (.castore, 1) := by decide +kernel
theorem d5_520 : decode method_4_code 520 = .ok (.invokespecial 33, 3) := by decide +kernel
theorem d5_523 : decode method_4_code 523 = .ok (.areturn, 1) := by decide +kernel
theorem ef_own_law (m : MethodId) (x0 : Int32) (x1 : Int32) (x2 : Int32) (x3 : Int32) : entryFrame m #[(.int x0), (.int x1), (.int x2), (.int x3)] maxLocals = mkF m 0 #[.val (.int x0), .val (.int x1), .val (.int x2), .val (.int x3), .unset, .unset, .unset, .unset, .unset, .unset, .unset, .unset] [] := by first | (simp [entryFrame, mkF, argsToLocals, Value.category, maxLocals]; done) | rfl
theorem wd0 {Z : State} {a0 : Array Value} (hw : ∀ d ∈ tables_1, d.before a0 Z = true) : ((Jvm.Cond.methodLink "com/example/regent/regent/HtmlClosePinLaw" (7 : Nat) ({ cls := "com/example/regent/regent/HtmlClosePinLaw", name := "tag", desc := "(ICCC)Ljava/lang/String;" } : Jvm.MethodName)) : Jvm.Cond).before a0 Z = true := hw _ (List.mem_of_getElem? (i := 0) rfl)
theorem wd3 {Z : State} {a0 : Array Value} (hw : ∀ d ∈ tables_1, d.before a0 Z = true) : ((Jvm.Cond.code ({ cls := "com/example/regent/regent/HtmlClosePinLaw", name := "tag", desc := "(ICCC)Ljava/lang/String;" } : Jvm.MethodName) method_3_code (4 : Nat) (Option.some (Jvm.ClassFile.FieldType.object "java/lang/String"))) : Jvm.Cond).before a0 Z = true := hw _ (List.mem_of_getElem? (i := 3) rfl)
theorem wd2 {Z : State} {a0 : Array Value} (hw : ∀ d ∈ tables_1, d.before a0 Z = true) : ((Jvm.Cond.initialized "com/example/regent/regent/HtmlClosePinLaw") : Jvm.Cond).before a0 Z = true := hw _ (List.mem_of_getElem? (i := 2) rfl)
theorem pd__ICCC_Ljava_lang_String__2051 : parseMethodDescriptor "(ICCC)Ljava/lang/String;" = some ⟨[.int, .char, .char, .char], some (.object "java/lang/String")⟩ := by decide +kernel
theorem wd1 {Z : State} {a0 : Array Value} (hw : ∀ d ∈ tables_1, d.before a0 Z = true) : ((Jvm.Cond.static ({ cls := "com/example/regent/regent/HtmlClosePinLaw", name := "tag", desc := "(ICCC)Ljava/lang/String;" } : Jvm.MethodName)) : Jvm.Cond).before a0 Z = true := hw _ (List.mem_of_getElem? (i := 1) rfl)
theorem wd26 {Z : State} {a0 : Array Value} (hw : ∀ d ∈ tables_1, d.before a0 Z = true) : ((Jvm.Cond.methodLink "com/example/regent/regent/HtmlClosePinLaw" (13 : Nat) ({ cls := "com/example/regent/regent/HtmlClosePinLaw", name := "expected", desc := "(ICCC)Ljava/lang/String;" } : Jvm.MethodName)) : Jvm.Cond).before a0 Z = true := hw _ (List.mem_of_getElem? (i := 26) rfl)
theorem wd28 {Z : State} {a0 : Array Value} (hw : ∀ d ∈ tables_1, d.before a0 Z = true) : ((Jvm.Cond.code ({ cls := "com/example/regent/regent/HtmlClosePinLaw", name := "expected", desc := "(ICCC)Ljava/lang/String;" } : Jvm.MethodName) method_4_code (4 : Nat) (Option.some (Jvm.ClassFile.FieldType.object "java/lang/String"))) : Jvm.Cond).before a0 Z = true := hw _ (List.mem_of_getElem? (i := 28) rfl)
theorem wd27 {Z : State} {a0 : Array Value} (hw : ∀ d ∈ tables_1, d.before a0 Z = true) : ((Jvm.Cond.static ({ cls := "com/example/regent/regent/HtmlClosePinLaw", name := "expected", desc := "(ICCC)Ljava/lang/String;" } : Jvm.MethodName)) : Jvm.Cond).before a0 Z = true := hw _ (List.mem_of_getElem? (i := 27) rfl)
theorem wd40 {Z : State} {a0 : Array Value} (hw : ∀ d ∈ tables_1, d.before a0 Z = true) : ((Jvm.Cond.classLink "com/example/regent/regent/HtmlClosePinLaw" (16 : Nat) "com/example/regent/regent/Html") : Jvm.Cond).before a0 Z = true := hw _ (List.mem_of_getElem? (i := 40) rfl)
theorem wd42 {Z : State} {a0 : Array Value} (hw : ∀ d ∈ tables_1, d.before a0 Z = true) : ((Jvm.Cond.initialized "com/example/regent/regent/Html") : Jvm.Cond).before a0 Z = true := hw _ (List.mem_of_getElem? (i := 42) rfl)
theorem wd43 {Z : State} {a0 : Array Value} (hw : ∀ d ∈ tables_1, d.before a0 Z = true) : ((Jvm.Cond.methodLink "com/example/regent/regent/HtmlClosePinLaw" (18 : Nat) ({ cls := "com/example/regent/regent/Html", name := "<init>", desc := "()V" } : Jvm.MethodName)) : Jvm.Cond).before a0 Z = true := hw _ (List.mem_of_getElem? (i := 43) rfl)
theorem wd45 {Z : State} {a0 : Array Value} (hw : ∀ d ∈ tables_1, d.before a0 Z = true) : ((Jvm.Cond.code ({ cls := "com/example/regent/regent/Html", name := "<init>", desc := "()V" } : Jvm.MethodName) prog_9_method_1_code (1 : Nat) (Option.none : Option Jvm.ClassFile.FieldType)) : Jvm.Cond).before a0 Z = true := hw _ (List.mem_of_getElem? (i := 45) rfl)
theorem pd___V_167 : parseMethodDescriptor "()V" = some ⟨[], none⟩ := by decide +kernel
theorem wd44 {Z : State} {a0 : Array Value} (hw : ∀ d ∈ tables_1, d.before a0 Z = true) : ((Jvm.Cond.instanceMethod ({ cls := "com/example/regent/regent/Html", name := "<init>", desc := "()V" } : Jvm.MethodName)) : Jvm.Cond).before a0 Z = true := hw _ (List.mem_of_getElem? (i := 44) rfl)
theorem wd120 {Z : State} {a0 : Array Value} (hw : ∀ d ∈ tables_1, d.before a0 Z = true) : ((Jvm.Cond.methodLink "com/example/regent/regent/HtmlClosePinLaw" (19 : Nat) ({ cls := "com/example/regent/regent/Html", name := "close", desc := "(Ljava/lang/String;)Lcom/example/regent/regent/Html;" } : Jvm.MethodName)) : Jvm.Cond).before a0 Z = true := hw _ (List.mem_of_getElem? (i := 120) rfl)
theorem wd124 {Z : State} {a0 : Array Value} (hw : ∀ d ∈ tables_1, d.before a0 Z = true) : ((Jvm.Cond.code ({ cls := "com/example/regent/regent/Html", name := "close", desc := "(Ljava/lang/String;)Lcom/example/regent/regent/Html;" } : Jvm.MethodName) prog_9_method_3_code (2 : Nat) (Option.some (Jvm.ClassFile.FieldType.object "com/example/regent/regent/Html"))) : Jvm.Cond).before a0 Z = true := hw _ (List.mem_of_getElem? (i := 124) rfl)
theorem pd__Ljava_lang_String__Lcom_example_regent_regent_Html__4862 : parseMethodDescriptor "(Ljava/lang/String;)Lcom/example/regent/regent/Html;" = some ⟨[(.object "java/lang/String")], some (.object "com/example/regent/regent/Html")⟩ := by decide +kernel
theorem wd123 {Z : State} {a0 : Array Value} (hw : ∀ d ∈ tables_1, d.before a0 Z = true) : ((Jvm.Cond.selects "com/example/regent/regent/Html" ({ cls := "com/example/regent/regent/Html", name := "close", desc := "(Ljava/lang/String;)Lcom/example/regent/regent/Html;" } : Jvm.MethodName) ({ cls := "com/example/regent/regent/Html", name := "close", desc := "(Ljava/lang/String;)Lcom/example/regent/regent/Html;" } : Jvm.MethodName)) : Jvm.Cond).before a0 Z = true := hw _ (List.mem_of_getElem? (i := 123) rfl)
theorem wd121 {Z : State} {a0 : Array Value} (hw : ∀ d ∈ tables_1, d.before a0 Z = true) : ((Jvm.Cond.declares ({ cls := "com/example/regent/regent/Html", name := "close", desc := "(Ljava/lang/String;)Lcom/example/regent/regent/Html;" } : Jvm.MethodName)) : Jvm.Cond).before a0 Z = true := hw _ (List.mem_of_getElem? (i := 121) rfl)
theorem wd122 {Z : State} {a0 : Array Value} (hw : ∀ d ∈ tables_1, d.before a0 Z = true) : ((Jvm.Cond.instanceMethod ({ cls := "com/example/regent/regent/Html", name := "close", desc := "(Ljava/lang/String;)Lcom/example/regent/regent/Html;" } : Jvm.MethodName)) : Jvm.Cond).before a0 Z = true := hw _ (List.mem_of_getElem? (i := 122) rfl)
abbrev own_L3 : List Value := [(.int (60 : Int32)), (.int (33 : Int32)), (.int (68 : Int32)), (.int (79 : Int32)), (.int (67 : Int32)), (.int (84 : Int32)), (.int (89 : Int32)), (.int (80 : Int32)), (.int (69 : Int32)), (.int (32 : Int32)), (.int (104 : Int32)), (.int (116 : Int32)), (.int (109 : Int32)), (.int (108 : Int32)), (.int (62 : Int32)), (.int (10 : Int32)), (.int (60 : Int32)), (.int (47 : Int32)), (.int (62 : Int32)), (.int (0 : Int32)), (.int (0 : Int32)), (.int (0 : Int32)), (.int (0 : Int32)), (.int (0 : Int32)), (.int (0 : Int32)), (.int (0 : Int32)), (.int (0 : Int32)), (.int (0 : Int32)), (.int (0 : Int32)), (.int (0 : Int32)), (.int (0 : Int32)), (.int (0 : Int32))]
theorem wd145 {Z : State} {a0 : Array Value} (hw : ∀ d ∈ tables_1, d.before a0 Z = true) : ((Jvm.Cond.methodLink "com/example/regent/regent/HtmlClosePinLaw" (23 : Nat) ({ cls := "com/example/regent/regent/Html", name := "toString", desc := "()Ljava/lang/String;" } : Jvm.MethodName)) : Jvm.Cond).before a0 Z = true := hw _ (List.mem_of_getElem? (i := 145) rfl)
theorem wd149 {Z : State} {a0 : Array Value} (hw : ∀ d ∈ tables_1, d.before a0 Z = true) : ((Jvm.Cond.code ({ cls := "com/example/regent/regent/Html", name := "toString", desc := "()Ljava/lang/String;" } : Jvm.MethodName) prog_9_method_6_code (1 : Nat) (Option.some (Jvm.ClassFile.FieldType.object "java/lang/String"))) : Jvm.Cond).before a0 Z = true := hw _ (List.mem_of_getElem? (i := 149) rfl)
theorem wd148 {Z : State} {a0 : Array Value} (hw : ∀ d ∈ tables_1, d.before a0 Z = true) : ((Jvm.Cond.selects "com/example/regent/regent/Html" ({ cls := "com/example/regent/regent/Html", name := "toString", desc := "()Ljava/lang/String;" } : Jvm.MethodName) ({ cls := "com/example/regent/regent/Html", name := "toString", desc := "()Ljava/lang/String;" } : Jvm.MethodName)) : Jvm.Cond).before a0 Z = true := hw _ (List.mem_of_getElem? (i := 148) rfl)
theorem wd146 {Z : State} {a0 : Array Value} (hw : ∀ d ∈ tables_1, d.before a0 Z = true) : ((Jvm.Cond.declares ({ cls := "com/example/regent/regent/Html", name := "toString", desc := "()Ljava/lang/String;" } : Jvm.MethodName)) : Jvm.Cond).before a0 Z = true := hw _ (List.mem_of_getElem? (i := 146) rfl)
theorem wd147 {Z : State} {a0 : Array Value} (hw : ∀ d ∈ tables_1, d.before a0 Z = true) : ((Jvm.Cond.instanceMethod ({ cls := "com/example/regent/regent/Html", name := "toString", desc := "()Ljava/lang/String;" } : Jvm.MethodName)) : Jvm.Cond).before a0 Z = true := hw _ (List.mem_of_getElem? (i := 147) rfl)
abbrev own_L4 : List Value := [(.int (60 : Int32)), (.int (33 : Int32)), (.int (68 : Int32)), (.int (79 : Int32)), (.int (67 : Int32)), (.int (84 : Int32)), (.int (89 : Int32)), (.int (80 : Int32)), (.int (69 : Int32)), (.int (32 : Int32)), (.int (104 : Int32)), (.int (116 : Int32)), (.int (109 : Int32)), (.int (108 : Int32)), (.int (62 : Int32)), (.int (10 : Int32)), (.int (60 : Int32)), (.int (47 : Int32)), (.int (62 : Int32))]
theorem wd191 {Z : State} {a0 : Array Value} (hw : ∀ d ∈ tables_1, d.before a0 Z = true) : ((Jvm.Cond.methodLink "com/example/regent/regent/HtmlClosePinLaw" (27 : Nat) ({ cls := "java/lang/String", name := "equals", desc := "(Ljava/lang/Object;)Z" } : Jvm.MethodName)) : Jvm.Cond).before a0 Z = true := hw _ (List.mem_of_getElem? (i := 191) rfl)
theorem own_mwe {Z : State} {a0 : Array Value} (hw : ∀ d ∈ tables_1, d.before a0 Z = true) : ∀ d ∈ StrChars.Road.wordsEq, d.before a0 Z = true := fun d hd => hw d ((by decide +kernel : ∀ d ∈ StrChars.Road.wordsEq, d ∈ tables_1) d hd)
theorem wd195 {Z : State} {a0 : Array Value} (hw : ∀ d ∈ tables_1, d.before a0 Z = true) : ((Jvm.Cond.code ({ cls := "java/lang/String", name := "equals", desc := "(Ljava/lang/Object;)Z" } : Jvm.MethodName) jdk_42_method_66_code (3 : Nat) (Option.some Jvm.ClassFile.FieldType.boolean)) : Jvm.Cond).before a0 Z = true := hw _ (List.mem_of_getElem? (i := 195) rfl)
theorem pd__Ljava_lang_Object__Z_1835 : parseMethodDescriptor "(Ljava/lang/Object;)Z" = some ⟨[(.object "java/lang/Object")], some .boolean⟩ := by decide +kernel
theorem wd194 {Z : State} {a0 : Array Value} (hw : ∀ d ∈ tables_1, d.before a0 Z = true) : ((Jvm.Cond.selects "java/lang/String" ({ cls := "java/lang/String", name := "equals", desc := "(Ljava/lang/Object;)Z" } : Jvm.MethodName) ({ cls := "java/lang/String", name := "equals", desc := "(Ljava/lang/Object;)Z" } : Jvm.MethodName)) : Jvm.Cond).before a0 Z = true := hw _ (List.mem_of_getElem? (i := 194) rfl)
abbrev mt32 : MethodName := (⟨"java/lang/String", "equals", "(Ljava/lang/Object;)Z"⟩ : MethodName)
theorem wd192 {Z : State} {a0 : Array Value} (hw : ∀ d ∈ tables_1, d.before a0 Z = true) : ((Jvm.Cond.declares ({ cls := "java/lang/String", name := "equals", desc := "(Ljava/lang/Object;)Z" } : Jvm.MethodName)) : Jvm.Cond).before a0 Z = true := hw _ (List.mem_of_getElem? (i := 192) rfl)
theorem wd193 {Z : State} {a0 : Array Value} (hw : ∀ d ∈ tables_1, d.before a0 Z = true) : ((Jvm.Cond.instanceMethod ({ cls := "java/lang/String", name := "equals", desc := "(Ljava/lang/Object;)Z" } : Jvm.MethodName)) : Jvm.Cond).before a0 Z = true := hw _ (List.mem_of_getElem? (i := 193) rfl)
abbrev own_L5 (x0 : Int32) : List Value := [(.int (60 : Int32)), (.int (33 : Int32)), (.int (68 : Int32)), (.int (79 : Int32)), (.int (67 : Int32)), (.int (84 : Int32)), (.int (89 : Int32)), (.int (80 : Int32)), (.int (69 : Int32)), (.int (32 : Int32)), (.int (104 : Int32)), (.int (116 : Int32)), (.int (109 : Int32)), (.int (108 : Int32)), (.int (62 : Int32)), (.int (10 : Int32)), (.int (60 : Int32)), (.int (47 : Int32)), (.int (x0.toInt8.toInt32)), (.int (62 : Int32)), (.int (0 : Int32)), (.int (0 : Int32)), (.int (0 : Int32)), (.int (0 : Int32)), (.int (0 : Int32)), (.int (0 : Int32)), (.int (0 : Int32)), (.int (0 : Int32)), (.int (0 : Int32)), (.int (0 : Int32)), (.int (0 : Int32)), (.int (0 : Int32))]
abbrev own_L6 (x0 : Int32) : List Value := [(.int (60 : Int32)), (.int (33 : Int32)), (.int (68 : Int32)), (.int (79 : Int32)), (.int (67 : Int32)), (.int (84 : Int32)), (.int (89 : Int32)), (.int (80 : Int32)), (.int (69 : Int32)), (.int (32 : Int32)), (.int (104 : Int32)), (.int (116 : Int32)), (.int (109 : Int32)), (.int (108 : Int32)), (.int (62 : Int32)), (.int (10 : Int32)), (.int (60 : Int32)), (.int (47 : Int32)), (.int (x0.toInt8.toInt32)), (.int (62 : Int32))]
abbrev own_L7 (x0 : Int32) (x1 : Int32) : List Value := [(.int (60 : Int32)), (.int (33 : Int32)), (.int (68 : Int32)), (.int (79 : Int32)), (.int (67 : Int32)), (.int (84 : Int32)), (.int (89 : Int32)), (.int (80 : Int32)), (.int (69 : Int32)), (.int (32 : Int32)), (.int (104 : Int32)), (.int (116 : Int32)), (.int (109 : Int32)), (.int (108 : Int32)), (.int (62 : Int32)), (.int (10 : Int32)), (.int (60 : Int32)), (.int (47 : Int32)), (.int (x0.toInt8.toInt32)), (.int (x1.toInt8.toInt32)), (.int (62 : Int32)), (.int (0 : Int32)), (.int (0 : Int32)), (.int (0 : Int32)), (.int (0 : Int32)), (.int (0 : Int32)), (.int (0 : Int32)), (.int (0 : Int32)), (.int (0 : Int32)), (.int (0 : Int32)), (.int (0 : Int32)), (.int (0 : Int32))]
abbrev own_L8 (x0 : Int32) (x1 : Int32) : List Value := [(.int (60 : Int32)), (.int (33 : Int32)), (.int (68 : Int32)), (.int (79 : Int32)), (.int (67 : Int32)), (.int (84 : Int32)), (.int (89 : Int32)), (.int (80 : Int32)), (.int (69 : Int32)), (.int (32 : Int32)), (.int (104 : Int32)), (.int (116 : Int32)), (.int (109 : Int32)), (.int (108 : Int32)), (.int (62 : Int32)), (.int (10 : Int32)), (.int (60 : Int32)), (.int (47 : Int32)), (.int (x0.toInt8.toInt32)), (.int (x1.toInt8.toInt32)), (.int (62 : Int32))]
abbrev own_L9 (x0 : Int32) (x1 : Int32) (x2 : Int32) : List Value := [(.int (60 : Int32)), (.int (33 : Int32)), (.int (68 : Int32)), (.int (79 : Int32)), (.int (67 : Int32)), (.int (84 : Int32)), (.int (89 : Int32)), (.int (80 : Int32)), (.int (69 : Int32)), (.int (32 : Int32)), (.int (104 : Int32)), (.int (116 : Int32)), (.int (109 : Int32)), (.int (108 : Int32)), (.int (62 : Int32)), (.int (10 : Int32)), (.int (60 : Int32)), (.int (47 : Int32)), (.int (x0.toInt8.toInt32)), (.int (x1.toInt8.toInt32)), (.int (x2.toInt8.toInt32)), (.int (62 : Int32)), (.int (0 : Int32)), (.int (0 : Int32)), (.int (0 : Int32)), (.int (0 : Int32)), (.int (0 : Int32)), (.int (0 : Int32)), (.int (0 : Int32)), (.int (0 : Int32)), (.int (0 : Int32)), (.int (0 : Int32))]
abbrev own_L10 (x0 : Int32) (x1 : Int32) (x2 : Int32) : List Value := [(.int (60 : Int32)), (.int (33 : Int32)), (.int (68 : Int32)), (.int (79 : Int32)), (.int (67 : Int32)), (.int (84 : Int32)), (.int (89 : Int32)), (.int (80 : Int32)), (.int (69 : Int32)), (.int (32 : Int32)), (.int (104 : Int32)), (.int (116 : Int32)), (.int (109 : Int32)), (.int (108 : Int32)), (.int (62 : Int32)), (.int (10 : Int32)), (.int (60 : Int32)), (.int (47 : Int32)), (.int (x0.toInt8.toInt32)), (.int (x1.toInt8.toInt32)), (.int (x2.toInt8.toInt32)), (.int (62 : Int32))]
abbrev own_EL : List (String × Nat) := [("com/example/regent/regent/Html", 9), ("com/example/regent/regent/Html", 33), ("java/lang/String", 7)]
theorem own_EW {Z : State} {a0 : Array Value} (hw : ∀ d ∈ tables_1, d.before a0 Z = true) : EW Z a0 own_EL := (EW.cons (wd50 hw) (by decide) (EW.cons (wd125 hw) (by decide) (EW.cons (wd18 hw) (by decide) EW.nil)))
theorem own_wS {Z : State} {a0 : Array Value} (hw : ∀ d ∈ tables_1, d.before a0 Z = true) : ∀ a ∈ Bundle.stringAtoms, a.before a0 Z = true := fun d hd => hw d ((by decide +kernel : ∀ d ∈ Bundle.stringAtoms, d ∈ tables_1) d hd)
theorem own_safeNull {Z : State} {EL : List (String × Nat)} {vm : Vm} {h : Heap} {a : Addr} (hal : Z.vm.Alike vm) (E : Exa Z h a "java/lang/String") (F : Fld Z h a "java/lang/String" "value" "[B" .null) : Safe Z EL vm h a := fun B => by
  obtain ⟨p, -, u, a', -, q, -, G, rfl | rfl⟩ := B
  · obtain ⟨cell, cf, k, i, f, h1, h2, -, -, -, -, h7⟩ := F
    cases (show h[q.sa]? = some q.sC from G.ha).symm.trans h1
    obtain ⟨cS, ⟨⟨-, -, -, ⟨c1, k1, i1, g1, -⟩, -, -, -, g2, -⟩, -⟩, -⟩ := G
    obtain ⟨k', g3⟩ := ff_back (U := Wst Z vm h) hal g1
    cases g3.symm.trans h2
    rw [g2] at h7
    cases h7
  · obtain ⟨cell, k, e1, e2, -⟩ := E
    cases (show h[q.sd]? = some q.SA from G.hd).symm.trans e1
    obtain ⟨cS, -, -, f, -⟩ := G
    have f' : Z.vm.findClass "[B" = some q.SA.cls := by rw [← hal.findClass]; exact f
    exact ids_ne e2 f' (by decide) rfl
section OwnW
variable {p : Program} {l : Launch} {e : Env} {R : Room} {s : State} {m : MethodId} {args : Array Value} {below : List Frame} {meth : Method} {c : Code} {T : State} {locs : List Loc} {cells slots : Nat} {Z : State} {a0 : Array Value} {h : Heap} {vm0 : Vm} {EL : List (String × Nat)}
theorem own_retW {S : State} {Q : Option Value → Vm → Heap → List Loc → Prop} {C N k0 : Nat} (X : Stand p l e R (s.setVm vm0) m args below meth c T locs cells slots) (hS : s.Since vm0 k0) (hk : k0 ≤ T.heap.size) {v : Option Value} (hv : meth.sig.returnType = none → v = none) (hlocks : meth.locks = false) (hq : Q v T.vm T.heap locs) (hR : CHr Z EL s.vm s.heap T.vm T.heap) (hc : cells ≤ C) (hs : slots ≤ N)
    (k : ∀ fs, (∀ (f : JFrame) (acts : List Action), f.method = m → f.locked = none → f.entered = [] → (doReturn e (T.setTop f) acts v).1 = T.setFrames fs) → Steps p.tables e below S (T.setFrames fs)) :
    own_Done p e below (fun o U' => ∃ v L, o = .returned v ∧ Q v U'.vm U'.heap L ∧ CHr Z EL s.vm s.heap U'.vm U'.heap ∧ ReturnedEndW s o U' L C N) S := by
  obtain ⟨fs, hr, hrun, hended, h1, h2, h3, h4⟩ := X.leaveW hS hk hv hlocks
  exact ⟨_, _, k fs hr, hrun, hended, v, locs, rfl, hq, hR, h1, h2, h3, h4.mono hc hs⟩
theorem own_backW {y : MethodName} {bytes : ByteArray} {maxL : Nat} {ret : Option FieldType} {rm : Room} {len W : Nat} {as' : Array Value} {SL : List Addr} {Q : Option Value → Vm → Heap → List Loc → Prop}
    (hM : MetFree l y (head1 [Cond.code y bytes maxL ret] rm) (fun a U => a = as' ∧ Z.Warmed39 U.vm ∧ U.heap = h ∧ CHv Z EL U.vm h ∧ ∀ x ∈ SL, Safe Z EL U.vm h x) (fun _ _ _ _ _ => True) (fun _ U o U' => ∃ v L, o = .returned v ∧ Q v U'.vm U'.heap L ∧ CHr Z EL U.vm U.heap U'.vm U'.heap ∧ ReturnedEndW U o U' L rm.cells rm.slots))
    (hZ : Z.Warmed39 vm0) (wc : (Cond.code y bytes maxL ret).before a0 Z = true) (wz : (Cond.initialized y.cls).before a0 Z = true) (hf : rm.frames + 1 ≤ R.frames) (hl : W + (maxL + 11) + rm.locals ≤ R.locals) (hEL : EW Z a0 EL) (H : CHv Z EL vm0 h) (hSL : ∀ x ∈ SL, x < h.size ∧ Safe Z EL vm0 h x) :
    BackS l R p e below (s.setVm vm0) args y len W (fun A a => a = as' ∧ A.U.heap = h ∧ A.cells + rm.cells ≤ R.cells ∧ A.slots + rm.slots ≤ R.slots)
      (fun A _ v B => ∃ L, (Q v B.U.vm B.U.heap L ∧ CHr Z EL vm0 h B.U.vm B.U.heap) ∧ B.locs = A.locs ++ L ∧ B.cells = A.cells + rm.cells ∧ B.slots = A.slots + rm.slots) :=
  BackS.of_freeW (bytes := bytes) (maxL := maxL) (ret := ret) (E := fun _ first o t L k n => k = rm.cells ∧ n = rm.slots ∧ (∃ v, o = .returned v ∧ Q v t.vm t.heap L) ∧ CHr Z EL first.vm first.heap t.vm t.heap) hM hf hl
    (fun m meth c A a Y hp => have hU : Z.Warmed39 A.U.vm := wtrans (s := s.setVm vm0) hZ Y.warmed
      ⟨by show (Cond.and _ .tt).before a A.U = true; rw [Cond.before_and, mv hU wc]; rfl, mv hU wc, mv hU wz, hp.2.2.1, hp.2.2.2⟩)
    (fun m meth c A a g mk Y hp => have A1 := CHv.at Y hZ hEL H
      ⟨hp.1, wtrans (s := s.setVm vm0) hZ Y.warmed, hp.2.1, A1.1, fun x hx => A1.safe (hSL x hx).1 (hSL x hx).2⟩)
    (fun _ _ _ _ _ _ _ _ _ => trivial)
    (fun _ _ _ _ ⟨v, L, h1, h2, h3, h4⟩ => ⟨L, _, _, h4, rfl, rfl, ⟨v, h1, h2⟩, h3⟩)
    (fun m meth c A a g mk v t L k n Y hp _ _ q => by
      obtain ⟨e1, e2, ⟨v', e3, e4⟩, e5⟩ := q
      cases e3
      subst e1 e2
      have e6 : CHr Z EL A.U.vm h t.vm t.heap := by rw [← hp.2.1]; exact e5
      exact ⟨L, ⟨e4, (CHv.at Y hZ hEL H).trans e6⟩, rfl, rfl, rfl⟩)
end OwnW
theorem ov {p : Program} {e : Env} {below : List Frame} {P : Outcome → State → Prop} {S : State} {m : MethodId} (T : State) (pc : Nat) (A : Array Slot) (B : List Value) (k : ∀ t, Steps p.tables e below (T.setTop (mkF m pc A B)) t → Steps p.tables e below S t) (d : own_Done p e below P (T.setTop (mkF m pc A B))) : own_Done p e below P S := own_via k d
abbrev rm0_0_0_0 : Room := ({ frames := 0, cells := 0, slots := 0, locals := 0 } : Room)
abbrev rm1_0_0_13 : Room := ({ frames := 1, cells := 0, slots := 0, locals := 13 } : Room)
abbrev rm1_0_0_40 : Room := ({ frames := 1, cells := 0, slots := 0, locals := 40 } : Room)
abbrev rm2_0_0_55 : Room := ({ frames := 2, cells := 0, slots := 0, locals := 55 } : Room)
abbrev rm3_0_0_69 : Room := ({ frames := 3, cells := 0, slots := 0, locals := 69 } : Room)
abbrev rm4_0_0_83 : Room := ({ frames := 4, cells := 0, slots := 0, locals := 83 } : Room)
abbrev rm5_0_0_96 : Room := ({ frames := 5, cells := 0, slots := 0, locals := 96 } : Room)
abbrev rm1_0_0_14 : Room := ({ frames := 1, cells := 0, slots := 0, locals := 14 } : Room)
abbrev rm2_0_0_27 : Room := ({ frames := 2, cells := 0, slots := 0, locals := 27 } : Room)
abbrev rm1_1_32_40 : Room := ({ frames := 1, cells := 1, slots := 32, locals := 40 } : Room)
abbrev rm2_1_32_56 : Room := ({ frames := 2, cells := 1, slots := 32, locals := 56 } : Room)
abbrev rm1_0_0_12 : Room := ({ frames := 1, cells := 0, slots := 0, locals := 12 } : Room)
abbrev rm3_1_32_71 : Room := ({ frames := 3, cells := 1, slots := 32, locals := 71 } : Room)
abbrev rm4_1_32_87 : Room := ({ frames := 4, cells := 1, slots := 32, locals := 87 } : Room)
abbrev rm5_2_36_101 : Room := ({ frames := 5, cells := 2, slots := 36, locals := 101 } : Room)
abbrev rm1_4_8_12 : Room := ({ frames := 1, cells := 4, slots := 8, locals := 12 } : Room)
abbrev rm2_4_8_29 : Room := ({ frames := 2, cells := 4, slots := 8, locals := 29 } : Room)
abbrev rm6_1_32_109 : Room := ({ frames := 6, cells := 1, slots := 32, locals := 109 } : Room)
abbrev rm7_1_32_125 : Room := ({ frames := 7, cells := 1, slots := 32, locals := 125 } : Room)
abbrev rm8_4_104_140 : Room := ({ frames := 8, cells := 4, slots := 104, locals := 140 } : Room)
abbrev rm5_2_12_96 : Room := ({ frames := 5, cells := 2, slots := 12, locals := 96 } : Room)
abbrev rm6_2_36_113 : Room := ({ frames := 6, cells := 2, slots := 36, locals := 113 } : Room)
abbrev rm3_6_12_43 : Room := ({ frames := 3, cells := 6, slots := 12, locals := 43 } : Room)
abbrev rm4_3_42_66 : Room := ({ frames := 4, cells := 3, slots := 42, locals := 66 } : Room)
abbrev rm4_3_6_66 : Room := ({ frames := 4, cells := 3, slots := 6, locals := 66 } : Room)
abbrev rm4_3_44_66 : Room := ({ frames := 4, cells := 3, slots := 44, locals := 66 } : Room)
abbrev rm4_3_8_66 : Room := ({ frames := 4, cells := 3, slots := 8, locals := 66 } : Room)
abbrev rm4_3_46_66 : Room := ({ frames := 4, cells := 3, slots := 46, locals := 66 } : Room)
abbrev rm4_3_10_66 : Room := ({ frames := 4, cells := 3, slots := 10, locals := 66 } : Room)
abbrev rm4_3_48_66 : Room := ({ frames := 4, cells := 3, slots := 48, locals := 66 } : Room)
theorem own_and255 (y : Int32) : ¬ (y &&& (255 : Int32)).toUInt32.toUInt16.toUInt32.toInt32 < 0 ∧ ¬ (255 : Int32) < (y &&& (255 : Int32)).toUInt32.toUInt16.toUInt32.toInt32 := by
  have t : ∀ k : Fin 256, ¬ (Int32.ofNat k.val).toUInt32.toUInt16.toUInt32.toInt32 < 0 ∧ ¬ (255 : Int32) < (Int32.ofNat k.val).toUInt32.toUInt16.toUInt32.toInt32 := by decide +kernel
  have h : (y &&& 255).toBitVec.toNat < 256 := by
    simp only [Int32.toBitVec_and, BitVec.toNat_and]
    exact Nat.lt_succ_of_le Nat.and_le_right
  have e : y &&& 255 = Int32.ofNat (y &&& 255).toBitVec.toNat := by
    apply Int32.toBitVec_inj.mp
    apply BitVec.eq_of_toNat_eq
    simp only [Int32.toBitVec_ofNat', BitVec.toNat_ofNat]
    omega
  rw [e]
  exact t ⟨_, h⟩
theorem own_cases256 {c : Int32} (h : ¬ c < 0 ∧ ¬ (255 : Int32) < c) : ∃ k : Fin 256, c = Int32.ofNat k.val := by
  have h1 : 0 ≤ c.toInt := by have := h.1; rw [Int32.lt_iff_toInt_lt] at this; simpa using this
  have h2 : c.toInt ≤ 255 := by have := h.2; rw [Int32.lt_iff_toInt_lt] at this; have e : (255 : Int32).toInt = 255 := rfl; omega
  refine ⟨⟨c.toInt.toNat, by omega⟩, ?_⟩
  apply Int32.toInt_inj.mp
  rw [Int32.toInt_ofNat_small (by show c.toInt.toNat < 2 ^ 31; omega)]
  show c.toInt = (c.toInt.toNat : Int)
  omega
theorem own_narc {c : Int32} (h : ¬ c < 0 ∧ ¬ (255 : Int32) < c) : nar .char c = c := by
  obtain ⟨k, rfl⟩ := own_cases256 h
  have t : ∀ k : Fin 256, nar .char (Int32.ofNat k.val) = Int32.ofNat k.val := by decide +kernel
  exact t k
theorem own_fitc {c : Int32} (h : ¬ c < 0 ∧ ¬ (255 : Int32) < c) : fits .char (.int c) = true := by
  have q := fits_nar_char c
  rw [own_narc h] at q
  exact q
theorem own_up (cs : List Int32) (h : ∀ c ∈ cs, ¬ c < 0 ∧ ¬ (255 : Int32) < c) : ∀ c ∈ cs, ¬ c < 0 ∧ ¬ (65535 : Int32) < c := fun c hc => ⟨(h c hc).1, fun q => (h c hc).2 (by rw [Int32.lt_iff_toInt_lt] at q ⊢; have e1 : (65535 : Int32).toInt = 65535 := rfl; have e2 : (255 : Int32).toInt = 255 := rfl; omega)⟩
def Q_own_coder (Z : State) (xs : Addr) (zc : Int32) (h0 : Heap) (n0 : Nat) (v : Option Value) (h : Heap) (L : List Loc) : Prop := v = some (.int 0) ∧ L = [] ∧ h = h0
set_option maxRecDepth 65536 in
set_option maxHeartbeats 40000000 in
theorem own_coder (l : Launch) (Z : State) (a0 : Array Value) (hw : ∀ d ∈ tables_1, d.before a0 Z = true) (ws : List Jvm.Cond) (xs : Addr) (zc : Int32) (h0 : Heap) (n0 : Nat) (O0 : Old Z n0 h0) (zfC : Sta Z Z.heap "java/lang/String" "COMPACT_STRINGS" "Z" (.int zc)) (f0_F_xs_coder : Fld Z h0 xs "java/lang/String" "coder" "B" (.int 0)) (hzc : ¬ (zc = (0 : Int32))) :
    MetFree l mt0 (head1 (Jvm.Cond.code mt0 jdk_42_method_152_code 1 (some .byte) :: ws) rm0_0_0_0) (fun aq U => aq = #[.ref xs] ∧ Z.Warmed39 U.vm ∧ U.heap = h0) (fun _ _ _ _ _ => True) (fun _ U o U' => ∃ v L, o = .returned v ∧ Q_own_coder Z xs zc h0 n0 v U'.heap L ∧ FrameEnd U o U' L rm0_0_0_0.cells rm0_0_0_0.slots) := by
  refine MetFree.of_bodySF (plainFor_of_name pn_java_lang_String) hisR ?_
  intro p e s m args below meth c s₁ Bd hml0 hP hK
  obtain ⟨rfl, hZ, hh⟩ := hP
  have hx := Bd.exec
  have hby := Bd.bytes
  have hml : c.maxLocals = 1 := hml0
  have hown : s.vm.findClass "java/lang/String" = some m.cls := findClass_of_methodNamed Bd.named
  have hnm := (name_of_methodNamed Bd.named Bd.method).1
  have X0 : Stand p l e rm0_0_0_0 s m #[.ref xs] below meth c s₁ [] 0 0 := Stand.of_body Bd
  have e0 : s₁.heap = h0 := by rw [← hh, Bd.state]; rfl
  have N0 := Fr.nil n0
  have zO := O0.1
  have zO2 := O0.2.1
  have fl_F_xs_coder : h0.size > xs := f0_F_xs_coder.lt
  refine own_open (own_via (S' := s₁.setTop (mkF m 0 #[.val (.ref xs)] [])) (fun t k => castTop (ef_own_coder m xs) k) ?_)
  have cx1 : Sta Z h0 "java/lang/String" "COMPACT_STRINGS" "Z" (.int zc) := zfC.ext O0.2
  obtain ⟨T2, X2, e2, st2⟩ := getS2 X0 hx hZ hown (host := "") (Or.inl (wd29 hw)) Via.refl e0 cx1 (g := (mkF m 0 #[.val (.ref xs)] [])) rfl (hb hby d13_0)
  refine ov T2 3 #[.val (.ref xs)] [.int zc] st2 ?_
  refine ov T2 6 #[.val (.ref xs)] [] (fun t k => XS.ifNo X2.here hx rfl (hb hby d13_3) rfl ((if0 _ _).trans (feq hzc).1) k) ?_
  refine ov T2 7 #[.val (.ref xs)] [.ref xs] (fun t k => XS.aloadN X2.here hx rfl (hb hby d13_6) rfl rfl k) ?_
  obtain ⟨T3, X3, e3, st3⟩ := getF X2 hx hZ hown (host := "") (Or.inl (wd25 hw)) Via.refl e2 f0_F_xs_coder (g := (mkF m 7 #[.val (.ref xs)] [.ref xs])) rfl rfl (hb hby d13_7)
  refine ov T3 10 #[.val (.ref xs)] [.int 0] st3 ?_
  refine ov T3 14 #[.val (.ref xs)] [.int 0] (fun t k => XS.goto X3.here hx rfl (pc0 := 10) (pc' := 14) rfl (hb hby d13_10) (by decide) (by decide) k) ?_
  refine own_ret (Q := Q_own_coder Z xs zc h0 n0) (C := rm0_0_0_0.cells) (N := rm0_0_0_0.slots) X3 (v := some (.int 0)) (fun h => by rw [Bd.returns] at h; cases h) Bd.notSynchronized ?_ (by decide) (by decide) (fun fs hr => retN X3 hx (t := .byte) Bd.returns (by simp) (hb hby d13_14) hr)
  show Q_own_coder Z xs zc h0 n0 _ T3.heap _
  rw [e3]
  exact ⟨rfl, rfl, rfl⟩
def Q_own_len (Z : State) (xs : Addr) (tt : Addr) (kt : ClassId) (ki : Int32) (ys : List Value) (zc : Int32) (h0 : Heap) (n0 : Nat) (v : Option Value) (h : Heap) (L : List Loc) : Prop := v = some (.int ki) ∧ L = [] ∧ h = h0
set_option maxRecDepth 65536 in
set_option maxHeartbeats 40000000 in
theorem own_len (l : Launch) (Z : State) (a0 : Array Value) (hw : ∀ d ∈ tables_1, d.before a0 Z = true) (ws : List Jvm.Cond) (xs : Addr) (tt : Addr) (kt : ClassId) (ki : Int32) (ys : List Value) (zc : Int32) (h0 : Heap) (n0 : Nat) (O0 : Old Z n0 h0) (zfC : Sta Z Z.heap "java/lang/String" "COMPACT_STRINGS" "Z" (.int zc)) (f0_E_xs : Exa Z h0 xs "java/lang/String") (f0_F_xs_coder : Fld Z h0 xs "java/lang/String" "coder" "B" (.int 0)) (f0_F_xs_value : Fld Z h0 xs "java/lang/String" "value" "[B" (.ref tt)) (f0_A_tt : Arv Z h0 tt kt .byte ki ys (.int 0)) (hzc : ¬ (zc = (0 : Int32))) :
    MetFree l mt1 (head1 (Jvm.Cond.code mt1 jdk_42_method_54_code 1 (some .int) :: ws) rm1_0_0_13) (fun aq U => aq = #[.ref xs] ∧ Z.Warmed39 U.vm ∧ U.heap = h0) (fun _ _ _ _ _ => True) (fun _ U o U' => ∃ v L, o = .returned v ∧ Q_own_len Z xs tt kt ki ys zc h0 n0 v U'.heap L ∧ FrameEnd U o U' L rm1_0_0_13.cells rm1_0_0_13.slots) := by
  refine MetFree.of_bodySF (plainFor_of_name pn_java_lang_String) hisR ?_
  intro p e s m args below meth c s₁ Bd hml0 hP hK
  obtain ⟨rfl, hZ, hh⟩ := hP
  have hx := Bd.exec
  have hby := Bd.bytes
  have hml : c.maxLocals = 1 := hml0
  have hown : s.vm.findClass "java/lang/String" = some m.cls := findClass_of_methodNamed Bd.named
  have hnm := (name_of_methodNamed Bd.named Bd.method).1
  have X0 : Stand p l e rm1_0_0_13 s m #[.ref xs] below meth c s₁ [] 0 0 := Stand.of_body Bd
  have e0 : s₁.heap = h0 := by rw [← hh, Bd.state]; rfl
  have N0 := Fr.nil n0
  have zO := O0.1
  have zO2 := O0.2.1
  have fl_E_xs : h0.size > xs := f0_E_xs.lt
  have fl_F_xs_coder : h0.size > xs := f0_F_xs_coder.lt
  have fl_F_xs_value : h0.size > xs := f0_F_xs_value.lt
  have fl_A_tt : h0.size > tt := f0_A_tt.lt
  refine own_open (own_via (S' := s₁.setTop (mkF m 0 #[.val (.ref xs)] [])) (fun t k => castTop (ef_own_len m xs) k) ?_)
  have ne_xs_tt : xs ≠ tt := Exa.neArv f0_E_xs f0_A_tt (wd5 hw)
  refine ov s₁ 1 #[.val (.ref xs)] [.ref xs] (fun t k => XS.aloadN X0.here hx rfl (hb hby d12_0) rfl rfl k) ?_
  obtain ⟨T1, X1, e1, st1⟩ := getF X0 hx hZ hown (host := "") (Or.inl (wd24 hw)) Via.refl e0 f0_F_xs_value (g := (mkF m 1 #[.val (.ref xs)] [.ref xs])) rfl rfl (hb hby d12_1)
  refine ov T1 4 #[.val (.ref xs)] [.ref tt] st1 ?_
  obtain ⟨cl2, Ar2, -, S2, N2, -, -⟩ := id f0_A_tt
  refine ov T1 5 #[.val (.ref xs)] [.int ki] (fun t k => X1.arraylength hx (by first | (rw [e1]; exact Ar2.1) | exact Ar2.1) (State.isArrayOf_alike hZ.alike Ar2.2.1) (g := (mkF m 4 #[.val (.ref xs)] [.ref tt])) rfl rfl (hb hby d12_4) _ (by rw [len_of S2 N2]; exact k)) ?_
  refine ov T1 6 #[.val (.ref xs)] [.ref xs, .int ki] (fun t k => XS.aloadN X1.here hx rfl (hb hby d12_5) rfl rfl k) ?_
  obtain ⟨cq3, kq3, q3a, q3b, q3c⟩ := isOf hZ e1 f0_E_xs
  obtain ⟨_, _, ⟨T3, Lp3, kp3, np3⟩, -, X3, ⟨Lc3, hQ3, l3, y3, z3⟩, st3⟩ := X1.virtualBack hx (y := mt0) (z := mt0) hown (mvT hZ (wd66 hw)) (mvT hZ (wd67 hw)) (notFace_of_selects (args := #[]) (mvT hZ (wd69 hw))) (mvT hZ (wd69 hw)) (mvT hZ (wd68 hw)) (by decide) (backOf (W := 1) (own_coder l Z a0 hw [] xs zc h0 n0 O0 zfC f0_F_xs_coder (by first | assumption | exact Ne.symm (by assumption) | omega | exact Nat.ne_of_lt (by omega) | exact Nat.ne_of_gt (by omega) | decide | exact Nat.le_of_ble_eq_true rfl)) hZ (wd70 hw) (wd6 hw) (by decide) (by decide)) q3a q3c (g := (mkF m 6 #[.val (.ref xs)] [.ref xs, .int ki])) rfl (by rw [hml]; rfl) (Steps.refl _) (argsL := []) (rest := [.int ki]) (lenOf pd___B_147 rfl) rfl (by show 2 * 0 + _ ≤ _; exact Nat.le_of_eq rfl) (hb hby d12_6) (fun _ _ => ⟨rfl, e1, (by decide : 0 + 0 ≤ _), (by decide : 0 + 0 ≤ _)⟩)
  dsimp only [Pt.U, Pt.locs, Pt.cells, Pt.slots] at X3 l3 y3 z3 st3 hQ3
  subst Lp3 kp3 np3
  obtain ⟨rfl, rfl, e3⟩ := hQ3
  try rw [List.append_nil] at X3
  refine own_tr (S' := T3.setTop (mkF m 9 #[.val (.ref xs)] [.int 0, .int ki])) st3 ?_
  refine ov T3 10 #[.val (.ref xs)] [(.int (ki >>> ((0 : Int32) &&& 31)))] (fun t k => XS.ishr X3.here hx rfl (hb hby d12_9) rfl k) ?_
  rw [own_shr0]
  refine own_ret (Q := Q_own_len Z xs tt kt ki ys zc h0 n0) (C := rm1_0_0_13.cells) (N := rm1_0_0_13.slots) X3 (v := some (.int ki)) (fun h => by rw [Bd.returns] at h; cases h) Bd.notSynchronized ?_ (by decide) (by decide) (fun fs hr => retOut X3 hx Bd.returns rfl (Or.inl ⟨rfl, Or.inl rfl, _, rfl⟩) (hb hby d12_10) hr)
  show Q_own_len Z xs tt kt ki ys zc h0 n0 _ T3.heap _
  rw [e3]
  exact ⟨rfl, rfl, rfl⟩
def Q_own_isL1 (Z : State) (a : Addr) (zc : Int32) (h0 : Heap) (n0 : Nat) (v : Option Value) (h : Heap) (L : List Loc) : Prop := v = some (.int 1) ∧ L = [] ∧ h = h0
set_option maxRecDepth 65536 in
set_option maxHeartbeats 40000000 in
theorem own_isL1 (l : Launch) (Z : State) (a0 : Array Value) (hw : ∀ d ∈ tables_1, d.before a0 Z = true) (ws : List Jvm.Cond) (a : Addr) (zc : Int32) (h0 : Heap) (n0 : Nat) (O0 : Old Z n0 h0) (zfC : Sta Z Z.heap "java/lang/String" "COMPACT_STRINGS" "Z" (.int zc)) (f0_F_a_coder : Fld Z h0 a "java/lang/AbstractStringBuilder" "coder" "B" (.int 0)) (hzc : ¬ (zc = (0 : Int32))) :
    MetFree l mt2 (head1 (Jvm.Cond.code mt2 jdk_68_method_68_code 1 (some .boolean) :: ws) rm0_0_0_0) (fun aq U => aq = #[.ref a] ∧ Z.Warmed39 U.vm ∧ U.heap = h0) (fun _ _ _ _ _ => True) (fun _ U o U' => ∃ v L, o = .returned v ∧ Q_own_isL1 Z a zc h0 n0 v U'.heap L ∧ FrameEnd U o U' L rm0_0_0_0.cells rm0_0_0_0.slots) := by
  refine MetFree.of_bodySF (plainFor_of_name pn_java_lang_AbstractStringBuilder) hisR ?_
  intro p e s m args below meth c s₁ Bd hml0 hP hK
  obtain ⟨rfl, hZ, hh⟩ := hP
  have hx := Bd.exec
  have hby := Bd.bytes
  have hml : c.maxLocals = 1 := hml0
  have hown : s.vm.findClass "java/lang/AbstractStringBuilder" = some m.cls := findClass_of_methodNamed Bd.named
  have hnm := (name_of_methodNamed Bd.named Bd.method).1
  have X0 : Stand p l e rm0_0_0_0 s m #[.ref a] below meth c s₁ [] 0 0 := Stand.of_body Bd
  have e0 : s₁.heap = h0 := by rw [← hh, Bd.state]; rfl
  have N0 := Fr.nil n0
  have zO := O0.1
  have zO2 := O0.2.1
  have fl_F_a_coder : h0.size > a := f0_F_a_coder.lt
  refine own_open (own_via (S' := s₁.setTop (mkF m 0 #[.val (.ref a)] [])) (fun t k => castTop (ef_own_isL1 m a) k) ?_)
  have cx1 : Sta Z h0 "java/lang/String" "COMPACT_STRINGS" "Z" (.int zc) := zfC.ext O0.2
  obtain ⟨T2, X2, e2, st2⟩ := getS2 X0 hx hZ hown (host := "") (Or.inl (wd108 hw)) Via.refl e0 cx1 (g := (mkF m 0 #[.val (.ref a)] [])) rfl (hb hby d24_0)
  refine ov T2 3 #[.val (.ref a)] [.int zc] st2 ?_
  refine ov T2 6 #[.val (.ref a)] [] (fun t k => XS.ifNo X2.here hx rfl (hb hby d24_3) rfl ((if0 _ _).trans (feq hzc).1) k) ?_
  refine ov T2 7 #[.val (.ref a)] [.ref a] (fun t k => XS.aloadN X2.here hx rfl (hb hby d24_6) rfl rfl k) ?_
  obtain ⟨T3, X3, e3, st3⟩ := getF X2 hx hZ hown (host := "") (Or.inl (wd73 hw)) Via.refl e2 f0_F_a_coder (g := (mkF m 7 #[.val (.ref a)] [.ref a])) rfl rfl (hb hby d24_7)
  refine ov T3 10 #[.val (.ref a)] [.int 0] st3 ?_
  refine ov T3 13 #[.val (.ref a)] [] (fun t k => XS.ifNo X3.here hx rfl (hb hby d24_10) rfl ((if0 _ _).trans (teq (by decide : (0 : Int32) = (0 : Int32))).2) k) ?_
  refine ov T3 14 #[.val (.ref a)] [.int 1] (fun t k => XS.iconst X3.here hx rfl (hb hby d24_13) k) ?_
  refine ov T3 18 #[.val (.ref a)] [.int 1] (fun t k => XS.goto X3.here hx rfl (pc0 := 14) (pc' := 18) rfl (hb hby d24_14) (by decide) (by decide) k) ?_
  refine own_ret (Q := Q_own_isL1 Z a zc h0 n0) (C := rm0_0_0_0.cells) (N := rm0_0_0_0.slots) X3 (v := some (.int 1)) (fun h => by rw [Bd.returns] at h; cases h) Bd.notSynchronized ?_ (by decide) (by decide) (fun fs hr => retN X3 hx (t := .boolean) Bd.returns (by simp) (hb hby d24_18) hr)
  show Q_own_isL1 Z a zc h0 n0 _ T3.heap _
  rw [e3]
  exact ⟨rfl, rfl, rfl⟩
def Q_own_ens (Z : State) (a : Addr) (mc : Int32) (dd : Addr) (kd : ClassId) (vs : List Value) (h0 : Heap) (n0 : Nat) (v : Option Value) (h : Heap) (L : List Loc) : Prop := v = none ∧ L = [] ∧ h = h0
set_option maxRecDepth 65536 in
set_option maxHeartbeats 40000000 in
theorem own_ens (l : Launch) (Z : State) (a0 : Array Value) (hw : ∀ d ∈ tables_1, d.before a0 Z = true) (ws : List Jvm.Cond) (a : Addr) (mc : Int32) (dd : Addr) (kd : ClassId) (vs : List Value) (h0 : Heap) (n0 : Nat) (O0 : Old Z n0 h0) (f0_F_a_value : Fld Z h0 a "java/lang/AbstractStringBuilder" "value" "[B" (.ref dd)) (f0_F_a_coder : Fld Z h0 a "java/lang/AbstractStringBuilder" "coder" "B" (.int 0)) (f0_A_dd : Arv Z h0 dd kd .byte (32 : Int32) vs (.int 0)) (hcap : ¬ ((0 : Int32) < (mc - (32 : Int32)))) :
    MetFree l mt3 (head1 (Jvm.Cond.code mt3 jdk_68_method_9_code 3 none :: ws) rm0_0_0_0) (fun aq U => aq = #[.ref a, .int mc] ∧ Z.Warmed39 U.vm ∧ U.heap = h0) (fun _ _ _ _ _ => True) (fun _ U o U' => ∃ v L, o = .returned v ∧ Q_own_ens Z a mc dd kd vs h0 n0 v U'.heap L ∧ FrameEnd U o U' L rm0_0_0_0.cells rm0_0_0_0.slots) := by
  refine MetFree.of_bodySF (plainFor_of_name pn_java_lang_AbstractStringBuilder) hisR ?_
  intro p e s m args below meth c s₁ Bd hml0 hP hK
  obtain ⟨rfl, hZ, hh⟩ := hP
  have hx := Bd.exec
  have hby := Bd.bytes
  have hml : c.maxLocals = 3 := hml0
  have hown : s.vm.findClass "java/lang/AbstractStringBuilder" = some m.cls := findClass_of_methodNamed Bd.named
  have hnm := (name_of_methodNamed Bd.named Bd.method).1
  have X0 : Stand p l e rm0_0_0_0 s m #[.ref a, .int mc] below meth c s₁ [] 0 0 := Stand.of_body Bd
  have e0 : s₁.heap = h0 := by rw [← hh, Bd.state]; rfl
  have N0 := Fr.nil n0
  have zO := O0.1
  have zO2 := O0.2.1
  have fl_F_a_value : h0.size > a := f0_F_a_value.lt
  have fl_F_a_coder : h0.size > a := f0_F_a_coder.lt
  have fl_A_dd : h0.size > dd := f0_A_dd.lt
  refine own_open (own_via (S' := s₁.setTop (mkF m 0 #[.val (.ref a), .val (.int mc), .unset] [])) (fun t k => castTop (ef_own_ens m a mc) k) ?_)
  refine ov s₁ 1 #[.val (.ref a), .val (.int mc), .unset] [.ref a] (fun t k => XS.aloadN X0.here hx rfl (hb hby d17_0) rfl rfl k) ?_
  obtain ⟨T1, X1, e1, st1⟩ := getF X0 hx hZ hown (host := "") (Or.inl (wd75 hw)) Via.refl e0 f0_F_a_value (g := (mkF m 1 #[.val (.ref a), .val (.int mc), .unset] [.ref a])) rfl rfl (hb hby d17_1)
  refine ov T1 4 #[.val (.ref a), .val (.int mc), .unset] [.ref dd] st1 ?_
  obtain ⟨cl2, Ar2, -, S2, N2, -, -⟩ := id f0_A_dd
  refine ov T1 5 #[.val (.ref a), .val (.int mc), .unset] [.int 32] (fun t k => X1.arraylength hx (by first | (rw [e1]; exact Ar2.1) | exact Ar2.1) (State.isArrayOf_alike hZ.alike Ar2.2.1) (g := (mkF m 4 #[.val (.ref a), .val (.int mc), .unset] [.ref dd])) rfl rfl (hb hby d17_4) _ (by rw [len_of S2 N2]; exact k)) ?_
  refine ov T1 6 #[.val (.ref a), .val (.int mc), .unset] [.ref a, .int 32] (fun t k => XS.aloadN X1.here hx rfl (hb hby d17_5) rfl rfl k) ?_
  obtain ⟨T3, X3, e3, st3⟩ := getF X1 hx hZ hown (host := "") (Or.inl (wd73 hw)) Via.refl e1 f0_F_a_coder (g := (mkF m 6 #[.val (.ref a), .val (.int mc), .unset] [.ref a, .int 32])) rfl rfl (hb hby d17_6)
  refine ov T3 9 #[.val (.ref a), .val (.int mc), .unset] [.int 0, .int 32] st3 ?_
  refine ov T3 10 #[.val (.ref a), .val (.int mc), .unset] [.int 32] (fun t k => XS.ishr X3.here hx rfl (hb hby d17_9) rfl k) ?_
  refine ov T3 11 #[.val (.ref a), .val (.int mc), .val (.int 32)] [] (fun t k => XS.istoreN X3.here hx rfl (hb hby d17_10) rfl (l' := #[.val (.ref a), .val (.int mc), .val (.int 32)]) rfl k) ?_
  refine ov T3 12 #[.val (.ref a), .val (.int mc), .val (.int 32)] [.int mc] (fun t k => XS.iloadN X3.here hx rfl (hb hby d17_11) rfl k) ?_
  refine ov T3 13 #[.val (.ref a), .val (.int mc), .val (.int 32)] [.int 32, .int mc] (fun t k => XS.iloadN X3.here hx rfl (hb hby d17_12) rfl k) ?_
  refine ov T3 14 #[.val (.ref a), .val (.int mc), .val (.int 32)] [(.int (mc - (32 : Int32)))] (fun t k => XS.isub X3.here hx rfl (hb hby d17_13) rfl k) ?_
  refine ov T3 38 #[.val (.ref a), .val (.int mc), .val (.int 32)] [] (fun t k => XS.ifYes X3.here hx rfl (pc0 := 14) (pc' := 38) rfl (hb hby d17_14) rfl ((if0 _ _).trans (flt hcap).2.2.2) (by decide) (by decide) k) ?_
  refine own_ret (Q := Q_own_ens Z a mc dd kd vs h0 n0) (C := rm0_0_0_0.cells) (N := rm0_0_0_0.slots) X3 (v := none) (fun _ => rfl) Bd.notSynchronized ?_ (by decide) (by decide) (fun fs hr => X3.returnOut hx Bd.returns (hb hby d17_38) hr)
  show Q_own_ens Z a mc dd kd vs h0 n0 _ T3.heap _
  rw [e3]
  exact ⟨rfl, rfl, rfl⟩
def Q_own_infl (Z : State) (a : Addr) (xs : Addr) (zc : Int32) (h0 : Heap) (n0 : Nat) (v : Option Value) (h : Heap) (L : List Loc) : Prop := v = none ∧ L = [] ∧ h = h0
set_option maxRecDepth 65536 in
set_option maxHeartbeats 40000000 in
theorem own_infl (l : Launch) (Z : State) (a0 : Array Value) (hw : ∀ d ∈ tables_1, d.before a0 Z = true) (ws : List Jvm.Cond) (a : Addr) (xs : Addr) (zc : Int32) (h0 : Heap) (n0 : Nat) (O0 : Old Z n0 h0) (zfC : Sta Z Z.heap "java/lang/String" "COMPACT_STRINGS" "Z" (.int zc)) (f0_F_a_coder : Fld Z h0 a "java/lang/AbstractStringBuilder" "coder" "B" (.int 0)) (f0_E_xs : Exa Z h0 xs "java/lang/String") (f0_F_xs_coder : Fld Z h0 xs "java/lang/String" "coder" "B" (.int 0)) (hzc : ¬ (zc = (0 : Int32))) :
    MetFree l mt4 (head1 (Jvm.Cond.code mt4 jdk_68_method_71_code 2 none :: ws) rm1_0_0_13) (fun aq U => aq = #[.ref a, .ref xs] ∧ Z.Warmed39 U.vm ∧ U.heap = h0) (fun _ _ _ _ _ => True) (fun _ U o U' => ∃ v L, o = .returned v ∧ Q_own_infl Z a xs zc h0 n0 v U'.heap L ∧ FrameEnd U o U' L rm1_0_0_13.cells rm1_0_0_13.slots) := by
  refine MetFree.of_bodySF (plainFor_of_name pn_java_lang_AbstractStringBuilder) hisR ?_
  intro p e s m args below meth c s₁ Bd hml0 hP hK
  obtain ⟨rfl, hZ, hh⟩ := hP
  have hx := Bd.exec
  have hby := Bd.bytes
  have hml : c.maxLocals = 2 := hml0
  have hown : s.vm.findClass "java/lang/AbstractStringBuilder" = some m.cls := findClass_of_methodNamed Bd.named
  have hnm := (name_of_methodNamed Bd.named Bd.method).1
  have X0 : Stand p l e rm1_0_0_13 s m #[.ref a, .ref xs] below meth c s₁ [] 0 0 := Stand.of_body Bd
  have e0 : s₁.heap = h0 := by rw [← hh, Bd.state]; rfl
  have N0 := Fr.nil n0
  have zO := O0.1
  have zO2 := O0.2.1
  have fl_F_a_coder : h0.size > a := f0_F_a_coder.lt
  have fl_E_xs : h0.size > xs := f0_E_xs.lt
  have fl_F_xs_coder : h0.size > xs := f0_F_xs_coder.lt
  refine own_open (own_via (S' := s₁.setTop (mkF m 0 #[.val (.ref a), .val (.ref xs)] [])) (fun t k => castTop (ef_own_infl m a xs) k) ?_)
  have cx1 : Sta Z h0 "java/lang/String" "COMPACT_STRINGS" "Z" (.int zc) := zfC.ext O0.2
  obtain ⟨T2, X2, e2, st2⟩ := getS2 X0 hx hZ hown (host := "") (Or.inl (wd108 hw)) Via.refl e0 cx1 (g := (mkF m 0 #[.val (.ref a), .val (.ref xs)] [])) rfl (hb hby d19_0)
  refine ov T2 3 #[.val (.ref a), .val (.ref xs)] [.int zc] st2 ?_
  refine ov T2 6 #[.val (.ref a), .val (.ref xs)] [] (fun t k => XS.ifNo X2.here hx rfl (hb hby d19_3) rfl ((if0 _ _).trans (feq hzc).1) k) ?_
  refine ov T2 7 #[.val (.ref a), .val (.ref xs)] [.ref a] (fun t k => XS.aloadN X2.here hx rfl (hb hby d19_6) rfl rfl k) ?_
  obtain ⟨T3, X3, e3, st3⟩ := getF X2 hx hZ hown (host := "") (Or.inl (wd73 hw)) Via.refl e2 f0_F_a_coder (g := (mkF m 7 #[.val (.ref a), .val (.ref xs)] [.ref a])) rfl rfl (hb hby d19_7)
  refine ov T3 10 #[.val (.ref a), .val (.ref xs)] [.int 0] st3 ?_
  refine ov T3 11 #[.val (.ref a), .val (.ref xs)] [.ref xs, .int 0] (fun t k => XS.aloadN X3.here hx rfl (hb hby d19_10) rfl rfl k) ?_
  obtain ⟨cq4, kq4, q4a, q4b, q4c⟩ := isOf hZ e3 f0_E_xs
  obtain ⟨_, _, ⟨T4, Lp4, kp4, np4⟩, -, X4, ⟨Lc4, hQ4, l4, y4, z4⟩, st4⟩ := X3.virtualBack hx (y := mt0) (z := mt0) hown (mvT hZ (wd72 hw)) (mvT hZ (wd67 hw)) (notFace_of_selects (args := #[]) (mvT hZ (wd69 hw))) (mvT hZ (wd69 hw)) (mvT hZ (wd68 hw)) (by decide) (backOf (W := 1) (own_coder l Z a0 hw [] xs zc h0 n0 O0 zfC f0_F_xs_coder (by first | assumption | exact Ne.symm (by assumption) | omega | exact Nat.ne_of_lt (by omega) | exact Nat.ne_of_gt (by omega) | decide | exact Nat.le_of_ble_eq_true rfl)) hZ (wd70 hw) (wd6 hw) (by decide) (by decide)) q4a q4c (g := (mkF m 11 #[.val (.ref a), .val (.ref xs)] [.ref xs, .int 0])) rfl (by rw [hml]; rfl) (Steps.refl _) (argsL := []) (rest := [.int 0]) (lenOf pd___B_147 rfl) rfl (by show 2 * 0 + _ ≤ _; exact Nat.le_of_eq rfl) (hb hby d19_11) (fun _ _ => ⟨rfl, e3, (by decide : 0 + 0 ≤ _), (by decide : 0 + 0 ≤ _)⟩)
  dsimp only [Pt.U, Pt.locs, Pt.cells, Pt.slots] at X4 l4 y4 z4 st4 hQ4
  subst Lp4 kp4 np4
  obtain ⟨rfl, rfl, e4⟩ := hQ4
  try rw [List.append_nil] at X4
  refine own_tr (S' := T4.setTop (mkF m 14 #[.val (.ref a), .val (.ref xs)] [.int 0, .int 0])) st4 ?_
  refine ov T4 21 #[.val (.ref a), .val (.ref xs)] [] (fun t k => XS.icmpYes X4.here hx rfl (pc0 := 14) (pc' := 21) rfl (hb hby d19_14) rfl (teq (by decide : (0 : Int32) = (0 : Int32))).1 (by decide) (by decide) k) ?_
  refine own_ret (Q := Q_own_infl Z a xs zc h0 n0) (C := rm1_0_0_13.cells) (N := rm1_0_0_13.slots) X4 (v := none) (fun _ => rfl) Bd.notSynchronized ?_ (by decide) (by decide) (fun fs hr => X4.returnOut hx Bd.returns (hb hby d19_21) hr)
  show Q_own_infl Z a xs zc h0 n0 _ T4.heap _
  rw [e4]
  exact ⟨rfl, rfl, rfl⟩
def Q_own_gb (Z : State) (xs : Addr) (tt : Addr) (kt : ClassId) (ki : Int32) (ys : List Value) (zc : Int32) (dd : Addr) (kd : ClassId) (vs : List Value) (ci : Int32) (h0 : Heap) (n0 : Nat) (v : Option Value) (h : Heap) (L : List Loc) : Prop := v = none ∧ Fr n0 L ∧ Keep h0 h [dd] ∧ Arv Z h dd kd .byte (32 : Int32) (own_cp vs ys ci (0 : Int32) ki) (.int 0)
set_option maxRecDepth 65536 in
set_option maxHeartbeats 40000000 in
theorem own_gb (l : Launch) (Z : State) (a0 : Array Value) (hw : ∀ d ∈ tables_1, d.before a0 Z = true) (ws : List Jvm.Cond) (xs : Addr) (tt : Addr) (kt : ClassId) (ki : Int32) (ys : List Value) (zc : Int32) (dd : Addr) (kd : ClassId) (vs : List Value) (ci : Int32) (h0 : Heap) (n0 : Nat) (O0 : Old Z n0 h0) (zfC : Sta Z Z.heap "java/lang/String" "COMPACT_STRINGS" "Z" (.int zc)) (f0_E_xs : Exa Z h0 xs "java/lang/String") (f0_F_xs_coder : Fld Z h0 xs "java/lang/String" "coder" "B" (.int 0)) (f0_F_xs_value : Fld Z h0 xs "java/lang/String" "value" "[B" (.ref tt)) (f0_A_tt : Arv Z h0 tt kt .byte ki ys (.int 0)) (f0_A_dd : Arv Z h0 dd kd .byte (32 : Int32) vs (.int 0)) (hzc : ¬ (zc = (0 : Int32))) (hci : ¬ ci < (0 : Int32)) (hki : ¬ ki < (0 : Int32)) (hb1 : ci.toNatClampNeg + ki.toNatClampNeg ≤ (32 : Int32).toNatClampNeg) (hb2 : ci.toNatClampNeg + ki.toNatClampNeg ≤ vs.length) (g_d : n0 ≤ dd) (ntd : tt ≠ dd) :
    MetFree l mt5 (head1 (Jvm.Cond.code mt5 jdk_42_method_147_code 4 none :: ws) rm1_0_0_40) (fun aq U => aq = #[.ref xs, .ref dd, .int ci, .int 0] ∧ Z.Warmed39 U.vm ∧ U.heap = h0) (fun _ _ _ _ _ => True) (fun _ U o U' => ∃ v L, o = .returned v ∧ Q_own_gb Z xs tt kt ki ys zc dd kd vs ci h0 n0 v U'.heap L ∧ FrameEnd U o U' L rm1_0_0_40.cells rm1_0_0_40.slots) := by
  refine MetFree.of_bodySF (plainFor_of_name pn_java_lang_String) hisR ?_
  intro p e s m args below meth c s₁ Bd hml0 hP hK
  obtain ⟨rfl, hZ, hh⟩ := hP
  have hx := Bd.exec
  have hby := Bd.bytes
  have hml : c.maxLocals = 4 := hml0
  have hown : s.vm.findClass "java/lang/String" = some m.cls := findClass_of_methodNamed Bd.named
  have hnm := (name_of_methodNamed Bd.named Bd.method).1
  have X0 : Stand p l e rm1_0_0_40 s m #[.ref xs, .ref dd, .int ci, .int 0] below meth c s₁ [] 0 0 := Stand.of_body Bd
  have e0 : s₁.heap = h0 := by rw [← hh, Bd.state]; rfl
  have N0 := Fr.nil n0
  have zO := O0.1
  have zO2 := O0.2.1
  have fl_E_xs : h0.size > xs := f0_E_xs.lt
  have fl_F_xs_coder : h0.size > xs := f0_F_xs_coder.lt
  have fl_F_xs_value : h0.size > xs := f0_F_xs_value.lt
  have fl_A_tt : h0.size > tt := f0_A_tt.lt
  have fl_A_dd : h0.size > dd := f0_A_dd.lt
  refine own_open (own_via (S' := s₁.setTop (mkF m 0 #[.val (.ref xs), .val (.ref dd), .val (.int ci), .val (.int 0)] [])) (fun t k => castTop (ef_own_gb m xs dd ci (0 : Int32)) k) ?_)
  have K0 : Keep h0 h0 [dd] := Keep.refl _ _
  have ne_xs_tt : xs ≠ tt := Exa.neArv f0_E_xs f0_A_tt (wd5 hw)
  have ne_xs_dd : xs ≠ dd := Exa.neArv f0_E_xs f0_A_dd (wd5 hw)
  refine ov s₁ 1 #[.val (.ref xs), .val (.ref dd), .val (.int ci), .val (.int 0)] [.ref xs] (fun t k => XS.aloadN X0.here hx rfl (hb hby d20_0) rfl rfl k) ?_
  obtain ⟨cq1, kq1, q1a, q1b, q1c⟩ := isOf hZ e0 f0_E_xs
  obtain ⟨_, _, ⟨T1, Lp1, kp1, np1⟩, -, X1, ⟨Lc1, hQ1, l1, y1, z1⟩, st1⟩ := X0.virtualBack hx (y := mt0) (z := mt0) hown (mvT hZ (wd66 hw)) (mvT hZ (wd67 hw)) (notFace_of_selects (args := #[]) (mvT hZ (wd69 hw))) (mvT hZ (wd69 hw)) (mvT hZ (wd68 hw)) (by decide) (backOf (W := 0) (own_coder l Z a0 hw [] xs zc h0 n0 O0 zfC f0_F_xs_coder (by first | assumption | exact Ne.symm (by assumption) | omega | exact Nat.ne_of_lt (by omega) | exact Nat.ne_of_gt (by omega) | decide | exact Nat.le_of_ble_eq_true rfl)) hZ (wd70 hw) (wd6 hw) (by decide) (by decide)) q1a q1c (g := (mkF m 1 #[.val (.ref xs), .val (.ref dd), .val (.int ci), .val (.int 0)] [.ref xs])) rfl (by rw [hml]; rfl) (Steps.refl _) (argsL := []) (rest := []) (lenOf pd___B_147 rfl) rfl (by show 2 * 0 + _ ≤ _; exact Nat.le_of_eq rfl) (hb hby d20_1) (fun _ _ => ⟨rfl, e0, (by decide : 0 + 0 ≤ _), (by decide : 0 + 0 ≤ _)⟩)
  dsimp only [Pt.U, Pt.locs, Pt.cells, Pt.slots] at X1 l1 y1 z1 st1 hQ1
  subst Lp1 kp1 np1
  obtain ⟨rfl, rfl, e1⟩ := hQ1
  try rw [List.append_nil] at X1
  refine own_tr (S' := T1.setTop (mkF m 4 #[.val (.ref xs), .val (.ref dd), .val (.int ci), .val (.int 0)] [.int 0])) st1 ?_
  refine ov T1 5 #[.val (.ref xs), .val (.ref dd), .val (.int ci), .val (.int 0)] [.int 0, .int 0] (fun t k => XS.iloadN X1.here hx rfl (hb hby d20_4) rfl k) ?_
  refine ov T1 8 #[.val (.ref xs), .val (.ref dd), .val (.int ci), .val (.int 0)] [] (fun t k => XS.icmpNo X1.here hx rfl (hb hby d20_5) rfl (teq (by decide : (0 : Int32) = (0 : Int32))).2 k) ?_
  refine ov T1 9 #[.val (.ref xs), .val (.ref dd), .val (.int ci), .val (.int 0)] [.ref xs] (fun t k => XS.aloadN X1.here hx rfl (hb hby d20_8) rfl rfl k) ?_
  obtain ⟨T2, X2, e2, st2⟩ := getF X1 hx hZ hown (host := "") (Or.inl (wd24 hw)) Via.refl e1 f0_F_xs_value (g := (mkF m 9 #[.val (.ref xs), .val (.ref dd), .val (.int ci), .val (.int 0)] [.ref xs])) rfl rfl (hb hby d20_9)
  refine ov T2 12 #[.val (.ref xs), .val (.ref dd), .val (.int ci), .val (.int 0)] [.ref tt] st2 ?_
  refine ov T2 13 #[.val (.ref xs), .val (.ref dd), .val (.int ci), .val (.int 0)] [.int 0, .ref tt] (fun t k => XS.iconst X2.here hx rfl (hb hby d20_12) k) ?_
  refine ov T2 14 #[.val (.ref xs), .val (.ref dd), .val (.int ci), .val (.int 0)] [.ref dd, .int 0, .ref tt] (fun t k => XS.aloadN X2.here hx rfl (hb hby d20_13) rfl rfl k) ?_
  refine ov T2 15 #[.val (.ref xs), .val (.ref dd), .val (.int ci), .val (.int 0)] [.int ci, .ref dd, .int 0, .ref tt] (fun t k => XS.iloadN X2.here hx rfl (hb hby d20_14) rfl k) ?_
  refine ov T2 16 #[.val (.ref xs), .val (.ref dd), .val (.int ci), .val (.int 0)] [.int 0, .int ci, .ref dd, .int 0, .ref tt] (fun t k => XS.iloadN X2.here hx rfl (hb hby d20_15) rfl k) ?_
  refine ov T2 17 #[.val (.ref xs), .val (.ref dd), .val (.int ci), .val (.int 0)] [(.int (ci <<< ((0 : Int32) &&& 31))), .ref dd, .int 0, .ref tt] (fun t k => XS.ishl X2.here hx rfl (hb hby d20_16) rfl k) ?_
  rw [own_shl0]
  refine ov T2 18 #[.val (.ref xs), .val (.ref dd), .val (.int ci), .val (.int 0)] [.ref xs, .int ci, .ref dd, .int 0, .ref tt] (fun t k => XS.aloadN X2.here hx rfl (hb hby d20_17) rfl rfl k) ?_
  obtain ⟨T3, X3, e3, st3⟩ := getF X2 hx hZ hown (host := "") (Or.inl (wd24 hw)) Via.refl e2 f0_F_xs_value (g := (mkF m 18 #[.val (.ref xs), .val (.ref dd), .val (.int ci), .val (.int 0)] [.ref xs, .int ci, .ref dd, .int 0, .ref tt])) rfl rfl (hb hby d20_18)
  refine ov T3 21 #[.val (.ref xs), .val (.ref dd), .val (.int ci), .val (.int 0)] [.ref tt, .int ci, .ref dd, .int 0, .ref tt] st3 ?_
  obtain ⟨cl4, Ar4, -, S4, N4, -, -⟩ := id f0_A_tt
  refine ov T3 22 #[.val (.ref xs), .val (.ref dd), .val (.int ci), .val (.int 0)] [.int ki, .int ci, .ref dd, .int 0, .ref tt] (fun t k => X3.arraylength hx (by first | (rw [e3]; exact Ar4.1) | exact Ar4.1) (State.isArrayOf_alike hZ.alike Ar4.2.1) (g := (mkF m 21 #[.val (.ref xs), .val (.ref dd), .val (.int ci), .val (.int 0)] [.ref tt, .int ci, .ref dd, .int 0, .ref tt])) rfl rfl (hb hby d20_21) _ (by rw [len_of S4 N4]; exact k)) ?_
  obtain ⟨T5, h5, L5, X5, e5, N5, K5q, V5, st5⟩ := cpA X3 hx hZ hown (wd114 hw) (wd117 hw) (wd115 hw) (wd116 hw) e3 f0_A_tt f0_A_dd (Or.inl ⟨rfl, rfl⟩) (by decide) hci hki (by show 0 + _ ≤ _; omega) hb1 rfl hb2 N0 (by omega : n0 ≤ dd) (g := (mkF m 22 #[.val (.ref xs), .val (.ref dd), .val (.int ci), .val (.int 0)] [.int ki, .int ci, .ref dd, .int 0, .ref tt])) rfl (by rw [hml]; rfl) rfl (hb hby d20_22) (by decide) (W := 0) (by show 2 * 0 + _ ≤ _; exact Nat.le_of_eq rfl) (by decide)
  have sz6 : h0.size ≤ h5.size := K5q.1
  have O7 : Old Z n0 h5 := O0.keep K5q (allS (by omega : n0 ≤ dd) all0)
  have K8 : Keep h0 h5 [dd] := K0.trans K5q (allS (P := fun x => x ∈ [dd] ∨ h0.size ≤ x) (Or.inl (List.mem_of_getElem? (i := 0) rfl)) all0)
  have Va5 : Arv Z h5 dd kd .byte (32 : Int32) (own_cp vs ys ci (0 : Int32) ki) (.int 0) := V5
  refine ov T5 25 #[.val (.ref xs), .val (.ref dd), .val (.int ci), .val (.int 0)] [] st5 ?_
  refine ov T5 43 #[.val (.ref xs), .val (.ref dd), .val (.int ci), .val (.int 0)] [] (fun t k => XS.goto X5.here hx rfl (pc0 := 25) (pc' := 43) rfl (hb hby d20_25) (by decide) (by decide) k) ?_
  refine own_ret (Q := Q_own_gb Z xs tt kt ki ys zc dd kd vs ci h0 n0) (C := rm1_0_0_40.cells) (N := rm1_0_0_40.slots) X5 (v := none) (fun _ => rfl) Bd.notSynchronized ?_ (by decide) (by decide) (fun fs hr => X5.returnOut hx Bd.returns (hb hby d20_43) hr)
  show Q_own_gb Z xs tt kt ki ys zc dd kd vs ci h0 n0 _ T5.heap _
  rw [e5]
  exact ⟨rfl, N5, K8, Va5⟩
def Q_own_ps (Z : State) (a : Addr) (xs : Addr) (tt : Addr) (kt : ClassId) (ki : Int32) (ys : List Value) (zc : Int32) (dd : Addr) (kd : ClassId) (vs : List Value) (ci : Int32) (h0 : Heap) (n0 : Nat) (v : Option Value) (h : Heap) (L : List Loc) : Prop := v = none ∧ Fr n0 L ∧ Keep h0 h [dd] ∧ Arv Z h dd kd .byte (32 : Int32) (own_cp vs ys ci (0 : Int32) ki) (.int 0)
set_option maxRecDepth 65536 in
set_option maxHeartbeats 40000000 in
theorem own_ps (l : Launch) (Z : State) (a0 : Array Value) (hw : ∀ d ∈ tables_1, d.before a0 Z = true) (ws : List Jvm.Cond) (a : Addr) (xs : Addr) (tt : Addr) (kt : ClassId) (ki : Int32) (ys : List Value) (zc : Int32) (dd : Addr) (kd : ClassId) (vs : List Value) (ci : Int32) (h0 : Heap) (n0 : Nat) (O0 : Old Z n0 h0) (zfC : Sta Z Z.heap "java/lang/String" "COMPACT_STRINGS" "Z" (.int zc)) (f0_E_a : Exa Z h0 a "java/lang/StringBuilder") (f0_F_a_value : Fld Z h0 a "java/lang/AbstractStringBuilder" "value" "[B" (.ref dd)) (f0_F_a_coder : Fld Z h0 a "java/lang/AbstractStringBuilder" "coder" "B" (.int 0)) (f0_E_xs : Exa Z h0 xs "java/lang/String") (f0_F_xs_coder : Fld Z h0 xs "java/lang/String" "coder" "B" (.int 0)) (f0_F_xs_value : Fld Z h0 xs "java/lang/String" "value" "[B" (.ref tt)) (f0_A_tt : Arv Z h0 tt kt .byte ki ys (.int 0)) (f0_A_dd : Arv Z h0 dd kd .byte (32 : Int32) vs (.int 0)) (hzc : ¬ (zc = (0 : Int32))) (hci : ¬ ci < (0 : Int32)) (hki : ¬ ki < (0 : Int32)) (hb1 : ci.toNatClampNeg + ki.toNatClampNeg ≤ (32 : Int32).toNatClampNeg) (hb2 : ci.toNatClampNeg + ki.toNatClampNeg ≤ vs.length) (g_d : n0 ≤ dd) (ntd : tt ≠ dd) :
    MetFree l mt6 (head1 (Jvm.Cond.code mt6 jdk_68_method_73_code 3 none :: ws) rm2_0_0_55) (fun aq U => aq = #[.ref a, .int ci, .ref xs] ∧ Z.Warmed39 U.vm ∧ U.heap = h0) (fun _ _ _ _ _ => True) (fun _ U o U' => ∃ v L, o = .returned v ∧ Q_own_ps Z a xs tt kt ki ys zc dd kd vs ci h0 n0 v U'.heap L ∧ FrameEnd U o U' L rm2_0_0_55.cells rm2_0_0_55.slots) := by
  refine MetFree.of_bodySF (plainFor_of_name pn_java_lang_AbstractStringBuilder) hisR ?_
  intro p e s m args below meth c s₁ Bd hml0 hP hK
  obtain ⟨rfl, hZ, hh⟩ := hP
  have hx := Bd.exec
  have hby := Bd.bytes
  have hml : c.maxLocals = 3 := hml0
  have hown : s.vm.findClass "java/lang/AbstractStringBuilder" = some m.cls := findClass_of_methodNamed Bd.named
  have hnm := (name_of_methodNamed Bd.named Bd.method).1
  have X0 : Stand p l e rm2_0_0_55 s m #[.ref a, .int ci, .ref xs] below meth c s₁ [] 0 0 := Stand.of_body Bd
  have e0 : s₁.heap = h0 := by rw [← hh, Bd.state]; rfl
  have N0 := Fr.nil n0
  have zO := O0.1
  have zO2 := O0.2.1
  have fl_E_a : h0.size > a := f0_E_a.lt
  have fl_F_a_value : h0.size > a := f0_F_a_value.lt
  have fl_F_a_coder : h0.size > a := f0_F_a_coder.lt
  have fl_E_xs : h0.size > xs := f0_E_xs.lt
  have fl_F_xs_coder : h0.size > xs := f0_F_xs_coder.lt
  have fl_F_xs_value : h0.size > xs := f0_F_xs_value.lt
  have fl_A_tt : h0.size > tt := f0_A_tt.lt
  have fl_A_dd : h0.size > dd := f0_A_dd.lt
  refine own_open (own_via (S' := s₁.setTop (mkF m 0 #[.val (.ref a), .val (.int ci), .val (.ref xs)] [])) (fun t k => castTop (ef_own_ps m a ci xs) k) ?_)
  have K0 : Keep h0 h0 [dd] := Keep.refl _ _
  have ne_a_xs : a ≠ xs := Exa.ne f0_E_a f0_E_xs (by decide)
  have ne_a_tt : a ≠ tt := Exa.neArv f0_E_a f0_A_tt (wd48 hw)
  have ne_a_dd : a ≠ dd := Exa.neArv f0_E_a f0_A_dd (wd48 hw)
  have ne_xs_tt : xs ≠ tt := Exa.neArv f0_E_xs f0_A_tt (wd5 hw)
  have ne_xs_dd : xs ≠ dd := Exa.neArv f0_E_xs f0_A_dd (wd5 hw)
  refine ov s₁ 1 #[.val (.ref a), .val (.int ci), .val (.ref xs)] [.ref a] (fun t k => XS.aloadN X0.here hx rfl (hb hby d18_0) rfl rfl k) ?_
  refine ov s₁ 2 #[.val (.ref a), .val (.int ci), .val (.ref xs)] [.ref xs, .ref a] (fun t k => XS.aloadN X0.here hx rfl (hb hby d18_1) rfl rfl k) ?_
  obtain ⟨cq1, kq1, q1a, q1b, q1c⟩ := isOf hZ e0 f0_E_a
  obtain ⟨_, _, ⟨T1, Lp1, kp1, np1⟩, -, X1, ⟨Lc1, hQ1, l1, y1, z1⟩, st1⟩ := X0.virtualBack hx (y := mt4) (z := mt4) hown (mvT hZ (wd103 hw)) (own_declares (mvT hZ (wd104 hw)) (mvT hZ (wd107 hw))) (notFace_of_selects (args := #[]) (mvT hZ (wd106 hw))) (mvT hZ (wd106 hw)) (mvT hZ (wd104 hw)) (by decide) (backOf (W := 0) (own_infl l Z a0 hw [] a xs zc h0 n0 O0 zfC f0_F_a_coder f0_E_xs f0_F_xs_coder (by first | assumption | exact Ne.symm (by assumption) | omega | exact Nat.ne_of_lt (by omega) | exact Nat.ne_of_gt (by omega) | decide | exact Nat.le_of_ble_eq_true rfl)) hZ (wd107 hw) (wd58 hw) (by decide) (by decide)) q1a q1c (g := (mkF m 2 #[.val (.ref a), .val (.int ci), .val (.ref xs)] [.ref xs, .ref a])) rfl (by rw [hml]; rfl) (Steps.refl _) (argsL := [.ref xs]) (rest := []) (lenOf pd__Ljava_lang_String__V_1863 rfl) rfl (by show 2 * 0 + _ ≤ _; exact Nat.le_of_eq rfl) (hb hby d18_2) (fun _ _ => ⟨rfl, e0, (by decide : 0 + 0 ≤ _), (by decide : 0 + 0 ≤ _)⟩)
  dsimp only [Pt.U, Pt.locs, Pt.cells, Pt.slots] at X1 l1 y1 z1 st1 hQ1
  subst Lp1 kp1 np1
  obtain ⟨rfl, rfl, e1⟩ := hQ1
  try rw [List.append_nil] at X1
  refine own_tr (S' := T1.setTop (mkF m 5 #[.val (.ref a), .val (.int ci), .val (.ref xs)] [])) st1 ?_
  refine ov T1 6 #[.val (.ref a), .val (.int ci), .val (.ref xs)] [.ref xs] (fun t k => XS.aloadN X1.here hx rfl (hb hby d18_5) rfl rfl k) ?_
  refine ov T1 7 #[.val (.ref a), .val (.int ci), .val (.ref xs)] [.ref a, .ref xs] (fun t k => XS.aloadN X1.here hx rfl (hb hby d18_6) rfl rfl k) ?_
  obtain ⟨T2, X2, e2, st2⟩ := getF X1 hx hZ hown (host := "") (Or.inl (wd75 hw)) Via.refl e1 f0_F_a_value (g := (mkF m 7 #[.val (.ref a), .val (.int ci), .val (.ref xs)] [.ref a, .ref xs])) rfl rfl (hb hby d18_7)
  refine ov T2 10 #[.val (.ref a), .val (.int ci), .val (.ref xs)] [.ref dd, .ref xs] st2 ?_
  refine ov T2 11 #[.val (.ref a), .val (.int ci), .val (.ref xs)] [.int ci, .ref dd, .ref xs] (fun t k => XS.iloadN X2.here hx rfl (hb hby d18_10) rfl k) ?_
  refine ov T2 12 #[.val (.ref a), .val (.int ci), .val (.ref xs)] [.ref a, .int ci, .ref dd, .ref xs] (fun t k => XS.aloadN X2.here hx rfl (hb hby d18_11) rfl rfl k) ?_
  obtain ⟨T3, X3, e3, st3⟩ := getF X2 hx hZ hown (host := "") (Or.inl (wd73 hw)) Via.refl e2 f0_F_a_coder (g := (mkF m 12 #[.val (.ref a), .val (.int ci), .val (.ref xs)] [.ref a, .int ci, .ref dd, .ref xs])) rfl rfl (hb hby d18_12)
  refine ov T3 15 #[.val (.ref a), .val (.int ci), .val (.ref xs)] [.int 0, .int ci, .ref dd, .ref xs] st3 ?_
  obtain ⟨cq4, kq4, q4a, q4b, q4c⟩ := isOf hZ e3 f0_E_xs
  obtain ⟨_, _, ⟨T4, Lp4, kp4, np4⟩, -, X4, ⟨Lc4, hQ4, l4, y4, z4⟩, st4⟩ := X3.virtualBack hx (y := mt5) (z := mt5) hown (mvT hZ (wd109 hw)) (mvT hZ (wd110 hw)) (notFace_of_selects (args := #[]) (mvT hZ (wd112 hw))) (mvT hZ (wd112 hw)) (mvT hZ (wd111 hw)) (by decide) (backOf (W := 0) (own_gb l Z a0 hw [] xs tt kt ki ys zc dd kd vs ci h0 n0 O0 zfC f0_E_xs f0_F_xs_coder f0_F_xs_value f0_A_tt f0_A_dd (by first | assumption | exact Ne.symm (by assumption) | omega | exact Nat.ne_of_lt (by omega) | exact Nat.ne_of_gt (by omega) | decide | exact Nat.le_of_ble_eq_true rfl) (by first | assumption | exact Ne.symm (by assumption) | omega | exact Nat.ne_of_lt (by omega) | exact Nat.ne_of_gt (by omega) | decide | exact Nat.le_of_ble_eq_true rfl) (by first | assumption | exact Ne.symm (by assumption) | omega | exact Nat.ne_of_lt (by omega) | exact Nat.ne_of_gt (by omega) | decide | exact Nat.le_of_ble_eq_true rfl) (by first | assumption | exact Ne.symm (by assumption) | omega | exact Nat.ne_of_lt (by omega) | exact Nat.ne_of_gt (by omega) | decide | exact Nat.le_of_ble_eq_true rfl) (by first | assumption | exact Ne.symm (by assumption) | omega | exact Nat.ne_of_lt (by omega) | exact Nat.ne_of_gt (by omega) | decide | exact Nat.le_of_ble_eq_true rfl) (by first | assumption | exact Ne.symm (by assumption) | omega | exact Nat.ne_of_lt (by omega) | exact Nat.ne_of_gt (by omega) | decide | exact Nat.le_of_ble_eq_true rfl) (by first | assumption | exact Ne.symm (by assumption) | omega | exact Nat.ne_of_lt (by omega) | exact Nat.ne_of_gt (by omega) | decide | exact Nat.le_of_ble_eq_true rfl)) hZ (wd113 hw) (wd6 hw) (by decide) (by decide)) q4a q4c (g := (mkF m 15 #[.val (.ref a), .val (.int ci), .val (.ref xs)] [.int 0, .int ci, .ref dd, .ref xs])) rfl (by rw [hml]; rfl) (Steps.refl _) (argsL := [.ref dd, .int ci, .int 0]) (rest := []) (lenOf pd___BIB_V_463 rfl) rfl (by show 2 * 0 + _ ≤ _; exact Nat.le_of_eq rfl) (hb hby d18_15) (fun _ _ => ⟨rfl, e3, (by decide : 0 + 0 ≤ _), (by decide : 0 + 0 ≤ _)⟩)
  dsimp only [Pt.U, Pt.locs, Pt.cells, Pt.slots] at X4 l4 y4 z4 st4 hQ4
  subst Lp4 kp4 np4
  obtain ⟨rfl, N4q, K4q, f4_0⟩ := hQ4
  have N4 := Fr.app N0 N4q
  have sz5 : h0.size ≤ T4.heap.size := K4q.1
  have O6 : Old Z n0 T4.heap := O0.keep K4q (allS (by omega : n0 ≤ dd) all0)
  have K7 : Keep h0 T4.heap [dd] := K0.trans K4q (allS (P := fun x => x ∈ [dd] ∨ h0.size ≤ x) (Or.inl (List.mem_of_getElem? (i := 0) rfl)) all0)
  refine own_tr (S' := T4.setTop (mkF m 18 #[.val (.ref a), .val (.int ci), .val (.ref xs)] [])) st4 ?_
  refine own_ret (Q := Q_own_ps Z a xs tt kt ki ys zc dd kd vs ci h0 n0) (C := rm2_0_0_55.cells) (N := rm2_0_0_55.slots) X4 (v := none) (fun _ => rfl) Bd.notSynchronized ?_ (by decide) (by decide) (fun fs hr => X4.returnOut hx Bd.returns (hb hby d18_18) hr)
  show Q_own_ps Z a xs tt kt ki ys zc dd kd vs ci h0 n0 _ T4.heap _
  exact ⟨rfl, N4, K7, f4_0⟩
def Q_own_as (Z : State) (a : Addr) (xs : Addr) (tt : Addr) (kt : ClassId) (ki : Int32) (ys : List Value) (zc : Int32) (dd : Addr) (kd : ClassId) (vs : List Value) (ci : Int32) (h0 : Heap) (n0 : Nat) (v : Option Value) (h : Heap) (L : List Loc) : Prop := v = some (.ref a) ∧ Fr n0 L ∧ Keep h0 h [a, dd] ∧ Fld Z h a "java/lang/AbstractStringBuilder" "value" "[B" (.ref dd) ∧ Fld Z h a "java/lang/AbstractStringBuilder" "coder" "B" (.int 0) ∧ Fld Z h a "java/lang/AbstractStringBuilder" "count" "I" (.int (ci + ki)) ∧ Arv Z h dd kd .byte (32 : Int32) (own_cp vs ys ci (0 : Int32) ki) (.int 0)
set_option maxRecDepth 65536 in
set_option maxHeartbeats 40000000 in
theorem own_as (l : Launch) (Z : State) (a0 : Array Value) (hw : ∀ d ∈ tables_1, d.before a0 Z = true) (ws : List Jvm.Cond) (a : Addr) (xs : Addr) (tt : Addr) (kt : ClassId) (ki : Int32) (ys : List Value) (zc : Int32) (dd : Addr) (kd : ClassId) (vs : List Value) (ci : Int32) (h0 : Heap) (n0 : Nat) (O0 : Old Z n0 h0) (zfC : Sta Z Z.heap "java/lang/String" "COMPACT_STRINGS" "Z" (.int zc)) (f0_E_a : Exa Z h0 a "java/lang/StringBuilder") (f0_F_a_value : Fld Z h0 a "java/lang/AbstractStringBuilder" "value" "[B" (.ref dd)) (f0_F_a_coder : Fld Z h0 a "java/lang/AbstractStringBuilder" "coder" "B" (.int 0)) (f0_F_a_count : Fld Z h0 a "java/lang/AbstractStringBuilder" "count" "I" (.int ci)) (f0_E_xs : Exa Z h0 xs "java/lang/String") (f0_F_xs_coder : Fld Z h0 xs "java/lang/String" "coder" "B" (.int 0)) (f0_F_xs_value : Fld Z h0 xs "java/lang/String" "value" "[B" (.ref tt)) (f0_A_tt : Arv Z h0 tt kt .byte ki ys (.int 0)) (f0_A_dd : Arv Z h0 dd kd .byte (32 : Int32) vs (.int 0)) (hzc : ¬ (zc = (0 : Int32))) (hci : ¬ ci < (0 : Int32)) (hki : ¬ ki < (0 : Int32)) (hb1 : ci.toNatClampNeg + ki.toNatClampNeg ≤ (32 : Int32).toNatClampNeg) (hb2 : ci.toNatClampNeg + ki.toNatClampNeg ≤ vs.length) (g_d : n0 ≤ dd) (ntd : tt ≠ dd) (hcap : ¬ ((0 : Int32) < ((ci + ki) - (32 : Int32)))) (g_a : n0 ≤ a) :
    MetFree l mt7 (head1 (Jvm.Cond.code mt7 jdk_68_method_22_code 3 (some (.object "java/lang/AbstractStringBuilder")) :: ws) rm3_0_0_69) (fun aq U => aq = #[.ref a, .ref xs] ∧ Z.Warmed39 U.vm ∧ U.heap = h0) (fun _ _ _ _ _ => True) (fun _ U o U' => ∃ v L, o = .returned v ∧ Q_own_as Z a xs tt kt ki ys zc dd kd vs ci h0 n0 v U'.heap L ∧ FrameEnd U o U' L rm3_0_0_69.cells rm3_0_0_69.slots) := by
  refine MetFree.of_bodySF (plainFor_of_name pn_java_lang_AbstractStringBuilder) hisR ?_
  intro p e s m args below meth c s₁ Bd hml0 hP hK
  obtain ⟨rfl, hZ, hh⟩ := hP
  have hx := Bd.exec
  have hby := Bd.bytes
  have hml : c.maxLocals = 3 := hml0
  have hown : s.vm.findClass "java/lang/AbstractStringBuilder" = some m.cls := findClass_of_methodNamed Bd.named
  have hnm := (name_of_methodNamed Bd.named Bd.method).1
  have X0 : Stand p l e rm3_0_0_69 s m #[.ref a, .ref xs] below meth c s₁ [] 0 0 := Stand.of_body Bd
  have e0 : s₁.heap = h0 := by rw [← hh, Bd.state]; rfl
  have N0 := Fr.nil n0
  have zO := O0.1
  have zO2 := O0.2.1
  have fl_E_a : h0.size > a := f0_E_a.lt
  have fl_F_a_value : h0.size > a := f0_F_a_value.lt
  have fl_F_a_coder : h0.size > a := f0_F_a_coder.lt
  have fl_F_a_count : h0.size > a := f0_F_a_count.lt
  have fl_E_xs : h0.size > xs := f0_E_xs.lt
  have fl_F_xs_coder : h0.size > xs := f0_F_xs_coder.lt
  have fl_F_xs_value : h0.size > xs := f0_F_xs_value.lt
  have fl_A_tt : h0.size > tt := f0_A_tt.lt
  have fl_A_dd : h0.size > dd := f0_A_dd.lt
  refine own_open (own_via (S' := s₁.setTop (mkF m 0 #[.val (.ref a), .val (.ref xs), .unset] [])) (fun t k => castTop (ef_own_as m a xs) k) ?_)
  have K0 : Keep h0 h0 [a, dd] := Keep.refl _ _
  have ne_a_xs : a ≠ xs := Exa.ne f0_E_a f0_E_xs (by decide)
  have ne_a_tt : a ≠ tt := Exa.neArv f0_E_a f0_A_tt (wd48 hw)
  have ne_a_dd : a ≠ dd := Exa.neArv f0_E_a f0_A_dd (wd48 hw)
  have ne_xs_tt : xs ≠ tt := Exa.neArv f0_E_xs f0_A_tt (wd5 hw)
  have ne_xs_dd : xs ≠ dd := Exa.neArv f0_E_xs f0_A_dd (wd5 hw)
  refine ov s₁ 1 #[.val (.ref a), .val (.ref xs), .unset] [.ref xs] (fun t k => XS.aloadN X0.here hx rfl (hb hby d16_0) rfl rfl k) ?_
  refine ov s₁ 9 #[.val (.ref a), .val (.ref xs), .unset] [] (fun t k => XS.ifnonnullYes X0.here hx rfl (pc0 := 1) (pc' := 9) rfl (hb hby d16_1) rfl (by decide) (by decide) k) ?_
  refine ov s₁ 10 #[.val (.ref a), .val (.ref xs), .unset] [.ref xs] (fun t k => XS.aloadN X0.here hx rfl (hb hby d16_9) rfl rfl k) ?_
  obtain ⟨cq1, kq1, q1a, q1b, q1c⟩ := isOf hZ e0 f0_E_xs
  obtain ⟨_, _, ⟨T1, Lp1, kp1, np1⟩, -, X1, ⟨Lc1, hQ1, l1, y1, z1⟩, st1⟩ := X0.virtualBack hx (y := mt1) (z := mt1) hown (mvT hZ (wd61 hw)) (mvT hZ (wd62 hw)) (notFace_of_selects (args := #[]) (mvT hZ (wd64 hw))) (mvT hZ (wd64 hw)) (mvT hZ (wd63 hw)) (by decide) (backOf (W := 0) (own_len l Z a0 hw [] xs tt kt ki ys zc h0 n0 O0 zfC f0_E_xs f0_F_xs_coder f0_F_xs_value f0_A_tt (by first | assumption | exact Ne.symm (by assumption) | omega | exact Nat.ne_of_lt (by omega) | exact Nat.ne_of_gt (by omega) | decide | exact Nat.le_of_ble_eq_true rfl)) hZ (wd65 hw) (wd6 hw) (by decide) (by decide)) q1a q1c (g := (mkF m 10 #[.val (.ref a), .val (.ref xs), .unset] [.ref xs])) rfl (by rw [hml]; rfl) (Steps.refl _) (argsL := []) (rest := []) (lenOf pd___I_154 rfl) rfl (by show 2 * 0 + _ ≤ _; exact Nat.le_of_eq rfl) (hb hby d16_10) (fun _ _ => ⟨rfl, e0, (by decide : 0 + 0 ≤ _), (by decide : 0 + 0 ≤ _)⟩)
  dsimp only [Pt.U, Pt.locs, Pt.cells, Pt.slots] at X1 l1 y1 z1 st1 hQ1
  subst Lp1 kp1 np1
  obtain ⟨rfl, rfl, e1⟩ := hQ1
  try rw [List.append_nil] at X1
  refine own_tr (S' := T1.setTop (mkF m 13 #[.val (.ref a), .val (.ref xs), .unset] [.int ki])) st1 ?_
  refine ov T1 14 #[.val (.ref a), .val (.ref xs), .val (.int ki)] [] (fun t k => XS.istoreN X1.here hx rfl (hb hby d16_13) rfl (l' := #[.val (.ref a), .val (.ref xs), .val (.int ki)]) rfl k) ?_
  refine ov T1 15 #[.val (.ref a), .val (.ref xs), .val (.int ki)] [.ref a] (fun t k => XS.aloadN X1.here hx rfl (hb hby d16_14) rfl rfl k) ?_
  refine ov T1 16 #[.val (.ref a), .val (.ref xs), .val (.int ki)] [.ref a, .ref a] (fun t k => XS.aloadN X1.here hx rfl (hb hby d16_15) rfl rfl k) ?_
  obtain ⟨T2, X2, e2, st2⟩ := getF X1 hx hZ hown (host := "") (Or.inl (wd91 hw)) Via.refl e1 f0_F_a_count (g := (mkF m 16 #[.val (.ref a), .val (.ref xs), .val (.int ki)] [.ref a, .ref a])) rfl rfl (hb hby d16_16)
  refine ov T2 19 #[.val (.ref a), .val (.ref xs), .val (.int ki)] [.int ci, .ref a] st2 ?_
  refine ov T2 20 #[.val (.ref a), .val (.ref xs), .val (.int ki)] [.int ki, .int ci, .ref a] (fun t k => XS.iloadN X2.here hx rfl (hb hby d16_19) rfl k) ?_
  refine ov T2 21 #[.val (.ref a), .val (.ref xs), .val (.int ki)] [(.int (ci + ki)), .ref a] (fun t k => XS.iadd X2.here hx rfl (hb hby d16_20) rfl k) ?_
  obtain ⟨cq3, kq3, q3a, q3b, q3c⟩ := isOf hZ e2 f0_E_a
  obtain ⟨_, _, ⟨T3, Lp3, kp3, np3⟩, -, X3, ⟨Lc3, hQ3, l3, y3, z3⟩, st3⟩ := X2.virtualBack hx (y := mt3) (z := mt3) hown (mvT hZ (wd93 hw)) (own_declares (mvT hZ (wd94 hw)) (mvT hZ (wd97 hw))) (notFace_of_selects (args := #[]) (mvT hZ (wd96 hw))) (mvT hZ (wd96 hw)) (mvT hZ (wd94 hw)) (by decide) (backOf (W := 0) (own_ens l Z a0 hw [] a (ci + ki) dd kd vs h0 n0 O0 f0_F_a_value f0_F_a_coder f0_A_dd (by first | assumption | exact Ne.symm (by assumption) | omega | exact Nat.ne_of_lt (by omega) | exact Nat.ne_of_gt (by omega) | decide | exact Nat.le_of_ble_eq_true rfl)) hZ (wd97 hw) (wd58 hw) (by decide) (by decide)) q3a q3c (g := (mkF m 21 #[.val (.ref a), .val (.ref xs), .val (.int ki)] [(.int (ci + ki)), .ref a])) rfl (by rw [hml]; rfl) (Steps.refl _) (argsL := [(.int (ci + ki))]) (rest := []) (lenOf pd__I_V_240 rfl) rfl (by show 2 * 0 + _ ≤ _; exact Nat.le_of_eq rfl) (hb hby d16_21) (fun _ _ => ⟨rfl, e2, (by decide : 0 + 0 ≤ _), (by decide : 0 + 0 ≤ _)⟩)
  dsimp only [Pt.U, Pt.locs, Pt.cells, Pt.slots] at X3 l3 y3 z3 st3 hQ3
  subst Lp3 kp3 np3
  obtain ⟨rfl, rfl, e3⟩ := hQ3
  try rw [List.append_nil] at X3
  refine own_tr (S' := T3.setTop (mkF m 24 #[.val (.ref a), .val (.ref xs), .val (.int ki)] [])) st3 ?_
  refine ov T3 25 #[.val (.ref a), .val (.ref xs), .val (.int ki)] [.ref a] (fun t k => XS.aloadN X3.here hx rfl (hb hby d16_24) rfl rfl k) ?_
  refine ov T3 26 #[.val (.ref a), .val (.ref xs), .val (.int ki)] [.ref a, .ref a] (fun t k => XS.aloadN X3.here hx rfl (hb hby d16_25) rfl rfl k) ?_
  obtain ⟨T4, X4, e4, st4⟩ := getF X3 hx hZ hown (host := "") (Or.inl (wd91 hw)) Via.refl e3 f0_F_a_count (g := (mkF m 26 #[.val (.ref a), .val (.ref xs), .val (.int ki)] [.ref a, .ref a])) rfl rfl (hb hby d16_26)
  refine ov T4 29 #[.val (.ref a), .val (.ref xs), .val (.int ki)] [.int ci, .ref a] st4 ?_
  refine ov T4 30 #[.val (.ref a), .val (.ref xs), .val (.int ki)] [.ref xs, .int ci, .ref a] (fun t k => XS.aloadN X4.here hx rfl (hb hby d16_29) rfl rfl k) ?_
  obtain ⟨cq5, kq5, q5a, q5b, q5c⟩ := isOf hZ e4 f0_E_a
  obtain ⟨_, _, ⟨T5, Lp5, kp5, np5⟩, -, X5, ⟨Lc5, hQ5, l5, y5, z5⟩, st5⟩ := X4.virtualBack hx (y := mt6) (z := mt6) hown (mvT hZ (wd98 hw)) (own_declares (mvT hZ (wd99 hw)) (mvT hZ (wd102 hw))) (notFace_of_selects (args := #[]) (mvT hZ (wd101 hw))) (mvT hZ (wd101 hw)) (mvT hZ (wd99 hw)) (by decide) (backOf (W := 0) (own_ps l Z a0 hw [] a xs tt kt ki ys zc dd kd vs ci h0 n0 O0 zfC f0_E_a f0_F_a_value f0_F_a_coder f0_E_xs f0_F_xs_coder f0_F_xs_value f0_A_tt f0_A_dd (by first | assumption | exact Ne.symm (by assumption) | omega | exact Nat.ne_of_lt (by omega) | exact Nat.ne_of_gt (by omega) | decide | exact Nat.le_of_ble_eq_true rfl) (by first | assumption | exact Ne.symm (by assumption) | omega | exact Nat.ne_of_lt (by omega) | exact Nat.ne_of_gt (by omega) | decide | exact Nat.le_of_ble_eq_true rfl) (by first | assumption | exact Ne.symm (by assumption) | omega | exact Nat.ne_of_lt (by omega) | exact Nat.ne_of_gt (by omega) | decide | exact Nat.le_of_ble_eq_true rfl) (by first | assumption | exact Ne.symm (by assumption) | omega | exact Nat.ne_of_lt (by omega) | exact Nat.ne_of_gt (by omega) | decide | exact Nat.le_of_ble_eq_true rfl) (by first | assumption | exact Ne.symm (by assumption) | omega | exact Nat.ne_of_lt (by omega) | exact Nat.ne_of_gt (by omega) | decide | exact Nat.le_of_ble_eq_true rfl) (by first | assumption | exact Ne.symm (by assumption) | omega | exact Nat.ne_of_lt (by omega) | exact Nat.ne_of_gt (by omega) | decide | exact Nat.le_of_ble_eq_true rfl) (by first | assumption | exact Ne.symm (by assumption) | omega | exact Nat.ne_of_lt (by omega) | exact Nat.ne_of_gt (by omega) | decide | exact Nat.le_of_ble_eq_true rfl)) hZ (wd102 hw) (wd58 hw) (by decide) (by decide)) q5a q5c (g := (mkF m 30 #[.val (.ref a), .val (.ref xs), .val (.int ki)] [.ref xs, .int ci, .ref a])) rfl (by rw [hml]; rfl) (Steps.refl _) (argsL := [.int ci, .ref xs]) (rest := []) (lenOf pd__ILjava_lang_String__V_1936 rfl) rfl (by show 2 * 0 + _ ≤ _; exact Nat.le_of_eq rfl) (hb hby d16_30) (fun _ _ => ⟨rfl, e4, (by decide : 0 + 0 ≤ _), (by decide : 0 + 0 ≤ _)⟩)
  dsimp only [Pt.U, Pt.locs, Pt.cells, Pt.slots] at X5 l5 y5 z5 st5 hQ5
  subst Lp5 kp5 np5
  obtain ⟨rfl, N5q, K5q, f5_0⟩ := hQ5
  have N5 := Fr.app N0 N5q
  have sz6 : h0.size ≤ T5.heap.size := K5q.1
  have O7 : Old Z n0 T5.heap := O0.keep K5q (allS (by omega : n0 ≤ dd) all0)
  have K8 : Keep h0 T5.heap [a, dd] := K0.trans K5q (allS (P := fun x => x ∈ [a, dd] ∨ h0.size ≤ x) (Or.inl (List.mem_of_getElem? (i := 1) rfl)) all0)
  refine own_tr (S' := T5.setTop (mkF m 33 #[.val (.ref a), .val (.ref xs), .val (.int ki)] [])) st5 ?_
  refine ov T5 34 #[.val (.ref a), .val (.ref xs), .val (.int ki)] [.ref a] (fun t k => XS.aloadN X5.here hx rfl (hb hby d16_33) rfl rfl k) ?_
  refine ov T5 35 #[.val (.ref a), .val (.ref xs), .val (.int ki)] [.ref a, .ref a] (fun t k => XS.dup X5.here hx rfl (hb hby d16_34) rfl rfl k) ?_
  have cx9 : Fld Z T5.heap a "java/lang/AbstractStringBuilder" "count" "I" (.int ci) := (f0_F_a_count.keep K5q (ninS ne_a_dd nin0))
  obtain ⟨T10, X10, e10, st10⟩ := getF X5 hx hZ hown (host := "") (Or.inl (wd91 hw)) Via.refl rfl cx9 (g := (mkF m 35 #[.val (.ref a), .val (.ref xs), .val (.int ki)] [.ref a, .ref a])) rfl rfl (hb hby d16_35)
  refine ov T10 38 #[.val (.ref a), .val (.ref xs), .val (.int ki)] [.int ci, .ref a] st10 ?_
  refine ov T10 39 #[.val (.ref a), .val (.ref xs), .val (.int ki)] [.int ki, .int ci, .ref a] (fun t k => XS.iloadN X10.here hx rfl (hb hby d16_38) rfl k) ?_
  refine ov T10 40 #[.val (.ref a), .val (.ref xs), .val (.int ki)] [(.int (ci + ki)), .ref a] (fun t k => XS.iadd X10.here hx rfl (hb hby d16_39) rfl k) ?_
  have cx11 : Exa Z T5.heap a "java/lang/StringBuilder" := (f0_E_a.keep K5q)
  obtain ⟨T12, h12, X12, e12, W12, st12⟩ := putF X10 hx hZ hown (host := "") (Or.inl (wd91 hw)) Via.refl e10 cx9 cx11 (Or.inl (wd92 hw)) (wd48 hw) (ty := .int) (by decide) rfl rfl (g := (mkF m 40 #[.val (.ref a), .val (.ref xs), .val (.int ki)] [(.int (ci + ki)), .ref a])) rfl rfl (hb hby d16_40)
  have sz13 : T5.heap.size ≤ h12.size := Nat.le_of_eq W12.size.symm
  have O14 : Old Z n0 h12 := O7.wr W12 (by omega : n0 ≤ a)
  have N12 := Fr.snoc X12 N5 (by omega : n0 ≤ a)
  have K15 : Keep h0 h12 [a, dd] := K8.wr W12 (Or.inl (List.mem_of_getElem? (i := 0) rfl))
  have Fw12 : Fld Z h12 a "java/lang/AbstractStringBuilder" "count" "I" (.int (ci + ki)) := Fld.same W12 cx9
  refine ov T12 43 #[.val (.ref a), .val (.ref xs), .val (.int ki)] [] st12 ?_
  refine ov T12 44 #[.val (.ref a), .val (.ref xs), .val (.int ki)] [.ref a] (fun t k => XS.aloadN X12.here hx rfl (hb hby d16_43) rfl rfl k) ?_
  have cx16 : Fld Z h12 a "java/lang/AbstractStringBuilder" "value" "[B" (.ref dd) := (Fld.other W12 (f0_F_a_value.keep K5q (ninS ne_a_dd nin0)) (Or.inr (slot_ne (Or.inl (wd76 hw)) (Or.inl (wd92 hw)) (by decide) (t := (.array .byte)) (t' := .int) (by decide) (by decide))))
  have cx17 : Fld Z h12 a "java/lang/AbstractStringBuilder" "coder" "B" (.int 0) := (Fld.other W12 (f0_F_a_coder.keep K5q (ninS ne_a_dd nin0)) (Or.inr (slot_ne (Or.inl (wd74 hw)) (Or.inl (wd92 hw)) (by decide) (t := .byte) (t' := .int) (by decide) (by decide))))
  have cx18 : Arv Z h12 dd kd .byte (32 : Int32) (own_cp vs ys ci (0 : Int32) ki) (.int 0) := (f5_0.other W12 (Ne.symm ne_a_dd))
  refine own_ret (Q := Q_own_as Z a xs tt kt ki ys zc dd kd vs ci h0 n0) (C := rm3_0_0_69.cells) (N := rm3_0_0_69.slots) X12 (v := some (.ref a)) (fun h => by rw [Bd.returns] at h; cases h) Bd.notSynchronized ?_ (by decide) (by decide) (fun fs hr => retOut X12 hx Bd.returns rfl (Or.inr (Or.inr (Or.inr (Or.inr ⟨rfl, rfl, rfl⟩)))) (hb hby d16_44) hr)
  show Q_own_as Z a xs tt kt ki ys zc dd kd vs ci h0 n0 _ T12.heap _
  rw [e12]
  exact ⟨rfl, N12, K15, cx16, cx17, Fw12, cx18⟩
def Q_own_bs (Z : State) (a : Addr) (xs : Addr) (tt : Addr) (kt : ClassId) (ki : Int32) (ys : List Value) (zc : Int32) (dd : Addr) (kd : ClassId) (vs : List Value) (ci : Int32) (h0 : Heap) (n0 : Nat) (v : Option Value) (h : Heap) (L : List Loc) : Prop := v = some (.ref a) ∧ Fr n0 L ∧ Keep h0 h [a, dd] ∧ Fld Z h a "java/lang/AbstractStringBuilder" "value" "[B" (.ref dd) ∧ Fld Z h a "java/lang/AbstractStringBuilder" "coder" "B" (.int 0) ∧ Fld Z h a "java/lang/AbstractStringBuilder" "count" "I" (.int (ci + ki)) ∧ Arv Z h dd kd .byte (32 : Int32) (own_cp vs ys ci (0 : Int32) ki) (.int 0)
set_option maxRecDepth 65536 in
set_option maxHeartbeats 40000000 in
theorem own_bs (l : Launch) (Z : State) (a0 : Array Value) (hw : ∀ d ∈ tables_1, d.before a0 Z = true) (ws : List Jvm.Cond) (a : Addr) (xs : Addr) (tt : Addr) (kt : ClassId) (ki : Int32) (ys : List Value) (zc : Int32) (dd : Addr) (kd : ClassId) (vs : List Value) (ci : Int32) (h0 : Heap) (n0 : Nat) (O0 : Old Z n0 h0) (zfC : Sta Z Z.heap "java/lang/String" "COMPACT_STRINGS" "Z" (.int zc)) (f0_E_a : Exa Z h0 a "java/lang/StringBuilder") (f0_F_a_value : Fld Z h0 a "java/lang/AbstractStringBuilder" "value" "[B" (.ref dd)) (f0_F_a_coder : Fld Z h0 a "java/lang/AbstractStringBuilder" "coder" "B" (.int 0)) (f0_F_a_count : Fld Z h0 a "java/lang/AbstractStringBuilder" "count" "I" (.int ci)) (f0_E_xs : Exa Z h0 xs "java/lang/String") (f0_F_xs_coder : Fld Z h0 xs "java/lang/String" "coder" "B" (.int 0)) (f0_F_xs_value : Fld Z h0 xs "java/lang/String" "value" "[B" (.ref tt)) (f0_A_tt : Arv Z h0 tt kt .byte ki ys (.int 0)) (f0_A_dd : Arv Z h0 dd kd .byte (32 : Int32) vs (.int 0)) (hzc : ¬ (zc = (0 : Int32))) (hci : ¬ ci < (0 : Int32)) (hki : ¬ ki < (0 : Int32)) (hb1 : ci.toNatClampNeg + ki.toNatClampNeg ≤ (32 : Int32).toNatClampNeg) (hb2 : ci.toNatClampNeg + ki.toNatClampNeg ≤ vs.length) (g_d : n0 ≤ dd) (ntd : tt ≠ dd) (hcap : ¬ ((0 : Int32) < ((ci + ki) - (32 : Int32)))) (g_a : n0 ≤ a) :
    MetFree l mt8 (head1 (Jvm.Cond.code mt8 jdk_67_method_7_code 2 (some (.object "java/lang/StringBuilder")) :: ws) rm4_0_0_83) (fun aq U => aq = #[.ref a, .ref xs] ∧ Z.Warmed39 U.vm ∧ U.heap = h0) (fun _ _ _ _ _ => True) (fun _ U o U' => ∃ v L, o = .returned v ∧ Q_own_bs Z a xs tt kt ki ys zc dd kd vs ci h0 n0 v U'.heap L ∧ FrameEnd U o U' L rm4_0_0_83.cells rm4_0_0_83.slots) := by
  refine MetFree.of_bodySF (plainFor_of_name pn_java_lang_StringBuilder) hisR ?_
  intro p e s m args below meth c s₁ Bd hml0 hP hK
  obtain ⟨rfl, hZ, hh⟩ := hP
  have hx := Bd.exec
  have hby := Bd.bytes
  have hml : c.maxLocals = 2 := hml0
  have hown : s.vm.findClass "java/lang/StringBuilder" = some m.cls := findClass_of_methodNamed Bd.named
  have hnm := (name_of_methodNamed Bd.named Bd.method).1
  have X0 : Stand p l e rm4_0_0_83 s m #[.ref a, .ref xs] below meth c s₁ [] 0 0 := Stand.of_body Bd
  have e0 : s₁.heap = h0 := by rw [← hh, Bd.state]; rfl
  have N0 := Fr.nil n0
  have zO := O0.1
  have zO2 := O0.2.1
  have fl_E_a : h0.size > a := f0_E_a.lt
  have fl_F_a_value : h0.size > a := f0_F_a_value.lt
  have fl_F_a_coder : h0.size > a := f0_F_a_coder.lt
  have fl_F_a_count : h0.size > a := f0_F_a_count.lt
  have fl_E_xs : h0.size > xs := f0_E_xs.lt
  have fl_F_xs_coder : h0.size > xs := f0_F_xs_coder.lt
  have fl_F_xs_value : h0.size > xs := f0_F_xs_value.lt
  have fl_A_tt : h0.size > tt := f0_A_tt.lt
  have fl_A_dd : h0.size > dd := f0_A_dd.lt
  refine own_open (own_via (S' := s₁.setTop (mkF m 0 #[.val (.ref a), .val (.ref xs)] [])) (fun t k => castTop (ef_own_bs m a xs) k) ?_)
  have K0 : Keep h0 h0 [a, dd] := Keep.refl _ _
  have ne_a_xs : a ≠ xs := Exa.ne f0_E_a f0_E_xs (by decide)
  have ne_a_tt : a ≠ tt := Exa.neArv f0_E_a f0_A_tt (wd48 hw)
  have ne_a_dd : a ≠ dd := Exa.neArv f0_E_a f0_A_dd (wd48 hw)
  have ne_xs_tt : xs ≠ tt := Exa.neArv f0_E_xs f0_A_tt (wd5 hw)
  have ne_xs_dd : xs ≠ dd := Exa.neArv f0_E_xs f0_A_dd (wd5 hw)
  refine ov s₁ 1 #[.val (.ref a), .val (.ref xs)] [.ref a] (fun t k => XS.aloadN X0.here hx rfl (hb hby d15_0) rfl rfl k) ?_
  refine ov s₁ 2 #[.val (.ref a), .val (.ref xs)] [.ref xs, .ref a] (fun t k => XS.aloadN X0.here hx rfl (hb hby d15_1) rfl rfl k) ?_
  obtain ⟨_, _, ⟨T1, Lp1, kp1, np1⟩, -, X1, ⟨Lc1, hQ1, l1, y1, z1⟩, st1⟩ := superBack X0 hx hZ (y := mt7) hown (wd88 hw) (own_sameM (y := mt7) (wd79 hw) (own_nface (args := a0) (wd96 hw) rfl) (by decide)) (wd79 hw) (wd89 hw) (by decide) (backOf (W := 0) (own_as l Z a0 hw [] a xs tt kt ki ys zc dd kd vs ci h0 n0 O0 zfC f0_E_a f0_F_a_value f0_F_a_coder f0_F_a_count f0_E_xs f0_F_xs_coder f0_F_xs_value f0_A_tt f0_A_dd (by first | assumption | exact Ne.symm (by assumption) | omega | exact Nat.ne_of_lt (by omega) | exact Nat.ne_of_gt (by omega) | decide | exact Nat.le_of_ble_eq_true rfl) (by first | assumption | exact Ne.symm (by assumption) | omega | exact Nat.ne_of_lt (by omega) | exact Nat.ne_of_gt (by omega) | decide | exact Nat.le_of_ble_eq_true rfl) (by first | assumption | exact Ne.symm (by assumption) | omega | exact Nat.ne_of_lt (by omega) | exact Nat.ne_of_gt (by omega) | decide | exact Nat.le_of_ble_eq_true rfl) (by first | assumption | exact Ne.symm (by assumption) | omega | exact Nat.ne_of_lt (by omega) | exact Nat.ne_of_gt (by omega) | decide | exact Nat.le_of_ble_eq_true rfl) (by first | assumption | exact Ne.symm (by assumption) | omega | exact Nat.ne_of_lt (by omega) | exact Nat.ne_of_gt (by omega) | decide | exact Nat.le_of_ble_eq_true rfl) (by first | assumption | exact Ne.symm (by assumption) | omega | exact Nat.ne_of_lt (by omega) | exact Nat.ne_of_gt (by omega) | decide | exact Nat.le_of_ble_eq_true rfl) (by first | assumption | exact Ne.symm (by assumption) | omega | exact Nat.ne_of_lt (by omega) | exact Nat.ne_of_gt (by omega) | decide | exact Nat.le_of_ble_eq_true rfl) (by first | assumption | exact Ne.symm (by assumption) | omega | exact Nat.ne_of_lt (by omega) | exact Nat.ne_of_gt (by omega) | decide | exact Nat.le_of_ble_eq_true rfl) (by first | assumption | exact Ne.symm (by assumption) | omega | exact Nat.ne_of_lt (by omega) | exact Nat.ne_of_gt (by omega) | decide | exact Nat.le_of_ble_eq_true rfl)) hZ (wd90 hw) (wd58 hw) (by decide) (by decide)) e0 (Ins.self f0_E_a) (g := (mkF m 2 #[.val (.ref a), .val (.ref xs)] [.ref xs, .ref a])) rfl (by rw [hml]; rfl) (wd90 hw) (argsL := [.ref xs]) (rest := []) (lenOf pd__Ljava_lang_String__Ljava_lang_AbstractStringBuilder__5004 rfl) rfl (by show 2 * 0 + _ ≤ _; exact Nat.le_of_eq rfl) (hb hby d15_2) (fun _ _ => ⟨rfl, e0, (by decide : 0 + 0 ≤ _), (by decide : 0 + 0 ≤ _)⟩)
  dsimp only [Pt.U, Pt.locs, Pt.cells, Pt.slots] at X1 l1 y1 z1 st1 hQ1
  subst Lp1 kp1 np1
  obtain ⟨rfl, N1q, K1q, f1_0, f1_1, f1_2, f1_3⟩ := hQ1
  have N1 := Fr.app N0 N1q
  have sz2 : h0.size ≤ T1.heap.size := K1q.1
  have O3 : Old Z n0 T1.heap := O0.keep K1q (allS (by omega : n0 ≤ a) (allS (by omega : n0 ≤ dd) all0))
  have K4 : Keep h0 T1.heap [a, dd] := K0.trans K1q (allS (P := fun x => x ∈ [a, dd] ∨ h0.size ≤ x) (Or.inl (List.mem_of_getElem? (i := 0) rfl)) (allS (P := fun x => x ∈ [a, dd] ∨ h0.size ≤ x) (Or.inl (List.mem_of_getElem? (i := 1) rfl)) all0))
  refine own_tr (S' := T1.setTop (mkF m 5 #[.val (.ref a), .val (.ref xs)] [.ref a])) st1 ?_
  refine ov T1 6 #[.val (.ref a), .val (.ref xs)] [] (fun t k => XS.pop X1.here hx rfl (hb hby d15_5) rfl rfl k) ?_
  refine ov T1 7 #[.val (.ref a), .val (.ref xs)] [.ref a] (fun t k => XS.aloadN X1.here hx rfl (hb hby d15_6) rfl rfl k) ?_
  refine own_ret (Q := Q_own_bs Z a xs tt kt ki ys zc dd kd vs ci h0 n0) (C := rm4_0_0_83.cells) (N := rm4_0_0_83.slots) X1 (v := some (.ref a)) (fun h => by rw [Bd.returns] at h; cases h) Bd.notSynchronized ?_ (by decide) (by decide) (fun fs hr => retOut X1 hx Bd.returns rfl (Or.inr (Or.inr (Or.inr (Or.inr ⟨rfl, rfl, rfl⟩)))) (hb hby d15_7) hr)
  show Q_own_bs Z a xs tt kt ki ys zc dd kd vs ci h0 n0 _ T1.heap _
  exact ⟨rfl, N1, K4, f1_0, f1_1, f1_2, f1_3⟩
def Q_own_br (Z : State) (a : Addr) (xs : Addr) (tt : Addr) (kt : ClassId) (ki : Int32) (ys : List Value) (zc : Int32) (dd : Addr) (kd : ClassId) (vs : List Value) (ci : Int32) (h0 : Heap) (n0 : Nat) (v : Option Value) (h : Heap) (L : List Loc) : Prop := v = some (.ref a) ∧ Fr n0 L ∧ Keep h0 h [a, dd] ∧ Fld Z h a "java/lang/AbstractStringBuilder" "value" "[B" (.ref dd) ∧ Fld Z h a "java/lang/AbstractStringBuilder" "coder" "B" (.int 0) ∧ Fld Z h a "java/lang/AbstractStringBuilder" "count" "I" (.int (ci + ki)) ∧ Arv Z h dd kd .byte (32 : Int32) (own_cp vs ys ci (0 : Int32) ki) (.int 0)
set_option maxRecDepth 65536 in
set_option maxHeartbeats 40000000 in
theorem own_br (l : Launch) (Z : State) (a0 : Array Value) (hw : ∀ d ∈ tables_1, d.before a0 Z = true) (ws : List Jvm.Cond) (a : Addr) (xs : Addr) (tt : Addr) (kt : ClassId) (ki : Int32) (ys : List Value) (zc : Int32) (dd : Addr) (kd : ClassId) (vs : List Value) (ci : Int32) (h0 : Heap) (n0 : Nat) (O0 : Old Z n0 h0) (zfC : Sta Z Z.heap "java/lang/String" "COMPACT_STRINGS" "Z" (.int zc)) (f0_E_a : Exa Z h0 a "java/lang/StringBuilder") (f0_F_a_value : Fld Z h0 a "java/lang/AbstractStringBuilder" "value" "[B" (.ref dd)) (f0_F_a_coder : Fld Z h0 a "java/lang/AbstractStringBuilder" "coder" "B" (.int 0)) (f0_F_a_count : Fld Z h0 a "java/lang/AbstractStringBuilder" "count" "I" (.int ci)) (f0_E_xs : Exa Z h0 xs "java/lang/String") (f0_F_xs_coder : Fld Z h0 xs "java/lang/String" "coder" "B" (.int 0)) (f0_F_xs_value : Fld Z h0 xs "java/lang/String" "value" "[B" (.ref tt)) (f0_A_tt : Arv Z h0 tt kt .byte ki ys (.int 0)) (f0_A_dd : Arv Z h0 dd kd .byte (32 : Int32) vs (.int 0)) (hzc : ¬ (zc = (0 : Int32))) (hci : ¬ ci < (0 : Int32)) (hki : ¬ ki < (0 : Int32)) (hb1 : ci.toNatClampNeg + ki.toNatClampNeg ≤ (32 : Int32).toNatClampNeg) (hb2 : ci.toNatClampNeg + ki.toNatClampNeg ≤ vs.length) (g_d : n0 ≤ dd) (ntd : tt ≠ dd) (hcap : ¬ ((0 : Int32) < ((ci + ki) - (32 : Int32)))) (g_a : n0 ≤ a) :
    MetFree l mt9 (head1 (Jvm.Cond.code mt9 jdk_67_method_80_code 2 (some (.object "java/lang/AbstractStringBuilder")) :: ws) rm5_0_0_96) (fun aq U => aq = #[.ref a, .ref xs] ∧ Z.Warmed39 U.vm ∧ U.heap = h0) (fun _ _ _ _ _ => True) (fun _ U o U' => ∃ v L, o = .returned v ∧ Q_own_br Z a xs tt kt ki ys zc dd kd vs ci h0 n0 v U'.heap L ∧ FrameEnd U o U' L rm5_0_0_96.cells rm5_0_0_96.slots) := by
  refine MetFree.of_bodySF (plainFor_of_name pn_java_lang_StringBuilder) hisR ?_
  intro p e s m args below meth c s₁ Bd hml0 hP hK
  obtain ⟨rfl, hZ, hh⟩ := hP
  have hx := Bd.exec
  have hby := Bd.bytes
  have hml : c.maxLocals = 2 := hml0
  have hown : s.vm.findClass "java/lang/StringBuilder" = some m.cls := findClass_of_methodNamed Bd.named
  have hnm := (name_of_methodNamed Bd.named Bd.method).1
  have X0 : Stand p l e rm5_0_0_96 s m #[.ref a, .ref xs] below meth c s₁ [] 0 0 := Stand.of_body Bd
  have e0 : s₁.heap = h0 := by rw [← hh, Bd.state]; rfl
  have N0 := Fr.nil n0
  have zO := O0.1
  have zO2 := O0.2.1
  have fl_E_a : h0.size > a := f0_E_a.lt
  have fl_F_a_value : h0.size > a := f0_F_a_value.lt
  have fl_F_a_coder : h0.size > a := f0_F_a_coder.lt
  have fl_F_a_count : h0.size > a := f0_F_a_count.lt
  have fl_E_xs : h0.size > xs := f0_E_xs.lt
  have fl_F_xs_coder : h0.size > xs := f0_F_xs_coder.lt
  have fl_F_xs_value : h0.size > xs := f0_F_xs_value.lt
  have fl_A_tt : h0.size > tt := f0_A_tt.lt
  have fl_A_dd : h0.size > dd := f0_A_dd.lt
  refine own_open (own_via (S' := s₁.setTop (mkF m 0 #[.val (.ref a), .val (.ref xs)] [])) (fun t k => castTop (ef_own_br m a xs) k) ?_)
  have K0 : Keep h0 h0 [a, dd] := Keep.refl _ _
  have ne_a_xs : a ≠ xs := Exa.ne f0_E_a f0_E_xs (by decide)
  have ne_a_tt : a ≠ tt := Exa.neArv f0_E_a f0_A_tt (wd48 hw)
  have ne_a_dd : a ≠ dd := Exa.neArv f0_E_a f0_A_dd (wd48 hw)
  have ne_xs_tt : xs ≠ tt := Exa.neArv f0_E_xs f0_A_tt (wd5 hw)
  have ne_xs_dd : xs ≠ dd := Exa.neArv f0_E_xs f0_A_dd (wd5 hw)
  refine ov s₁ 1 #[.val (.ref a), .val (.ref xs)] [.ref a] (fun t k => XS.aloadN X0.here hx rfl (hb hby d14_0) rfl rfl k) ?_
  refine ov s₁ 2 #[.val (.ref a), .val (.ref xs)] [.ref xs, .ref a] (fun t k => XS.aloadN X0.here hx rfl (hb hby d14_1) rfl rfl k) ?_
  obtain ⟨cq1, kq1, q1a, q1b, q1c⟩ := isOf hZ e0 f0_E_a
  obtain ⟨_, _, ⟨T1, Lp1, kp1, np1⟩, -, X1, ⟨Lc1, hQ1, l1, y1, z1⟩, st1⟩ := X0.virtualBack hx (y := mt8) (z := mt8) hown (mvT hZ (wd83 hw)) (mvT hZ (wd84 hw)) (notFace_of_selects (args := #[]) (mvT hZ (wd86 hw))) (mvT hZ (wd86 hw)) (mvT hZ (wd85 hw)) (by decide) (backOf (W := 0) (own_bs l Z a0 hw [] a xs tt kt ki ys zc dd kd vs ci h0 n0 O0 zfC f0_E_a f0_F_a_value f0_F_a_coder f0_F_a_count f0_E_xs f0_F_xs_coder f0_F_xs_value f0_A_tt f0_A_dd (by first | assumption | exact Ne.symm (by assumption) | omega | exact Nat.ne_of_lt (by omega) | exact Nat.ne_of_gt (by omega) | decide | exact Nat.le_of_ble_eq_true rfl) (by first | assumption | exact Ne.symm (by assumption) | omega | exact Nat.ne_of_lt (by omega) | exact Nat.ne_of_gt (by omega) | decide | exact Nat.le_of_ble_eq_true rfl) (by first | assumption | exact Ne.symm (by assumption) | omega | exact Nat.ne_of_lt (by omega) | exact Nat.ne_of_gt (by omega) | decide | exact Nat.le_of_ble_eq_true rfl) (by first | assumption | exact Ne.symm (by assumption) | omega | exact Nat.ne_of_lt (by omega) | exact Nat.ne_of_gt (by omega) | decide | exact Nat.le_of_ble_eq_true rfl) (by first | assumption | exact Ne.symm (by assumption) | omega | exact Nat.ne_of_lt (by omega) | exact Nat.ne_of_gt (by omega) | decide | exact Nat.le_of_ble_eq_true rfl) (by first | assumption | exact Ne.symm (by assumption) | omega | exact Nat.ne_of_lt (by omega) | exact Nat.ne_of_gt (by omega) | decide | exact Nat.le_of_ble_eq_true rfl) (by first | assumption | exact Ne.symm (by assumption) | omega | exact Nat.ne_of_lt (by omega) | exact Nat.ne_of_gt (by omega) | decide | exact Nat.le_of_ble_eq_true rfl) (by first | assumption | exact Ne.symm (by assumption) | omega | exact Nat.ne_of_lt (by omega) | exact Nat.ne_of_gt (by omega) | decide | exact Nat.le_of_ble_eq_true rfl) (by first | assumption | exact Ne.symm (by assumption) | omega | exact Nat.ne_of_lt (by omega) | exact Nat.ne_of_gt (by omega) | decide | exact Nat.le_of_ble_eq_true rfl)) hZ (wd87 hw) (wd49 hw) (by decide) (by decide)) q1a q1c (g := (mkF m 2 #[.val (.ref a), .val (.ref xs)] [.ref xs, .ref a])) rfl (by rw [hml]; rfl) (Steps.refl _) (argsL := [.ref xs]) (rest := []) (lenOf pd__Ljava_lang_String__Ljava_lang_StringBuilder__4184 rfl) rfl (by show 2 * 0 + _ ≤ _; exact Nat.le_of_eq rfl) (hb hby d14_2) (fun _ _ => ⟨rfl, e0, (by decide : 0 + 0 ≤ _), (by decide : 0 + 0 ≤ _)⟩)
  dsimp only [Pt.U, Pt.locs, Pt.cells, Pt.slots] at X1 l1 y1 z1 st1 hQ1
  subst Lp1 kp1 np1
  obtain ⟨rfl, N1q, K1q, f1_0, f1_1, f1_2, f1_3⟩ := hQ1
  have N1 := Fr.app N0 N1q
  have sz2 : h0.size ≤ T1.heap.size := K1q.1
  have O3 : Old Z n0 T1.heap := O0.keep K1q (allS (by omega : n0 ≤ a) (allS (by omega : n0 ≤ dd) all0))
  have K4 : Keep h0 T1.heap [a, dd] := K0.trans K1q (allS (P := fun x => x ∈ [a, dd] ∨ h0.size ≤ x) (Or.inl (List.mem_of_getElem? (i := 0) rfl)) (allS (P := fun x => x ∈ [a, dd] ∨ h0.size ≤ x) (Or.inl (List.mem_of_getElem? (i := 1) rfl)) all0))
  refine own_tr (S' := T1.setTop (mkF m 5 #[.val (.ref a), .val (.ref xs)] [.ref a])) st1 ?_
  refine own_ret (Q := Q_own_br Z a xs tt kt ki ys zc dd kd vs ci h0 n0) (C := rm5_0_0_96.cells) (N := rm5_0_0_96.slots) X1 (v := some (.ref a)) (fun h => by rw [Bd.returns] at h; cases h) Bd.notSynchronized ?_ (by decide) (by decide) (fun fs hr => retOut X1 hx Bd.returns rfl (Or.inr (Or.inr (Or.inr (Or.inr ⟨rfl, rfl, rfl⟩)))) (hb hby d14_5) hr)
  show Q_own_br Z a xs tt kt ki ys zc dd kd vs ci h0 n0 _ T1.heap _
  exact ⟨rfl, N1, K4, f1_0, f1_1, f1_2, f1_3⟩
def Q_own_canEncL (Z : State) (c1 : Int32) (h0 : Heap) (n0 : Nat) (v : Option Value) (h : Heap) (L : List Loc) : Prop := ∃ z : Int32, v = some (.int z) ∧ L = [] ∧ h = h0 ∧ (z = (if (255 : Int32) < c1 then (0 : Int32) else (1 : Int32)))
set_option maxRecDepth 65536 in
set_option maxHeartbeats 40000000 in
theorem own_canEncL (l : Launch) (Z : State) (a0 : Array Value) (hw : ∀ d ∈ tables_1, d.before a0 Z = true) (ws : List Jvm.Cond) (c1 : Int32) (h0 : Heap) (n0 : Nat) (O0 : Old Z n0 h0) :
    MetFree l mt10 (head1 (Jvm.Cond.code mt10 jdk_43_method_3_code 1 (some .boolean) :: ws) rm0_0_0_0) (fun aq U => aq = #[.int c1] ∧ Z.Warmed39 U.vm ∧ U.heap = h0) (fun _ _ _ _ _ => True) (fun _ U o U' => ∃ v L, o = .returned v ∧ Q_own_canEncL Z c1 h0 n0 v U'.heap L ∧ FrameEnd U o U' L rm0_0_0_0.cells rm0_0_0_0.slots) := by
  refine MetFree.of_bodySF (plainFor_of_name pn_java_lang_StringLatin1) hisR ?_
  intro p e s m args below meth c s₁ Bd hml0 hP hK
  obtain ⟨rfl, hZ, hh⟩ := hP
  have hx := Bd.exec
  have hby := Bd.bytes
  have hml : c.maxLocals = 1 := hml0
  have hown : s.vm.findClass "java/lang/StringLatin1" = some m.cls := findClass_of_methodNamed Bd.named
  have hnm := (name_of_methodNamed Bd.named Bd.method).1
  have X0 : Stand p l e rm0_0_0_0 s m #[.int c1] below meth c s₁ [] 0 0 := Stand.of_body Bd
  have e0 : s₁.heap = h0 := by rw [← hh, Bd.state]; rfl
  have N0 := Fr.nil n0
  have zO := O0.1
  have zO2 := O0.2.1
  refine own_open (own_via (S' := s₁.setTop (mkF m 0 #[.val (.int c1)] [])) (fun t k => castTop (ef_own_canEncL m c1) k) ?_)
  refine ov s₁ 1 #[.val (.int c1)] [.int c1] (fun t k => XS.iloadN X0.here hx rfl (hb hby d25_0) rfl k) ?_
  refine ov s₁ 4 #[.val (.int c1)] [.int 255, .int c1] (fun t k => XS.sipush X0.here hx rfl (hb hby d25_1) k) ?_
  by_cases hc4_1 : (255 : Int32) < c1
  · -- yes
    refine ov s₁ 11 #[.val (.int c1)] [] (fun t k => XS.icmpYes X0.here hx rfl (pc0 := 4) (pc' := 11) rfl (hb hby d25_4) rfl (tlt hc4_1).2.2.1 (by decide) (by decide) k) ?_
    refine ov s₁ 12 #[.val (.int c1)] [.int 0] (fun t k => XS.iconst X0.here hx rfl (hb hby d25_11) k) ?_
    refine own_ret (Q := Q_own_canEncL Z c1 h0 n0) (C := rm0_0_0_0.cells) (N := rm0_0_0_0.slots) X0 (v := some (.int 0)) (fun h => by rw [Bd.returns] at h; cases h) Bd.notSynchronized ?_ (by decide) (by decide) (fun fs hr => retN X0 hx (t := .boolean) Bd.returns (by simp) (hb hby d25_12) hr)
    show Q_own_canEncL Z c1 h0 n0 _ s₁.heap _
    rw [e0]
    exact ⟨(0 : Int32), rfl, rfl, rfl, ((if_pos hc4_1)).symm⟩
  · -- no
    refine ov s₁ 7 #[.val (.int c1)] [] (fun t k => XS.icmpNo X0.here hx rfl (hb hby d25_4) rfl (flt hc4_1).2.2.1 k) ?_
    refine ov s₁ 8 #[.val (.int c1)] [.int 1] (fun t k => XS.iconst X0.here hx rfl (hb hby d25_7) k) ?_
    refine ov s₁ 12 #[.val (.int c1)] [.int 1] (fun t k => XS.goto X0.here hx rfl (pc0 := 8) (pc' := 12) rfl (hb hby d25_8) (by decide) (by decide) k) ?_
    refine own_ret (Q := Q_own_canEncL Z c1 h0 n0) (C := rm0_0_0_0.cells) (N := rm0_0_0_0.slots) X0 (v := some (.int 1)) (fun h => by rw [Bd.returns] at h; cases h) Bd.notSynchronized ?_ (by decide) (by decide) (fun fs hr => retN X0 hx (t := .boolean) Bd.returns (by simp) (hb hby d25_12) hr)
    show Q_own_canEncL Z c1 h0 n0 _ s₁.heap _
    rw [e0]
    exact ⟨(1 : Int32), rfl, rfl, rfl, ((if_neg hc4_1)).symm⟩
def Q_own_ac (Z : State) (a : Addr) (zc : Int32) (dd : Addr) (kd : ClassId) (vs : List Value) (ci : Int32) (h0 : Heap) (n0 : Nat) (v : Option Value) (h : Heap) (L : List Loc) : Prop := v = some (.ref a) ∧ Fr n0 L ∧ Keep h0 h [a, dd] ∧ Fld Z h a "java/lang/AbstractStringBuilder" "value" "[B" (.ref dd) ∧ Fld Z h a "java/lang/AbstractStringBuilder" "coder" "B" (.int 0) ∧ Fld Z h a "java/lang/AbstractStringBuilder" "count" "I" (.int (ci + (1 : Int32))) ∧ Arv Z h dd kd .byte (32 : Int32) (vs.set ci.toNatClampNeg (.int 62)) (.int 0)
set_option maxRecDepth 65536 in
set_option maxHeartbeats 40000000 in
theorem own_ac (l : Launch) (Z : State) (a0 : Array Value) (hw : ∀ d ∈ tables_1, d.before a0 Z = true) (ws : List Jvm.Cond) (a : Addr) (zc : Int32) (dd : Addr) (kd : ClassId) (vs : List Value) (ci : Int32) (h0 : Heap) (n0 : Nat) (O0 : Old Z n0 h0) (zfC : Sta Z Z.heap "java/lang/String" "COMPACT_STRINGS" "Z" (.int zc)) (f0_E_a : Exa Z h0 a "java/lang/StringBuilder") (f0_F_a_value : Fld Z h0 a "java/lang/AbstractStringBuilder" "value" "[B" (.ref dd)) (f0_F_a_coder : Fld Z h0 a "java/lang/AbstractStringBuilder" "coder" "B" (.int 0)) (f0_F_a_count : Fld Z h0 a "java/lang/AbstractStringBuilder" "count" "I" (.int ci)) (f0_A_dd : Arv Z h0 dd kd .byte (32 : Int32) vs (.int 0)) (hzc : ¬ (zc = (0 : Int32))) (hci : ¬ ci < (0 : Int32)) (hlt : ci < (32 : Int32)) (hb2 : ci.toNatClampNeg < vs.length) (hcap : ¬ ((0 : Int32) < ((ci + (1 : Int32)) - (32 : Int32)))) (g_d : n0 ≤ dd) (g_a : n0 ≤ a) :
    MetFree l mt11 (head1 (Jvm.Cond.code mt11 jdk_68_method_31_code 2 (some (.object "java/lang/AbstractStringBuilder")) :: ws) rm1_0_0_14) (fun aq U => aq = #[.ref a, .int 62] ∧ Z.Warmed39 U.vm ∧ U.heap = h0) (fun _ _ _ _ _ => True) (fun _ U o U' => ∃ v L, o = .returned v ∧ Q_own_ac Z a zc dd kd vs ci h0 n0 v U'.heap L ∧ FrameEnd U o U' L rm1_0_0_14.cells rm1_0_0_14.slots) := by
  refine MetFree.of_bodySF (plainFor_of_name pn_java_lang_AbstractStringBuilder) hisR ?_
  intro p e s m args below meth c s₁ Bd hml0 hP hK
  obtain ⟨rfl, hZ, hh⟩ := hP
  have hx := Bd.exec
  have hby := Bd.bytes
  have hml : c.maxLocals = 2 := hml0
  have hown : s.vm.findClass "java/lang/AbstractStringBuilder" = some m.cls := findClass_of_methodNamed Bd.named
  have hnm := (name_of_methodNamed Bd.named Bd.method).1
  have X0 : Stand p l e rm1_0_0_14 s m #[.ref a, .int 62] below meth c s₁ [] 0 0 := Stand.of_body Bd
  have e0 : s₁.heap = h0 := by rw [← hh, Bd.state]; rfl
  have N0 := Fr.nil n0
  have zO := O0.1
  have zO2 := O0.2.1
  have fl_E_a : h0.size > a := f0_E_a.lt
  have fl_F_a_value : h0.size > a := f0_F_a_value.lt
  have fl_F_a_coder : h0.size > a := f0_F_a_coder.lt
  have fl_F_a_count : h0.size > a := f0_F_a_count.lt
  have fl_A_dd : h0.size > dd := f0_A_dd.lt
  refine own_open (own_via (S' := s₁.setTop (mkF m 0 #[.val (.ref a), .val (.int 62)] [])) (fun t k => castTop (ef_own_ac m a (62 : Int32)) k) ?_)
  have K0 : Keep h0 h0 [a, dd] := Keep.refl _ _
  have ne_a_dd : a ≠ dd := Exa.neArv f0_E_a f0_A_dd (wd48 hw)
  refine ov s₁ 1 #[.val (.ref a), .val (.int 62)] [.ref a] (fun t k => XS.aloadN X0.here hx rfl (hb hby d23_0) rfl rfl k) ?_
  refine ov s₁ 2 #[.val (.ref a), .val (.int 62)] [.ref a, .ref a] (fun t k => XS.aloadN X0.here hx rfl (hb hby d23_1) rfl rfl k) ?_
  obtain ⟨T1, X1, e1, st1⟩ := getF X0 hx hZ hown (host := "") (Or.inl (wd91 hw)) Via.refl e0 f0_F_a_count (g := (mkF m 2 #[.val (.ref a), .val (.int 62)] [.ref a, .ref a])) rfl rfl (hb hby d23_2)
  refine ov T1 5 #[.val (.ref a), .val (.int 62)] [.int ci, .ref a] st1 ?_
  refine ov T1 6 #[.val (.ref a), .val (.int 62)] [.int 1, .int ci, .ref a] (fun t k => XS.iconst X1.here hx rfl (hb hby d23_5) k) ?_
  refine ov T1 7 #[.val (.ref a), .val (.int 62)] [(.int (ci + (1 : Int32))), .ref a] (fun t k => XS.iadd X1.here hx rfl (hb hby d23_6) rfl k) ?_
  obtain ⟨cq2, kq2, q2a, q2b, q2c⟩ := isOf hZ e1 f0_E_a
  obtain ⟨_, _, ⟨T2, Lp2, kp2, np2⟩, -, X2, ⟨Lc2, hQ2, l2, y2, z2⟩, st2⟩ := X1.virtualBack hx (y := mt3) (z := mt3) hown (mvT hZ (wd93 hw)) (own_declares (mvT hZ (wd94 hw)) (mvT hZ (wd97 hw))) (notFace_of_selects (args := #[]) (mvT hZ (wd96 hw))) (mvT hZ (wd96 hw)) (mvT hZ (wd94 hw)) (by decide) (backOf (W := 0) (own_ens l Z a0 hw [] a (ci + (1 : Int32)) dd kd vs h0 n0 O0 f0_F_a_value f0_F_a_coder f0_A_dd (by first | assumption | exact Ne.symm (by assumption) | omega | exact Nat.ne_of_lt (by omega) | exact Nat.ne_of_gt (by omega) | decide | exact Nat.le_of_ble_eq_true rfl)) hZ (wd97 hw) (wd58 hw) (by decide) (by decide)) q2a q2c (g := (mkF m 7 #[.val (.ref a), .val (.int 62)] [(.int (ci + (1 : Int32))), .ref a])) rfl (by rw [hml]; rfl) (Steps.refl _) (argsL := [(.int (ci + (1 : Int32)))]) (rest := []) (lenOf pd__I_V_240 rfl) rfl (by show 2 * 0 + _ ≤ _; exact Nat.le_of_eq rfl) (hb hby d23_7) (fun _ _ => ⟨rfl, e1, (by decide : 0 + 0 ≤ _), (by decide : 0 + 0 ≤ _)⟩)
  dsimp only [Pt.U, Pt.locs, Pt.cells, Pt.slots] at X2 l2 y2 z2 st2 hQ2
  subst Lp2 kp2 np2
  obtain ⟨rfl, rfl, e2⟩ := hQ2
  try rw [List.append_nil] at X2
  refine own_tr (S' := T2.setTop (mkF m 10 #[.val (.ref a), .val (.int 62)] [])) st2 ?_
  refine ov T2 11 #[.val (.ref a), .val (.int 62)] [.ref a] (fun t k => XS.aloadN X2.here hx rfl (hb hby d23_10) rfl rfl k) ?_
  obtain ⟨cq3, kq3, q3a, q3b, q3c⟩ := isOf hZ e2 f0_E_a
  obtain ⟨_, _, ⟨T3, Lp3, kp3, np3⟩, -, X3, ⟨Lc3, hQ3, l3, y3, z3⟩, st3⟩ := X2.virtualBack hx (y := mt2) (z := mt2) hown (mvT hZ (wd136 hw)) (mvT hZ (wd137 hw)) (notFace_of_selects (args := #[]) (mvT hZ (wd139 hw))) (mvT hZ (wd139 hw)) (mvT hZ (wd138 hw)) (by decide) (backOf (W := 0) (own_isL1 l Z a0 hw [] a zc h0 n0 O0 zfC f0_F_a_coder (by first | assumption | exact Ne.symm (by assumption) | omega | exact Nat.ne_of_lt (by omega) | exact Nat.ne_of_gt (by omega) | decide | exact Nat.le_of_ble_eq_true rfl)) hZ (wd140 hw) (wd58 hw) (by decide) (by decide)) q3a q3c (g := (mkF m 11 #[.val (.ref a), .val (.int 62)] [.ref a])) rfl (by rw [hml]; rfl) (Steps.refl _) (argsL := []) (rest := []) (lenOf pd___Z_171 rfl) rfl (by show 2 * 0 + _ ≤ _; exact Nat.le_of_eq rfl) (hb hby d23_11) (fun _ _ => ⟨rfl, e2, (by decide : 0 + 0 ≤ _), (by decide : 0 + 0 ≤ _)⟩)
  dsimp only [Pt.U, Pt.locs, Pt.cells, Pt.slots] at X3 l3 y3 z3 st3 hQ3
  subst Lp3 kp3 np3
  obtain ⟨rfl, rfl, e3⟩ := hQ3
  try rw [List.append_nil] at X3
  refine own_tr (S' := T3.setTop (mkF m 14 #[.val (.ref a), .val (.int 62)] [.int 1])) st3 ?_
  refine ov T3 17 #[.val (.ref a), .val (.int 62)] [] (fun t k => XS.ifNo X3.here hx rfl (hb hby d23_14) rfl ((if0 _ _).trans (feq (by decide : ¬ ((1 : Int32) = (0 : Int32)))).1) k) ?_
  refine ov T3 18 #[.val (.ref a), .val (.int 62)] [.int 62] (fun t k => XS.iloadN X3.here hx rfl (hb hby d23_17) rfl k) ?_
  obtain ⟨_, _, ⟨T4, Lp4, kp4, np4⟩, -, X4, ⟨Lc4, hQ4, l4, y4, z4⟩, st4⟩ := Jvm.LawKit.callS X3 hx (y := mt10) hown (mvT hZ (wd141 hw)) (mvT hZ (wd142 hw)) (mvT hZ (wd143 hw)) (mvT hZ (wd144 hw)) (by decide) (backOf (W := 0) (own_canEncL l Z a0 hw [] (62 : Int32) h0 n0 O0) hZ (wd144 hw) (wd143 hw) (by decide) (by decide)) (g := (mkF m 18 #[.val (.ref a), .val (.int 62)] [.int 62])) rfl (by rw [hml]; rfl) (argsL := [.int 62]) (rest := []) (lenOf pd__C_Z_238 rfl) rfl (by show 2 * 0 + _ ≤ _; exact Nat.le_of_eq rfl) (hb hby d23_18) (fun _ _ => ⟨rfl, e3, (by decide : 0 + 0 ≤ _), (by decide : 0 + 0 ≤ _)⟩)
  dsimp only [Pt.U, Pt.locs, Pt.cells, Pt.slots] at X4 l4 y4 z4 st4 hQ4
  subst Lp4 kp4 np4
  obtain ⟨z4, rfl, rfl, e4, hz4_0⟩ := hQ4
  try rw [List.append_nil] at X4
  refine ov T4 21 #[.val (.ref a), .val (.int 62)] [.int z4] st4 ?_
  obtain rfl : z4 = (1 : Int32) := hz4_0.trans (if_neg (by decide))
  refine ov T4 24 #[.val (.ref a), .val (.int 62)] [] (fun t k => XS.ifNo X4.here hx rfl (hb hby d23_21) rfl ((if0 _ _).trans (feq (by decide : ¬ ((1 : Int32) = (0 : Int32)))).1) k) ?_
  refine ov T4 25 #[.val (.ref a), .val (.int 62)] [.ref a] (fun t k => XS.aloadN X4.here hx rfl (hb hby d23_24) rfl rfl k) ?_
  obtain ⟨T6, X6, e6, st6⟩ := getF X4 hx hZ hown (host := "") (Or.inl (wd75 hw)) Via.refl e4 f0_F_a_value (g := (mkF m 25 #[.val (.ref a), .val (.int 62)] [.ref a])) rfl rfl (hb hby d23_25)
  refine ov T6 28 #[.val (.ref a), .val (.int 62)] [.ref dd] st6 ?_
  refine ov T6 29 #[.val (.ref a), .val (.int 62)] [.ref a, .ref dd] (fun t k => XS.aloadN X6.here hx rfl (hb hby d23_28) rfl rfl k) ?_
  refine ov T6 30 #[.val (.ref a), .val (.int 62)] [.ref a, .ref a, .ref dd] (fun t k => XS.dup X6.here hx rfl (hb hby d23_29) rfl rfl k) ?_
  obtain ⟨T7, X7, e7, st7⟩ := getF X6 hx hZ hown (host := "") (Or.inl (wd91 hw)) Via.refl e6 f0_F_a_count (g := (mkF m 30 #[.val (.ref a), .val (.int 62)] [.ref a, .ref a, .ref dd])) rfl rfl (hb hby d23_30)
  refine ov T7 33 #[.val (.ref a), .val (.int 62)] [.int ci, .ref a, .ref dd] st7 ?_
  refine ov T7 34 #[.val (.ref a), .val (.int 62)] [.int ci, .ref a, .int ci, .ref dd] (fun t k => XS.dupX1 X7.here hx rfl (hb hby d23_33) rfl rfl rfl k) ?_
  refine ov T7 35 #[.val (.ref a), .val (.int 62)] [.int 1, .int ci, .ref a, .int ci, .ref dd] (fun t k => XS.iconst X7.here hx rfl (hb hby d23_34) k) ?_
  refine ov T7 36 #[.val (.ref a), .val (.int 62)] [(.int (ci + (1 : Int32))), .ref a, .int ci, .ref dd] (fun t k => XS.iadd X7.here hx rfl (hb hby d23_35) rfl k) ?_
  obtain ⟨T8, h8, X8, e8, W8, st8⟩ := putF X7 hx hZ hown (host := "") (Or.inl (wd91 hw)) Via.refl e7 f0_F_a_count f0_E_a (Or.inl (wd92 hw)) (wd48 hw) (ty := .int) (by decide) rfl rfl (g := (mkF m 36 #[.val (.ref a), .val (.int 62)] [(.int (ci + (1 : Int32))), .ref a, .int ci, .ref dd])) rfl rfl (hb hby d23_36)
  have sz9 : h0.size ≤ h8.size := Nat.le_of_eq W8.size.symm
  have O10 : Old Z n0 h8 := O0.wr W8 (by omega : n0 ≤ a)
  have N8 := Fr.snoc X8 N0 (by omega : n0 ≤ a)
  have K11 : Keep h0 h8 [a, dd] := K0.wr W8 (Or.inl (List.mem_of_getElem? (i := 0) rfl))
  have Fw8 : Fld Z h8 a "java/lang/AbstractStringBuilder" "count" "I" (.int (ci + (1 : Int32))) := Fld.same W8 f0_F_a_count
  refine ov T8 39 #[.val (.ref a), .val (.int 62)] [.int ci, .ref dd] st8 ?_
  refine ov T8 40 #[.val (.ref a), .val (.int 62)] [.int 62, .int ci, .ref dd] (fun t k => XS.iloadN X8.here hx rfl (hb hby d23_39) rfl k) ?_
  refine ov T8 41 #[.val (.ref a), .val (.int 62)] [.int 62, .int ci, .ref dd] (fun t k => XS.i2b X8.here hx rfl (hb hby d23_40) rfl k) ?_
  have cx13 : Arv Z h8 dd kd .byte (32 : Int32) vs (.int 0) := (f0_A_dd.other W8 (Ne.symm ne_a_dd))
  obtain ⟨cl12, Ar12, q12, S12, M12, H12, U12⟩ := id cx13
  obtain ⟨T12, h12, X12, e12, W12, st12⟩ := stB X8 hx hZ e8 Ar12 (j := ci) (inb_of S12 ⟨hci, hlt⟩) (g := (mkF m 41 #[.val (.ref a), .val (.int 62)] [.int 62, .int ci, .ref dd])) rfl rfl (hb hby d23_41)
  have sz14 : h8.size ≤ h12.size := Nat.le_of_eq W12.size.symm
  have O15 : Old Z n0 h12 := O10.wr W12 (by omega : n0 ≤ dd)
  have N12 := Fr.snoc X12 N8 (by omega : n0 ≤ dd)
  have K16 : Keep h0 h12 [a, dd] := K11.wr W12 (Or.inl (List.mem_of_getElem? (i := 1) rfl))
  have V12 : Arv Z h12 dd kd .byte (32 : Int32) (vs.set ci.toNatClampNeg (.int 62)) (.int 0) := Arv.set Ar12 q12 S12 M12 H12 U12 (fits_nar_byte _) W12 _ rfl hb2
  refine ov T12 42 #[.val (.ref a), .val (.int 62)] [] st12 ?_
  refine ov T12 75 #[.val (.ref a), .val (.int 62)] [] (fun t k => XS.goto X12.here hx rfl (pc0 := 42) (pc' := 75) rfl (hb hby d23_42) (by decide) (by decide) k) ?_
  refine ov T12 76 #[.val (.ref a), .val (.int 62)] [.ref a] (fun t k => XS.aloadN X12.here hx rfl (hb hby d23_75) rfl rfl k) ?_
  have cx17 : Fld Z h12 a "java/lang/AbstractStringBuilder" "value" "[B" (.ref dd) := (Fld.other W12 (Fld.other W8 f0_F_a_value (Or.inr (slot_ne (Or.inl (wd76 hw)) (Or.inl (wd92 hw)) (by decide) (t := (.array .byte)) (t' := .int) (by decide) (by decide)))) (Or.inl ne_a_dd))
  have cx18 : Fld Z h12 a "java/lang/AbstractStringBuilder" "coder" "B" (.int 0) := (Fld.other W12 (Fld.other W8 f0_F_a_coder (Or.inr (slot_ne (Or.inl (wd74 hw)) (Or.inl (wd92 hw)) (by decide) (t := .byte) (t' := .int) (by decide) (by decide)))) (Or.inl ne_a_dd))
  have cx19 : Fld Z h12 a "java/lang/AbstractStringBuilder" "count" "I" (.int (ci + (1 : Int32))) := (Fld.other W12 Fw8 (Or.inl ne_a_dd))
  refine own_ret (Q := Q_own_ac Z a zc dd kd vs ci h0 n0) (C := rm1_0_0_14.cells) (N := rm1_0_0_14.slots) X12 (v := some (.ref a)) (fun h => by rw [Bd.returns] at h; cases h) Bd.notSynchronized ?_ (by decide) (by decide) (fun fs hr => retOut X12 hx Bd.returns rfl (Or.inr (Or.inr (Or.inr (Or.inr ⟨rfl, rfl, rfl⟩)))) (hb hby d23_76) hr)
  show Q_own_ac Z a zc dd kd vs ci h0 n0 _ T12.heap _
  rw [e12]
  exact ⟨rfl, N12, K16, cx17, cx18, cx19, V12⟩
def Q_own_bc (Z : State) (a : Addr) (zc : Int32) (dd : Addr) (kd : ClassId) (vs : List Value) (ci : Int32) (h0 : Heap) (n0 : Nat) (v : Option Value) (h : Heap) (L : List Loc) : Prop := v = some (.ref a) ∧ Fr n0 L ∧ Keep h0 h [a, dd] ∧ Fld Z h a "java/lang/AbstractStringBuilder" "value" "[B" (.ref dd) ∧ Fld Z h a "java/lang/AbstractStringBuilder" "coder" "B" (.int 0) ∧ Fld Z h a "java/lang/AbstractStringBuilder" "count" "I" (.int (ci + (1 : Int32))) ∧ Arv Z h dd kd .byte (32 : Int32) (vs.set ci.toNatClampNeg (.int 62)) (.int 0)
set_option maxRecDepth 65536 in
set_option maxHeartbeats 40000000 in
theorem own_bc (l : Launch) (Z : State) (a0 : Array Value) (hw : ∀ d ∈ tables_1, d.before a0 Z = true) (ws : List Jvm.Cond) (a : Addr) (zc : Int32) (dd : Addr) (kd : ClassId) (vs : List Value) (ci : Int32) (h0 : Heap) (n0 : Nat) (O0 : Old Z n0 h0) (zfC : Sta Z Z.heap "java/lang/String" "COMPACT_STRINGS" "Z" (.int zc)) (f0_E_a : Exa Z h0 a "java/lang/StringBuilder") (f0_F_a_value : Fld Z h0 a "java/lang/AbstractStringBuilder" "value" "[B" (.ref dd)) (f0_F_a_coder : Fld Z h0 a "java/lang/AbstractStringBuilder" "coder" "B" (.int 0)) (f0_F_a_count : Fld Z h0 a "java/lang/AbstractStringBuilder" "count" "I" (.int ci)) (f0_A_dd : Arv Z h0 dd kd .byte (32 : Int32) vs (.int 0)) (hzc : ¬ (zc = (0 : Int32))) (hci : ¬ ci < (0 : Int32)) (hlt : ci < (32 : Int32)) (hb2 : ci.toNatClampNeg < vs.length) (hcap : ¬ ((0 : Int32) < ((ci + (1 : Int32)) - (32 : Int32)))) (g_d : n0 ≤ dd) (g_a : n0 ≤ a) :
    MetFree l mt12 (head1 (Jvm.Cond.code mt12 jdk_67_method_14_code 2 (some (.object "java/lang/StringBuilder")) :: ws) rm2_0_0_27) (fun aq U => aq = #[.ref a, .int 62] ∧ Z.Warmed39 U.vm ∧ U.heap = h0) (fun _ _ _ _ _ => True) (fun _ U o U' => ∃ v L, o = .returned v ∧ Q_own_bc Z a zc dd kd vs ci h0 n0 v U'.heap L ∧ FrameEnd U o U' L rm2_0_0_27.cells rm2_0_0_27.slots) := by
  refine MetFree.of_bodySF (plainFor_of_name pn_java_lang_StringBuilder) hisR ?_
  intro p e s m args below meth c s₁ Bd hml0 hP hK
  obtain ⟨rfl, hZ, hh⟩ := hP
  have hx := Bd.exec
  have hby := Bd.bytes
  have hml : c.maxLocals = 2 := hml0
  have hown : s.vm.findClass "java/lang/StringBuilder" = some m.cls := findClass_of_methodNamed Bd.named
  have hnm := (name_of_methodNamed Bd.named Bd.method).1
  have X0 : Stand p l e rm2_0_0_27 s m #[.ref a, .int 62] below meth c s₁ [] 0 0 := Stand.of_body Bd
  have e0 : s₁.heap = h0 := by rw [← hh, Bd.state]; rfl
  have N0 := Fr.nil n0
  have zO := O0.1
  have zO2 := O0.2.1
  have fl_E_a : h0.size > a := f0_E_a.lt
  have fl_F_a_value : h0.size > a := f0_F_a_value.lt
  have fl_F_a_coder : h0.size > a := f0_F_a_coder.lt
  have fl_F_a_count : h0.size > a := f0_F_a_count.lt
  have fl_A_dd : h0.size > dd := f0_A_dd.lt
  refine own_open (own_via (S' := s₁.setTop (mkF m 0 #[.val (.ref a), .val (.int 62)] [])) (fun t k => castTop (ef_own_bc m a (62 : Int32)) k) ?_)
  have K0 : Keep h0 h0 [a, dd] := Keep.refl _ _
  have ne_a_dd : a ≠ dd := Exa.neArv f0_E_a f0_A_dd (wd48 hw)
  refine ov s₁ 1 #[.val (.ref a), .val (.int 62)] [.ref a] (fun t k => XS.aloadN X0.here hx rfl (hb hby d22_0) rfl rfl k) ?_
  refine ov s₁ 2 #[.val (.ref a), .val (.int 62)] [.int 62, .ref a] (fun t k => XS.iloadN X0.here hx rfl (hb hby d22_1) rfl k) ?_
  obtain ⟨_, _, ⟨T1, Lp1, kp1, np1⟩, -, X1, ⟨Lc1, hQ1, l1, y1, z1⟩, st1⟩ := superBack X0 hx hZ (y := mt11) hown (wd132 hw) (own_sameM (y := mt11) (wd133 hw) (own_nface (args := a0) (wd96 hw) rfl) (by decide)) (wd133 hw) (wd89 hw) (by decide) (backOf (W := 0) (own_ac l Z a0 hw [] a zc dd kd vs ci h0 n0 O0 zfC f0_E_a f0_F_a_value f0_F_a_coder f0_F_a_count f0_A_dd (by first | assumption | exact Ne.symm (by assumption) | omega | exact Nat.ne_of_lt (by omega) | exact Nat.ne_of_gt (by omega) | decide | exact Nat.le_of_ble_eq_true rfl) (by first | assumption | exact Ne.symm (by assumption) | omega | exact Nat.ne_of_lt (by omega) | exact Nat.ne_of_gt (by omega) | decide | exact Nat.le_of_ble_eq_true rfl) (by first | assumption | exact Ne.symm (by assumption) | omega | exact Nat.ne_of_lt (by omega) | exact Nat.ne_of_gt (by omega) | decide | exact Nat.le_of_ble_eq_true rfl) (by first | assumption | exact Ne.symm (by assumption) | omega | exact Nat.ne_of_lt (by omega) | exact Nat.ne_of_gt (by omega) | decide | exact Nat.le_of_ble_eq_true rfl) (by first | assumption | exact Ne.symm (by assumption) | omega | exact Nat.ne_of_lt (by omega) | exact Nat.ne_of_gt (by omega) | decide | exact Nat.le_of_ble_eq_true rfl) (by first | assumption | exact Ne.symm (by assumption) | omega | exact Nat.ne_of_lt (by omega) | exact Nat.ne_of_gt (by omega) | decide | exact Nat.le_of_ble_eq_true rfl) (by first | assumption | exact Ne.symm (by assumption) | omega | exact Nat.ne_of_lt (by omega) | exact Nat.ne_of_gt (by omega) | decide | exact Nat.le_of_ble_eq_true rfl)) hZ (wd135 hw) (wd58 hw) (by decide) (by decide)) e0 (Ins.self f0_E_a) (g := (mkF m 2 #[.val (.ref a), .val (.int 62)] [.int 62, .ref a])) rfl (by rw [hml]; rfl) (wd135 hw) (argsL := [.int 62]) (rest := []) (lenOf pd__C_Ljava_lang_AbstractStringBuilder__3375 rfl) rfl (by show 2 * 0 + _ ≤ _; exact Nat.le_of_eq rfl) (hb hby d22_2) (fun _ _ => ⟨rfl, e0, (by decide : 0 + 0 ≤ _), (by decide : 0 + 0 ≤ _)⟩)
  dsimp only [Pt.U, Pt.locs, Pt.cells, Pt.slots] at X1 l1 y1 z1 st1 hQ1
  subst Lp1 kp1 np1
  obtain ⟨rfl, N1q, K1q, f1_0, f1_1, f1_2, f1_3⟩ := hQ1
  have N1 := Fr.app N0 N1q
  have sz2 : h0.size ≤ T1.heap.size := K1q.1
  have O3 : Old Z n0 T1.heap := O0.keep K1q (allS (by omega : n0 ≤ a) (allS (by omega : n0 ≤ dd) all0))
  have K4 : Keep h0 T1.heap [a, dd] := K0.trans K1q (allS (P := fun x => x ∈ [a, dd] ∨ h0.size ≤ x) (Or.inl (List.mem_of_getElem? (i := 0) rfl)) (allS (P := fun x => x ∈ [a, dd] ∨ h0.size ≤ x) (Or.inl (List.mem_of_getElem? (i := 1) rfl)) all0))
  refine own_tr (S' := T1.setTop (mkF m 5 #[.val (.ref a), .val (.int 62)] [.ref a])) st1 ?_
  refine ov T1 6 #[.val (.ref a), .val (.int 62)] [] (fun t k => XS.pop X1.here hx rfl (hb hby d22_5) rfl rfl k) ?_
  refine ov T1 7 #[.val (.ref a), .val (.int 62)] [.ref a] (fun t k => XS.aloadN X1.here hx rfl (hb hby d22_6) rfl rfl k) ?_
  refine own_ret (Q := Q_own_bc Z a zc dd kd vs ci h0 n0) (C := rm2_0_0_27.cells) (N := rm2_0_0_27.slots) X1 (v := some (.ref a)) (fun h => by rw [Bd.returns] at h; cases h) Bd.notSynchronized ?_ (by decide) (by decide) (fun fs hr => retOut X1 hx Bd.returns rfl (Or.inr (Or.inr (Or.inr (Or.inr ⟨rfl, rfl, rfl⟩)))) (hb hby d22_7) hr)
  show Q_own_bc Z a zc dd kd vs ci h0 n0 _ T1.heap _
  exact ⟨rfl, N1, K4, f1_0, f1_1, f1_2, f1_3⟩
def Q_own_chk (Z : State) (u2 : Int32) (h0 : Heap) (n0 : Nat) (v : Option Value) (h : Heap) (L : List Loc) : Prop := v = none ∧ L = [] ∧ h = h0
set_option maxRecDepth 65536 in
set_option maxHeartbeats 40000000 in
theorem own_chk (l : Launch) (Z : State) (a0 : Array Value) (hw : ∀ d ∈ tables_1, d.before a0 Z = true) (ws : List Jvm.Cond) (u2 : Int32) (h0 : Heap) (n0 : Nat) (O0 : Old Z n0 h0) (hu : ¬ (u2 < (0 : Int32))) :
    MetFree l mt13 (head1 (Jvm.Cond.code mt13 jdk_65_method_131_code 2 none :: ws) rm0_0_0_0) (fun aq U => aq = #[.int 0, .int u2] ∧ Z.Warmed39 U.vm ∧ U.heap = h0) (fun _ _ _ _ _ => True) (fun _ U o U' => ∃ v L, o = .returned v ∧ Q_own_chk Z u2 h0 n0 v U'.heap L ∧ FrameEnd U o U' L rm0_0_0_0.cells rm0_0_0_0.slots) := by
  refine MetFree.of_bodySF (plainFor_of_name pn_java_util_Arrays) hisR ?_
  intro p e s m args below meth c s₁ Bd hml0 hP hK
  obtain ⟨rfl, hZ, hh⟩ := hP
  have hx := Bd.exec
  have hby := Bd.bytes
  have hml : c.maxLocals = 2 := hml0
  have hown : s.vm.findClass "java/util/Arrays" = some m.cls := findClass_of_methodNamed Bd.named
  have hnm := (name_of_methodNamed Bd.named Bd.method).1
  have X0 : Stand p l e rm0_0_0_0 s m #[.int 0, .int u2] below meth c s₁ [] 0 0 := Stand.of_body Bd
  have e0 : s₁.heap = h0 := by rw [← hh, Bd.state]; rfl
  have N0 := Fr.nil n0
  have zO := O0.1
  have zO2 := O0.2.1
  refine own_open (own_via (S' := s₁.setTop (mkF m 0 #[.val (.int 0), .val (.int u2)] [])) (fun t k => castTop (ef_own_chk m (0 : Int32) u2) k) ?_)
  refine ov s₁ 1 #[.val (.int 0), .val (.int u2)] [.int u2] (fun t k => XS.iloadN X0.here hx rfl (hb hby d35_0) rfl k) ?_
  refine ov s₁ 2 #[.val (.int 0), .val (.int u2)] [.int 0, .int u2] (fun t k => XS.iloadN X0.here hx rfl (hb hby d35_1) rfl k) ?_
  refine ov s₁ 37 #[.val (.int 0), .val (.int u2)] [] (fun t k => XS.icmpYes X0.here hx rfl (pc0 := 2) (pc' := 37) rfl (hb hby d35_2) rfl (flt hu).2.1 (by decide) (by decide) k) ?_
  refine own_ret (Q := Q_own_chk Z u2 h0 n0) (C := rm0_0_0_0.cells) (N := rm0_0_0_0.slots) X0 (v := none) (fun _ => rfl) Bd.notSynchronized ?_ (by decide) (by decide) (fun fs hr => X0.returnOut hx Bd.returns (hb hby d35_37) hr)
  show Q_own_chk Z u2 h0 n0 _ s₁.heap _
  rw [e0]
  exact ⟨rfl, rfl, rfl⟩
def Q_own_min (Z : State) (ci : Int32) (h0 : Heap) (n0 : Nat) (v : Option Value) (h : Heap) (L : List Loc) : Prop := v = some (.int ci) ∧ L = [] ∧ h = h0
set_option maxRecDepth 65536 in
set_option maxHeartbeats 40000000 in
theorem own_min (l : Launch) (Z : State) (a0 : Array Value) (hw : ∀ d ∈ tables_1, d.before a0 Z = true) (ws : List Jvm.Cond) (ci : Int32) (h0 : Heap) (n0 : Nat) (O0 : Old Z n0 h0) (hm : ci < (32 : Int32)) :
    MetFree l mt14 (head1 (Jvm.Cond.code mt14 jdk_29_method_69_code 2 (some .int) :: ws) rm0_0_0_0) (fun aq U => aq = #[.int 32, .int ci] ∧ Z.Warmed39 U.vm ∧ U.heap = h0) (fun _ _ _ _ _ => True) (fun _ U o U' => ∃ v L, o = .returned v ∧ Q_own_min Z ci h0 n0 v U'.heap L ∧ FrameEnd U o U' L rm0_0_0_0.cells rm0_0_0_0.slots) := by
  refine MetFree.of_bodySF (Jvm.Free.JP.mathPlain rfl (by decide +kernel)) hisR ?_
  intro p e s m args below meth c s₁ Bd hml0 hP hK
  obtain ⟨rfl, hZ, hh⟩ := hP
  have hx := Bd.exec
  have hby := Bd.bytes
  have hml : c.maxLocals = 2 := hml0
  have hown : s.vm.findClass "java/lang/Math" = some m.cls := findClass_of_methodNamed Bd.named
  have hnm := (name_of_methodNamed Bd.named Bd.method).1
  have X0 : Stand p l e rm0_0_0_0 s m #[.int 32, .int ci] below meth c s₁ [] 0 0 := Stand.of_body Bd
  have e0 : s₁.heap = h0 := by rw [← hh, Bd.state]; rfl
  have N0 := Fr.nil n0
  have zO := O0.1
  have zO2 := O0.2.1
  refine own_open (own_via (S' := s₁.setTop (mkF m 0 #[.val (.int 32), .val (.int ci)] [])) (fun t k => castTop (ef_own_min m (32 : Int32) ci) k) ?_)
  refine ov s₁ 1 #[.val (.int 32), .val (.int ci)] [.int 32] (fun t k => XS.iloadN X0.here hx rfl (hb hby d36_0) rfl k) ?_
  refine ov s₁ 2 #[.val (.int 32), .val (.int ci)] [.int ci, .int 32] (fun t k => XS.iloadN X0.here hx rfl (hb hby d36_1) rfl k) ?_
  refine ov s₁ 9 #[.val (.int 32), .val (.int ci)] [] (fun t k => XS.icmpYes X0.here hx rfl (pc0 := 2) (pc' := 9) rfl (hb hby d36_2) rfl (tlt hm).2.2.1 (by decide) (by decide) k) ?_
  refine ov s₁ 10 #[.val (.int 32), .val (.int ci)] [.int ci] (fun t k => XS.iloadN X0.here hx rfl (hb hby d36_9) rfl k) ?_
  refine own_ret (Q := Q_own_min Z ci h0 n0) (C := rm0_0_0_0.cells) (N := rm0_0_0_0.slots) X0 (v := some (.int ci)) (fun h => by rw [Bd.returns] at h; cases h) Bd.notSynchronized ?_ (by decide) (by decide) (fun fs hr => retOut X0 hx Bd.returns rfl (Or.inl ⟨rfl, Or.inl rfl, _, rfl⟩) (hb hby d36_10) hr)
  show Q_own_min Z ci h0 n0 _ s₁.heap _
  rw [e0]
  exact ⟨rfl, rfl, rfl⟩
def Q_own_crb (Z : State) (dd : Addr) (kd : ClassId) (vs : List Value) (ci : Int32) (h0 : Heap) (n0 : Nat) (v : Option Value) (h : Heap) (L : List Loc) : Prop := ∃ b : Addr, ∃ kb : ClassId, v = some (.ref b) ∧ Fr n0 L ∧ Keep h0 h [] ∧ Arv Z h b kb .byte ci (own_cp (List.replicate ci.toNatClampNeg (.int 0)) vs (0 : Int32) (0 : Int32) ci) (.int 0) ∧ (h0.size ≤ b)
set_option maxRecDepth 65536 in
set_option maxHeartbeats 40000000 in
theorem own_crb (l : Launch) (Z : State) (a0 : Array Value) (hw : ∀ d ∈ tables_1, d.before a0 Z = true) (ws : List Jvm.Cond) (dd : Addr) (kd : ClassId) (vs : List Value) (ci : Int32) (h0 : Heap) (n0 : Nat) (O0 : Old Z n0 h0) (f0_A_dd : Arv Z h0 dd kd .byte (32 : Int32) vs (.int 0)) (hci : ¬ (ci < (0 : Int32))) (hm : ci < (32 : Int32)) (hne : ¬ (ci = (32 : Int32))) (hb1 : (0 : Int32).toNatClampNeg + ci.toNatClampNeg ≤ (32 : Int32).toNatClampNeg) (hb3 : ci.toNatClampNeg ≤ 32) :
    MetFree l mt15 (head1 (Jvm.Cond.code mt15 jdk_65_method_133_code 5 (some (.array .byte)) :: ws) rm1_1_32_40) (fun aq U => aq = #[.ref dd, .int 0, .int ci] ∧ Z.Warmed39 U.vm ∧ U.heap = h0) (fun _ _ _ _ _ => True) (fun _ U o U' => ∃ v L, o = .returned v ∧ Q_own_crb Z dd kd vs ci h0 n0 v U'.heap L ∧ FrameEnd U o U' L rm1_1_32_40.cells rm1_1_32_40.slots) := by
  refine MetFree.of_bodySF (plainFor_of_name pn_java_util_Arrays) hisR ?_
  intro p e s m args below meth c s₁ Bd hml0 hP hK
  obtain ⟨rfl, hZ, hh⟩ := hP
  have hx := Bd.exec
  have hby := Bd.bytes
  have hml : c.maxLocals = 5 := hml0
  have hown : s.vm.findClass "java/util/Arrays" = some m.cls := findClass_of_methodNamed Bd.named
  have hnm := (name_of_methodNamed Bd.named Bd.method).1
  have X0 : Stand p l e rm1_1_32_40 s m #[.ref dd, .int 0, .int ci] below meth c s₁ [] 0 0 := Stand.of_body Bd
  have e0 : s₁.heap = h0 := by rw [← hh, Bd.state]; rfl
  have N0 := Fr.nil n0
  have zO := O0.1
  have zO2 := O0.2.1
  have fl_A_dd : h0.size > dd := f0_A_dd.lt
  refine own_open (own_via (S' := s₁.setTop (mkF m 0 #[.val (.ref dd), .val (.int 0), .val (.int ci), .unset, .unset] [])) (fun t k => castTop (ef_own_crb m dd (0 : Int32) ci) k) ?_)
  have K0 : Keep h0 h0 [] := Keep.refl _ _
  refine ov s₁ 1 #[.val (.ref dd), .val (.int 0), .val (.int ci), .unset, .unset] [.int 0] (fun t k => XS.iloadN X0.here hx rfl (hb hby d34_0) rfl k) ?_
  refine ov s₁ 2 #[.val (.ref dd), .val (.int 0), .val (.int ci), .unset, .unset] [.int ci, .int 0] (fun t k => XS.iloadN X0.here hx rfl (hb hby d34_1) rfl k) ?_
  obtain ⟨_, _, ⟨T1, Lp1, kp1, np1⟩, -, X1, ⟨Lc1, hQ1, l1, y1, z1⟩, st1⟩ := Jvm.LawKit.callS X0 hx (y := mt13) hown (mvT hZ (wd183 hw)) (mvT hZ (wd184 hw)) (mvT hZ (wd178 hw)) (mvT hZ (wd185 hw)) (by decide) (backOf (W := 0) (own_chk l Z a0 hw [] ci h0 n0 O0 (by first | assumption | exact Ne.symm (by assumption) | omega | exact Nat.ne_of_lt (by omega) | exact Nat.ne_of_gt (by omega) | decide | exact Nat.le_of_ble_eq_true rfl)) hZ (wd185 hw) (wd178 hw) (by decide) (by decide)) (g := (mkF m 2 #[.val (.ref dd), .val (.int 0), .val (.int ci), .unset, .unset] [.int ci, .int 0])) rfl (by rw [hml]; rfl) (argsL := [.int 0, .int ci]) (rest := []) (lenOf pd__II_V_313 rfl) rfl (by show 2 * 0 + _ ≤ _; exact Nat.le_of_eq rfl) (hb hby d34_2) (fun _ _ => ⟨rfl, e0, (by decide : 0 + 0 ≤ _), (by decide : 0 + 0 ≤ _)⟩)
  dsimp only [Pt.U, Pt.locs, Pt.cells, Pt.slots] at X1 l1 y1 z1 st1 hQ1
  subst Lp1 kp1 np1
  obtain ⟨rfl, rfl, e1⟩ := hQ1
  try rw [List.append_nil] at X1
  refine ov T1 5 #[.val (.ref dd), .val (.int 0), .val (.int ci), .unset, .unset] [] st1 ?_
  refine ov T1 6 #[.val (.ref dd), .val (.int 0), .val (.int ci), .unset, .unset] [.int ci] (fun t k => XS.iloadN X1.here hx rfl (hb hby d34_5) rfl k) ?_
  refine ov T1 7 #[.val (.ref dd), .val (.int 0), .val (.int ci), .unset, .unset] [.int 0, .int ci] (fun t k => XS.iloadN X1.here hx rfl (hb hby d34_6) rfl k) ?_
  refine ov T1 8 #[.val (.ref dd), .val (.int 0), .val (.int ci), .unset, .unset] [(.int (ci - (0 : Int32)))] (fun t k => XS.isub X1.here hx rfl (hb hby d34_7) rfl k) ?_
  rw [own_sub0]
  refine ov T1 9 #[.val (.ref dd), .val (.int 0), .val (.int ci), .val (.int ci), .unset] [] (fun t k => XS.istoreN X1.here hx rfl (hb hby d34_8) rfl (l' := #[.val (.ref dd), .val (.int 0), .val (.int ci), .val (.int ci), .unset]) rfl k) ?_
  refine ov T1 10 #[.val (.ref dd), .val (.int 0), .val (.int ci), .val (.int ci), .unset] [.int ci] (fun t k => XS.iloadN X1.here hx rfl (hb hby d34_9) rfl k) ?_
  obtain ⟨T2, h2, k2, X2, e2, E2, A2, st2⟩ := newP (aty := .byte) X1 hx hZ (wd19 hw) e1 (g := (mkF m 10 #[.val (.ref dd), .val (.int 0), .val (.int ci), .val (.int ci), .unset] [.int ci])) rfl (hb hby d34_10) rfl (hci : ¬ (ci < (0 : Int32))) (cap := 32) hb3 (by decide) (by decide) (by decide)
  obtain ⟨b2, g2⟩ : ∃ z, z = h0.size := ⟨_, rfl⟩
  rw [← g2] at A2 st2
  have lt_b2 : h2.size > b2 := A2.lt
  have sz3 : h0.size ≤ h2.size := E2.1
  have O4 : Old Z n0 h2 := O0.ext E2
  have K5 : Keep h0 h2 [] := K0.ext E2
  have V2 : Arv Z h2 b2 k2 .byte ci (List.replicate ci.toNatClampNeg (.int 0)) (.int 0) := (Arv.new A2 hci).pad (pad_rep [] (.int 0) ci.toNatClampNeg)
  refine ov T2 12 #[.val (.ref dd), .val (.int 0), .val (.int ci), .val (.int ci), .unset] [.ref b2] st2 ?_
  refine ov T2 14 #[.val (.ref dd), .val (.int 0), .val (.int ci), .val (.int ci), .val (.ref b2)] [] (fun t k => XS.astore X2.here hx rfl (hb hby d34_12) rfl rfl (l' := #[.val (.ref dd), .val (.int 0), .val (.int ci), .val (.int ci), .val (.ref b2)]) rfl k) ?_
  refine ov T2 15 #[.val (.ref dd), .val (.int 0), .val (.int ci), .val (.int ci), .val (.ref b2)] [.ref dd] (fun t k => XS.aloadN X2.here hx rfl (hb hby d34_14) rfl rfl k) ?_
  refine ov T2 16 #[.val (.ref dd), .val (.int 0), .val (.int ci), .val (.int ci), .val (.ref b2)] [.int 0, .ref dd] (fun t k => XS.iloadN X2.here hx rfl (hb hby d34_15) rfl k) ?_
  refine ov T2 18 #[.val (.ref dd), .val (.int 0), .val (.int ci), .val (.int ci), .val (.ref b2)] [.ref b2, .int 0, .ref dd] (fun t k => XS.aload X2.here hx rfl (hb hby d34_16) rfl rfl k) ?_
  refine ov T2 19 #[.val (.ref dd), .val (.int 0), .val (.int ci), .val (.int ci), .val (.ref b2)] [.int 0, .ref b2, .int 0, .ref dd] (fun t k => XS.iconst X2.here hx rfl (hb hby d34_18) k) ?_
  refine ov T2 20 #[.val (.ref dd), .val (.int 0), .val (.int ci), .val (.int ci), .val (.ref b2)] [.ref dd, .int 0, .ref b2, .int 0, .ref dd] (fun t k => XS.aloadN X2.here hx rfl (hb hby d34_19) rfl rfl k) ?_
  have cx6 : Arv Z h2 dd kd .byte (32 : Int32) vs (.int 0) := (f0_A_dd.ext E2)
  obtain ⟨cl7, Ar7, -, S7, N7, -, -⟩ := id cx6
  refine ov T2 21 #[.val (.ref dd), .val (.int 0), .val (.int ci), .val (.int ci), .val (.ref b2)] [.int 32, .int 0, .ref b2, .int 0, .ref dd] (fun t k => X2.arraylength hx (by first | (rw [e2]; exact Ar7.1) | exact Ar7.1) (State.isArrayOf_alike hZ.alike Ar7.2.1) (g := (mkF m 20 #[.val (.ref dd), .val (.int 0), .val (.int ci), .val (.int ci), .val (.ref b2)] [.ref dd, .int 0, .ref b2, .int 0, .ref dd])) rfl rfl (hb hby d34_20) _ (by rw [len_of S7 N7]; exact k)) ?_
  refine ov T2 22 #[.val (.ref dd), .val (.int 0), .val (.int ci), .val (.int ci), .val (.ref b2)] [.int 0, .int 32, .int 0, .ref b2, .int 0, .ref dd] (fun t k => XS.iloadN X2.here hx rfl (hb hby d34_21) rfl k) ?_
  refine ov T2 23 #[.val (.ref dd), .val (.int 0), .val (.int ci), .val (.int ci), .val (.ref b2)] [.int 32, .int 0, .ref b2, .int 0, .ref dd] (fun t k => XS.isub X2.here hx rfl (hb hby d34_22) rfl k) ?_
  refine ov T2 24 #[.val (.ref dd), .val (.int 0), .val (.int ci), .val (.int ci), .val (.ref b2)] [.int ci, .int 32, .int 0, .ref b2, .int 0, .ref dd] (fun t k => XS.iloadN X2.here hx rfl (hb hby d34_23) rfl k) ?_
  obtain ⟨_, _, ⟨T8, Lp8, kp8, np8⟩, -, X8, ⟨Lc8, hQ8, l8, y8, z8⟩, st8⟩ := Jvm.LawKit.callS X2 hx (y := mt14) hown (mvT hZ (wd186 hw)) (mvT hZ (wd187 hw)) (mvT hZ (wd188 hw)) (mvT hZ (wd189 hw)) (by decide) (backOf (W := 4) (own_min l Z a0 hw [] ci h2 n0 O4 (by first | assumption | exact Ne.symm (by assumption) | omega | exact Nat.ne_of_lt (by omega) | exact Nat.ne_of_gt (by omega) | decide | exact Nat.le_of_ble_eq_true rfl)) hZ (wd189 hw) (wd188 hw) (by decide) (by decide)) (g := (mkF m 24 #[.val (.ref dd), .val (.int 0), .val (.int ci), .val (.int ci), .val (.ref b2)] [.int ci, .int 32, .int 0, .ref b2, .int 0, .ref dd])) rfl (by rw [hml]; rfl) (argsL := [.int 32, .int ci]) (rest := [.int 0, .ref b2, .int 0, .ref dd]) (lenOf pd__II_I_300 rfl) rfl (by show 2 * 0 + _ ≤ _; exact Nat.le_of_eq rfl) (hb hby d34_24) (fun _ _ => ⟨rfl, e2, (by decide : 1 + 0 ≤ _), (by decide : 32 + 0 ≤ _)⟩)
  dsimp only [Pt.U, Pt.locs, Pt.cells, Pt.slots] at X8 l8 y8 z8 st8 hQ8
  subst Lp8 kp8 np8
  obtain ⟨rfl, rfl, e8⟩ := hQ8
  try rw [List.append_nil] at X8
  refine ov T8 27 #[.val (.ref dd), .val (.int 0), .val (.int ci), .val (.int ci), .val (.ref b2)] [.int ci, .int 0, .ref b2, .int 0, .ref dd] st8 ?_
  obtain ⟨T9, h9, L9, X9, e9, N9, K9q, V9, st9⟩ := cpA X8 hx hZ hown (wd190 hw) (wd117 hw) (wd115 hw) (wd116 hw) e8 cx6 V2 (Or.inl ⟨rfl, rfl⟩) (by decide) (by decide) hci hb1 (by show 0 + _ ≤ _; omega) rfl (by show 0 + _ ≤ _; rw [List.length_replicate]; omega) N0 (by omega : n0 ≤ b2) (g := (mkF m 27 #[.val (.ref dd), .val (.int 0), .val (.int ci), .val (.int ci), .val (.ref b2)] [.int ci, .int 0, .ref b2, .int 0, .ref dd])) rfl (by rw [hml]; rfl) rfl (hb hby d34_27) (by decide) (W := 0) (by show 2 * 0 + _ ≤ _; exact Nat.le_of_eq rfl) (by decide)
  have sz10 : h2.size ≤ h9.size := K9q.1
  have O11 : Old Z n0 h9 := O4.keep K9q (allS (by omega : n0 ≤ b2) all0)
  have K12 : Keep h0 h9 [] := K5.trans K9q (allS (P := fun x => x ∈ [] ∨ h0.size ≤ x) (Or.inr (by omega)) all0)
  have Va9 : Arv Z h9 b2 k2 .byte ci (own_cp (List.replicate ci.toNatClampNeg (.int 0)) vs (0 : Int32) (0 : Int32) ci) (.int 0) := V9
  refine ov T9 30 #[.val (.ref dd), .val (.int 0), .val (.int ci), .val (.int ci), .val (.ref b2)] [] st9 ?_
  refine ov T9 32 #[.val (.ref dd), .val (.int 0), .val (.int ci), .val (.int ci), .val (.ref b2)] [.ref b2] (fun t k => XS.aload X9.here hx rfl (hb hby d34_30) rfl rfl k) ?_
  refine own_ret (Q := Q_own_crb Z dd kd vs ci h0 n0) (C := rm1_1_32_40.cells) (N := rm1_1_32_40.slots) X9 (v := some (.ref b2)) (fun h => by rw [Bd.returns] at h; cases h) Bd.notSynchronized ?_ (by decide) (by decide) (fun fs hr => retOut X9 hx Bd.returns rfl (Or.inr (Or.inr (Or.inr (Or.inr ⟨rfl, rfl, rfl⟩)))) (hb hby d34_32) hr)
  show Q_own_crb Z dd kd vs ci h0 n0 _ T9.heap _
  rw [e9]
  exact ⟨b2, k2, rfl, N9, K12, Va9, (by omega)⟩
def Q_own_cr (Z : State) (dd : Addr) (kd : ClassId) (vs : List Value) (ci : Int32) (h0 : Heap) (n0 : Nat) (v : Option Value) (h : Heap) (L : List Loc) : Prop := ∃ b : Addr, ∃ kb : ClassId, v = some (.ref b) ∧ Fr n0 L ∧ Keep h0 h [] ∧ Arv Z h b kb .byte ci (own_cp (List.replicate ci.toNatClampNeg (.int 0)) vs (0 : Int32) (0 : Int32) ci) (.int 0) ∧ (h0.size ≤ b)
set_option maxRecDepth 65536 in
set_option maxHeartbeats 40000000 in
theorem own_cr (l : Launch) (Z : State) (a0 : Array Value) (hw : ∀ d ∈ tables_1, d.before a0 Z = true) (ws : List Jvm.Cond) (dd : Addr) (kd : ClassId) (vs : List Value) (ci : Int32) (h0 : Heap) (n0 : Nat) (O0 : Old Z n0 h0) (f0_A_dd : Arv Z h0 dd kd .byte (32 : Int32) vs (.int 0)) (hci : ¬ (ci < (0 : Int32))) (hm : ci < (32 : Int32)) (hne : ¬ (ci = (32 : Int32))) (hb1 : (0 : Int32).toNatClampNeg + ci.toNatClampNeg ≤ (32 : Int32).toNatClampNeg) (hb3 : ci.toNatClampNeg ≤ 32) :
    MetFree l mt16 (head1 (Jvm.Cond.code mt16 jdk_65_method_132_code 3 (some (.array .byte)) :: ws) rm2_1_32_56) (fun aq U => aq = #[.ref dd, .int 0, .int ci] ∧ Z.Warmed39 U.vm ∧ U.heap = h0) (fun _ _ _ _ _ => True) (fun _ U o U' => ∃ v L, o = .returned v ∧ Q_own_cr Z dd kd vs ci h0 n0 v U'.heap L ∧ FrameEnd U o U' L rm2_1_32_56.cells rm2_1_32_56.slots) := by
  refine MetFree.of_bodySF (plainFor_of_name pn_java_util_Arrays) hisR ?_
  intro p e s m args below meth c s₁ Bd hml0 hP hK
  obtain ⟨rfl, hZ, hh⟩ := hP
  have hx := Bd.exec
  have hby := Bd.bytes
  have hml : c.maxLocals = 3 := hml0
  have hown : s.vm.findClass "java/util/Arrays" = some m.cls := findClass_of_methodNamed Bd.named
  have hnm := (name_of_methodNamed Bd.named Bd.method).1
  have X0 : Stand p l e rm2_1_32_56 s m #[.ref dd, .int 0, .int ci] below meth c s₁ [] 0 0 := Stand.of_body Bd
  have e0 : s₁.heap = h0 := by rw [← hh, Bd.state]; rfl
  have N0 := Fr.nil n0
  have zO := O0.1
  have zO2 := O0.2.1
  have fl_A_dd : h0.size > dd := f0_A_dd.lt
  refine own_open (own_via (S' := s₁.setTop (mkF m 0 #[.val (.ref dd), .val (.int 0), .val (.int ci)] [])) (fun t k => castTop (ef_own_cr m dd (0 : Int32) ci) k) ?_)
  have K0 : Keep h0 h0 [] := Keep.refl _ _
  refine ov s₁ 1 #[.val (.ref dd), .val (.int 0), .val (.int ci)] [.int 0] (fun t k => XS.iloadN X0.here hx rfl (hb hby d33_0) rfl k) ?_
  refine ov s₁ 4 #[.val (.ref dd), .val (.int 0), .val (.int ci)] [] (fun t k => XS.ifNo X0.here hx rfl (hb hby d33_1) rfl ((if0 _ _).trans (teq (by decide : (0 : Int32) = (0 : Int32))).2) k) ?_
  refine ov s₁ 5 #[.val (.ref dd), .val (.int 0), .val (.int ci)] [.int ci] (fun t k => XS.iloadN X0.here hx rfl (hb hby d33_4) rfl k) ?_
  refine ov s₁ 6 #[.val (.ref dd), .val (.int 0), .val (.int ci)] [.ref dd, .int ci] (fun t k => XS.aloadN X0.here hx rfl (hb hby d33_5) rfl rfl k) ?_
  obtain ⟨cl1, Ar1, -, S1, N1, -, -⟩ := id f0_A_dd
  refine ov s₁ 7 #[.val (.ref dd), .val (.int 0), .val (.int ci)] [.int 32, .int ci] (fun t k => X0.arraylength hx (by first | (rw [e0]; exact Ar1.1) | exact Ar1.1) (State.isArrayOf_alike hZ.alike Ar1.2.1) (g := (mkF m 6 #[.val (.ref dd), .val (.int 0), .val (.int ci)] [.ref dd, .int ci])) rfl rfl (hb hby d33_6) _ (by rw [len_of S1 N1]; exact k)) ?_
  refine ov s₁ 10 #[.val (.ref dd), .val (.int 0), .val (.int ci)] [] (fun t k => XS.icmpNo X0.here hx rfl (hb hby d33_7) rfl (feq hne).1 k) ?_
  refine ov s₁ 11 #[.val (.ref dd), .val (.int 0), .val (.int ci)] [.ref dd] (fun t k => XS.aloadN X0.here hx rfl (hb hby d33_10) rfl rfl k) ?_
  refine ov s₁ 12 #[.val (.ref dd), .val (.int 0), .val (.int ci)] [.int 0, .ref dd] (fun t k => XS.iloadN X0.here hx rfl (hb hby d33_11) rfl k) ?_
  refine ov s₁ 13 #[.val (.ref dd), .val (.int 0), .val (.int ci)] [.int ci, .int 0, .ref dd] (fun t k => XS.iloadN X0.here hx rfl (hb hby d33_12) rfl k) ?_
  obtain ⟨_, _, ⟨T2, Lp2, kp2, np2⟩, -, X2, ⟨Lc2, hQ2, l2, y2, z2⟩, st2⟩ := Jvm.LawKit.callS X0 hx (y := mt15) hown (mvT hZ (wd180 hw)) (mvT hZ (wd181 hw)) (mvT hZ (wd178 hw)) (mvT hZ (wd182 hw)) (by decide) (backOf (W := 0) (own_crb l Z a0 hw [] dd kd vs ci h0 n0 O0 f0_A_dd (by first | assumption | exact Ne.symm (by assumption) | omega | exact Nat.ne_of_lt (by omega) | exact Nat.ne_of_gt (by omega) | decide | exact Nat.le_of_ble_eq_true rfl) (by first | assumption | exact Ne.symm (by assumption) | omega | exact Nat.ne_of_lt (by omega) | exact Nat.ne_of_gt (by omega) | decide | exact Nat.le_of_ble_eq_true rfl) (by first | assumption | exact Ne.symm (by assumption) | omega | exact Nat.ne_of_lt (by omega) | exact Nat.ne_of_gt (by omega) | decide | exact Nat.le_of_ble_eq_true rfl) (by first | assumption | exact Ne.symm (by assumption) | omega | exact Nat.ne_of_lt (by omega) | exact Nat.ne_of_gt (by omega) | decide | exact Nat.le_of_ble_eq_true rfl) (by first | assumption | exact Ne.symm (by assumption) | omega | exact Nat.ne_of_lt (by omega) | exact Nat.ne_of_gt (by omega) | decide | exact Nat.le_of_ble_eq_true rfl)) hZ (wd182 hw) (wd178 hw) (by decide) (by decide)) (g := (mkF m 13 #[.val (.ref dd), .val (.int 0), .val (.int ci)] [.int ci, .int 0, .ref dd])) rfl (by rw [hml]; rfl) (argsL := [.ref dd, .int 0, .int ci]) (rest := []) (lenOf pd___BII__B_541 rfl) rfl (by show 2 * 0 + _ ≤ _; exact Nat.le_of_eq rfl) (hb hby d33_13) (fun _ _ => ⟨rfl, e0, (by decide : 0 + 1 ≤ _), (by decide : 0 + 32 ≤ _)⟩)
  dsimp only [Pt.U, Pt.locs, Pt.cells, Pt.slots] at X2 l2 y2 z2 st2 hQ2
  subst Lp2 kp2 np2
  obtain ⟨b2, kb2, rfl, N2q, K2q, f2_0, pp2_0⟩ := hQ2
  have N2 := Fr.app N0 N2q
  have sz3 : h0.size ≤ T2.heap.size := K2q.1
  have O4 : Old Z n0 T2.heap := O0.keep K2q all0
  have K5 : Keep h0 T2.heap [] := K0.trans K2q all0
  have lt6_b2 : T2.heap.size > b2 := f2_0.lt
  refine ov T2 16 #[.val (.ref dd), .val (.int 0), .val (.int ci)] [.ref b2] st2 ?_
  refine own_ret (Q := Q_own_cr Z dd kd vs ci h0 n0) (C := rm2_1_32_56.cells) (N := rm2_1_32_56.slots) X2 (v := some (.ref b2)) (fun h => by rw [Bd.returns] at h; cases h) Bd.notSynchronized ?_ (by decide) (by decide) (fun fs hr => retOut X2 hx Bd.returns rfl (Or.inr (Or.inr (Or.inr (Or.inr ⟨rfl, rfl, rfl⟩)))) (hb hby d33_16) hr)
  show Q_own_cr Z dd kd vs ci h0 n0 _ T2.heap _
  exact ⟨b2, kb2, rfl, N2, K5, f2_0, (by omega)⟩
def Q_own_getv (Z : State) (a : Addr) (dd : Addr) (h0 : Heap) (n0 : Nat) (v : Option Value) (h : Heap) (L : List Loc) : Prop := v = some (.ref dd) ∧ L = [] ∧ h = h0
set_option maxRecDepth 65536 in
set_option maxHeartbeats 40000000 in
theorem own_getv (l : Launch) (Z : State) (a0 : Array Value) (hw : ∀ d ∈ tables_1, d.before a0 Z = true) (ws : List Jvm.Cond) (a : Addr) (dd : Addr) (h0 : Heap) (n0 : Nat) (O0 : Old Z n0 h0) (f0_F_a_value : Fld Z h0 a "java/lang/AbstractStringBuilder" "value" "[B" (.ref dd)) :
    MetFree l mt17 (head1 (Jvm.Cond.code mt17 jdk_68_method_64_code 1 (some (.array .byte)) :: ws) rm0_0_0_0) (fun aq U => aq = #[.ref a] ∧ Z.Warmed39 U.vm ∧ U.heap = h0) (fun _ _ _ _ _ => True) (fun _ U o U' => ∃ v L, o = .returned v ∧ Q_own_getv Z a dd h0 n0 v U'.heap L ∧ FrameEnd U o U' L rm0_0_0_0.cells rm0_0_0_0.slots) := by
  refine MetFree.of_bodySF (plainFor_of_name pn_java_lang_AbstractStringBuilder) hisR ?_
  intro p e s m args below meth c s₁ Bd hml0 hP hK
  obtain ⟨rfl, hZ, hh⟩ := hP
  have hx := Bd.exec
  have hby := Bd.bytes
  have hml : c.maxLocals = 1 := hml0
  have hown : s.vm.findClass "java/lang/AbstractStringBuilder" = some m.cls := findClass_of_methodNamed Bd.named
  have hnm := (name_of_methodNamed Bd.named Bd.method).1
  have X0 : Stand p l e rm0_0_0_0 s m #[.ref a] below meth c s₁ [] 0 0 := Stand.of_body Bd
  have e0 : s₁.heap = h0 := by rw [← hh, Bd.state]; rfl
  have N0 := Fr.nil n0
  have zO := O0.1
  have zO2 := O0.2.1
  have fl_F_a_value : h0.size > a := f0_F_a_value.lt
  refine own_open (own_via (S' := s₁.setTop (mkF m 0 #[.val (.ref a)] [])) (fun t k => castTop (ef_own_getv m a) k) ?_)
  refine ov s₁ 1 #[.val (.ref a)] [.ref a] (fun t k => XS.aloadN X0.here hx rfl (hb hby d30_0) rfl rfl k) ?_
  obtain ⟨T1, X1, e1, st1⟩ := getF X0 hx hZ hown (host := "") (Or.inl (wd75 hw)) Via.refl e0 f0_F_a_value (g := (mkF m 1 #[.val (.ref a)] [.ref a])) rfl rfl (hb hby d30_1)
  refine ov T1 4 #[.val (.ref a)] [.ref dd] st1 ?_
  refine own_ret (Q := Q_own_getv Z a dd h0 n0) (C := rm0_0_0_0.cells) (N := rm0_0_0_0.slots) X1 (v := some (.ref dd)) (fun h => by rw [Bd.returns] at h; cases h) Bd.notSynchronized ?_ (by decide) (by decide) (fun fs hr => retOut X1 hx Bd.returns rfl (Or.inr (Or.inr (Or.inr (Or.inr ⟨rfl, rfl, rfl⟩)))) (hb hby d30_4) hr)
  show Q_own_getv Z a dd h0 n0 _ T1.heap _
  rw [e1]
  exact ⟨rfl, rfl, rfl⟩
def Q_own_alen (Z : State) (a : Addr) (ci : Int32) (h0 : Heap) (n0 : Nat) (v : Option Value) (h : Heap) (L : List Loc) : Prop := v = some (.int ci) ∧ L = [] ∧ h = h0
set_option maxRecDepth 65536 in
set_option maxHeartbeats 40000000 in
theorem own_alen (l : Launch) (Z : State) (a0 : Array Value) (hw : ∀ d ∈ tables_1, d.before a0 Z = true) (ws : List Jvm.Cond) (a : Addr) (ci : Int32) (h0 : Heap) (n0 : Nat) (O0 : Old Z n0 h0) (f0_F_a_count : Fld Z h0 a "java/lang/AbstractStringBuilder" "count" "I" (.int ci)) :
    MetFree l mt18 (head1 (Jvm.Cond.code mt18 jdk_68_method_6_code 1 (some .int) :: ws) rm0_0_0_0) (fun aq U => aq = #[.ref a] ∧ Z.Warmed39 U.vm ∧ U.heap = h0) (fun _ _ _ _ _ => True) (fun _ U o U' => ∃ v L, o = .returned v ∧ Q_own_alen Z a ci h0 n0 v U'.heap L ∧ FrameEnd U o U' L rm0_0_0_0.cells rm0_0_0_0.slots) := by
  refine MetFree.of_bodySF (plainFor_of_name pn_java_lang_AbstractStringBuilder) hisR ?_
  intro p e s m args below meth c s₁ Bd hml0 hP hK
  obtain ⟨rfl, hZ, hh⟩ := hP
  have hx := Bd.exec
  have hby := Bd.bytes
  have hml : c.maxLocals = 1 := hml0
  have hown : s.vm.findClass "java/lang/AbstractStringBuilder" = some m.cls := findClass_of_methodNamed Bd.named
  have hnm := (name_of_methodNamed Bd.named Bd.method).1
  have X0 : Stand p l e rm0_0_0_0 s m #[.ref a] below meth c s₁ [] 0 0 := Stand.of_body Bd
  have e0 : s₁.heap = h0 := by rw [← hh, Bd.state]; rfl
  have N0 := Fr.nil n0
  have zO := O0.1
  have zO2 := O0.2.1
  have fl_F_a_count : h0.size > a := f0_F_a_count.lt
  refine own_open (own_via (S' := s₁.setTop (mkF m 0 #[.val (.ref a)] [])) (fun t k => castTop (ef_own_alen m a) k) ?_)
  refine ov s₁ 1 #[.val (.ref a)] [.ref a] (fun t k => XS.aloadN X0.here hx rfl (hb hby d32_0) rfl rfl k) ?_
  obtain ⟨T1, X1, e1, st1⟩ := getF X0 hx hZ hown (host := "") (Or.inl (wd91 hw)) Via.refl e0 f0_F_a_count (g := (mkF m 1 #[.val (.ref a)] [.ref a])) rfl rfl (hb hby d32_1)
  refine ov T1 4 #[.val (.ref a)] [.int ci] st1 ?_
  refine own_ret (Q := Q_own_alen Z a ci h0 n0) (C := rm0_0_0_0.cells) (N := rm0_0_0_0.slots) X1 (v := some (.int ci)) (fun h => by rw [Bd.returns] at h; cases h) Bd.notSynchronized ?_ (by decide) (by decide) (fun fs hr => retOut X1 hx Bd.returns rfl (Or.inl ⟨rfl, Or.inl rfl, _, rfl⟩) (hb hby d32_4) hr)
  show Q_own_alen Z a ci h0 n0 _ T1.heap _
  rw [e1]
  exact ⟨rfl, rfl, rfl⟩
def Q_own_slen (Z : State) (a : Addr) (ci : Int32) (h0 : Heap) (n0 : Nat) (v : Option Value) (h : Heap) (L : List Loc) : Prop := v = some (.int ci) ∧ L = [] ∧ h = h0
set_option maxRecDepth 65536 in
set_option maxHeartbeats 40000000 in
theorem own_slen (l : Launch) (Z : State) (a0 : Array Value) (hw : ∀ d ∈ tables_1, d.before a0 Z = true) (ws : List Jvm.Cond) (a : Addr) (ci : Int32) (h0 : Heap) (n0 : Nat) (O0 : Old Z n0 h0) (f0_E_a : Exa Z h0 a "java/lang/StringBuilder") (f0_F_a_count : Fld Z h0 a "java/lang/AbstractStringBuilder" "count" "I" (.int ci)) :
    MetFree l mt19 (head1 (Jvm.Cond.code mt19 jdk_67_method_93_code 1 (some .int) :: ws) rm1_0_0_12) (fun aq U => aq = #[.ref a] ∧ Z.Warmed39 U.vm ∧ U.heap = h0) (fun _ _ _ _ _ => True) (fun _ U o U' => ∃ v L, o = .returned v ∧ Q_own_slen Z a ci h0 n0 v U'.heap L ∧ FrameEnd U o U' L rm1_0_0_12.cells rm1_0_0_12.slots) := by
  refine MetFree.of_bodySF (plainFor_of_name pn_java_lang_StringBuilder) hisR ?_
  intro p e s m args below meth c s₁ Bd hml0 hP hK
  obtain ⟨rfl, hZ, hh⟩ := hP
  have hx := Bd.exec
  have hby := Bd.bytes
  have hml : c.maxLocals = 1 := hml0
  have hown : s.vm.findClass "java/lang/StringBuilder" = some m.cls := findClass_of_methodNamed Bd.named
  have hnm := (name_of_methodNamed Bd.named Bd.method).1
  have X0 : Stand p l e rm1_0_0_12 s m #[.ref a] below meth c s₁ [] 0 0 := Stand.of_body Bd
  have e0 : s₁.heap = h0 := by rw [← hh, Bd.state]; rfl
  have N0 := Fr.nil n0
  have zO := O0.1
  have zO2 := O0.2.1
  have fl_E_a : h0.size > a := f0_E_a.lt
  have fl_F_a_count : h0.size > a := f0_F_a_count.lt
  refine own_open (own_via (S' := s₁.setTop (mkF m 0 #[.val (.ref a)] [])) (fun t k => castTop (ef_own_slen m a) k) ?_)
  refine ov s₁ 1 #[.val (.ref a)] [.ref a] (fun t k => XS.aloadN X0.here hx rfl (hb hby d31_0) rfl rfl k) ?_
  obtain ⟨_, _, ⟨T1, Lp1, kp1, np1⟩, -, X1, ⟨Lc1, hQ1, l1, y1, z1⟩, st1⟩ := superBack X0 hx hZ (y := mt18) hown (wd173 hw) (own_sameM (y := mt18) (wd169 hw) (own_nface (args := a0) (wd96 hw) rfl) (by decide)) (wd169 hw) (wd89 hw) (by decide) (backOf (W := 0) (own_alen l Z a0 hw [] a ci h0 n0 O0 f0_F_a_count) hZ (wd174 hw) (wd58 hw) (by decide) (by decide)) e0 (Ins.self f0_E_a) (g := (mkF m 1 #[.val (.ref a)] [.ref a])) rfl (by rw [hml]; rfl) (wd174 hw) (argsL := []) (rest := []) (lenOf pd___I_154 rfl) rfl (by show 2 * 0 + _ ≤ _; exact Nat.le_of_eq rfl) (hb hby d31_1) (fun _ _ => ⟨rfl, e0, (by decide : 0 + 0 ≤ _), (by decide : 0 + 0 ≤ _)⟩)
  dsimp only [Pt.U, Pt.locs, Pt.cells, Pt.slots] at X1 l1 y1 z1 st1 hQ1
  subst Lp1 kp1 np1
  obtain ⟨rfl, rfl, e1⟩ := hQ1
  try rw [List.append_nil] at X1
  refine own_tr (S' := T1.setTop (mkF m 4 #[.val (.ref a)] [.int ci])) st1 ?_
  refine own_ret (Q := Q_own_slen Z a ci h0 n0) (C := rm1_0_0_12.cells) (N := rm1_0_0_12.slots) X1 (v := some (.int ci)) (fun h => by rw [Bd.returns] at h; cases h) Bd.notSynchronized ?_ (by decide) (by decide) (fun fs hr => retOut X1 hx Bd.returns rfl (Or.inl ⟨rfl, Or.inl rfl, _, rfl⟩) (hb hby d31_4) hr)
  show Q_own_slen Z a ci h0 n0 _ T1.heap _
  rw [e1]
  exact ⟨rfl, rfl, rfl⟩
def Q_own_sia (Z : State) (x0 : Addr) (a : Addr) (zc : Int32) (dd : Addr) (kd : ClassId) (vs : List Value) (ci : Int32) (h0 : Heap) (n0 : Nat) (v : Option Value) (h : Heap) (L : List Loc) : Prop := ∃ b : Addr, ∃ kb : ClassId, v = none ∧ Fr n0 L ∧ Keep h0 h [x0] ∧ Fld Z h x0 "java/lang/String" "value" "[B" (.ref b) ∧ Fld Z h x0 "java/lang/String" "coder" "B" (.int 0) ∧ Arv Z h b kb .byte ci (own_cp (List.replicate ci.toNatClampNeg (.int 0)) vs (0 : Int32) (0 : Int32) ci) (.int 0)
set_option maxRecDepth 65536 in
set_option maxHeartbeats 40000000 in
theorem own_sia (l : Launch) (Z : State) (a0 : Array Value) (hw : ∀ d ∈ tables_1, d.before a0 Z = true) (ws : List Jvm.Cond) (x0 : Addr) (a : Addr) (zc : Int32) (dd : Addr) (kd : ClassId) (vs : List Value) (ci : Int32) (h0 : Heap) (n0 : Nat) (O0 : Old Z n0 h0) (zfC : Sta Z Z.heap "java/lang/String" "COMPACT_STRINGS" "Z" (.int zc)) (f0_E_x0 : Exa Z h0 x0 "java/lang/String") (f0_F_x0_value : Fld Z h0 x0 "java/lang/String" "value" "[B" .null) (f0_F_x0_coder : Fld Z h0 x0 "java/lang/String" "coder" "B" (.int 0)) (f0_E_a : Exa Z h0 a "java/lang/StringBuilder") (f0_F_a_value : Fld Z h0 a "java/lang/AbstractStringBuilder" "value" "[B" (.ref dd)) (f0_F_a_coder : Fld Z h0 a "java/lang/AbstractStringBuilder" "coder" "B" (.int 0)) (f0_F_a_count : Fld Z h0 a "java/lang/AbstractStringBuilder" "count" "I" (.int ci)) (f0_A_dd : Arv Z h0 dd kd .byte (32 : Int32) vs (.int 0)) (hzc : ¬ (zc = (0 : Int32))) (hci : ¬ (ci < (0 : Int32))) (hm : ci < (32 : Int32)) (hne : ¬ (ci = (32 : Int32))) (hb1 : (0 : Int32).toNatClampNeg + ci.toNatClampNeg ≤ (32 : Int32).toNatClampNeg) (hb3 : ci.toNatClampNeg ≤ 32) (g_x : n0 ≤ x0) :
    MetFree l mt20 (head1 (Jvm.Cond.code mt20 jdk_42_method_150_code 5 none :: ws) rm3_1_32_71) (fun aq U => aq = #[.ref x0, .ref a, .null] ∧ Z.Warmed39 U.vm ∧ U.heap = h0) (fun _ _ _ _ _ => True) (fun _ U o U' => ∃ v L, o = .returned v ∧ Q_own_sia Z x0 a zc dd kd vs ci h0 n0 v U'.heap L ∧ FrameEnd U o U' L rm3_1_32_71.cells rm3_1_32_71.slots) := by
  refine MetFree.of_bodySF (plainFor_of_name pn_java_lang_String) hisR ?_
  intro p e s m args below meth c s₁ Bd hml0 hP hK
  obtain ⟨rfl, hZ, hh⟩ := hP
  have hx := Bd.exec
  have hby := Bd.bytes
  have hml : c.maxLocals = 5 := hml0
  have hown : s.vm.findClass "java/lang/String" = some m.cls := findClass_of_methodNamed Bd.named
  have hnm := (name_of_methodNamed Bd.named Bd.method).1
  have X0 : Stand p l e rm3_1_32_71 s m #[.ref x0, .ref a, .null] below meth c s₁ [] 0 0 := Stand.of_body Bd
  have e0 : s₁.heap = h0 := by rw [← hh, Bd.state]; rfl
  have N0 := Fr.nil n0
  have zO := O0.1
  have zO2 := O0.2.1
  have fl_E_x0 : h0.size > x0 := f0_E_x0.lt
  have fl_F_x0_value : h0.size > x0 := f0_F_x0_value.lt
  have fl_F_x0_coder : h0.size > x0 := f0_F_x0_coder.lt
  have fl_E_a : h0.size > a := f0_E_a.lt
  have fl_F_a_value : h0.size > a := f0_F_a_value.lt
  have fl_F_a_coder : h0.size > a := f0_F_a_coder.lt
  have fl_F_a_count : h0.size > a := f0_F_a_count.lt
  have fl_A_dd : h0.size > dd := f0_A_dd.lt
  refine own_open (own_via (S' := s₁.setTop (mkF m 0 #[.val (.ref x0), .val (.ref a), .val .null, .unset, .unset] [])) (fun t k => castTop (ef_own_sia m x0 a) k) ?_)
  have K0 : Keep h0 h0 [x0] := Keep.refl _ _
  have ne_x0_a : x0 ≠ a := Exa.ne f0_E_x0 f0_E_a (by decide)
  have ne_x0_dd : x0 ≠ dd := Exa.neArv f0_E_x0 f0_A_dd (wd5 hw)
  have ne_a_dd : a ≠ dd := Exa.neArv f0_E_a f0_A_dd (wd48 hw)
  refine ov s₁ 1 #[.val (.ref x0), .val (.ref a), .val .null, .unset, .unset] [.ref x0] (fun t k => XS.aloadN X0.here hx rfl (hb hby d29_0) rfl rfl k) ?_
  obtain ⟨T1, X1, e1, st1⟩ := initO X0 hx hZ hown (wd15 hw) (wd16 hw) (wd17 hw) e0 (g := (mkF m 1 #[.val (.ref x0), .val (.ref a), .val .null, .unset, .unset] [.ref x0])) rfl (by rw [hml]; rfl) rfl (hb hby d29_1) (by decide) (W := 0) (by show 2 * 0 + _ ≤ _; exact Nat.le_of_eq rfl) (by decide)
  refine ov T1 4 #[.val (.ref x0), .val (.ref a), .val .null, .unset, .unset] [] st1 ?_
  refine ov T1 5 #[.val (.ref x0), .val (.ref a), .val .null, .unset, .unset] [.ref a] (fun t k => XS.aloadN X1.here hx rfl (hb hby d29_4) rfl rfl k) ?_
  obtain ⟨cq2, kq2, q2a, q2b, q2c⟩ := isOf hZ e1 f0_E_a
  obtain ⟨_, _, ⟨T2, Lp2, kp2, np2⟩, -, X2, ⟨Lc2, hQ2, l2, y2, z2⟩, st2⟩ := X1.virtualBack hx (y := mt17) (z := mt17) hown (mvT hZ (wd162 hw)) (mvT hZ (wd163 hw)) (notFace_of_selects (args := #[]) (mvT hZ (wd165 hw))) (mvT hZ (wd165 hw)) (mvT hZ (wd164 hw)) (by decide) (backOf (W := 0) (own_getv l Z a0 hw [] a dd h0 n0 O0 f0_F_a_value) hZ (wd166 hw) (wd58 hw) (by decide) (by decide)) q2a q2c (g := (mkF m 5 #[.val (.ref x0), .val (.ref a), .val .null, .unset, .unset] [.ref a])) rfl (by rw [hml]; rfl) (Steps.refl _) (argsL := []) (rest := []) (lenOf pd____B_238 rfl) rfl (by show 2 * 0 + _ ≤ _; exact Nat.le_of_eq rfl) (hb hby d29_5) (fun _ _ => ⟨rfl, e1, (by decide : 0 + 0 ≤ _), (by decide : 0 + 0 ≤ _)⟩)
  dsimp only [Pt.U, Pt.locs, Pt.cells, Pt.slots] at X2 l2 y2 z2 st2 hQ2
  subst Lp2 kp2 np2
  obtain ⟨rfl, rfl, e2⟩ := hQ2
  try rw [List.append_nil] at X2
  refine own_tr (S' := T2.setTop (mkF m 8 #[.val (.ref x0), .val (.ref a), .val .null, .unset, .unset] [.ref dd])) st2 ?_
  refine ov T2 9 #[.val (.ref x0), .val (.ref a), .val .null, .val (.ref dd), .unset] [] (fun t k => XS.astoreN X2.here hx rfl (hb hby d29_8) rfl rfl (l' := #[.val (.ref x0), .val (.ref a), .val .null, .val (.ref dd), .unset]) rfl k) ?_
  refine ov T2 10 #[.val (.ref x0), .val (.ref a), .val .null, .val (.ref dd), .unset] [.ref a] (fun t k => XS.aloadN X2.here hx rfl (hb hby d29_9) rfl rfl k) ?_
  obtain ⟨cq3, kq3, q3a, q3b, q3c⟩ := isOf hZ e2 f0_E_a
  obtain ⟨_, _, ⟨T3, Lp3, kp3, np3⟩, -, X3, ⟨Lc3, hQ3, l3, y3, z3⟩, st3⟩ := X2.virtualBack hx (y := mt18) (z := mt19) hown (mvT hZ (wd167 hw)) (mvT hZ (wd168 hw)) (own_nface (args := #[]) (mvT hZ (wd96 hw)) rfl) (mvT hZ (wd170 hw)) (mvT hZ (wd171 hw)) (by decide) (backOf (W := 0) (own_slen l Z a0 hw [] a ci h0 n0 O0 f0_E_a f0_F_a_count) hZ (wd172 hw) (wd49 hw) (by decide) (by decide)) q3a q3c (g := (mkF m 10 #[.val (.ref x0), .val (.ref a), .val .null, .val (.ref dd), .unset] [.ref a])) rfl (by rw [hml]; rfl) (Steps.refl _) (argsL := []) (rest := []) (lenOf pd___I_154 rfl) rfl (by show 2 * 0 + _ ≤ _; exact Nat.le_of_eq rfl) (hb hby d29_10) (fun _ _ => ⟨rfl, e2, (by decide : 0 + 0 ≤ _), (by decide : 0 + 0 ≤ _)⟩)
  dsimp only [Pt.U, Pt.locs, Pt.cells, Pt.slots] at X3 l3 y3 z3 st3 hQ3
  subst Lp3 kp3 np3
  obtain ⟨rfl, rfl, e3⟩ := hQ3
  try rw [List.append_nil] at X3
  refine own_tr (S' := T3.setTop (mkF m 13 #[.val (.ref x0), .val (.ref a), .val .null, .val (.ref dd), .unset] [.int ci])) st3 ?_
  refine ov T3 15 #[.val (.ref x0), .val (.ref a), .val .null, .val (.ref dd), .val (.int ci)] [] (fun t k => XS.istore X3.here hx rfl (hb hby d29_13) rfl (l' := #[.val (.ref x0), .val (.ref a), .val .null, .val (.ref dd), .val (.int ci)]) rfl k) ?_
  refine ov T3 16 #[.val (.ref x0), .val (.ref a), .val .null, .val (.ref dd), .val (.int ci)] [.ref a] (fun t k => XS.aloadN X3.here hx rfl (hb hby d29_15) rfl rfl k) ?_
  obtain ⟨cq4, kq4, q4a, q4b, q4c⟩ := isOf hZ e3 f0_E_a
  obtain ⟨_, _, ⟨T4, Lp4, kp4, np4⟩, -, X4, ⟨Lc4, hQ4, l4, y4, z4⟩, st4⟩ := X3.virtualBack hx (y := mt2) (z := mt2) hown (mvT hZ (wd175 hw)) (mvT hZ (wd137 hw)) (notFace_of_selects (args := #[]) (mvT hZ (wd139 hw))) (mvT hZ (wd139 hw)) (mvT hZ (wd138 hw)) (by decide) (backOf (W := 0) (own_isL1 l Z a0 hw [] a zc h0 n0 O0 zfC f0_F_a_coder (by first | assumption | exact Ne.symm (by assumption) | omega | exact Nat.ne_of_lt (by omega) | exact Nat.ne_of_gt (by omega) | decide | exact Nat.le_of_ble_eq_true rfl)) hZ (wd140 hw) (wd58 hw) (by decide) (by decide)) q4a q4c (g := (mkF m 16 #[.val (.ref x0), .val (.ref a), .val .null, .val (.ref dd), .val (.int ci)] [.ref a])) rfl (by rw [hml]; rfl) (Steps.refl _) (argsL := []) (rest := []) (lenOf pd___Z_171 rfl) rfl (by show 2 * 0 + _ ≤ _; exact Nat.le_of_eq rfl) (hb hby d29_16) (fun _ _ => ⟨rfl, e3, (by decide : 0 + 0 ≤ _), (by decide : 0 + 0 ≤ _)⟩)
  dsimp only [Pt.U, Pt.locs, Pt.cells, Pt.slots] at X4 l4 y4 z4 st4 hQ4
  subst Lp4 kp4 np4
  obtain ⟨rfl, rfl, e4⟩ := hQ4
  try rw [List.append_nil] at X4
  refine own_tr (S' := T4.setTop (mkF m 19 #[.val (.ref x0), .val (.ref a), .val .null, .val (.ref dd), .val (.int ci)] [.int 1])) st4 ?_
  refine ov T4 22 #[.val (.ref x0), .val (.ref a), .val .null, .val (.ref dd), .val (.int ci)] [] (fun t k => XS.ifNo X4.here hx rfl (hb hby d29_19) rfl ((if0 _ _).trans (feq (by decide : ¬ ((1 : Int32) = (0 : Int32)))).1) k) ?_
  refine ov T4 23 #[.val (.ref x0), .val (.ref a), .val .null, .val (.ref dd), .val (.int ci)] [.ref x0] (fun t k => XS.aloadN X4.here hx rfl (hb hby d29_22) rfl rfl k) ?_
  refine ov T4 24 #[.val (.ref x0), .val (.ref a), .val .null, .val (.ref dd), .val (.int ci)] [.int 0, .ref x0] (fun t k => XS.iconst X4.here hx rfl (hb hby d29_23) k) ?_
  obtain ⟨T5, h5, X5, e5, W5, st5⟩ := putFN X4 hx hZ hown (wd25 hw) Via.refl e4 f0_F_x0_coder f0_E_x0 (Or.inr ⟨(wd21 hw), rfl, hnm⟩) (wd5 hw) (ty := .byte) (v' := (.int 0)) (by decide) rfl rfl (g := (mkF m 24 #[.val (.ref x0), .val (.ref a), .val .null, .val (.ref dd), .val (.int ci)] [.int 0, .ref x0])) rfl rfl (hb hby d29_24)
  have sz6 : h0.size ≤ h5.size := Nat.le_of_eq W5.size.symm
  have O7 : Old Z n0 h5 := O0.wr W5 (by omega : n0 ≤ x0)
  have N5 := Fr.snoc X5 N0 (by omega : n0 ≤ x0)
  have K8 : Keep h0 h5 [x0] := K0.wr W5 (Or.inl (List.mem_of_getElem? (i := 0) rfl))
  have Fw5 : Fld Z h5 x0 "java/lang/String" "coder" "B" (.int 0) := Fld.same W5 f0_F_x0_coder
  refine ov T5 27 #[.val (.ref x0), .val (.ref a), .val .null, .val (.ref dd), .val (.int ci)] [] st5 ?_
  refine ov T5 28 #[.val (.ref x0), .val (.ref a), .val .null, .val (.ref dd), .val (.int ci)] [.ref x0] (fun t k => XS.aloadN X5.here hx rfl (hb hby d29_27) rfl rfl k) ?_
  refine ov T5 29 #[.val (.ref x0), .val (.ref a), .val .null, .val (.ref dd), .val (.int ci)] [.ref dd, .ref x0] (fun t k => XS.aloadN X5.here hx rfl (hb hby d29_28) rfl rfl k) ?_
  refine ov T5 30 #[.val (.ref x0), .val (.ref a), .val .null, .val (.ref dd), .val (.int ci)] [.int 0, .ref dd, .ref x0] (fun t k => XS.iconst X5.here hx rfl (hb hby d29_29) k) ?_
  refine ov T5 32 #[.val (.ref x0), .val (.ref a), .val .null, .val (.ref dd), .val (.int ci)] [.int ci, .int 0, .ref dd, .ref x0] (fun t k => XS.iload X5.here hx rfl (hb hby d29_30) rfl k) ?_
  have cx10 : Arv Z h5 dd kd .byte (32 : Int32) vs (.int 0) := (f0_A_dd.other W5 (Ne.symm ne_x0_dd))
  obtain ⟨_, _, ⟨T9, Lp9, kp9, np9⟩, -, X9, ⟨Lc9, hQ9, l9, y9, z9⟩, st9⟩ := Jvm.LawKit.callS X5 hx (y := mt16) hown (mvT hZ (wd176 hw)) (mvT hZ (wd177 hw)) (mvT hZ (wd178 hw)) (mvT hZ (wd179 hw)) (by decide) (backOf (W := 1) (own_cr l Z a0 hw [] dd kd vs ci h5 n0 O7 cx10 (by first | assumption | exact Ne.symm (by assumption) | omega | exact Nat.ne_of_lt (by omega) | exact Nat.ne_of_gt (by omega) | decide | exact Nat.le_of_ble_eq_true rfl) (by first | assumption | exact Ne.symm (by assumption) | omega | exact Nat.ne_of_lt (by omega) | exact Nat.ne_of_gt (by omega) | decide | exact Nat.le_of_ble_eq_true rfl) (by first | assumption | exact Ne.symm (by assumption) | omega | exact Nat.ne_of_lt (by omega) | exact Nat.ne_of_gt (by omega) | decide | exact Nat.le_of_ble_eq_true rfl) (by first | assumption | exact Ne.symm (by assumption) | omega | exact Nat.ne_of_lt (by omega) | exact Nat.ne_of_gt (by omega) | decide | exact Nat.le_of_ble_eq_true rfl) (by first | assumption | exact Ne.symm (by assumption) | omega | exact Nat.ne_of_lt (by omega) | exact Nat.ne_of_gt (by omega) | decide | exact Nat.le_of_ble_eq_true rfl)) hZ (wd179 hw) (wd178 hw) (by decide) (by decide)) (g := (mkF m 32 #[.val (.ref x0), .val (.ref a), .val .null, .val (.ref dd), .val (.int ci)] [.int ci, .int 0, .ref dd, .ref x0])) rfl (by rw [hml]; rfl) (argsL := [.ref dd, .int 0, .int ci]) (rest := [.ref x0]) (lenOf pd___BII__B_541 rfl) rfl (by show 2 * 0 + _ ≤ _; exact Nat.le_of_eq rfl) (hb hby d29_32) (fun _ _ => ⟨rfl, e5, (by decide : 0 + 1 ≤ _), (by decide : 0 + 32 ≤ _)⟩)
  dsimp only [Pt.U, Pt.locs, Pt.cells, Pt.slots] at X9 l9 y9 z9 st9 hQ9
  subst Lp9 kp9 np9
  obtain ⟨b9, kb9, rfl, N9q, K9q, f9_0, pp9_0⟩ := hQ9
  have N9 := Fr.app N5 N9q
  have sz11 : h5.size ≤ T9.heap.size := K9q.1
  have O12 : Old Z n0 T9.heap := O7.keep K9q all0
  have K13 : Keep h0 T9.heap [x0] := K8.trans K9q all0
  have lt14_b9 : T9.heap.size > b9 := f9_0.lt
  refine ov T9 35 #[.val (.ref x0), .val (.ref a), .val .null, .val (.ref dd), .val (.int ci)] [.ref b9, .ref x0] st9 ?_
  have cx15 : Exa Z T9.heap x0 "java/lang/String" := ((Exa.wr W5 f0_E_x0).keep K9q)
  have cx16 : Fld Z T9.heap x0 "java/lang/String" "value" "[B" .null := ((Fld.other W5 f0_F_x0_value (Or.inr (slot_ne (Or.inr (wd20 hw)) (Or.inr (wd21 hw)) (by decide) (t := (.array .byte)) (t' := .byte) (by decide) (by decide)))).keep K9q nin0)
  obtain ⟨T17, h17, X17, e17, W17, st17⟩ := putF X9 hx hZ hown (host := "") (Or.inl (wd24 hw)) Via.refl rfl cx16 cx15 (Or.inr ⟨(wd20 hw), rfl, hnm⟩) (wd5 hw) (ty := (.array .byte)) (by decide) rfl rfl (g := (mkF m 35 #[.val (.ref x0), .val (.ref a), .val .null, .val (.ref dd), .val (.int ci)] [.ref b9, .ref x0])) rfl rfl (hb hby d29_35)
  have sz18 : T9.heap.size ≤ h17.size := Nat.le_of_eq W17.size.symm
  have O19 : Old Z n0 h17 := O12.wr W17 (by omega : n0 ≤ x0)
  have N17 := Fr.snoc X17 N9 (by omega : n0 ≤ x0)
  have K20 : Keep h0 h17 [x0] := K13.wr W17 (Or.inl (List.mem_of_getElem? (i := 0) rfl))
  have Fw17 : Fld Z h17 x0 "java/lang/String" "value" "[B" (.ref b9) := Fld.same W17 cx16
  refine ov T17 38 #[.val (.ref x0), .val (.ref a), .val .null, .val (.ref dd), .val (.int ci)] [] st17 ?_
  refine ov T17 97 #[.val (.ref x0), .val (.ref a), .val .null, .val (.ref dd), .val (.int ci)] [] (fun t k => XS.goto X17.here hx rfl (pc0 := 38) (pc' := 97) rfl (hb hby d29_38) (by decide) (by decide) k) ?_
  have cx21 : Fld Z h17 x0 "java/lang/String" "coder" "B" (.int 0) := (Fld.other W17 (Fw5.keep K9q nin0) (Or.inr (slot_ne (Or.inr (wd21 hw)) (Or.inr (wd20 hw)) (by decide) (t := .byte) (t' := (.array .byte)) (by decide) (by decide))))
  have ne_b9_x0 : b9 ≠ x0 := by first | exact (Exa.neArv cx15 f9_0 (wd5 hw)).symm | exact Nat.ne_of_lt (by omega) | exact Nat.ne_of_gt (by omega)
  have cx22 : Arv Z h17 b9 kb9 .byte ci (own_cp (List.replicate ci.toNatClampNeg (.int 0)) vs (0 : Int32) (0 : Int32) ci) (.int 0) := (f9_0.other W17 ne_b9_x0)
  refine own_ret (Q := Q_own_sia Z x0 a zc dd kd vs ci h0 n0) (C := rm3_1_32_71.cells) (N := rm3_1_32_71.slots) X17 (v := none) (fun _ => rfl) Bd.notSynchronized ?_ (by decide) (by decide) (fun fs hr => X17.returnOut hx Bd.returns (hb hby d29_97) hr)
  show Q_own_sia Z x0 a zc dd kd vs ci h0 n0 _ T17.heap _
  rw [e17]
  exact ⟨b9, kb9, rfl, N17, K20, Fw17, cx21, cx22⟩
def Q_own_sib (Z : State) (x0 : Addr) (a : Addr) (zc : Int32) (dd : Addr) (kd : ClassId) (vs : List Value) (ci : Int32) (h0 : Heap) (n0 : Nat) (v : Option Value) (h : Heap) (L : List Loc) : Prop := ∃ b : Addr, ∃ kb : ClassId, v = none ∧ Fr n0 L ∧ Keep h0 h [x0] ∧ Fld Z h x0 "java/lang/String" "value" "[B" (.ref b) ∧ Fld Z h x0 "java/lang/String" "coder" "B" (.int 0) ∧ Arv Z h b kb .byte ci (own_cp (List.replicate ci.toNatClampNeg (.int 0)) vs (0 : Int32) (0 : Int32) ci) (.int 0)
set_option maxRecDepth 65536 in
set_option maxHeartbeats 40000000 in
theorem own_sib (l : Launch) (Z : State) (a0 : Array Value) (hw : ∀ d ∈ tables_1, d.before a0 Z = true) (ws : List Jvm.Cond) (x0 : Addr) (a : Addr) (zc : Int32) (dd : Addr) (kd : ClassId) (vs : List Value) (ci : Int32) (h0 : Heap) (n0 : Nat) (O0 : Old Z n0 h0) (zfC : Sta Z Z.heap "java/lang/String" "COMPACT_STRINGS" "Z" (.int zc)) (f0_E_x0 : Exa Z h0 x0 "java/lang/String") (f0_F_x0_value : Fld Z h0 x0 "java/lang/String" "value" "[B" .null) (f0_F_x0_coder : Fld Z h0 x0 "java/lang/String" "coder" "B" (.int 0)) (f0_E_a : Exa Z h0 a "java/lang/StringBuilder") (f0_F_a_value : Fld Z h0 a "java/lang/AbstractStringBuilder" "value" "[B" (.ref dd)) (f0_F_a_coder : Fld Z h0 a "java/lang/AbstractStringBuilder" "coder" "B" (.int 0)) (f0_F_a_count : Fld Z h0 a "java/lang/AbstractStringBuilder" "count" "I" (.int ci)) (f0_A_dd : Arv Z h0 dd kd .byte (32 : Int32) vs (.int 0)) (hzc : ¬ (zc = (0 : Int32))) (hci : ¬ (ci < (0 : Int32))) (hm : ci < (32 : Int32)) (hne : ¬ (ci = (32 : Int32))) (hb1 : (0 : Int32).toNatClampNeg + ci.toNatClampNeg ≤ (32 : Int32).toNatClampNeg) (hb3 : ci.toNatClampNeg ≤ 32) (g_x : n0 ≤ x0) :
    MetFree l mt21 (head1 (Jvm.Cond.code mt21 jdk_42_method_53_code 2 none :: ws) rm4_1_32_87) (fun aq U => aq = #[.ref x0, .ref a] ∧ Z.Warmed39 U.vm ∧ U.heap = h0) (fun _ _ _ _ _ => True) (fun _ U o U' => ∃ v L, o = .returned v ∧ Q_own_sib Z x0 a zc dd kd vs ci h0 n0 v U'.heap L ∧ FrameEnd U o U' L rm4_1_32_87.cells rm4_1_32_87.slots) := by
  refine MetFree.of_bodySF (plainFor_of_name pn_java_lang_String) hisR ?_
  intro p e s m args below meth c s₁ Bd hml0 hP hK
  obtain ⟨rfl, hZ, hh⟩ := hP
  have hx := Bd.exec
  have hby := Bd.bytes
  have hml : c.maxLocals = 2 := hml0
  have hown : s.vm.findClass "java/lang/String" = some m.cls := findClass_of_methodNamed Bd.named
  have hnm := (name_of_methodNamed Bd.named Bd.method).1
  have X0 : Stand p l e rm4_1_32_87 s m #[.ref x0, .ref a] below meth c s₁ [] 0 0 := Stand.of_body Bd
  have e0 : s₁.heap = h0 := by rw [← hh, Bd.state]; rfl
  have N0 := Fr.nil n0
  have zO := O0.1
  have zO2 := O0.2.1
  have fl_E_x0 : h0.size > x0 := f0_E_x0.lt
  have fl_F_x0_value : h0.size > x0 := f0_F_x0_value.lt
  have fl_F_x0_coder : h0.size > x0 := f0_F_x0_coder.lt
  have fl_E_a : h0.size > a := f0_E_a.lt
  have fl_F_a_value : h0.size > a := f0_F_a_value.lt
  have fl_F_a_coder : h0.size > a := f0_F_a_coder.lt
  have fl_F_a_count : h0.size > a := f0_F_a_count.lt
  have fl_A_dd : h0.size > dd := f0_A_dd.lt
  refine own_open (own_via (S' := s₁.setTop (mkF m 0 #[.val (.ref x0), .val (.ref a)] [])) (fun t k => castTop (ef_own_sib m x0 a) k) ?_)
  have K0 : Keep h0 h0 [x0] := Keep.refl _ _
  have ne_x0_a : x0 ≠ a := Exa.ne f0_E_x0 f0_E_a (by decide)
  have ne_x0_dd : x0 ≠ dd := Exa.neArv f0_E_x0 f0_A_dd (wd5 hw)
  have ne_a_dd : a ≠ dd := Exa.neArv f0_E_a f0_A_dd (wd48 hw)
  refine ov s₁ 1 #[.val (.ref x0), .val (.ref a)] [.ref x0] (fun t k => XS.aloadN X0.here hx rfl (hb hby d28_0) rfl rfl k) ?_
  refine ov s₁ 2 #[.val (.ref x0), .val (.ref a)] [.ref a, .ref x0] (fun t k => XS.aloadN X0.here hx rfl (hb hby d28_1) rfl rfl k) ?_
  refine ov s₁ 3 #[.val (.ref x0), .val (.ref a)] [.null, .ref a, .ref x0] (fun t k => XS.aconstNull X0.here hx rfl (hb hby d28_2) k) ?_
  obtain ⟨_, _, ⟨T1, Lp1, kp1, np1⟩, -, X1, ⟨Lc1, hQ1, l1, y1, z1⟩, st1⟩ := X0.specialBack hx (y := mt20) rfl hown (mvT hZ (wd159 hw)) (mvT hZ (wd160 hw)) (mvT hZ (wd161 hw)) (by decide) (backOf (W := 0) (own_sia l Z a0 hw [] x0 a zc dd kd vs ci h0 n0 O0 zfC f0_E_x0 f0_F_x0_value f0_F_x0_coder f0_E_a f0_F_a_value f0_F_a_coder f0_F_a_count f0_A_dd (by first | assumption | exact Ne.symm (by assumption) | omega | exact Nat.ne_of_lt (by omega) | exact Nat.ne_of_gt (by omega) | decide | exact Nat.le_of_ble_eq_true rfl) (by first | assumption | exact Ne.symm (by assumption) | omega | exact Nat.ne_of_lt (by omega) | exact Nat.ne_of_gt (by omega) | decide | exact Nat.le_of_ble_eq_true rfl) (by first | assumption | exact Ne.symm (by assumption) | omega | exact Nat.ne_of_lt (by omega) | exact Nat.ne_of_gt (by omega) | decide | exact Nat.le_of_ble_eq_true rfl) (by first | assumption | exact Ne.symm (by assumption) | omega | exact Nat.ne_of_lt (by omega) | exact Nat.ne_of_gt (by omega) | decide | exact Nat.le_of_ble_eq_true rfl) (by first | assumption | exact Ne.symm (by assumption) | omega | exact Nat.ne_of_lt (by omega) | exact Nat.ne_of_gt (by omega) | decide | exact Nat.le_of_ble_eq_true rfl) (by first | assumption | exact Ne.symm (by assumption) | omega | exact Nat.ne_of_lt (by omega) | exact Nat.ne_of_gt (by omega) | decide | exact Nat.le_of_ble_eq_true rfl) (by first | assumption | exact Ne.symm (by assumption) | omega | exact Nat.ne_of_lt (by omega) | exact Nat.ne_of_gt (by omega) | decide | exact Nat.le_of_ble_eq_true rfl)) hZ (wd161 hw) (wd6 hw) (by decide) (by decide)) (g := (mkF m 3 #[.val (.ref x0), .val (.ref a)] [.null, .ref a, .ref x0])) rfl (by rw [hml]; rfl) (Steps.refl _) (a := x0) (argsL := [.ref a, .null]) (rest := []) (lenOf pd__Ljava_lang_AbstractStringBuilder_Ljava_lang_Void__V_4861 rfl) rfl (by show 2 * 0 + _ ≤ _; exact Nat.le_of_eq rfl) (hb hby d28_3) (fun _ _ => ⟨rfl, e0, (by decide : 0 + 1 ≤ _), (by decide : 0 + 32 ≤ _)⟩)
  dsimp only [Pt.U, Pt.locs, Pt.cells, Pt.slots] at X1 l1 y1 z1 st1 hQ1
  subst Lp1 kp1 np1
  obtain ⟨b1, kb1, rfl, N1q, K1q, f1_0, f1_1, f1_2⟩ := hQ1
  have N1 := Fr.app N0 N1q
  have sz2 : h0.size ≤ T1.heap.size := K1q.1
  have O3 : Old Z n0 T1.heap := O0.keep K1q (allS (by omega : n0 ≤ x0) all0)
  have K4 : Keep h0 T1.heap [x0] := K0.trans K1q (allS (P := fun x => x ∈ [x0] ∨ h0.size ≤ x) (Or.inl (List.mem_of_getElem? (i := 0) rfl)) all0)
  have lt5_b1 : T1.heap.size > b1 := f1_2.lt
  refine own_tr (S' := T1.setTop (mkF m 6 #[.val (.ref x0), .val (.ref a)] [])) st1 ?_
  refine own_ret (Q := Q_own_sib Z x0 a zc dd kd vs ci h0 n0) (C := rm4_1_32_87.cells) (N := rm4_1_32_87.slots) X1 (v := none) (fun _ => rfl) Bd.notSynchronized ?_ (by decide) (by decide) (fun fs hr => X1.returnOut hx Bd.returns (hb hby d28_6) hr)
  show Q_own_sib Z x0 a zc dd kd vs ci h0 n0 _ T1.heap _
  exact ⟨b1, kb1, rfl, N1, K4, f1_0, f1_1, f1_2⟩
def Q_own_ts (Z : State) (a : Addr) (zc : Int32) (dd : Addr) (kd : ClassId) (vs : List Value) (ci : Int32) (h0 : Heap) (n0 : Nat) (v : Option Value) (h : Heap) (L : List Loc) : Prop := ∃ x1 : Addr, ∃ b : Addr, ∃ kb : ClassId, v = some (.ref x1) ∧ Fr n0 L ∧ Keep h0 h [] ∧ Exa Z h x1 "java/lang/String" ∧ Fld Z h x1 "java/lang/String" "value" "[B" (.ref b) ∧ Fld Z h x1 "java/lang/String" "coder" "B" (.int 0) ∧ Arv Z h b kb .byte ci (own_cp (List.replicate ci.toNatClampNeg (.int 0)) vs (0 : Int32) (0 : Int32) ci) (.int 0)
set_option maxRecDepth 65536 in
set_option maxHeartbeats 40000000 in
theorem own_ts (l : Launch) (Z : State) (a0 : Array Value) (hw : ∀ d ∈ tables_1, d.before a0 Z = true) (ws : List Jvm.Cond) (a : Addr) (zc : Int32) (dd : Addr) (kd : ClassId) (vs : List Value) (ci : Int32) (h0 : Heap) (n0 : Nat) (O0 : Old Z n0 h0) (zfC : Sta Z Z.heap "java/lang/String" "COMPACT_STRINGS" "Z" (.int zc)) (f0_E_a : Exa Z h0 a "java/lang/StringBuilder") (f0_F_a_value : Fld Z h0 a "java/lang/AbstractStringBuilder" "value" "[B" (.ref dd)) (f0_F_a_coder : Fld Z h0 a "java/lang/AbstractStringBuilder" "coder" "B" (.int 0)) (f0_F_a_count : Fld Z h0 a "java/lang/AbstractStringBuilder" "count" "I" (.int ci)) (f0_A_dd : Arv Z h0 dd kd .byte (32 : Int32) vs (.int 0)) (hzc : ¬ (zc = (0 : Int32))) (hci : ¬ (ci < (0 : Int32))) (hm : ci < (32 : Int32)) (hne : ¬ (ci = (32 : Int32))) (hb1 : (0 : Int32).toNatClampNeg + ci.toNatClampNeg ≤ (32 : Int32).toNatClampNeg) (hb3 : ci.toNatClampNeg ≤ 32) :
    MetFree l mt22 (head1 (Jvm.Cond.code mt22 jdk_67_method_42_code 1 (some (.object "java/lang/String")) :: ws) rm5_2_36_101) (fun aq U => aq = #[.ref a] ∧ Z.Warmed39 U.vm ∧ U.heap = h0) (fun _ _ _ _ _ => True) (fun _ U o U' => ∃ v L, o = .returned v ∧ Q_own_ts Z a zc dd kd vs ci h0 n0 v U'.heap L ∧ FrameEnd U o U' L rm5_2_36_101.cells rm5_2_36_101.slots) := by
  refine MetFree.of_bodySF (plainFor_of_name pn_java_lang_StringBuilder) hisR ?_
  intro p e s m args below meth c s₁ Bd hml0 hP hK
  obtain ⟨rfl, hZ, hh⟩ := hP
  have hx := Bd.exec
  have hby := Bd.bytes
  have hml : c.maxLocals = 1 := hml0
  have hown : s.vm.findClass "java/lang/StringBuilder" = some m.cls := findClass_of_methodNamed Bd.named
  have hnm := (name_of_methodNamed Bd.named Bd.method).1
  have X0 : Stand p l e rm5_2_36_101 s m #[.ref a] below meth c s₁ [] 0 0 := Stand.of_body Bd
  have e0 : s₁.heap = h0 := by rw [← hh, Bd.state]; rfl
  have N0 := Fr.nil n0
  have zO := O0.1
  have zO2 := O0.2.1
  have fl_E_a : h0.size > a := f0_E_a.lt
  have fl_F_a_value : h0.size > a := f0_F_a_value.lt
  have fl_F_a_coder : h0.size > a := f0_F_a_coder.lt
  have fl_F_a_count : h0.size > a := f0_F_a_count.lt
  have fl_A_dd : h0.size > dd := f0_A_dd.lt
  refine own_open (own_via (S' := s₁.setTop (mkF m 0 #[.val (.ref a)] [])) (fun t k => castTop (ef_own_ts m a) k) ?_)
  have K0 : Keep h0 h0 [] := Keep.refl _ _
  have ne_a_dd : a ≠ dd := Exa.neArv f0_E_a f0_A_dd (wd48 hw)
  obtain ⟨T1, h1, X1, e1, E1, A1, D1, -, st1⟩ := newO X0 hx hZ hown (wd155 hw) (wd5 hw) (wd6 hw) e0 (g := (mkF m 0 #[.val (.ref a)] [])) rfl (hb hby d27_0) (by decide) (by decide)
  obtain ⟨b1, g1⟩ : ∃ z, z = h0.size := ⟨_, rfl⟩
  rw [← g1] at A1 D1 st1
  have lt_b1 : h1.size > b1 := A1.lt
  have sz2 : h0.size ≤ h1.size := E1.1
  have O3 : Old Z n0 h1 := O0.ext E1
  have K4 : Keep h0 h1 [] := K0.ext E1
  have F1_value : Fld Z h1 b1 "java/lang/String" "value" "[B" .null := D1 (Or.inr (wd20 hw)) (ty := (.array .byte)) (by decide)
  have F1_coder : Fld Z h1 b1 "java/lang/String" "coder" "B" (.int 0) := D1 (Or.inr (wd21 hw)) (ty := .byte) (by decide)
  refine ov T1 3 #[.val (.ref a)] [.ref b1] st1 ?_
  refine ov T1 4 #[.val (.ref a)] [.ref b1, .ref b1] (fun t k => XS.dup X1.here hx rfl (hb hby d27_3) rfl rfl k) ?_
  refine ov T1 5 #[.val (.ref a)] [.ref a, .ref b1, .ref b1] (fun t k => XS.aloadN X1.here hx rfl (hb hby d27_4) rfl rfl k) ?_
  have cx6 : Exa Z h1 a "java/lang/StringBuilder" := (f0_E_a.ext E1)
  have cx7 : Fld Z h1 a "java/lang/AbstractStringBuilder" "value" "[B" (.ref dd) := (f0_F_a_value.ext E1)
  have cx8 : Fld Z h1 a "java/lang/AbstractStringBuilder" "coder" "B" (.int 0) := (f0_F_a_coder.ext E1)
  have cx9 : Fld Z h1 a "java/lang/AbstractStringBuilder" "count" "I" (.int ci) := (f0_F_a_count.ext E1)
  have cx10 : Arv Z h1 dd kd .byte (32 : Int32) vs (.int 0) := (f0_A_dd.ext E1)
  obtain ⟨_, _, ⟨T5, Lp5, kp5, np5⟩, -, X5, ⟨Lc5, hQ5, l5, y5, z5⟩, st5⟩ := X1.specialBack hx (y := mt21) rfl hown (mvT hZ (wd156 hw)) (mvT hZ (wd157 hw)) (mvT hZ (wd158 hw)) (by decide) (backOf (W := 1) (own_sib l Z a0 hw [] b1 a zc dd kd vs ci h1 n0 O3 zfC A1 F1_value F1_coder cx6 cx7 cx8 cx9 cx10 (by first | assumption | exact Ne.symm (by assumption) | omega | exact Nat.ne_of_lt (by omega) | exact Nat.ne_of_gt (by omega) | decide | exact Nat.le_of_ble_eq_true rfl) (by first | assumption | exact Ne.symm (by assumption) | omega | exact Nat.ne_of_lt (by omega) | exact Nat.ne_of_gt (by omega) | decide | exact Nat.le_of_ble_eq_true rfl) (by first | assumption | exact Ne.symm (by assumption) | omega | exact Nat.ne_of_lt (by omega) | exact Nat.ne_of_gt (by omega) | decide | exact Nat.le_of_ble_eq_true rfl) (by first | assumption | exact Ne.symm (by assumption) | omega | exact Nat.ne_of_lt (by omega) | exact Nat.ne_of_gt (by omega) | decide | exact Nat.le_of_ble_eq_true rfl) (by first | assumption | exact Ne.symm (by assumption) | omega | exact Nat.ne_of_lt (by omega) | exact Nat.ne_of_gt (by omega) | decide | exact Nat.le_of_ble_eq_true rfl) (by first | assumption | exact Ne.symm (by assumption) | omega | exact Nat.ne_of_lt (by omega) | exact Nat.ne_of_gt (by omega) | decide | exact Nat.le_of_ble_eq_true rfl) (by first | assumption | exact Ne.symm (by assumption) | omega | exact Nat.ne_of_lt (by omega) | exact Nat.ne_of_gt (by omega) | decide | exact Nat.le_of_ble_eq_true rfl)) hZ (wd158 hw) (wd6 hw) (by decide) (by decide)) (g := (mkF m 5 #[.val (.ref a)] [.ref a, .ref b1, .ref b1])) rfl (by rw [hml]; rfl) (Steps.refl _) (a := b1) (argsL := [.ref a]) (rest := [.ref b1]) (lenOf pd__Ljava_lang_StringBuilder__V_2574 rfl) rfl (by show 2 * 0 + _ ≤ _; exact Nat.le_of_eq rfl) (hb hby d27_5) (fun _ _ => ⟨rfl, e1, (by decide : 1 + 1 ≤ _), (by decide : 4 + 32 ≤ _)⟩)
  dsimp only [Pt.U, Pt.locs, Pt.cells, Pt.slots] at X5 l5 y5 z5 st5 hQ5
  subst Lp5 kp5 np5
  obtain ⟨b5, kb5, rfl, N5q, K5q, f5_0, f5_1, f5_2⟩ := hQ5
  have N5 := Fr.app N0 N5q
  have sz11 : h1.size ≤ T5.heap.size := K5q.1
  have O12 : Old Z n0 T5.heap := O3.keep K5q (allS (by omega : n0 ≤ b1) all0)
  have K13 : Keep h0 T5.heap [] := K4.trans K5q (allS (P := fun x => x ∈ [] ∨ h0.size ≤ x) (Or.inr (by omega)) all0)
  have lt14_b5 : T5.heap.size > b5 := f5_2.lt
  refine own_tr (S' := T5.setTop (mkF m 8 #[.val (.ref a)] [.ref b1])) st5 ?_
  have cx15 : Exa Z T5.heap b1 "java/lang/String" := (A1.keep K5q)
  refine own_ret (Q := Q_own_ts Z a zc dd kd vs ci h0 n0) (C := rm5_2_36_101.cells) (N := rm5_2_36_101.slots) X5 (v := some (.ref b1)) (fun h => by rw [Bd.returns] at h; cases h) Bd.notSynchronized ?_ (by decide) (by decide) (fun fs hr => retOut X5 hx Bd.returns rfl (Or.inr (Or.inr (Or.inr (Or.inr ⟨rfl, rfl, rfl⟩)))) (hb hby d27_8) hr)
  show Q_own_ts Z a zc dd kd vs ci h0 n0 _ T5.heap _
  exact ⟨b1, b5, kb5, rfl, N5, K13, cx15, f5_0, f5_1, f5_2⟩
def Q_own_new4e (Z : State) (a : Addr) (bc : Addr) (h0 : Heap) (n0 : Nat) (v : Option Value) (vm : Vm) (h : Heap) (L : List Loc) : Prop := ∃ tb : Addr, ∃ kb : ClassId, v = none ∧ Fr n0 L ∧ Keep h0 h [a] ∧ Fld Z h a "java/lang/String" "value" "[B" (.ref tb) ∧ Fld Z h a "java/lang/String" "coder" "B" (.int 0) ∧ Arv Z h tb kb .byte (0 : Int32) [] (.int 0)
set_option maxRecDepth 65536 in
set_option maxHeartbeats 40000000 in
theorem own_new4e (l : Launch) (Z : State) (a0 : Array Value) (hw : ∀ d ∈ tables_1, d.before a0 Z = true) (ws : List Jvm.Cond) (a : Addr) (bc : Addr) (h0 : Heap) (n0 : Nat) (O0 : Old Z n0 h0) (f0_E_a : Exa Z h0 a "java/lang/String") (f0_F_a_value : Fld Z h0 a "java/lang/String" "value" "[B" .null) (f0_F_a_coder : Fld Z h0 a "java/lang/String" "coder" "B" (.int 0)) (g_a : n0 ≤ a) :
    MetFree l mt23 (head1 (Jvm.Cond.code mt23 jdk_42_method_149_code 6 none :: ws) rm1_4_8_12) (fun aq U => aq = #[.ref a, .ref bc, .int 0, .int 0, .null] ∧ Z.Warmed39 U.vm ∧ U.heap = h0 ∧ CHv Z own_EL U.vm h0 ∧ ∀ x ∈ ([] : List Addr), Safe Z own_EL U.vm h0 x) (fun _ _ _ _ _ => True) (fun _ U o U' => ∃ v L, o = .returned v ∧ Q_own_new4e Z a bc h0 n0 v U'.vm U'.heap L ∧ CHr Z own_EL U.vm U.heap U'.vm U'.heap ∧ ReturnedEndW U o U' L rm1_4_8_12.cells rm1_4_8_12.slots) := by
  refine MetFree.of_bodySF (plainFor_of_name pn_java_lang_String) hisR ?_
  intro p e s m args below meth c s₁ Bd hml0 hP hK
  obtain ⟨rfl, hZ, hh, hCH, hSL⟩ := hP
  have hx := Bd.exec
  have hby := Bd.bytes
  have hml : c.maxLocals = 6 := hml0
  have hown : s.vm.findClass "java/lang/String" = some m.cls := findClass_of_methodNamed Bd.named
  have hnm := (name_of_methodNamed Bd.named Bd.method).1
  have X0 : Stand p l e rm1_4_8_12 (s.setVm s.vm) m #[.ref a, .ref bc, .int 0, .int 0, .null] below meth c s₁ [] 0 0 := Stand.of_body Bd
  have e0 : s₁.heap = h0 := by rw [← hh, Bd.state]; rfl
  have N0 := Fr.nil n0
  have zO := O0.1
  have zO2 := O0.2.1
  have fl_E_a : h0.size > a := f0_E_a.lt
  have fl_F_a_value : h0.size > a := f0_F_a_value.lt
  have fl_F_a_coder : h0.size > a := f0_F_a_coder.lt
  refine own_open (own_via (S' := s₁.setTop (mkF m 0 #[.val (.ref a), .val (.ref bc), .val (.int 0), .val (.int 0), .val .null, .unset] [])) (fun t k => castTop (ef_own_new4e m a bc (0 : Int32) (0 : Int32)) k) ?_)
  have hEL := own_EW hw
  have hS0 : s.Since s.vm h0.size := (State.WarmedH.refl s).since _
  have R0 : CHr Z own_EL s.vm h0 s.vm h0 := CHr.refl hCH
  have K0 : Keep h0 h0 [a] := Keep.refl _ _
  refine ov s₁ 1 #[.val (.ref a), .val (.ref bc), .val (.int 0), .val (.int 0), .val .null, .unset] [.ref a] (fun t k => XS.aloadN X0.here hx rfl (hb hby d3_0) rfl rfl k) ?_
  obtain ⟨T1, X1, e1, st1⟩ := initO X0 hx hZ hown (wd15 hw) (wd16 hw) (wd17 hw) e0 (g := (mkF m 1 #[.val (.ref a), .val (.ref bc), .val (.int 0), .val (.int 0), .val .null, .unset] [.ref a])) rfl (by rw [hml]; rfl) rfl (hb hby d3_1) (by decide) (W := 0) (by show 2 * 0 + _ ≤ _; exact Nat.le_of_eq rfl) (by decide)
  refine ov T1 4 #[.val (.ref a), .val (.ref bc), .val (.int 0), .val (.int 0), .val .null, .unset] [] st1 ?_
  refine ov T1 5 #[.val (.ref a), .val (.ref bc), .val (.int 0), .val (.int 0), .val .null, .unset] [.int 0] (fun t k => XS.iloadN X1.here hx rfl (hb hby d3_4) rfl k) ?_
  refine ov T1 8 #[.val (.ref a), .val (.ref bc), .val (.int 0), .val (.int 0), .val .null, .unset] [] (fun t k => XS.ifNo X1.here hx rfl (hb hby d3_5) rfl ((if0 _ _).trans (teq (by decide : (0 : Int32) = (0 : Int32))).2) k) ?_
  refine ov T1 9 #[.val (.ref a), .val (.ref bc), .val (.int 0), .val (.int 0), .val .null, .unset] [.ref a] (fun t k => XS.aloadN X1.here hx rfl (hb hby d3_8) rfl rfl k) ?_
  obtain ⟨b2, T2, h2, kk2, t2, kb2, X2, e2, E2, hS2, hk2, hZ, hown, f2_0, f2_1, f2_2, f2_3, lta2, ltb2, R2q, hLit2, hsn2, st2⟩ := ldcCH X1 hx hZ hown (wd18 hw) (own_wS hw) e1 hS0 (by omega) hEL (List.mem_of_getElem? (i := 2) rfl) R0.1 (vs := []) (z := (0 : Int32)) ⟨by decide, rfl⟩ (by decide) rfl (g := (mkF m 9 #[.val (.ref a), .val (.ref bc), .val (.int 0), .val (.int 0), .val .null, .unset] [.ref a])) rfl (hb hby d3_9) (n := 0) (by decide) (by decide) (by decide) (by decide)
  have sz3 : h0.size ≤ h2.size := E2.1
  have O4 : Old Z n0 h2 := O0.ext E2
  have R5 : CHr Z own_EL s.vm h0 T2.vm h2 := R0.trans R2q
  have K6 : Keep h0 h2 [a] := K0.ext E2
  have lt_b2 : h2.size > b2 := lta2
  have lt_t2 : h2.size > t2 := ltb2
  have cx7 : Exa Z h2 a "java/lang/String" := (f0_E_a.ext E2)
  have cx8 : Fld Z h2 a "java/lang/String" "value" "[B" .null := (f0_F_a_value.ext E2)
  have ne_a_b2 : a ≠ b2 := (hsn2 _ (own_safeNull hZ.alike cx7 cx8)).1
  have ne_a_t2 : a ≠ t2 := (hsn2 _ (own_safeNull hZ.alike cx7 cx8)).2
  refine ov T2 11 #[.val (.ref a), .val (.ref bc), .val (.int 0), .val (.int 0), .val .null, .unset] [.ref b2, .ref a] st2 ?_
  obtain ⟨T9, X9, e9, st9⟩ := getF X2 hx hZ hown (host := "") (Or.inl (wd24 hw)) Via.refl e2 f2_2 (g := (mkF m 11 #[.val (.ref a), .val (.ref bc), .val (.int 0), .val (.int 0), .val .null, .unset] [.ref b2, .ref a])) rfl rfl (hb hby d3_11)
  refine ov T9 14 #[.val (.ref a), .val (.ref bc), .val (.int 0), .val (.int 0), .val .null, .unset] [.ref t2, .ref a] st9 ?_
  obtain ⟨T10, h10, X10, e10, W10, st10⟩ := putF X9 hx hZ hown (host := "") (Or.inl (wd24 hw)) Via.refl e9 cx8 cx7 (Or.inr ⟨(wd20 hw), rfl, hnm⟩) (wd5 hw) (ty := (.array .byte)) (by decide) rfl rfl (g := (mkF m 14 #[.val (.ref a), .val (.ref bc), .val (.int 0), .val (.int 0), .val .null, .unset] [.ref t2, .ref a])) rfl rfl (hb hby d3_14)
  have sf10 : Safe Z own_EL T2.vm h2 a := (own_safeNull hZ.alike cx7 cx8)
  have sz11 : h2.size ≤ h10.size := Nat.le_of_eq W10.size.symm
  have R12 : CHr Z own_EL s.vm h0 T2.vm h10 := R5.trans (CHr.wr W10 sf10 R5.1)
  have O13 : Old Z n0 h10 := O4.wr W10 (by omega : n0 ≤ a)
  have N10 := Fr.snoc X10 N0 (by omega : n0 ≤ a)
  have K14 : Keep h0 h10 [a] := K6.wr W10 (Or.inl (List.mem_of_getElem? (i := 0) rfl))
  have Fw10 : Fld Z h10 a "java/lang/String" "value" "[B" (.ref t2) := Fld.same W10 cx8
  refine ov T10 17 #[.val (.ref a), .val (.ref bc), .val (.int 0), .val (.int 0), .val .null, .unset] [] st10 ?_
  refine ov T10 18 #[.val (.ref a), .val (.ref bc), .val (.int 0), .val (.int 0), .val .null, .unset] [.ref a] (fun t k => XS.aloadN X10.here hx rfl (hb hby d3_17) rfl rfl k) ?_
  obtain ⟨b15, T15, h15, kk15, t15, kb15, X15, e15, E15, hS15, hk15, hZ, hown, f15_0, f15_1, f15_2, f15_3, lta15, ltb15, R15q, hLit15, hsn15, st15⟩ := ldcCH X10 hx hZ hown (wd18 hw) (own_wS hw) e10 hS2 (by omega) hEL (List.mem_of_getElem? (i := 2) rfl) R12.1 (vs := []) (z := (0 : Int32)) ⟨by decide, rfl⟩ (by decide) rfl (g := (mkF m 18 #[.val (.ref a), .val (.ref bc), .val (.int 0), .val (.int 0), .val .null, .unset] [.ref a])) rfl (hb hby d3_18) (n := 0) (by decide) (by decide) (by decide) (by decide)
  have sz16 : h10.size ≤ h15.size := E15.1
  have O17 : Old Z n0 h15 := O13.ext E15
  have R18 : CHr Z own_EL s.vm h0 T15.vm h15 := R12.trans R15q
  have K19 : Keep h0 h15 [a] := K14.ext E15
  have lt_b15 : h15.size > b15 := lta15
  have lt_t15 : h15.size > t15 := ltb15
  have cx20 : Safe Z own_EL T15.vm h15 a := (CHr.safe R15q (own_ltA (by omega)) (Safe.wr W10 sf10 R5.1 sf10))
  have ne_a_b15 : a ≠ b15 := (hsn15 _ cx20).1
  have ne_a_t15 : a ≠ t15 := (hsn15 _ cx20).2
  refine ov T15 20 #[.val (.ref a), .val (.ref bc), .val (.int 0), .val (.int 0), .val .null, .unset] [.ref b15, .ref a] st15 ?_
  obtain ⟨T21, X21, e21, st21⟩ := getF X15 hx hZ hown (host := "") (Or.inl (wd25 hw)) Via.refl e15 f15_1 (g := (mkF m 20 #[.val (.ref a), .val (.ref bc), .val (.int 0), .val (.int 0), .val .null, .unset] [.ref b15, .ref a])) rfl rfl (hb hby d3_20)
  refine ov T21 23 #[.val (.ref a), .val (.ref bc), .val (.int 0), .val (.int 0), .val .null, .unset] [.int 0, .ref a] st21 ?_
  have cx22 : Exa Z h15 a "java/lang/String" := ((Exa.wr W10 cx7).ext E15)
  have cx23 : Fld Z h15 a "java/lang/String" "coder" "B" (.int 0) := ((Fld.other W10 (f0_F_a_coder.ext E2) (Or.inr (slot_ne (Or.inr (wd21 hw)) (Or.inr (wd20 hw)) (by decide) (t := .byte) (t' := (.array .byte)) (by decide) (by decide)))).ext E15)
  obtain ⟨T24, h24, X24, e24, W24, st24⟩ := putFN X21 hx hZ hown (wd25 hw) Via.refl e21 cx23 cx22 (Or.inr ⟨(wd21 hw), rfl, hnm⟩) (wd5 hw) (ty := .byte) (v' := (.int 0)) (by decide) rfl rfl (g := (mkF m 23 #[.val (.ref a), .val (.ref bc), .val (.int 0), .val (.int 0), .val .null, .unset] [.int 0, .ref a])) rfl rfl (hb hby d3_23)
  have sz25 : h15.size ≤ h24.size := Nat.le_of_eq W24.size.symm
  have R26 : CHr Z own_EL s.vm h0 T15.vm h24 := R18.trans (CHr.wr W24 cx20 R18.1)
  have O27 : Old Z n0 h24 := O17.wr W24 (by omega : n0 ≤ a)
  have N24 := Fr.snoc X24 N10 (by omega : n0 ≤ a)
  have K28 : Keep h0 h24 [a] := K19.wr W24 (Or.inl (List.mem_of_getElem? (i := 0) rfl))
  have Fw24 : Fld Z h24 a "java/lang/String" "coder" "B" (.int 0) := Fld.same W24 cx23
  refine ov T24 26 #[.val (.ref a), .val (.ref bc), .val (.int 0), .val (.int 0), .val .null, .unset] [] st24 ?_
  have cx29 : Fld Z h24 a "java/lang/String" "value" "[B" (.ref t2) := (Fld.other W24 (Fw10.ext E15) (Or.inr (slot_ne (Or.inr (wd20 hw)) (Or.inr (wd21 hw)) (by decide) (t := (.array .byte)) (t' := .byte) (by decide) (by decide))))
  have cx30 : Arv Z h24 t2 kb2 .byte (0 : Int32) [] (.int 0) := (((f2_3.other W10 (Ne.symm ne_a_t2)).ext E15).other W24 (Ne.symm ne_a_t2))
  have RTR26 : CHr Z own_EL s.vm h0 T24.vm h24 := R26.trans (CHv.at X24 hZ hEL R26.1)
  have RXR26 : CHr Z own_EL s.vm s.heap T24.vm T24.heap := by rw [hh, e24]; exact RTR26
  refine own_retW (Q := Q_own_new4e Z a bc h0 n0) (C := rm1_4_8_12.cells) (N := rm1_4_8_12.slots) X24 hS15 (by rw [e24]; omega) (v := none) (fun _ => rfl) Bd.notSynchronized ?_ RXR26 (by decide) (by decide) (fun fs hr => X24.returnOut hx Bd.returns (hb hby d3_26) hr)
  show Q_own_new4e Z a bc h0 n0 _ T24.vm T24.heap _
  rw [e24]
  exact ⟨t2, kb2, rfl, N24, K28, cx29, Fw24, cx30⟩
def Q_own_new1e (Z : State) (a : Addr) (bc : Addr) (kc : ClassId) (h0 : Heap) (n0 : Nat) (v : Option Value) (vm : Vm) (h : Heap) (L : List Loc) : Prop := ∃ tb : Addr, ∃ kb : ClassId, v = none ∧ Fr n0 L ∧ Keep h0 h [a] ∧ Fld Z h a "java/lang/String" "value" "[B" (.ref tb) ∧ Fld Z h a "java/lang/String" "coder" "B" (.int 0) ∧ Arv Z h tb kb .byte (0 : Int32) [] (.int 0)
set_option maxRecDepth 65536 in
set_option maxHeartbeats 40000000 in
theorem own_new1e (l : Launch) (Z : State) (a0 : Array Value) (hw : ∀ d ∈ tables_1, d.before a0 Z = true) (ws : List Jvm.Cond) (a : Addr) (bc : Addr) (kc : ClassId) (h0 : Heap) (n0 : Nat) (O0 : Old Z n0 h0) (f0_E_a : Exa Z h0 a "java/lang/String") (f0_F_a_value : Fld Z h0 a "java/lang/String" "value" "[B" .null) (f0_F_a_coder : Fld Z h0 a "java/lang/String" "coder" "B" (.int 0)) (f0_A_bc : Arv Z h0 bc kc .char (0 : Int32) [] (.int 0)) (g_a : n0 ≤ a) :
    MetFree l mt24 (head1 (Jvm.Cond.code mt24 jdk_42_method_3_code 2 none :: ws) rm2_4_8_29) (fun aq U => aq = #[.ref a, .ref bc] ∧ Z.Warmed39 U.vm ∧ U.heap = h0 ∧ CHv Z own_EL U.vm h0 ∧ ∀ x ∈ ([] : List Addr), Safe Z own_EL U.vm h0 x) (fun _ _ _ _ _ => True) (fun _ U o U' => ∃ v L, o = .returned v ∧ Q_own_new1e Z a bc kc h0 n0 v U'.vm U'.heap L ∧ CHr Z own_EL U.vm U.heap U'.vm U'.heap ∧ ReturnedEndW U o U' L rm2_4_8_29.cells rm2_4_8_29.slots) := by
  refine MetFree.of_bodySF (plainFor_of_name pn_java_lang_String) hisR ?_
  intro p e s m args below meth c s₁ Bd hml0 hP hK
  obtain ⟨rfl, hZ, hh, hCH, hSL⟩ := hP
  have hx := Bd.exec
  have hby := Bd.bytes
  have hml : c.maxLocals = 2 := hml0
  have hown : s.vm.findClass "java/lang/String" = some m.cls := findClass_of_methodNamed Bd.named
  have hnm := (name_of_methodNamed Bd.named Bd.method).1
  have X0 : Stand p l e rm2_4_8_29 (s.setVm s.vm) m #[.ref a, .ref bc] below meth c s₁ [] 0 0 := Stand.of_body Bd
  have e0 : s₁.heap = h0 := by rw [← hh, Bd.state]; rfl
  have N0 := Fr.nil n0
  have zO := O0.1
  have zO2 := O0.2.1
  have fl_E_a : h0.size > a := f0_E_a.lt
  have fl_F_a_value : h0.size > a := f0_F_a_value.lt
  have fl_F_a_coder : h0.size > a := f0_F_a_coder.lt
  have fl_A_bc : h0.size > bc := f0_A_bc.lt
  refine own_open (own_via (S' := s₁.setTop (mkF m 0 #[.val (.ref a), .val (.ref bc)] [])) (fun t k => castTop (ef_own_new1e m a bc) k) ?_)
  have hEL := own_EW hw
  have hS0 : s.Since s.vm h0.size := (State.WarmedH.refl s).since _
  have R0 : CHr Z own_EL s.vm h0 s.vm h0 := CHr.refl hCH
  have K0 : Keep h0 h0 [a] := Keep.refl _ _
  have ne_a_bc : a ≠ bc := Exa.neArv f0_E_a f0_A_bc (wd5 hw)
  refine ov s₁ 1 #[.val (.ref a), .val (.ref bc)] [.ref a] (fun t k => XS.aloadN X0.here hx rfl (hb hby d2_0) rfl rfl k) ?_
  refine ov s₁ 2 #[.val (.ref a), .val (.ref bc)] [.ref bc, .ref a] (fun t k => XS.aloadN X0.here hx rfl (hb hby d2_1) rfl rfl k) ?_
  refine ov s₁ 3 #[.val (.ref a), .val (.ref bc)] [.int 0, .ref bc, .ref a] (fun t k => XS.iconst X0.here hx rfl (hb hby d2_2) k) ?_
  refine ov s₁ 4 #[.val (.ref a), .val (.ref bc)] [.ref bc, .int 0, .ref bc, .ref a] (fun t k => XS.aloadN X0.here hx rfl (hb hby d2_3) rfl rfl k) ?_
  obtain ⟨cl1, Ar1, -, S1, N1, -, -⟩ := id f0_A_bc
  refine ov s₁ 5 #[.val (.ref a), .val (.ref bc)] [.int 0, .int 0, .ref bc, .ref a] (fun t k => X0.arraylength hx (by first | (rw [e0]; exact Ar1.1) | exact Ar1.1) (State.isArrayOf_alike hZ.alike Ar1.2.1) (g := (mkF m 4 #[.val (.ref a), .val (.ref bc)] [.ref bc, .int 0, .ref bc, .ref a])) rfl rfl (hb hby d2_4) _ (by rw [len_of S1 N1]; exact k)) ?_
  refine ov s₁ 6 #[.val (.ref a), .val (.ref bc)] [.null, .int 0, .int 0, .ref bc, .ref a] (fun t k => XS.aconstNull X0.here hx rfl (hb hby d2_5) k) ?_
  have hk2 : h0.size ≤ s₁.heap.size := by rw [e0]; omega
  obtain ⟨_, _, ⟨T2, Lp2, kp2, np2⟩, -, X2, hS2, hgr2, ⟨Lc2, ⟨hQ2, R2q⟩, l2, y2, z2⟩, st2⟩ := X0.specialBackS hx (y := mt23) rfl hown (mvT hZ (wd11 hw)) (mvT hZ (wd12 hw)) (mvT hZ (wd14 hw)) (by decide) (own_backW (SL := []) (W := 0) (own_new4e l Z a0 hw [] a bc h0 n0 O0 f0_E_a f0_F_a_value f0_F_a_coder (by first | assumption | exact Ne.symm (by assumption) | omega | exact Nat.ne_of_lt (by omega) | exact Nat.ne_of_gt (by omega) | decide | exact Nat.le_of_ble_eq_true rfl)) hZ (wd14 hw) (wd6 hw) (by decide) (by decide) hEL R0.1 all0) (g := (mkF m 6 #[.val (.ref a), .val (.ref bc)] [.null, .int 0, .int 0, .ref bc, .ref a])) rfl (by rw [hml]; rfl) (Steps.refl _) (a := a) (argsL := [.ref bc, .int 0, .int 0, .null]) (rest := []) (lenOf pd___CIILjava_lang_Void__V_1938 rfl) rfl (by show 2 * 0 + _ ≤ _; exact Nat.le_of_eq rfl) (hb hby d2_6) (fun _ _ => ⟨rfl, e0, (by decide : 0 + 4 ≤ _), (by decide : 0 + 8 ≤ _)⟩)
  dsimp only [Pt.U, Pt.locs, Pt.cells, Pt.slots] at X2 l2 y2 z2 st2 hQ2 hS2 hgr2 R2q
  subst Lp2 kp2 np2
  obtain ⟨X2, hSn2, hZ, hown⟩ := rebS hS0 hk2 X2 hS2 hgr2 hZ hown
  obtain ⟨tb2, kb2, rfl, N2q, K2q, f2_0, f2_1, f2_2⟩ := hQ2
  have N2 := Fr.app N0 N2q
  have sz3 : h0.size ≤ T2.heap.size := K2q.1
  have R4 : CHr Z own_EL s.vm h0 T2.vm T2.heap := R0.trans R2q
  have O5 : Old Z n0 T2.heap := O0.keep K2q (allS (by omega : n0 ≤ a) all0)
  have K6 : Keep h0 T2.heap [a] := K0.trans K2q (allS (P := fun x => x ∈ [a] ∨ h0.size ≤ x) (Or.inl (List.mem_of_getElem? (i := 0) rfl)) all0)
  have lt7_tb2 : T2.heap.size > tb2 := f2_2.lt
  refine own_tr (S' := T2.setTop (mkF m 9 #[.val (.ref a), .val (.ref bc)] [])) st2 ?_
  have RTR4 : CHr Z own_EL s.vm h0 T2.vm T2.heap := R4.trans (CHv.at X2 hZ hEL R4.1)
  have RXR4 : CHr Z own_EL s.vm s.heap T2.vm T2.heap := by rw [hh]; exact RTR4
  refine own_retW (Q := Q_own_new1e Z a bc kc h0 n0) (C := rm2_4_8_29.cells) (N := rm2_4_8_29.slots) X2 hSn2 (by omega) (v := none) (fun _ => rfl) Bd.notSynchronized ?_ RXR4 (by decide) (by decide) (fun fs hr => X2.returnOut hx Bd.returns (hb hby d2_9) hr)
  show Q_own_new1e Z a bc kc h0 n0 _ T2.vm T2.heap _
  exact ⟨tb2, kb2, rfl, N2, K6, f2_0, f2_1, f2_2⟩
def Q_own_asbi (Z : State) (a : Addr) (xs : Addr) (tt : Addr) (kt : ClassId) (zc : Int32) (h0 : Heap) (n0 : Nat) (v : Option Value) (h : Heap) (L : List Loc) : Prop := ∃ dd : Addr, ∃ kd : ClassId, v = none ∧ Fr n0 L ∧ Keep h0 h [a] ∧ Fld Z h a "java/lang/AbstractStringBuilder" "value" "[B" (.ref dd) ∧ Fld Z h a "java/lang/AbstractStringBuilder" "coder" "B" (.int 0) ∧ Fld Z h a "java/lang/AbstractStringBuilder" "count" "I" (.int 16) ∧ Arv Z h dd kd .byte (32 : Int32) (own_L1) (.int 0) ∧ (h0.size ≤ dd)
set_option maxRecDepth 65536 in
set_option maxHeartbeats 40000000 in
theorem own_asbi (l : Launch) (Z : State) (a0 : Array Value) (hw : ∀ d ∈ tables_1, d.before a0 Z = true) (ws : List Jvm.Cond) (a : Addr) (xs : Addr) (tt : Addr) (kt : ClassId) (zc : Int32) (h0 : Heap) (n0 : Nat) (O0 : Old Z n0 h0) (zfC : Sta Z Z.heap "java/lang/String" "COMPACT_STRINGS" "Z" (.int zc)) (f0_E_a : Exa Z h0 a "java/lang/StringBuilder") (f0_F_a_value : Fld Z h0 a "java/lang/AbstractStringBuilder" "value" "[B" .null) (f0_F_a_coder : Fld Z h0 a "java/lang/AbstractStringBuilder" "coder" "B" (.int 0)) (f0_F_a_count : Fld Z h0 a "java/lang/AbstractStringBuilder" "count" "I" (.int 0)) (f0_E_xs : Exa Z h0 xs "java/lang/String") (f0_F_xs_coder : Fld Z h0 xs "java/lang/String" "coder" "B" (.int 0)) (f0_F_xs_value : Fld Z h0 xs "java/lang/String" "value" "[B" (.ref tt)) (f0_A_tt : Arv Z h0 tt kt .byte (16 : Int32) (own_L0) (.int 0)) (hzc : ¬ (zc = (0 : Int32))) (g_a : n0 ≤ a) :
    MetFree l mt25 (head1 (Jvm.Cond.code mt25 jdk_68_method_3_code 5 none :: ws) rm6_1_32_109) (fun aq U => aq = #[.ref a, .ref xs] ∧ Z.Warmed39 U.vm ∧ U.heap = h0) (fun _ _ _ _ _ => True) (fun _ U o U' => ∃ v L, o = .returned v ∧ Q_own_asbi Z a xs tt kt zc h0 n0 v U'.heap L ∧ FrameEnd U o U' L rm6_1_32_109.cells rm6_1_32_109.slots) := by
  refine MetFree.of_bodySF (plainFor_of_name pn_java_lang_AbstractStringBuilder) hisR ?_
  intro p e s m args below meth c s₁ Bd hml0 hP hK
  obtain ⟨rfl, hZ, hh⟩ := hP
  have hx := Bd.exec
  have hby := Bd.bytes
  have hml : c.maxLocals = 5 := hml0
  have hown : s.vm.findClass "java/lang/AbstractStringBuilder" = some m.cls := findClass_of_methodNamed Bd.named
  have hnm := (name_of_methodNamed Bd.named Bd.method).1
  have X0 : Stand p l e rm6_1_32_109 s m #[.ref a, .ref xs] below meth c s₁ [] 0 0 := Stand.of_body Bd
  have e0 : s₁.heap = h0 := by rw [← hh, Bd.state]; rfl
  have N0 := Fr.nil n0
  have zO := O0.1
  have zO2 := O0.2.1
  have fl_E_a : h0.size > a := f0_E_a.lt
  have fl_F_a_value : h0.size > a := f0_F_a_value.lt
  have fl_F_a_coder : h0.size > a := f0_F_a_coder.lt
  have fl_F_a_count : h0.size > a := f0_F_a_count.lt
  have fl_E_xs : h0.size > xs := f0_E_xs.lt
  have fl_F_xs_coder : h0.size > xs := f0_F_xs_coder.lt
  have fl_F_xs_value : h0.size > xs := f0_F_xs_value.lt
  have fl_A_tt : h0.size > tt := f0_A_tt.lt
  refine own_open (own_via (S' := s₁.setTop (mkF m 0 #[.val (.ref a), .val (.ref xs), .unset, .unset, .unset] [])) (fun t k => castTop (ef_own_asbi m a xs) k) ?_)
  have K0 : Keep h0 h0 [a] := Keep.refl _ _
  have ne_a_xs : a ≠ xs := Exa.ne f0_E_a f0_E_xs (by decide)
  have ne_a_tt : a ≠ tt := Exa.neArv f0_E_a f0_A_tt (wd48 hw)
  have ne_xs_tt : xs ≠ tt := Exa.neArv f0_E_xs f0_A_tt (wd5 hw)
  refine ov s₁ 1 #[.val (.ref a), .val (.ref xs), .unset, .unset, .unset] [.ref a] (fun t k => XS.aloadN X0.here hx rfl (hb hby d11_0) rfl rfl k) ?_
  obtain ⟨T1, X1, e1, st1⟩ := initO X0 hx hZ hown (wd60 hw) (wd16 hw) (wd17 hw) e0 (g := (mkF m 1 #[.val (.ref a), .val (.ref xs), .unset, .unset, .unset] [.ref a])) rfl (by rw [hml]; rfl) rfl (hb hby d11_1) (by decide) (W := 0) (by show 2 * 0 + _ ≤ _; exact Nat.le_of_eq rfl) (by decide)
  refine ov T1 4 #[.val (.ref a), .val (.ref xs), .unset, .unset, .unset] [] st1 ?_
  refine ov T1 5 #[.val (.ref a), .val (.ref xs), .unset, .unset, .unset] [.ref xs] (fun t k => XS.aloadN X1.here hx rfl (hb hby d11_4) rfl rfl k) ?_
  obtain ⟨cq2, kq2, q2a, q2b, q2c⟩ := isOf hZ e1 f0_E_xs
  obtain ⟨_, _, ⟨T2, Lp2, kp2, np2⟩, -, X2, ⟨Lc2, hQ2, l2, y2, z2⟩, st2⟩ := X1.virtualBack hx (y := mt1) (z := mt1) hown (mvT hZ (wd61 hw)) (mvT hZ (wd62 hw)) (notFace_of_selects (args := #[]) (mvT hZ (wd64 hw))) (mvT hZ (wd64 hw)) (mvT hZ (wd63 hw)) (by decide) (backOf (W := 0) (own_len l Z a0 hw [] xs tt kt (16 : Int32) (own_L0) zc h0 n0 O0 zfC f0_E_xs f0_F_xs_coder f0_F_xs_value f0_A_tt (by first | assumption | exact Ne.symm (by assumption) | omega | exact Nat.ne_of_lt (by omega) | exact Nat.ne_of_gt (by omega) | decide | exact Nat.le_of_ble_eq_true rfl)) hZ (wd65 hw) (wd6 hw) (by decide) (by decide)) q2a q2c (g := (mkF m 5 #[.val (.ref a), .val (.ref xs), .unset, .unset, .unset] [.ref xs])) rfl (by rw [hml]; rfl) (Steps.refl _) (argsL := []) (rest := []) (lenOf pd___I_154 rfl) rfl (by show 2 * 0 + _ ≤ _; exact Nat.le_of_eq rfl) (hb hby d11_5) (fun _ _ => ⟨rfl, e1, (by decide : 0 + 0 ≤ _), (by decide : 0 + 0 ≤ _)⟩)
  dsimp only [Pt.U, Pt.locs, Pt.cells, Pt.slots] at X2 l2 y2 z2 st2 hQ2
  subst Lp2 kp2 np2
  obtain ⟨rfl, rfl, e2⟩ := hQ2
  try rw [List.append_nil] at X2
  refine own_tr (S' := T2.setTop (mkF m 8 #[.val (.ref a), .val (.ref xs), .unset, .unset, .unset] [.int 16])) st2 ?_
  refine ov T2 9 #[.val (.ref a), .val (.ref xs), .val (.int 16), .unset, .unset] [] (fun t k => XS.istoreN X2.here hx rfl (hb hby d11_8) rfl (l' := #[.val (.ref a), .val (.ref xs), .val (.int 16), .unset, .unset]) rfl k) ?_
  refine ov T2 10 #[.val (.ref a), .val (.ref xs), .val (.int 16), .unset, .unset] [.int 16] (fun t k => XS.iloadN X2.here hx rfl (hb hby d11_9) rfl k) ?_
  refine ov T2 12 #[.val (.ref a), .val (.ref xs), .val (.int 16), .unset, .unset] [.int 2147483631, .int 16] (fun t k => X2.ldcInt hx hown (mvT hZ (wd71 hw)) (g := (mkF m 10 #[.val (.ref a), .val (.ref xs), .val (.int 16), .unset, .unset] [.int 16])) rfl (hb hby d11_10) _ k) ?_
  refine ov T2 15 #[.val (.ref a), .val (.ref xs), .val (.int 16), .unset, .unset] [] (fun t k => XS.icmpNo X2.here hx rfl (hb hby d11_12) rfl (tlt (by decide : (16 : Int32) < (2147483631 : Int32))).2.1 k) ?_
  refine ov T2 16 #[.val (.ref a), .val (.ref xs), .val (.int 16), .unset, .unset] [.int 16] (fun t k => XS.iloadN X2.here hx rfl (hb hby d11_15) rfl k) ?_
  refine ov T2 18 #[.val (.ref a), .val (.ref xs), .val (.int 16), .unset, .unset] [.int 16, .int 16] (fun t k => XS.bipush X2.here hx rfl (hb hby d11_16) k) ?_
  refine ov T2 19 #[.val (.ref a), .val (.ref xs), .val (.int 16), .unset, .unset] [.int 32] (fun t k => XS.iadd X2.here hx rfl (hb hby d11_18) rfl k) ?_
  refine ov T2 24 #[.val (.ref a), .val (.ref xs), .val (.int 16), .unset, .unset] [.int 32] (fun t k => XS.goto X2.here hx rfl (pc0 := 19) (pc' := 24) rfl (hb hby d11_19) (by decide) (by decide) k) ?_
  refine ov T2 25 #[.val (.ref a), .val (.ref xs), .val (.int 16), .val (.int 32), .unset] [] (fun t k => XS.istoreN X2.here hx rfl (hb hby d11_24) rfl (l' := #[.val (.ref a), .val (.ref xs), .val (.int 16), .val (.int 32), .unset]) rfl k) ?_
  refine ov T2 26 #[.val (.ref a), .val (.ref xs), .val (.int 16), .val (.int 32), .unset] [.ref xs] (fun t k => XS.aloadN X2.here hx rfl (hb hby d11_25) rfl rfl k) ?_
  obtain ⟨cq3, kq3, q3a, q3b, q3c⟩ := isOf hZ e2 f0_E_xs
  obtain ⟨_, _, ⟨T3, Lp3, kp3, np3⟩, -, X3, ⟨Lc3, hQ3, l3, y3, z3⟩, st3⟩ := X2.virtualBack hx (y := mt0) (z := mt0) hown (mvT hZ (wd72 hw)) (mvT hZ (wd67 hw)) (notFace_of_selects (args := #[]) (mvT hZ (wd69 hw))) (mvT hZ (wd69 hw)) (mvT hZ (wd68 hw)) (by decide) (backOf (W := 0) (own_coder l Z a0 hw [] xs zc h0 n0 O0 zfC f0_F_xs_coder (by first | assumption | exact Ne.symm (by assumption) | omega | exact Nat.ne_of_lt (by omega) | exact Nat.ne_of_gt (by omega) | decide | exact Nat.le_of_ble_eq_true rfl)) hZ (wd70 hw) (wd6 hw) (by decide) (by decide)) q3a q3c (g := (mkF m 26 #[.val (.ref a), .val (.ref xs), .val (.int 16), .val (.int 32), .unset] [.ref xs])) rfl (by rw [hml]; rfl) (Steps.refl _) (argsL := []) (rest := []) (lenOf pd___B_147 rfl) rfl (by show 2 * 0 + _ ≤ _; exact Nat.le_of_eq rfl) (hb hby d11_26) (fun _ _ => ⟨rfl, e2, (by decide : 0 + 0 ≤ _), (by decide : 0 + 0 ≤ _)⟩)
  dsimp only [Pt.U, Pt.locs, Pt.cells, Pt.slots] at X3 l3 y3 z3 st3 hQ3
  subst Lp3 kp3 np3
  obtain ⟨rfl, rfl, e3⟩ := hQ3
  try rw [List.append_nil] at X3
  refine own_tr (S' := T3.setTop (mkF m 29 #[.val (.ref a), .val (.ref xs), .val (.int 16), .val (.int 32), .unset] [.int 0])) st3 ?_
  refine ov T3 31 #[.val (.ref a), .val (.ref xs), .val (.int 16), .val (.int 32), .val (.int 0)] [] (fun t k => XS.istore X3.here hx rfl (hb hby d11_29) rfl (l' := #[.val (.ref a), .val (.ref xs), .val (.int 16), .val (.int 32), .val (.int 0)]) rfl k) ?_
  refine ov T3 32 #[.val (.ref a), .val (.ref xs), .val (.int 16), .val (.int 32), .val (.int 0)] [.ref a] (fun t k => XS.aloadN X3.here hx rfl (hb hby d11_31) rfl rfl k) ?_
  refine ov T3 34 #[.val (.ref a), .val (.ref xs), .val (.int 16), .val (.int 32), .val (.int 0)] [.int 0, .ref a] (fun t k => XS.iload X3.here hx rfl (hb hby d11_32) rfl k) ?_
  obtain ⟨T4, h4, X4, e4, W4, st4⟩ := putFN X3 hx hZ hown (wd73 hw) Via.refl e3 f0_F_a_coder f0_E_a (Or.inl (wd74 hw)) (wd48 hw) (ty := .byte) (v' := (.int 0)) (by decide) rfl rfl (g := (mkF m 34 #[.val (.ref a), .val (.ref xs), .val (.int 16), .val (.int 32), .val (.int 0)] [.int 0, .ref a])) rfl rfl (hb hby d11_34)
  have sz5 : h0.size ≤ h4.size := Nat.le_of_eq W4.size.symm
  have O6 : Old Z n0 h4 := O0.wr W4 (by omega : n0 ≤ a)
  have N4 := Fr.snoc X4 N0 (by omega : n0 ≤ a)
  have K7 : Keep h0 h4 [a] := K0.wr W4 (Or.inl (List.mem_of_getElem? (i := 0) rfl))
  have Fw4 : Fld Z h4 a "java/lang/AbstractStringBuilder" "coder" "B" (.int 0) := Fld.same W4 f0_F_a_coder
  refine ov T4 37 #[.val (.ref a), .val (.ref xs), .val (.int 16), .val (.int 32), .val (.int 0)] [] st4 ?_
  refine ov T4 38 #[.val (.ref a), .val (.ref xs), .val (.int 16), .val (.int 32), .val (.int 0)] [.ref a] (fun t k => XS.aloadN X4.here hx rfl (hb hby d11_37) rfl rfl k) ?_
  refine ov T4 40 #[.val (.ref a), .val (.ref xs), .val (.int 16), .val (.int 32), .val (.int 0)] [.int 0, .ref a] (fun t k => XS.iload X4.here hx rfl (hb hby d11_38) rfl k) ?_
  refine ov T4 43 #[.val (.ref a), .val (.ref xs), .val (.int 16), .val (.int 32), .val (.int 0)] [.ref a] (fun t k => XS.ifNo X4.here hx rfl (hb hby d11_40) rfl ((if0 _ _).trans (teq (by decide : (0 : Int32) = (0 : Int32))).2) k) ?_
  refine ov T4 44 #[.val (.ref a), .val (.ref xs), .val (.int 16), .val (.int 32), .val (.int 0)] [.int 32, .ref a] (fun t k => XS.iloadN X4.here hx rfl (hb hby d11_43) rfl k) ?_
  obtain ⟨T8, h8, k8, X8, e8, E8, A8, st8⟩ := newP (aty := .byte) X4 hx hZ (wd19 hw) e4 (g := (mkF m 44 #[.val (.ref a), .val (.ref xs), .val (.int 16), .val (.int 32), .val (.int 0)] [.int 32, .ref a])) rfl (hb hby d11_44) rfl (by decide : ¬ ((32 : Int32) < (0 : Int32))) (cap := 32) (by decide) (by decide) (by decide) (by decide)
  obtain ⟨b8, g8⟩ : ∃ z, z = h4.size := ⟨_, rfl⟩
  rw [← g8] at A8 st8
  have lt_b8 : h8.size > b8 := A8.lt
  have sz9 : h4.size ≤ h8.size := E8.1
  have O10 : Old Z n0 h8 := O6.ext E8
  have K11 : Keep h0 h8 [a] := K7.ext E8
  have V8 : Arv Z h8 b8 k8 .byte (32 : Int32) [.int 0, .int 0, .int 0, .int 0, .int 0, .int 0, .int 0, .int 0, .int 0, .int 0, .int 0, .int 0, .int 0, .int 0, .int 0, .int 0, .int 0, .int 0, .int 0, .int 0, .int 0, .int 0, .int 0, .int 0, .int 0, .int 0, .int 0, .int 0, .int 0, .int 0, .int 0, .int 0] (.int 0) := (Arv.new A8 (by decide)).pad (pad_rep [] (.int 0) 32)
  refine ov T8 46 #[.val (.ref a), .val (.ref xs), .val (.int 16), .val (.int 32), .val (.int 0)] [.ref b8, .ref a] st8 ?_
  refine ov T8 53 #[.val (.ref a), .val (.ref xs), .val (.int 16), .val (.int 32), .val (.int 0)] [.ref b8, .ref a] (fun t k => XS.goto X8.here hx rfl (pc0 := 46) (pc' := 53) rfl (hb hby d11_46) (by decide) (by decide) k) ?_
  have cx12 : Exa Z h8 a "java/lang/StringBuilder" := ((Exa.wr W4 f0_E_a).ext E8)
  have cx13 : Fld Z h8 a "java/lang/AbstractStringBuilder" "value" "[B" .null := ((Fld.other W4 f0_F_a_value (Or.inr (slot_ne (Or.inl (wd76 hw)) (Or.inl (wd74 hw)) (by decide) (t := (.array .byte)) (t' := .byte) (by decide) (by decide)))).ext E8)
  obtain ⟨T14, h14, X14, e14, W14, st14⟩ := putF X8 hx hZ hown (host := "") (Or.inl (wd75 hw)) Via.refl e8 cx13 cx12 (Or.inl (wd76 hw)) (wd48 hw) (ty := (.array .byte)) (by decide) rfl rfl (g := (mkF m 53 #[.val (.ref a), .val (.ref xs), .val (.int 16), .val (.int 32), .val (.int 0)] [.ref b8, .ref a])) rfl rfl (hb hby d11_53)
  have sz15 : h8.size ≤ h14.size := Nat.le_of_eq W14.size.symm
  have O16 : Old Z n0 h14 := O10.wr W14 (by omega : n0 ≤ a)
  have N14 := Fr.snoc X14 N4 (by omega : n0 ≤ a)
  have K17 : Keep h0 h14 [a] := K11.wr W14 (Or.inl (List.mem_of_getElem? (i := 0) rfl))
  have Fw14 : Fld Z h14 a "java/lang/AbstractStringBuilder" "value" "[B" (.ref b8) := Fld.same W14 cx13
  refine ov T14 56 #[.val (.ref a), .val (.ref xs), .val (.int 16), .val (.int 32), .val (.int 0)] [] st14 ?_
  refine ov T14 57 #[.val (.ref a), .val (.ref xs), .val (.int 16), .val (.int 32), .val (.int 0)] [.ref a] (fun t k => XS.aloadN X14.here hx rfl (hb hby d11_56) rfl rfl k) ?_
  refine ov T14 58 #[.val (.ref a), .val (.ref xs), .val (.int 16), .val (.int 32), .val (.int 0)] [.ref xs, .ref a] (fun t k => XS.aloadN X14.here hx rfl (hb hby d11_57) rfl rfl k) ?_
  have cx19 : Exa Z h14 a "java/lang/StringBuilder" := (Exa.wr W14 cx12)
  have cx20 : Fld Z h14 a "java/lang/AbstractStringBuilder" "coder" "B" (.int 0) := (Fld.other W14 (Fw4.ext E8) (Or.inr (slot_ne (Or.inl (wd74 hw)) (Or.inl (wd76 hw)) (by decide) (t := .byte) (t' := (.array .byte)) (by decide) (by decide))))
  have cx21 : Fld Z h14 a "java/lang/AbstractStringBuilder" "count" "I" (.int 0) := (Fld.other W14 ((Fld.other W4 f0_F_a_count (Or.inr (slot_ne (Or.inl (wd92 hw)) (Or.inl (wd74 hw)) (by decide) (t := .int) (t' := .byte) (by decide) (by decide)))).ext E8) (Or.inr (slot_ne (Or.inl (wd92 hw)) (Or.inl (wd76 hw)) (by decide) (t := .int) (t' := (.array .byte)) (by decide) (by decide))))
  have cx22 : Exa Z h14 xs "java/lang/String" := (Exa.wr W14 ((Exa.wr W4 f0_E_xs).ext E8))
  have cx23 : Fld Z h14 xs "java/lang/String" "coder" "B" (.int 0) := (Fld.other W14 ((Fld.other W4 f0_F_xs_coder (Or.inl (Ne.symm ne_a_xs))).ext E8) (Or.inl (Ne.symm ne_a_xs)))
  have cx24 : Fld Z h14 xs "java/lang/String" "value" "[B" (.ref tt) := (Fld.other W14 ((Fld.other W4 f0_F_xs_value (Or.inl (Ne.symm ne_a_xs))).ext E8) (Or.inl (Ne.symm ne_a_xs)))
  have cx25 : Arv Z h14 tt kt .byte (16 : Int32) (own_L0) (.int 0) := (((f0_A_tt.other W4 (Ne.symm ne_a_tt)).ext E8).other W14 (Ne.symm ne_a_tt))
  have ne_b8_a : b8 ≠ a := by first | exact (Exa.neArv cx12 V8 (wd48 hw)).symm | exact Nat.ne_of_lt (by omega) | exact Nat.ne_of_gt (by omega)
  have cx26 : Arv Z h14 b8 k8 .byte (32 : Int32) [.int 0, .int 0, .int 0, .int 0, .int 0, .int 0, .int 0, .int 0, .int 0, .int 0, .int 0, .int 0, .int 0, .int 0, .int 0, .int 0, .int 0, .int 0, .int 0, .int 0, .int 0, .int 0, .int 0, .int 0, .int 0, .int 0, .int 0, .int 0, .int 0, .int 0, .int 0, .int 0] (.int 0) := (V8.other W14 ne_b8_a)
  obtain ⟨cq18, kq18, q18a, q18b, q18c⟩ := isOf hZ e14 cx19
  obtain ⟨_, _, ⟨T18, Lp18, kp18, np18⟩, -, X18, ⟨Lc18, hQ18, l18, y18, z18⟩, st18⟩ := X14.virtualBack hx (y := mt7) (z := mt9) hown (mvT hZ (wd77 hw)) (mvT hZ (wd78 hw)) (own_nface (args := #[]) (mvT hZ (wd96 hw)) rfl) (mvT hZ (wd80 hw)) (mvT hZ (wd81 hw)) (by decide) (backOf (W := 0) (own_br l Z a0 hw [] a xs tt kt (16 : Int32) (own_L0) zc b8 k8 [.int 0, .int 0, .int 0, .int 0, .int 0, .int 0, .int 0, .int 0, .int 0, .int 0, .int 0, .int 0, .int 0, .int 0, .int 0, .int 0, .int 0, .int 0, .int 0, .int 0, .int 0, .int 0, .int 0, .int 0, .int 0, .int 0, .int 0, .int 0, .int 0, .int 0, .int 0, .int 0] (0 : Int32) h14 n0 O16 zfC cx19 Fw14 cx20 cx21 cx22 cx23 cx24 cx25 cx26 (by first | assumption | exact Ne.symm (by assumption) | omega | exact Nat.ne_of_lt (by omega) | exact Nat.ne_of_gt (by omega) | decide | exact Nat.le_of_ble_eq_true rfl) (by first | assumption | exact Ne.symm (by assumption) | omega | exact Nat.ne_of_lt (by omega) | exact Nat.ne_of_gt (by omega) | decide | exact Nat.le_of_ble_eq_true rfl) (by first | assumption | exact Ne.symm (by assumption) | omega | exact Nat.ne_of_lt (by omega) | exact Nat.ne_of_gt (by omega) | decide | exact Nat.le_of_ble_eq_true rfl) (by first | assumption | exact Ne.symm (by assumption) | omega | exact Nat.ne_of_lt (by omega) | exact Nat.ne_of_gt (by omega) | decide | exact Nat.le_of_ble_eq_true rfl) (by first | assumption | exact Ne.symm (by assumption) | omega | exact Nat.ne_of_lt (by omega) | exact Nat.ne_of_gt (by omega) | decide | exact Nat.le_of_ble_eq_true rfl) (by first | assumption | exact Ne.symm (by assumption) | omega | exact Nat.ne_of_lt (by omega) | exact Nat.ne_of_gt (by omega) | decide | exact Nat.le_of_ble_eq_true rfl) (by first | assumption | exact Ne.symm (by assumption) | omega | exact Nat.ne_of_lt (by omega) | exact Nat.ne_of_gt (by omega) | decide | exact Nat.le_of_ble_eq_true rfl) (by first | assumption | exact Ne.symm (by assumption) | omega | exact Nat.ne_of_lt (by omega) | exact Nat.ne_of_gt (by omega) | decide | exact Nat.le_of_ble_eq_true rfl) (by first | assumption | exact Ne.symm (by assumption) | omega | exact Nat.ne_of_lt (by omega) | exact Nat.ne_of_gt (by omega) | decide | exact Nat.le_of_ble_eq_true rfl)) hZ (wd82 hw) (wd49 hw) (by decide) (by decide)) q18a q18c (g := (mkF m 58 #[.val (.ref a), .val (.ref xs), .val (.int 16), .val (.int 32), .val (.int 0)] [.ref xs, .ref a])) rfl (by rw [hml]; rfl) (Steps.refl _) (argsL := [.ref xs]) (rest := []) (lenOf pd__Ljava_lang_String__Ljava_lang_AbstractStringBuilder__5004 rfl) rfl (by show 2 * 0 + _ ≤ _; exact Nat.le_of_eq rfl) (hb hby d11_58) (fun _ _ => ⟨rfl, e14, (by decide : 1 + 0 ≤ _), (by decide : 32 + 0 ≤ _)⟩)
  dsimp only [Pt.U, Pt.locs, Pt.cells, Pt.slots] at X18 l18 y18 z18 st18 hQ18
  subst Lp18 kp18 np18
  obtain ⟨rfl, N18q, K18q, f18_0, f18_1, f18_2, f18_3⟩ := hQ18
  have N18 := Fr.app N14 N18q
  have sz27 : h14.size ≤ T18.heap.size := K18q.1
  have O28 : Old Z n0 T18.heap := O16.keep K18q (allS (by omega : n0 ≤ a) (allS (by omega : n0 ≤ b8) all0))
  have K29 : Keep h0 T18.heap [a] := K17.trans K18q (allS (P := fun x => x ∈ [a] ∨ h0.size ≤ x) (Or.inl (List.mem_of_getElem? (i := 0) rfl)) (allS (P := fun x => x ∈ [a] ∨ h0.size ≤ x) (Or.inr (by omega)) all0))
  have f18_2c : Fld Z T18.heap a "java/lang/AbstractStringBuilder" "count" "I" (.int 16) := f18_2
  have f18_3c : Arv Z T18.heap b8 k8 .byte (32 : Int32) (own_L1) (.int 0) := f18_3
  refine own_tr (S' := T18.setTop (mkF m 61 #[.val (.ref a), .val (.ref xs), .val (.int 16), .val (.int 32), .val (.int 0)] [.ref a])) st18 ?_
  refine ov T18 62 #[.val (.ref a), .val (.ref xs), .val (.int 16), .val (.int 32), .val (.int 0)] [] (fun t k => XS.pop X18.here hx rfl (hb hby d11_61) rfl rfl k) ?_
  refine own_ret (Q := Q_own_asbi Z a xs tt kt zc h0 n0) (C := rm6_1_32_109.cells) (N := rm6_1_32_109.slots) X18 (v := none) (fun _ => rfl) Bd.notSynchronized ?_ (by decide) (by decide) (fun fs hr => X18.returnOut hx Bd.returns (hb hby d11_62) hr)
  show Q_own_asbi Z a xs tt kt zc h0 n0 _ T18.heap _
  exact ⟨b8, k8, rfl, N18, K29, f18_0, f18_1, f18_2c, f18_3c, (by omega)⟩
def Q_own_sbi (Z : State) (a : Addr) (xs : Addr) (tt : Addr) (kt : ClassId) (zc : Int32) (h0 : Heap) (n0 : Nat) (v : Option Value) (h : Heap) (L : List Loc) : Prop := ∃ dd : Addr, ∃ kd : ClassId, v = none ∧ Fr n0 L ∧ Keep h0 h [a] ∧ Fld Z h a "java/lang/AbstractStringBuilder" "value" "[B" (.ref dd) ∧ Fld Z h a "java/lang/AbstractStringBuilder" "coder" "B" (.int 0) ∧ Fld Z h a "java/lang/AbstractStringBuilder" "count" "I" (.int 16) ∧ Arv Z h dd kd .byte (32 : Int32) (own_L1) (.int 0) ∧ (h0.size ≤ dd)
set_option maxRecDepth 65536 in
set_option maxHeartbeats 40000000 in
theorem own_sbi (l : Launch) (Z : State) (a0 : Array Value) (hw : ∀ d ∈ tables_1, d.before a0 Z = true) (ws : List Jvm.Cond) (a : Addr) (xs : Addr) (tt : Addr) (kt : ClassId) (zc : Int32) (h0 : Heap) (n0 : Nat) (O0 : Old Z n0 h0) (zfC : Sta Z Z.heap "java/lang/String" "COMPACT_STRINGS" "Z" (.int zc)) (f0_E_a : Exa Z h0 a "java/lang/StringBuilder") (f0_F_a_value : Fld Z h0 a "java/lang/AbstractStringBuilder" "value" "[B" .null) (f0_F_a_coder : Fld Z h0 a "java/lang/AbstractStringBuilder" "coder" "B" (.int 0)) (f0_F_a_count : Fld Z h0 a "java/lang/AbstractStringBuilder" "count" "I" (.int 0)) (f0_E_xs : Exa Z h0 xs "java/lang/String") (f0_F_xs_coder : Fld Z h0 xs "java/lang/String" "coder" "B" (.int 0)) (f0_F_xs_value : Fld Z h0 xs "java/lang/String" "value" "[B" (.ref tt)) (f0_A_tt : Arv Z h0 tt kt .byte (16 : Int32) (own_L0) (.int 0)) (hzc : ¬ (zc = (0 : Int32))) (g_a : n0 ≤ a) :
    MetFree l mt26 (head1 (Jvm.Cond.code mt26 jdk_67_method_3_code 2 none :: ws) rm7_1_32_125) (fun aq U => aq = #[.ref a, .ref xs] ∧ Z.Warmed39 U.vm ∧ U.heap = h0) (fun _ _ _ _ _ => True) (fun _ U o U' => ∃ v L, o = .returned v ∧ Q_own_sbi Z a xs tt kt zc h0 n0 v U'.heap L ∧ FrameEnd U o U' L rm7_1_32_125.cells rm7_1_32_125.slots) := by
  refine MetFree.of_bodySF (plainFor_of_name pn_java_lang_StringBuilder) hisR ?_
  intro p e s m args below meth c s₁ Bd hml0 hP hK
  obtain ⟨rfl, hZ, hh⟩ := hP
  have hx := Bd.exec
  have hby := Bd.bytes
  have hml : c.maxLocals = 2 := hml0
  have hown : s.vm.findClass "java/lang/StringBuilder" = some m.cls := findClass_of_methodNamed Bd.named
  have hnm := (name_of_methodNamed Bd.named Bd.method).1
  have X0 : Stand p l e rm7_1_32_125 s m #[.ref a, .ref xs] below meth c s₁ [] 0 0 := Stand.of_body Bd
  have e0 : s₁.heap = h0 := by rw [← hh, Bd.state]; rfl
  have N0 := Fr.nil n0
  have zO := O0.1
  have zO2 := O0.2.1
  have fl_E_a : h0.size > a := f0_E_a.lt
  have fl_F_a_value : h0.size > a := f0_F_a_value.lt
  have fl_F_a_coder : h0.size > a := f0_F_a_coder.lt
  have fl_F_a_count : h0.size > a := f0_F_a_count.lt
  have fl_E_xs : h0.size > xs := f0_E_xs.lt
  have fl_F_xs_coder : h0.size > xs := f0_F_xs_coder.lt
  have fl_F_xs_value : h0.size > xs := f0_F_xs_value.lt
  have fl_A_tt : h0.size > tt := f0_A_tt.lt
  refine own_open (own_via (S' := s₁.setTop (mkF m 0 #[.val (.ref a), .val (.ref xs)] [])) (fun t k => castTop (ef_own_sbi m a xs) k) ?_)
  have K0 : Keep h0 h0 [a] := Keep.refl _ _
  have ne_a_xs : a ≠ xs := Exa.ne f0_E_a f0_E_xs (by decide)
  have ne_a_tt : a ≠ tt := Exa.neArv f0_E_a f0_A_tt (wd48 hw)
  have ne_xs_tt : xs ≠ tt := Exa.neArv f0_E_xs f0_A_tt (wd5 hw)
  refine ov s₁ 1 #[.val (.ref a), .val (.ref xs)] [.ref a] (fun t k => XS.aloadN X0.here hx rfl (hb hby d10_0) rfl rfl k) ?_
  refine ov s₁ 2 #[.val (.ref a), .val (.ref xs)] [.ref xs, .ref a] (fun t k => XS.aloadN X0.here hx rfl (hb hby d10_1) rfl rfl k) ?_
  obtain ⟨_, _, ⟨T1, Lp1, kp1, np1⟩, -, X1, ⟨Lc1, hQ1, l1, y1, z1⟩, st1⟩ := X0.specialBack hx (y := mt25) rfl hown (mvT hZ (wd54 hw)) (mvT hZ (wd55 hw)) (mvT hZ (wd59 hw)) (by decide) (backOf (W := 0) (own_asbi l Z a0 hw [] a xs tt kt zc h0 n0 O0 zfC f0_E_a f0_F_a_value f0_F_a_coder f0_F_a_count f0_E_xs f0_F_xs_coder f0_F_xs_value f0_A_tt (by first | assumption | exact Ne.symm (by assumption) | omega | exact Nat.ne_of_lt (by omega) | exact Nat.ne_of_gt (by omega) | decide | exact Nat.le_of_ble_eq_true rfl) (by first | assumption | exact Ne.symm (by assumption) | omega | exact Nat.ne_of_lt (by omega) | exact Nat.ne_of_gt (by omega) | decide | exact Nat.le_of_ble_eq_true rfl)) hZ (wd59 hw) (wd58 hw) (by decide) (by decide)) (g := (mkF m 2 #[.val (.ref a), .val (.ref xs)] [.ref xs, .ref a])) rfl (by rw [hml]; rfl) (Steps.refl _) (a := a) (argsL := [.ref xs]) (rest := []) (lenOf pd__Ljava_lang_String__V_1863 rfl) rfl (by show 2 * 0 + _ ≤ _; exact Nat.le_of_eq rfl) (hb hby d10_2) (fun _ _ => ⟨rfl, e0, (by decide : 0 + 1 ≤ _), (by decide : 0 + 32 ≤ _)⟩)
  dsimp only [Pt.U, Pt.locs, Pt.cells, Pt.slots] at X1 l1 y1 z1 st1 hQ1
  subst Lp1 kp1 np1
  obtain ⟨dd1, kd1, rfl, N1q, K1q, f1_0, f1_1, f1_2, f1_3, pp1_0⟩ := hQ1
  have N1 := Fr.app N0 N1q
  have sz2 : h0.size ≤ T1.heap.size := K1q.1
  have O3 : Old Z n0 T1.heap := O0.keep K1q (allS (by omega : n0 ≤ a) all0)
  have K4 : Keep h0 T1.heap [a] := K0.trans K1q (allS (P := fun x => x ∈ [a] ∨ h0.size ≤ x) (Or.inl (List.mem_of_getElem? (i := 0) rfl)) all0)
  have lt5_dd1 : T1.heap.size > dd1 := f1_3.lt
  refine own_tr (S' := T1.setTop (mkF m 5 #[.val (.ref a), .val (.ref xs)] [])) st1 ?_
  refine own_ret (Q := Q_own_sbi Z a xs tt kt zc h0 n0) (C := rm7_1_32_125.cells) (N := rm7_1_32_125.slots) X1 (v := none) (fun _ => rfl) Bd.notSynchronized ?_ (by decide) (by decide) (fun fs hr => X1.returnOut hx Bd.returns (hb hby d10_5) hr)
  show Q_own_sbi Z a xs tt kt zc h0 n0 _ T1.heap _
  exact ⟨dd1, kd1, rfl, N1, K4, f1_0, f1_1, f1_2, f1_3, (by omega)⟩
def Q_own_hti (Z : State) (a : Addr) (zc : Int32) (h0 : Heap) (n0 : Nat) (v : Option Value) (vm : Vm) (h : Heap) (L : List Loc) : Prop := ∃ sb : Addr, ∃ dd : Addr, ∃ kd : ClassId, v = none ∧ Fr n0 L ∧ Keep h0 h [a] ∧ Fld Z h a "com/example/regent/regent/Html" "out" "Ljava/lang/StringBuilder;" (.ref sb) ∧ Exa Z h sb "java/lang/StringBuilder" ∧ Fld Z h sb "java/lang/AbstractStringBuilder" "value" "[B" (.ref dd) ∧ Fld Z h sb "java/lang/AbstractStringBuilder" "coder" "B" (.int 0) ∧ Fld Z h sb "java/lang/AbstractStringBuilder" "count" "I" (.int 16) ∧ Arv Z h dd kd .byte (32 : Int32) (own_L1) (.int 0) ∧ (h0.size ≤ sb) ∧ (h0.size ≤ dd) ∧ Safe Z own_EL vm h dd
set_option maxRecDepth 65536 in
set_option maxHeartbeats 40000000 in
theorem own_hti (l : Launch) (Z : State) (a0 : Array Value) (hw : ∀ d ∈ tables_1, d.before a0 Z = true) (ws : List Jvm.Cond) (a : Addr) (zc : Int32) (h0 : Heap) (n0 : Nat) (O0 : Old Z n0 h0) (zfC : Sta Z Z.heap "java/lang/String" "COMPACT_STRINGS" "Z" (.int zc)) (f0_E_a : Exa Z h0 a "com/example/regent/regent/Html") (f0_F_a_out : Fld Z h0 a "com/example/regent/regent/Html" "out" "Ljava/lang/StringBuilder;" .null) (hzc : ¬ (zc = (0 : Int32))) (g_a : n0 ≤ a) :
    MetFree l mt27 (head1 (Jvm.Cond.code mt27 prog_9_method_1_code 1 none :: ws) rm8_4_104_140) (fun aq U => aq = #[.ref a] ∧ Z.Warmed39 U.vm ∧ U.heap = h0 ∧ CHv Z own_EL U.vm h0 ∧ ∀ x ∈ ([] : List Addr), Safe Z own_EL U.vm h0 x) (fun _ _ _ _ _ => True) (fun _ U o U' => ∃ v L, o = .returned v ∧ Q_own_hti Z a zc h0 n0 v U'.vm U'.heap L ∧ CHr Z own_EL U.vm U.heap U'.vm U'.heap ∧ ReturnedEndW U o U' L rm8_4_104_140.cells rm8_4_104_140.slots) := by
  refine MetFree.of_bodySF (plainFor_of_name pn_com_example_regent_regent_Html) hisR ?_
  intro p e s m args below meth c s₁ Bd hml0 hP hK
  obtain ⟨rfl, hZ, hh, hCH, hSL⟩ := hP
  have hx := Bd.exec
  have hby := Bd.bytes
  have hml : c.maxLocals = 1 := hml0
  have hown : s.vm.findClass "com/example/regent/regent/Html" = some m.cls := findClass_of_methodNamed Bd.named
  have hnm := (name_of_methodNamed Bd.named Bd.method).1
  have X0 : Stand p l e rm8_4_104_140 (s.setVm s.vm) m #[.ref a] below meth c s₁ [] 0 0 := Stand.of_body Bd
  have e0 : s₁.heap = h0 := by rw [← hh, Bd.state]; rfl
  have N0 := Fr.nil n0
  have zO := O0.1
  have zO2 := O0.2.1
  have fl_E_a : h0.size > a := f0_E_a.lt
  have fl_F_a_out : h0.size > a := f0_F_a_out.lt
  refine own_open (own_via (S' := s₁.setTop (mkF m 0 #[.val (.ref a)] [])) (fun t k => castTop (ef_own_hti m a) k) ?_)
  have hEL := own_EW hw
  have hS0 : s.Since s.vm h0.size := (State.WarmedH.refl s).since _
  have R0 : CHr Z own_EL s.vm h0 s.vm h0 := CHr.refl hCH
  have K0 : Keep h0 h0 [a] := Keep.refl _ _
  refine ov s₁ 1 #[.val (.ref a)] [.ref a] (fun t k => XS.aloadN X0.here hx rfl (hb hby d9_0) rfl rfl k) ?_
  obtain ⟨T1, X1, e1, st1⟩ := initO X0 hx hZ hown (wd46 hw) (wd16 hw) (wd17 hw) e0 (g := (mkF m 1 #[.val (.ref a)] [.ref a])) rfl (by rw [hml]; rfl) rfl (hb hby d9_1) (by decide) (W := 0) (by show 2 * 0 + _ ≤ _; exact Nat.le_of_eq rfl) (by decide)
  refine ov T1 4 #[.val (.ref a)] [] st1 ?_
  refine ov T1 5 #[.val (.ref a)] [.ref a] (fun t k => XS.aloadN X1.here hx rfl (hb hby d9_4) rfl rfl k) ?_
  obtain ⟨T2, h2, X2, e2, E2, A2, D2, -, st2⟩ := newO X1 hx hZ hown (wd47 hw) (wd48 hw) (wd49 hw) e1 (g := (mkF m 5 #[.val (.ref a)] [.ref a])) rfl (hb hby d9_5) (by decide) (by decide)
  obtain ⟨b2, g2⟩ : ∃ z, z = h0.size := ⟨_, rfl⟩
  rw [← g2] at A2 D2 st2
  have lt_b2 : h2.size > b2 := A2.lt
  have sz3 : h0.size ≤ h2.size := E2.1
  have O4 : Old Z n0 h2 := O0.ext E2
  have R5 : CHr Z own_EL s.vm h0 s.vm h2 := R0.trans (CHr.ext E2 R0.1)
  have K6 : Keep h0 h2 [a] := K0.ext E2
  have F2_coder : Fld Z h2 b2 "java/lang/AbstractStringBuilder" "coder" "B" (.int 0) := D2 (Or.inl (wd74 hw)) (ty := .byte) (by decide)
  have F2_value : Fld Z h2 b2 "java/lang/AbstractStringBuilder" "value" "[B" .null := D2 (Or.inl (wd76 hw)) (ty := (.array .byte)) (by decide)
  have F2_count : Fld Z h2 b2 "java/lang/AbstractStringBuilder" "count" "I" (.int 0) := D2 (Or.inl (wd92 hw)) (ty := .int) (by decide)
  refine ov T2 8 #[.val (.ref a)] [.ref b2, .ref a] st2 ?_
  refine ov T2 9 #[.val (.ref a)] [.ref b2, .ref b2, .ref a] (fun t k => XS.dup X2.here hx rfl (hb hby d9_8) rfl rfl k) ?_
  obtain ⟨b7, T7, h7, kk7, t7, kb7, X7, e7, E7, hS7, hk7, hZ, hown, f7_0, f7_1, f7_2, f7_3, lta7, ltb7, R7q, hLit7, hsn7, st7⟩ := ldcCH X2 hx hZ hown (wd50 hw) (own_wS hw) e2 hS0 (by omega) hEL (List.mem_of_getElem? (i := 0) rfl) R5.1 (vs := [.int 60, .int 33, .int 68, .int 79, .int 67, .int 84, .int 89, .int 80, .int 69, .int 32, .int 104, .int 116, .int 109, .int 108, .int 62, .int 10]) (z := (16 : Int32)) ⟨by decide, rfl⟩ (by decide) rfl (g := (mkF m 9 #[.val (.ref a)] [.ref b2, .ref b2, .ref a])) rfl (hb hby d9_9) (n := 64) (by decide) (by decide) (by decide) (by decide)
  have sz8 : h2.size ≤ h7.size := E7.1
  have O9 : Old Z n0 h7 := O4.ext E7
  have R10 : CHr Z own_EL s.vm h0 T7.vm h7 := R5.trans R7q
  have K11 : Keep h0 h7 [a] := K6.ext E7
  have lt_b7 : h7.size > b7 := lta7
  have lt_t7 : h7.size > t7 := ltb7
  have cx12 : Exa Z h7 a "com/example/regent/regent/Html" := ((f0_E_a.ext E2).ext E7)
  have ne_a_b7 : a ≠ b7 := (hsn7 _ (Safe.exa hZ.alike cx12 (by decide) (by decide))).1
  have ne_a_t7 : a ≠ t7 := (hsn7 _ (Safe.exa hZ.alike cx12 (by decide) (by decide))).2
  have cx13 : Exa Z h7 b2 "java/lang/StringBuilder" := (A2.ext E7)
  have ne_b2_b7 : b2 ≠ b7 := (hsn7 _ (Safe.exa hZ.alike cx13 (by decide) (by decide))).1
  have ne_b2_t7 : b2 ≠ t7 := (hsn7 _ (Safe.exa hZ.alike cx13 (by decide) (by decide))).2
  refine ov T7 11 #[.val (.ref a)] [.ref b7, .ref b2, .ref b2, .ref a] st7 ?_
  have cx15 : Fld Z h7 b2 "java/lang/AbstractStringBuilder" "value" "[B" .null := (F2_value.ext E7)
  have cx16 : Fld Z h7 b2 "java/lang/AbstractStringBuilder" "coder" "B" (.int 0) := (F2_coder.ext E7)
  have cx17 : Fld Z h7 b2 "java/lang/AbstractStringBuilder" "count" "I" (.int 0) := (F2_count.ext E7)
  obtain ⟨_, _, ⟨T14, Lp14, kp14, np14⟩, -, X14, ⟨Lc14, hQ14, l14, y14, z14⟩, st14⟩ := X7.specialBack hx (y := mt26) rfl hown (mvT hZ (wd51 hw)) (mvT hZ (wd52 hw)) (mvT hZ (wd53 hw)) (by decide) (backOf (W := 2) (own_sbi l Z a0 hw [] b2 b7 t7 kb7 zc h7 n0 O9 zfC cx13 cx15 cx16 cx17 f7_0 f7_1 f7_2 f7_3 (by first | assumption | exact Ne.symm (by assumption) | omega | exact Nat.ne_of_lt (by omega) | exact Nat.ne_of_gt (by omega) | decide | exact Nat.le_of_ble_eq_true rfl) (by first | assumption | exact Ne.symm (by assumption) | omega | exact Nat.ne_of_lt (by omega) | exact Nat.ne_of_gt (by omega) | decide | exact Nat.le_of_ble_eq_true rfl)) hZ (wd53 hw) (wd49 hw) (by decide) (by decide)) (g := (mkF m 11 #[.val (.ref a)] [.ref b7, .ref b2, .ref b2, .ref a])) rfl (by rw [hml]; rfl) (Steps.refl _) (a := b2) (argsL := [.ref b7]) (rest := [.ref b2, .ref a]) (lenOf pd__Ljava_lang_String__V_1863 rfl) rfl (by show 2 * 0 + _ ≤ _; exact Nat.le_of_eq rfl) (hb hby d9_11) (fun _ _ => ⟨rfl, e7, (by decide : 3 + 1 ≤ _), (by decide : 72 + 32 ≤ _)⟩)
  dsimp only [Pt.U, Pt.locs, Pt.cells, Pt.slots] at X14 l14 y14 z14 st14 hQ14
  subst Lp14 kp14 np14
  obtain ⟨dd14, kd14, rfl, N14q, K14q, f14_0, f14_1, f14_2, f14_3, pp14_0⟩ := hQ14
  have N14 := Fr.app N0 N14q
  have sf14 : ∀ x ∈ ([b2] : List Addr), Safe Z own_EL T7.vm h7 x := (sfS (Safe.exa hZ.alike cx13 (by decide) (by decide)) sf0)
  have sz18 : h7.size ≤ T14.heap.size := K14q.1
  have R19 : CHr Z own_EL s.vm h0 T7.vm T14.heap := R10.trans (CHr.keep K14q sf14 R10.1)
  have O20 : Old Z n0 T14.heap := O9.keep K14q (allS (by omega : n0 ≤ b2) all0)
  have K21 : Keep h0 T14.heap [a] := K11.trans K14q (allS (P := fun x => x ∈ [a] ∨ h0.size ≤ x) (Or.inr (by omega)) all0)
  have lt22_dd14 : T14.heap.size > dd14 := f14_3.lt
  have SF_dd14 : Safe Z own_EL T7.vm T14.heap dd14 := Safe.keep K14q sf14 R10.1 (Safe.new pp14_0)
  refine own_tr (S' := T14.setTop (mkF m 14 #[.val (.ref a)] [.ref b2, .ref a])) st14 ?_
  have cx23 : Exa Z T14.heap a "com/example/regent/regent/Html" := (cx12.keep K14q)
  have cx24 : Exa Z T14.heap b2 "java/lang/StringBuilder" := (cx13.keep K14q)
  have ne_a_b2 : a ≠ b2 := by first | exact Exa.ne cx23 cx24 (by decide) | exact Nat.ne_of_lt (by omega) | exact Nat.ne_of_gt (by omega)
  have cx25 : Fld Z T14.heap a "com/example/regent/regent/Html" "out" "Ljava/lang/StringBuilder;" .null := (((f0_F_a_out.ext E2).ext E7).keep K14q (ninS ne_a_b2 nin0))
  obtain ⟨T26, h26, X26, e26, W26, st26⟩ := putF X14 hx hZ hown (host := "") (Or.inl (wd118 hw)) Via.refl rfl cx25 cx23 (Or.inr ⟨(wd119 hw), rfl, hnm⟩) (wd41 hw) (ty := (.object "java/lang/StringBuilder")) (by decide) rfl rfl (g := (mkF m 14 #[.val (.ref a)] [.ref b2, .ref a])) rfl rfl (hb hby d9_14)
  have sf26 : Safe Z own_EL T7.vm T14.heap a := (Safe.exa hZ.alike cx23 (by decide) (by decide))
  have sz27 : T14.heap.size ≤ h26.size := Nat.le_of_eq W26.size.symm
  have R28 : CHr Z own_EL s.vm h0 T7.vm h26 := R19.trans (CHr.wr W26 sf26 R19.1)
  have O29 : Old Z n0 h26 := O20.wr W26 (by omega : n0 ≤ a)
  have N26 := Fr.snoc X26 N14 (by omega : n0 ≤ a)
  have K30 : Keep h0 h26 [a] := K21.wr W26 (Or.inl (List.mem_of_getElem? (i := 0) rfl))
  have Fw26 : Fld Z h26 a "com/example/regent/regent/Html" "out" "Ljava/lang/StringBuilder;" (.ref b2) := Fld.same W26 cx25
  refine ov T26 17 #[.val (.ref a)] [] st26 ?_
  have cx31 : Exa Z h26 b2 "java/lang/StringBuilder" := (Exa.wr W26 cx24)
  have cx32 : Fld Z h26 b2 "java/lang/AbstractStringBuilder" "value" "[B" (.ref dd14) := (Fld.other W26 f14_0 (Or.inl (Ne.symm ne_a_b2)))
  have cx33 : Fld Z h26 b2 "java/lang/AbstractStringBuilder" "coder" "B" (.int 0) := (Fld.other W26 f14_1 (Or.inl (Ne.symm ne_a_b2)))
  have cx34 : Fld Z h26 b2 "java/lang/AbstractStringBuilder" "count" "I" (.int 16) := (Fld.other W26 f14_2 (Or.inl (Ne.symm ne_a_b2)))
  have ne_dd14_a : dd14 ≠ a := by first | exact (Exa.neArv cx23 f14_3 (wd41 hw)).symm | exact Nat.ne_of_lt (by omega) | exact Nat.ne_of_gt (by omega)
  have cx35 : Arv Z h26 dd14 kd14 .byte (32 : Int32) (own_L1) (.int 0) := (f14_3.other W26 ne_dd14_a)
  have cx36 : Safe Z own_EL T7.vm h26 dd14 := (Safe.wr W26 sf26 R19.1 SF_dd14)
  have RTR28 : CHr Z own_EL s.vm h0 T26.vm h26 := R28.trans (CHv.at X26 hZ hEL R28.1)
  have RXR28 : CHr Z own_EL s.vm s.heap T26.vm T26.heap := by rw [hh, e26]; exact RTR28
  refine own_retW (Q := Q_own_hti Z a zc h0 n0) (C := rm8_4_104_140.cells) (N := rm8_4_104_140.slots) X26 hS7 (by rw [e26]; omega) (v := none) (fun _ => rfl) Bd.notSynchronized ?_ RXR28 (by decide) (by decide) (fun fs hr => X26.returnOut hx Bd.returns (hb hby d9_17) hr)
  show Q_own_hti Z a zc h0 n0 _ T26.vm T26.heap _
  rw [e26]
  exact ⟨b2, dd14, kd14, rfl, N26, K30, Fw26, cx31, cx32, cx33, cx34, cx35, (by omega), (by omega), (CHr.safe (CHv.at X26 hZ hEL R28.1) (own_ltA (by omega)) cx36)⟩
def Q_own_cl (Z : State) (a : Addr) (xs : Addr) (tt : Addr) (kt : ClassId) (ki : Int32) (ys : List Value) (zc : Int32) (sb : Addr) (dd : Addr) (kd : ClassId) (h0 : Heap) (n0 : Nat) (v : Option Value) (vm : Vm) (h : Heap) (L : List Loc) : Prop := v = some (.ref a) ∧ Fr n0 L ∧ Keep h0 h [sb, dd] ∧ Fld Z h sb "java/lang/AbstractStringBuilder" "value" "[B" (.ref dd) ∧ Fld Z h sb "java/lang/AbstractStringBuilder" "coder" "B" (.int 0) ∧ Fld Z h sb "java/lang/AbstractStringBuilder" "count" "I" (.int (((18 : Int32) + ki) + (1 : Int32))) ∧ Arv Z h dd kd .byte (32 : Int32) ((own_cp (own_L2) ys (18 : Int32) (0 : Int32) ki).set ((18 : Int32) + ki).toNatClampNeg (.int 62)) (.int 0)
set_option maxRecDepth 65536 in
set_option maxHeartbeats 40000000 in
theorem own_cl (l : Launch) (Z : State) (a0 : Array Value) (hw : ∀ d ∈ tables_1, d.before a0 Z = true) (ws : List Jvm.Cond) (a : Addr) (xs : Addr) (tt : Addr) (kt : ClassId) (ki : Int32) (ys : List Value) (zc : Int32) (sb : Addr) (dd : Addr) (kd : ClassId) (h0 : Heap) (n0 : Nat) (O0 : Old Z n0 h0) (zfC : Sta Z Z.heap "java/lang/String" "COMPACT_STRINGS" "Z" (.int zc)) (f0_F_a_out : Fld Z h0 a "com/example/regent/regent/Html" "out" "Ljava/lang/StringBuilder;" (.ref sb)) (f0_E_sb : Exa Z h0 sb "java/lang/StringBuilder") (f0_F_sb_value : Fld Z h0 sb "java/lang/AbstractStringBuilder" "value" "[B" (.ref dd)) (f0_F_sb_coder : Fld Z h0 sb "java/lang/AbstractStringBuilder" "coder" "B" (.int 0)) (f0_F_sb_count : Fld Z h0 sb "java/lang/AbstractStringBuilder" "count" "I" (.int 16)) (f0_A_dd : Arv Z h0 dd kd .byte (32 : Int32) (own_L1) (.int 0)) (f0_E_xs : Exa Z h0 xs "java/lang/String") (f0_F_xs_coder : Fld Z h0 xs "java/lang/String" "coder" "B" (.int 0)) (f0_F_xs_value : Fld Z h0 xs "java/lang/String" "value" "[B" (.ref tt)) (f0_A_tt : Arv Z h0 tt kt .byte ki ys (.int 0)) (hzc : ¬ (zc = (0 : Int32))) (hk4 : ki = (0 : Int32) ∨ ki = (1 : Int32) ∨ ki = (2 : Int32) ∨ ki = (3 : Int32)) (g_s : n0 ≤ sb) (g_d : n0 ≤ dd) (ntd : tt ≠ dd) :
    MetFree l mt28 (head1 (Jvm.Cond.code mt28 prog_9_method_3_code 2 (some (.object "com/example/regent/regent/Html")) :: ws) rm5_2_12_96) (fun aq U => aq = #[.ref a, .ref xs] ∧ Z.Warmed39 U.vm ∧ U.heap = h0 ∧ CHv Z own_EL U.vm h0 ∧ ∀ x ∈ ([dd] : List Addr), Safe Z own_EL U.vm h0 x) (fun _ _ _ _ _ => True) (fun _ U o U' => ∃ v L, o = .returned v ∧ Q_own_cl Z a xs tt kt ki ys zc sb dd kd h0 n0 v U'.vm U'.heap L ∧ CHr Z own_EL U.vm U.heap U'.vm U'.heap ∧ ReturnedEndW U o U' L rm5_2_12_96.cells rm5_2_12_96.slots) := by
  refine MetFree.of_bodySF (plainFor_of_name pn_com_example_regent_regent_Html) hisR ?_
  intro p e s m args below meth c s₁ Bd hml0 hP hK
  obtain ⟨rfl, hZ, hh, hCH, hSL⟩ := hP
  have hx := Bd.exec
  have hby := Bd.bytes
  have hml : c.maxLocals = 2 := hml0
  have hown : s.vm.findClass "com/example/regent/regent/Html" = some m.cls := findClass_of_methodNamed Bd.named
  have hnm := (name_of_methodNamed Bd.named Bd.method).1
  have X0 : Stand p l e rm5_2_12_96 (s.setVm s.vm) m #[.ref a, .ref xs] below meth c s₁ [] 0 0 := Stand.of_body Bd
  have e0 : s₁.heap = h0 := by rw [← hh, Bd.state]; rfl
  have N0 := Fr.nil n0
  have zO := O0.1
  have zO2 := O0.2.1
  have fl_F_a_out : h0.size > a := f0_F_a_out.lt
  have fl_E_sb : h0.size > sb := f0_E_sb.lt
  have fl_F_sb_value : h0.size > sb := f0_F_sb_value.lt
  have fl_F_sb_coder : h0.size > sb := f0_F_sb_coder.lt
  have fl_F_sb_count : h0.size > sb := f0_F_sb_count.lt
  have fl_A_dd : h0.size > dd := f0_A_dd.lt
  have fl_E_xs : h0.size > xs := f0_E_xs.lt
  have fl_F_xs_coder : h0.size > xs := f0_F_xs_coder.lt
  have fl_F_xs_value : h0.size > xs := f0_F_xs_value.lt
  have fl_A_tt : h0.size > tt := f0_A_tt.lt
  refine own_open (own_via (S' := s₁.setTop (mkF m 0 #[.val (.ref a), .val (.ref xs)] [])) (fun t k => castTop (ef_own_cl m a xs) k) ?_)
  have hEL := own_EW hw
  have hS0 : s.Since s.vm h0.size := (State.WarmedH.refl s).since _
  have R0 : CHr Z own_EL s.vm h0 s.vm h0 := CHr.refl hCH
  have SF_dd : Safe Z own_EL s.vm h0 dd := hSL _ (List.mem_of_getElem? (i := 0) rfl)
  have K0 : Keep h0 h0 [sb, dd] := Keep.refl _ _
  have ne_sb_dd : sb ≠ dd := Exa.neArv f0_E_sb f0_A_dd (wd48 hw)
  have ne_sb_xs : sb ≠ xs := Exa.ne f0_E_sb f0_E_xs (by decide)
  have ne_sb_tt : sb ≠ tt := Exa.neArv f0_E_sb f0_A_tt (wd48 hw)
  have ne_xs_dd : xs ≠ dd := Exa.neArv f0_E_xs f0_A_dd (wd5 hw)
  have ne_xs_tt : xs ≠ tt := Exa.neArv f0_E_xs f0_A_tt (wd5 hw)
  refine ov s₁ 1 #[.val (.ref a), .val (.ref xs)] [.ref a] (fun t k => XS.aloadN X0.here hx rfl (hb hby d21_0) rfl rfl k) ?_
  obtain ⟨T1, X1, e1, st1⟩ := getF X0 hx hZ hown (host := "") (Or.inl (wd118 hw)) Via.refl e0 f0_F_a_out (g := (mkF m 1 #[.val (.ref a), .val (.ref xs)] [.ref a])) rfl rfl (hb hby d21_1)
  refine ov T1 4 #[.val (.ref a), .val (.ref xs)] [.ref sb] st1 ?_
  obtain ⟨b2, T2, h2, kk2, t2, kb2, X2, e2, E2, hS2, hk2, hZ, hown, f2_0, f2_1, f2_2, f2_3, lta2, ltb2, R2q, hLit2, hsn2, st2⟩ := ldcCH X1 hx hZ hown (wd125 hw) (own_wS hw) e1 hS0 (by omega) hEL (List.mem_of_getElem? (i := 1) rfl) R0.1 (vs := [.int 60, .int 47]) (z := (2 : Int32)) ⟨by decide, rfl⟩ (by decide) rfl (g := (mkF m 4 #[.val (.ref a), .val (.ref xs)] [.ref sb])) rfl (hb hby d21_4) (n := 8) (by decide) (by decide) (by decide) (by decide)
  have sz3 : h0.size ≤ h2.size := E2.1
  have O4 : Old Z n0 h2 := O0.ext E2
  have R5 : CHr Z own_EL s.vm h0 T2.vm h2 := R0.trans R2q
  have K6 : Keep h0 h2 [sb, dd] := K0.ext E2
  have lt_b2 : h2.size > b2 := lta2
  have lt_t2 : h2.size > t2 := ltb2
  have cx7 : Safe Z own_EL T2.vm h2 dd := (CHr.safe R2q (own_ltA (by omega)) SF_dd)
  have ne_dd_b2 : dd ≠ b2 := (hsn2 _ cx7).1
  have ne_dd_t2 : dd ≠ t2 := (hsn2 _ cx7).2
  have cx8 : Exa Z h2 sb "java/lang/StringBuilder" := (f0_E_sb.ext E2)
  have ne_sb_b2 : sb ≠ b2 := (hsn2 _ (Safe.exa hZ.alike cx8 (by decide) (by decide))).1
  have ne_sb_t2 : sb ≠ t2 := (hsn2 _ (Safe.exa hZ.alike cx8 (by decide) (by decide))).2
  refine ov T2 6 #[.val (.ref a), .val (.ref xs)] [.ref b2, .ref sb] st2 ?_
  have cx10 : Fld Z h2 sb "java/lang/AbstractStringBuilder" "value" "[B" (.ref dd) := (f0_F_sb_value.ext E2)
  have cx11 : Fld Z h2 sb "java/lang/AbstractStringBuilder" "coder" "B" (.int 0) := (f0_F_sb_coder.ext E2)
  have cx12 : Fld Z h2 sb "java/lang/AbstractStringBuilder" "count" "I" (.int 16) := (f0_F_sb_count.ext E2)
  have cx13 : Arv Z h2 dd kd .byte (32 : Int32) (own_L1) (.int 0) := (f0_A_dd.ext E2)
  obtain ⟨cq9, kq9, q9a, q9b, q9c⟩ := isOf hZ e2 cx8
  obtain ⟨_, _, ⟨T9, Lp9, kp9, np9⟩, -, X9, ⟨Lc9, hQ9, l9, y9, z9⟩, st9⟩ := X2.virtualBack hx (y := mt8) (z := mt8) hown (mvT hZ (wd126 hw)) (mvT hZ (wd84 hw)) (notFace_of_selects (args := #[]) (mvT hZ (wd86 hw))) (mvT hZ (wd86 hw)) (mvT hZ (wd85 hw)) (by decide) (backOf (W := 0) (own_bs l Z a0 hw [] sb b2 t2 kb2 (2 : Int32) [.int 60, .int 47] zc dd kd (own_L1) (16 : Int32) h2 n0 O4 zfC cx8 cx10 cx11 cx12 f2_0 f2_1 f2_2 f2_3 cx13 (by first | assumption | exact Ne.symm (by assumption) | omega | exact Nat.ne_of_lt (by omega) | exact Nat.ne_of_gt (by omega) | decide | exact Nat.le_of_ble_eq_true rfl) (by first | assumption | exact Ne.symm (by assumption) | omega | exact Nat.ne_of_lt (by omega) | exact Nat.ne_of_gt (by omega) | decide | exact Nat.le_of_ble_eq_true rfl) (by first | assumption | exact Ne.symm (by assumption) | omega | exact Nat.ne_of_lt (by omega) | exact Nat.ne_of_gt (by omega) | decide | exact Nat.le_of_ble_eq_true rfl) (by first | assumption | exact Ne.symm (by assumption) | omega | exact Nat.ne_of_lt (by omega) | exact Nat.ne_of_gt (by omega) | decide | exact Nat.le_of_ble_eq_true rfl) (by first | assumption | exact Ne.symm (by assumption) | omega | exact Nat.ne_of_lt (by omega) | exact Nat.ne_of_gt (by omega) | decide | exact Nat.le_of_ble_eq_true rfl) (by first | assumption | exact Ne.symm (by assumption) | omega | exact Nat.ne_of_lt (by omega) | exact Nat.ne_of_gt (by omega) | decide | exact Nat.le_of_ble_eq_true rfl) (by first | assumption | exact Ne.symm (by assumption) | omega | exact Nat.ne_of_lt (by omega) | exact Nat.ne_of_gt (by omega) | decide | exact Nat.le_of_ble_eq_true rfl) (by first | assumption | exact Ne.symm (by assumption) | omega | exact Nat.ne_of_lt (by omega) | exact Nat.ne_of_gt (by omega) | decide | exact Nat.le_of_ble_eq_true rfl) (by first | assumption | exact Ne.symm (by assumption) | omega | exact Nat.ne_of_lt (by omega) | exact Nat.ne_of_gt (by omega) | decide | exact Nat.le_of_ble_eq_true rfl)) hZ (wd87 hw) (wd49 hw) (by decide) (by decide)) q9a q9c (g := (mkF m 6 #[.val (.ref a), .val (.ref xs)] [.ref b2, .ref sb])) rfl (by rw [hml]; rfl) (Steps.refl _) (argsL := [.ref b2]) (rest := []) (lenOf pd__Ljava_lang_String__Ljava_lang_StringBuilder__4184 rfl) rfl (by show 2 * 0 + _ ≤ _; exact Nat.le_of_eq rfl) (hb hby d21_6) (fun _ _ => ⟨rfl, e2, (by decide : 2 + 0 ≤ _), (by decide : 12 + 0 ≤ _)⟩)
  dsimp only [Pt.U, Pt.locs, Pt.cells, Pt.slots] at X9 l9 y9 z9 st9 hQ9
  subst Lp9 kp9 np9
  obtain ⟨rfl, N9q, K9q, f9_0, f9_1, f9_2, f9_3⟩ := hQ9
  have N9 := Fr.app N0 N9q
  have sf9 : ∀ x ∈ ([sb, dd] : List Addr), Safe Z own_EL T2.vm h2 x := (sfS (Safe.exa hZ.alike cx8 (by decide) (by decide)) (sfS cx7 sf0))
  have sz14 : h2.size ≤ T9.heap.size := K9q.1
  have R15 : CHr Z own_EL s.vm h0 T2.vm T9.heap := R5.trans (CHr.keep K9q sf9 R5.1)
  have O16 : Old Z n0 T9.heap := O4.keep K9q (allS (by omega : n0 ≤ sb) (allS (by omega : n0 ≤ dd) all0))
  have K17 : Keep h0 T9.heap [sb, dd] := K6.trans K9q (allS (P := fun x => x ∈ [sb, dd] ∨ h0.size ≤ x) (Or.inl (List.mem_of_getElem? (i := 0) rfl)) (allS (P := fun x => x ∈ [sb, dd] ∨ h0.size ≤ x) (Or.inl (List.mem_of_getElem? (i := 1) rfl)) all0))
  have f9_2c : Fld Z T9.heap sb "java/lang/AbstractStringBuilder" "count" "I" (.int 18) := f9_2
  have f9_3c : Arv Z T9.heap dd kd .byte (32 : Int32) (own_L2) (.int 0) := f9_3
  refine own_tr (S' := T9.setTop (mkF m 9 #[.val (.ref a), .val (.ref xs)] [.ref sb])) st9 ?_
  refine ov T9 10 #[.val (.ref a), .val (.ref xs)] [.ref xs, .ref sb] (fun t k => XS.aloadN X9.here hx rfl (hb hby d21_9) rfl rfl k) ?_
  have cx19 : Exa Z T9.heap sb "java/lang/StringBuilder" := (cx8.keep K9q)
  have cx20 : Exa Z T9.heap xs "java/lang/String" := ((f0_E_xs.ext E2).keep K9q)
  have cx21 : Fld Z T9.heap xs "java/lang/String" "coder" "B" (.int 0) := ((f0_F_xs_coder.ext E2).keep K9q (ninS (Ne.symm ne_sb_xs) (ninS ne_xs_dd nin0)))
  have cx22 : Fld Z T9.heap xs "java/lang/String" "value" "[B" (.ref tt) := ((f0_F_xs_value.ext E2).keep K9q (ninS (Ne.symm ne_sb_xs) (ninS ne_xs_dd nin0)))
  have cx23 : Arv Z T9.heap tt kt .byte ki ys (.int 0) := ((f0_A_tt.ext E2).keep K9q (ninS (Ne.symm ne_sb_tt) (ninS ntd nin0)))
  obtain ⟨cq18, kq18, q18a, q18b, q18c⟩ := isOf hZ rfl cx19
  obtain ⟨_, _, ⟨T18, Lp18, kp18, np18⟩, -, X18, ⟨Lc18, hQ18, l18, y18, z18⟩, st18⟩ := X9.virtualBack hx (y := mt8) (z := mt8) hown (mvT hZ (wd126 hw)) (mvT hZ (wd84 hw)) (notFace_of_selects (args := #[]) (mvT hZ (wd86 hw))) (mvT hZ (wd86 hw)) (mvT hZ (wd85 hw)) (by decide) (backOf (W := 0) (own_bs l Z a0 hw [] sb xs tt kt ki ys zc dd kd (own_L2) (18 : Int32) T9.heap n0 O16 zfC cx19 f9_0 f9_1 f9_2c cx20 cx21 cx22 cx23 f9_3c (by first | assumption | exact Ne.symm (by assumption) | omega | exact Nat.ne_of_lt (by omega) | exact Nat.ne_of_gt (by omega) | decide | exact Nat.le_of_ble_eq_true rfl) (by first | assumption | exact Ne.symm (by assumption) | omega | exact Nat.ne_of_lt (by omega) | exact Nat.ne_of_gt (by omega) | decide | exact Nat.le_of_ble_eq_true rfl) (by rcases hk4 with rfl | rfl | rfl | rfl <;> first | decide | exact Nat.le_of_ble_eq_true rfl) (by rcases hk4 with rfl | rfl | rfl | rfl <;> first | decide | exact Nat.le_of_ble_eq_true rfl) (by rcases hk4 with rfl | rfl | rfl | rfl <;> first | decide | exact Nat.le_of_ble_eq_true rfl) (by first | assumption | exact Ne.symm (by assumption) | omega | exact Nat.ne_of_lt (by omega) | exact Nat.ne_of_gt (by omega) | decide | exact Nat.le_of_ble_eq_true rfl) (by first | assumption | exact Ne.symm (by assumption) | omega | exact Nat.ne_of_lt (by omega) | exact Nat.ne_of_gt (by omega) | decide | exact Nat.le_of_ble_eq_true rfl) (by rcases hk4 with rfl | rfl | rfl | rfl <;> first | decide | exact Nat.le_of_ble_eq_true rfl) (by first | assumption | exact Ne.symm (by assumption) | omega | exact Nat.ne_of_lt (by omega) | exact Nat.ne_of_gt (by omega) | decide | exact Nat.le_of_ble_eq_true rfl)) hZ (wd87 hw) (wd49 hw) (by decide) (by decide)) q18a q18c (g := (mkF m 10 #[.val (.ref a), .val (.ref xs)] [.ref xs, .ref sb])) rfl (by rw [hml]; rfl) (Steps.refl _) (argsL := [.ref xs]) (rest := []) (lenOf pd__Ljava_lang_String__Ljava_lang_StringBuilder__4184 rfl) rfl (by show 2 * 0 + _ ≤ _; exact Nat.le_of_eq rfl) (hb hby d21_10) (fun _ _ => ⟨rfl, rfl, (by decide : 2 + 0 ≤ _), (by decide : 12 + 0 ≤ _)⟩)
  dsimp only [Pt.U, Pt.locs, Pt.cells, Pt.slots] at X18 l18 y18 z18 st18 hQ18
  subst Lp18 kp18 np18
  obtain ⟨rfl, N18q, K18q, f18_0, f18_1, f18_2, f18_3⟩ := hQ18
  have N18 := Fr.app N9 N18q
  have cx24 : Safe Z own_EL T2.vm T9.heap dd := (Safe.keep K9q sf9 R5.1 cx7)
  have sf18 : ∀ x ∈ ([sb, dd] : List Addr), Safe Z own_EL T2.vm T9.heap x := (sfS (Safe.exa hZ.alike cx19 (by decide) (by decide)) (sfS cx24 sf0))
  have sz25 : T9.heap.size ≤ T18.heap.size := K18q.1
  have R26 : CHr Z own_EL s.vm h0 T2.vm T18.heap := R15.trans (CHr.keep K18q sf18 R15.1)
  have O27 : Old Z n0 T18.heap := O16.keep K18q (allS (by omega : n0 ≤ sb) (allS (by omega : n0 ≤ dd) all0))
  have K28 : Keep h0 T18.heap [sb, dd] := K17.trans K18q (allS (P := fun x => x ∈ [sb, dd] ∨ h0.size ≤ x) (Or.inl (List.mem_of_getElem? (i := 0) rfl)) (allS (P := fun x => x ∈ [sb, dd] ∨ h0.size ≤ x) (Or.inl (List.mem_of_getElem? (i := 1) rfl)) all0))
  refine own_tr (S' := T18.setTop (mkF m 13 #[.val (.ref a), .val (.ref xs)] [.ref sb])) st18 ?_
  refine ov T18 15 #[.val (.ref a), .val (.ref xs)] [.int 62, .ref sb] (fun t k => XS.bipush X18.here hx rfl (hb hby d21_13) k) ?_
  have cx30 : Exa Z T18.heap sb "java/lang/StringBuilder" := (cx19.keep K18q)
  obtain ⟨cq29, kq29, q29a, q29b, q29c⟩ := isOf hZ rfl cx30
  obtain ⟨_, _, ⟨T29, Lp29, kp29, np29⟩, -, X29, ⟨Lc29, hQ29, l29, y29, z29⟩, st29⟩ := X18.virtualBack hx (y := mt12) (z := mt12) hown (mvT hZ (wd127 hw)) (mvT hZ (wd128 hw)) (notFace_of_selects (args := #[]) (mvT hZ (wd130 hw))) (mvT hZ (wd130 hw)) (mvT hZ (wd129 hw)) (by decide) (backOf (W := 0) (own_bc l Z a0 hw [] sb zc dd kd (own_cp (own_L2) ys (18 : Int32) (0 : Int32) ki) ((18 : Int32) + ki) T18.heap n0 O27 zfC cx30 f18_0 f18_1 f18_2 f18_3 (by first | assumption | exact Ne.symm (by assumption) | omega | exact Nat.ne_of_lt (by omega) | exact Nat.ne_of_gt (by omega) | decide | exact Nat.le_of_ble_eq_true rfl) (by rcases hk4 with rfl | rfl | rfl | rfl <;> first | decide | exact Nat.le_of_ble_eq_true rfl) (by rcases hk4 with rfl | rfl | rfl | rfl <;> first | decide | exact Nat.le_of_ble_eq_true rfl) (by rcases hk4 with rfl | rfl | rfl | rfl <;> first | decide | exact Nat.le_of_ble_eq_true rfl) (by rcases hk4 with rfl | rfl | rfl | rfl <;> first | decide | exact Nat.le_of_ble_eq_true rfl) (by first | assumption | exact Ne.symm (by assumption) | omega | exact Nat.ne_of_lt (by omega) | exact Nat.ne_of_gt (by omega) | decide | exact Nat.le_of_ble_eq_true rfl) (by first | assumption | exact Ne.symm (by assumption) | omega | exact Nat.ne_of_lt (by omega) | exact Nat.ne_of_gt (by omega) | decide | exact Nat.le_of_ble_eq_true rfl)) hZ (wd131 hw) (wd49 hw) (by decide) (by decide)) q29a q29c (g := (mkF m 15 #[.val (.ref a), .val (.ref xs)] [.int 62, .ref sb])) rfl (by rw [hml]; rfl) (Steps.refl _) (argsL := [.int 62]) (rest := []) (lenOf pd__C_Ljava_lang_StringBuilder__2555 rfl) rfl (by show 2 * 0 + _ ≤ _; exact Nat.le_of_eq rfl) (hb hby d21_15) (fun _ _ => ⟨rfl, rfl, (by decide : 2 + 0 ≤ _), (by decide : 12 + 0 ≤ _)⟩)
  dsimp only [Pt.U, Pt.locs, Pt.cells, Pt.slots] at X29 l29 y29 z29 st29 hQ29
  subst Lp29 kp29 np29
  obtain ⟨rfl, N29q, K29q, f29_0, f29_1, f29_2, f29_3⟩ := hQ29
  have N29 := Fr.app N18 N29q
  have cx31 : Safe Z own_EL T2.vm T18.heap dd := (Safe.keep K18q sf18 R15.1 cx24)
  have sf29 : ∀ x ∈ ([sb, dd] : List Addr), Safe Z own_EL T2.vm T18.heap x := (sfS (Safe.exa hZ.alike cx30 (by decide) (by decide)) (sfS cx31 sf0))
  have sz32 : T18.heap.size ≤ T29.heap.size := K29q.1
  have R33 : CHr Z own_EL s.vm h0 T2.vm T29.heap := R26.trans (CHr.keep K29q sf29 R26.1)
  have O34 : Old Z n0 T29.heap := O27.keep K29q (allS (by omega : n0 ≤ sb) (allS (by omega : n0 ≤ dd) all0))
  have K35 : Keep h0 T29.heap [sb, dd] := K28.trans K29q (allS (P := fun x => x ∈ [sb, dd] ∨ h0.size ≤ x) (Or.inl (List.mem_of_getElem? (i := 0) rfl)) (allS (P := fun x => x ∈ [sb, dd] ∨ h0.size ≤ x) (Or.inl (List.mem_of_getElem? (i := 1) rfl)) all0))
  refine own_tr (S' := T29.setTop (mkF m 18 #[.val (.ref a), .val (.ref xs)] [.ref sb])) st29 ?_
  refine ov T29 19 #[.val (.ref a), .val (.ref xs)] [] (fun t k => XS.pop X29.here hx rfl (hb hby d21_18) rfl rfl k) ?_
  refine ov T29 20 #[.val (.ref a), .val (.ref xs)] [.ref a] (fun t k => XS.aloadN X29.here hx rfl (hb hby d21_19) rfl rfl k) ?_
  have RTR33 : CHr Z own_EL s.vm h0 T29.vm T29.heap := R33.trans (CHv.at X29 hZ hEL R33.1)
  have RXR33 : CHr Z own_EL s.vm s.heap T29.vm T29.heap := by rw [hh]; exact RTR33
  refine own_retW (Q := Q_own_cl Z a xs tt kt ki ys zc sb dd kd h0 n0) (C := rm5_2_12_96.cells) (N := rm5_2_12_96.slots) X29 hS2 (by omega) (v := some (.ref a)) (fun h => by rw [Bd.returns] at h; cases h) Bd.notSynchronized ?_ RXR33 (by decide) (by decide) (fun fs hr => retOut X29 hx Bd.returns rfl (Or.inr (Or.inr (Or.inr (Or.inr ⟨rfl, rfl, rfl⟩)))) (hb hby d21_20) hr)
  show Q_own_cl Z a xs tt kt ki ys zc sb dd kd h0 n0 _ T29.vm T29.heap _
  exact ⟨rfl, N29, K35, f29_0, f29_1, f29_2, f29_3⟩
def Q_own_hts (Z : State) (a : Addr) (zc : Int32) (sb : Addr) (dd : Addr) (kd : ClassId) (vs : List Value) (ci : Int32) (h0 : Heap) (n0 : Nat) (v : Option Value) (h : Heap) (L : List Loc) : Prop := ∃ x1 : Addr, ∃ b : Addr, ∃ kb : ClassId, v = some (.ref x1) ∧ Fr n0 L ∧ Keep h0 h [] ∧ Exa Z h x1 "java/lang/String" ∧ Fld Z h x1 "java/lang/String" "value" "[B" (.ref b) ∧ Fld Z h x1 "java/lang/String" "coder" "B" (.int 0) ∧ Arv Z h b kb .byte ci (own_cp (List.replicate ci.toNatClampNeg (.int 0)) vs (0 : Int32) (0 : Int32) ci) (.int 0)
set_option maxRecDepth 65536 in
set_option maxHeartbeats 40000000 in
theorem own_hts (l : Launch) (Z : State) (a0 : Array Value) (hw : ∀ d ∈ tables_1, d.before a0 Z = true) (ws : List Jvm.Cond) (a : Addr) (zc : Int32) (sb : Addr) (dd : Addr) (kd : ClassId) (vs : List Value) (ci : Int32) (h0 : Heap) (n0 : Nat) (O0 : Old Z n0 h0) (zfC : Sta Z Z.heap "java/lang/String" "COMPACT_STRINGS" "Z" (.int zc)) (f0_F_a_out : Fld Z h0 a "com/example/regent/regent/Html" "out" "Ljava/lang/StringBuilder;" (.ref sb)) (f0_E_sb : Exa Z h0 sb "java/lang/StringBuilder") (f0_F_sb_value : Fld Z h0 sb "java/lang/AbstractStringBuilder" "value" "[B" (.ref dd)) (f0_F_sb_coder : Fld Z h0 sb "java/lang/AbstractStringBuilder" "coder" "B" (.int 0)) (f0_F_sb_count : Fld Z h0 sb "java/lang/AbstractStringBuilder" "count" "I" (.int ci)) (f0_A_dd : Arv Z h0 dd kd .byte (32 : Int32) vs (.int 0)) (hzc : ¬ (zc = (0 : Int32))) (hci : ¬ (ci < (0 : Int32))) (hm : ci < (32 : Int32)) (hne : ¬ (ci = (32 : Int32))) (hb1 : (0 : Int32).toNatClampNeg + ci.toNatClampNeg ≤ (32 : Int32).toNatClampNeg) (hb3 : ci.toNatClampNeg ≤ 32) :
    MetFree l mt29 (head1 (Jvm.Cond.code mt29 prog_9_method_6_code 1 (some (.object "java/lang/String")) :: ws) rm6_2_36_113) (fun aq U => aq = #[.ref a] ∧ Z.Warmed39 U.vm ∧ U.heap = h0) (fun _ _ _ _ _ => True) (fun _ U o U' => ∃ v L, o = .returned v ∧ Q_own_hts Z a zc sb dd kd vs ci h0 n0 v U'.heap L ∧ FrameEnd U o U' L rm6_2_36_113.cells rm6_2_36_113.slots) := by
  refine MetFree.of_bodySF (plainFor_of_name pn_com_example_regent_regent_Html) hisR ?_
  intro p e s m args below meth c s₁ Bd hml0 hP hK
  obtain ⟨rfl, hZ, hh⟩ := hP
  have hx := Bd.exec
  have hby := Bd.bytes
  have hml : c.maxLocals = 1 := hml0
  have hown : s.vm.findClass "com/example/regent/regent/Html" = some m.cls := findClass_of_methodNamed Bd.named
  have hnm := (name_of_methodNamed Bd.named Bd.method).1
  have X0 : Stand p l e rm6_2_36_113 s m #[.ref a] below meth c s₁ [] 0 0 := Stand.of_body Bd
  have e0 : s₁.heap = h0 := by rw [← hh, Bd.state]; rfl
  have N0 := Fr.nil n0
  have zO := O0.1
  have zO2 := O0.2.1
  have fl_F_a_out : h0.size > a := f0_F_a_out.lt
  have fl_E_sb : h0.size > sb := f0_E_sb.lt
  have fl_F_sb_value : h0.size > sb := f0_F_sb_value.lt
  have fl_F_sb_coder : h0.size > sb := f0_F_sb_coder.lt
  have fl_F_sb_count : h0.size > sb := f0_F_sb_count.lt
  have fl_A_dd : h0.size > dd := f0_A_dd.lt
  refine own_open (own_via (S' := s₁.setTop (mkF m 0 #[.val (.ref a)] [])) (fun t k => castTop (ef_own_hts m a) k) ?_)
  have K0 : Keep h0 h0 [] := Keep.refl _ _
  have ne_sb_dd : sb ≠ dd := Exa.neArv f0_E_sb f0_A_dd (wd48 hw)
  refine ov s₁ 1 #[.val (.ref a)] [.ref a] (fun t k => XS.aloadN X0.here hx rfl (hb hby d26_0) rfl rfl k) ?_
  obtain ⟨T1, X1, e1, st1⟩ := getF X0 hx hZ hown (host := "") (Or.inl (wd118 hw)) Via.refl e0 f0_F_a_out (g := (mkF m 1 #[.val (.ref a)] [.ref a])) rfl rfl (hb hby d26_1)
  refine ov T1 4 #[.val (.ref a)] [.ref sb] st1 ?_
  obtain ⟨cq2, kq2, q2a, q2b, q2c⟩ := isOf hZ e1 f0_E_sb
  obtain ⟨_, _, ⟨T2, Lp2, kp2, np2⟩, -, X2, ⟨Lc2, hQ2, l2, y2, z2⟩, st2⟩ := X1.virtualBack hx (y := mt22) (z := mt22) hown (mvT hZ (wd150 hw)) (mvT hZ (wd151 hw)) (notFace_of_selects (args := #[]) (mvT hZ (wd153 hw))) (mvT hZ (wd153 hw)) (mvT hZ (wd152 hw)) (by decide) (backOf (W := 0) (own_ts l Z a0 hw [] sb zc dd kd vs ci h0 n0 O0 zfC f0_E_sb f0_F_sb_value f0_F_sb_coder f0_F_sb_count f0_A_dd (by first | assumption | exact Ne.symm (by assumption) | omega | exact Nat.ne_of_lt (by omega) | exact Nat.ne_of_gt (by omega) | decide | exact Nat.le_of_ble_eq_true rfl) (by first | assumption | exact Ne.symm (by assumption) | omega | exact Nat.ne_of_lt (by omega) | exact Nat.ne_of_gt (by omega) | decide | exact Nat.le_of_ble_eq_true rfl) (by first | assumption | exact Ne.symm (by assumption) | omega | exact Nat.ne_of_lt (by omega) | exact Nat.ne_of_gt (by omega) | decide | exact Nat.le_of_ble_eq_true rfl) (by first | assumption | exact Ne.symm (by assumption) | omega | exact Nat.ne_of_lt (by omega) | exact Nat.ne_of_gt (by omega) | decide | exact Nat.le_of_ble_eq_true rfl) (by first | assumption | exact Ne.symm (by assumption) | omega | exact Nat.ne_of_lt (by omega) | exact Nat.ne_of_gt (by omega) | decide | exact Nat.le_of_ble_eq_true rfl) (by first | assumption | exact Ne.symm (by assumption) | omega | exact Nat.ne_of_lt (by omega) | exact Nat.ne_of_gt (by omega) | decide | exact Nat.le_of_ble_eq_true rfl)) hZ (wd154 hw) (wd49 hw) (by decide) (by decide)) q2a q2c (g := (mkF m 4 #[.val (.ref a)] [.ref sb])) rfl (by rw [hml]; rfl) (Steps.refl _) (argsL := []) (rest := []) (lenOf pd___Ljava_lang_String__1777 rfl) rfl (by show 2 * 0 + _ ≤ _; exact Nat.le_of_eq rfl) (hb hby d26_4) (fun _ _ => ⟨rfl, e1, (by decide : 0 + 2 ≤ _), (by decide : 0 + 36 ≤ _)⟩)
  dsimp only [Pt.U, Pt.locs, Pt.cells, Pt.slots] at X2 l2 y2 z2 st2 hQ2
  subst Lp2 kp2 np2
  obtain ⟨x12, b2, kb2, rfl, N2q, K2q, f2_0, f2_1, f2_2, f2_3⟩ := hQ2
  have N2 := Fr.app N0 N2q
  have sz3 : h0.size ≤ T2.heap.size := K2q.1
  have O4 : Old Z n0 T2.heap := O0.keep K2q all0
  have K5 : Keep h0 T2.heap [] := K0.trans K2q all0
  have lt6_x12 : T2.heap.size > x12 := f2_0.lt
  have lt7_x12 : T2.heap.size > x12 := f2_1.lt
  have lt8_x12 : T2.heap.size > x12 := f2_2.lt
  have lt9_b2 : T2.heap.size > b2 := f2_3.lt
  refine own_tr (S' := T2.setTop (mkF m 7 #[.val (.ref a)] [.ref x12])) st2 ?_
  refine own_ret (Q := Q_own_hts Z a zc sb dd kd vs ci h0 n0) (C := rm6_2_36_113.cells) (N := rm6_2_36_113.slots) X2 (v := some (.ref x12)) (fun h => by rw [Bd.returns] at h; cases h) Bd.notSynchronized ?_ (by decide) (by decide) (fun fs hr => retOut X2 hx Bd.returns rfl (Or.inr (Or.inr (Or.inr (Or.inr ⟨rfl, rfl, rfl⟩)))) (hb hby d26_7) hr)
  show Q_own_hts Z a zc sb dd kd vs ci h0 n0 _ T2.heap _
  exact ⟨x12, b2, kb2, rfl, N2, K5, f2_0, f2_1, f2_2, f2_3⟩
def Q_own_tag0 (Z : State) (n1 : Int32) (c0 : Int32) (c1 : Int32) (c2 : Int32) (zc : Int32) (h0 : Heap) (n0 : Nat) (v : Option Value) (vm : Vm) (h : Heap) (L : List Loc) : Prop := ∃ b : Addr, ∃ tb : Addr, ∃ kb : ClassId, v = some (.ref b) ∧ Fr n0 L ∧ Keep h0 h [] ∧ Exa Z h b "java/lang/String" ∧ Fld Z h b "java/lang/String" "value" "[B" (.ref tb) ∧ Fld Z h b "java/lang/String" "coder" "B" (.int 0) ∧ Arv Z h tb kb .byte (0 : Int32) [] (.int 0)
set_option maxRecDepth 65536 in
set_option maxHeartbeats 40000000 in
theorem own_tag0 (l : Launch) (Z : State) (a0 : Array Value) (hw : ∀ d ∈ tables_1, d.before a0 Z = true) (ws : List Jvm.Cond) (n1 : Int32) (c0 : Int32) (c1 : Int32) (c2 : Int32) (zc : Int32) (h0 : Heap) (n0 : Nat) (O0 : Old Z n0 h0) (zfC : Sta Z Z.heap "java/lang/String" "COMPACT_STRINGS" "Z" (.int zc)) (hzc : ¬ (zc = (0 : Int32))) (rc0 : ¬ c0 < 0 ∧ ¬ (255 : Int32) < c0) (rc1 : ¬ c1 < 0 ∧ ¬ (255 : Int32) < c1) (rc2 : ¬ c2 < 0 ∧ ¬ (255 : Int32) < c2) (hn0 : n1 = (0 : Int32)) :
    MetFree l mt30 (head1 (Jvm.Cond.code mt30 method_3_code 4 (some (.object "java/lang/String")) :: ws) rm3_6_12_43) (fun aq U => aq = #[.int n1, .int c0, .int c1, .int c2] ∧ Z.Warmed39 U.vm ∧ U.heap = h0 ∧ CHv Z own_EL U.vm h0 ∧ ∀ x ∈ ([] : List Addr), Safe Z own_EL U.vm h0 x) (fun _ _ _ _ _ => True) (fun _ U o U' => ∃ v L, o = .returned v ∧ Q_own_tag0 Z n1 c0 c1 c2 zc h0 n0 v U'.vm U'.heap L ∧ CHr Z own_EL U.vm U.heap U'.vm U'.heap ∧ ReturnedEndW U o U' L rm3_6_12_43.cells rm3_6_12_43.slots) := by
  refine MetFree.of_bodySF (plainFor_of_name pn_com_example_regent_regent_HtmlClosePinLaw) hisR ?_
  intro p e s m args below meth c s₁ Bd hml0 hP hK
  obtain ⟨rfl, hZ, hh, hCH, hSL⟩ := hP
  have hx := Bd.exec
  have hby := Bd.bytes
  have hml : c.maxLocals = 4 := hml0
  have hown : s.vm.findClass "com/example/regent/regent/HtmlClosePinLaw" = some m.cls := findClass_of_methodNamed Bd.named
  have hnm := (name_of_methodNamed Bd.named Bd.method).1
  have X0 : Stand p l e rm3_6_12_43 (s.setVm s.vm) m #[.int n1, .int c0, .int c1, .int c2] below meth c s₁ [] 0 0 := Stand.of_body Bd
  have e0 : s₁.heap = h0 := by rw [← hh, Bd.state]; rfl
  have N0 := Fr.nil n0
  have zO := O0.1
  have zO2 := O0.2.1
  refine own_open (own_via (S' := s₁.setTop (mkF m 0 #[.val (.int n1), .val (.int c0), .val (.int c1), .val (.int c2)] [])) (fun t k => castTop (ef_own_tag0 m n1 c0 c1 c2) k) ?_)
  have hEL := own_EW hw
  have hS0 : s.Since s.vm h0.size := (State.WarmedH.refl s).since _
  have R0 : CHr Z own_EL s.vm h0 s.vm h0 := CHr.refl hCH
  have K0 : Keep h0 h0 [] := Keep.refl _ _
  refine ov s₁ 1 #[.val (.int n1), .val (.int c0), .val (.int c1), .val (.int c2)] [.int n1] (fun t k => XS.iloadN X0.here hx rfl (hb hby d1_0) rfl k) ?_
  refine ov s₁ 4 #[.val (.int n1), .val (.int c0), .val (.int c1), .val (.int c2)] [] (fun t k => XS.ifNo X0.here hx rfl (hb hby d1_1) rfl ((if0 _ _).trans (teq hn0).2) k) ?_
  obtain ⟨T1, h1, X1, e1, E1, A1, D1, -, st1⟩ := newO X0 hx hZ hown (wd4 hw) (wd5 hw) (wd6 hw) e0 (g := (mkF m 4 #[.val (.int n1), .val (.int c0), .val (.int c1), .val (.int c2)] [])) rfl (hb hby d1_4) (by decide) (by decide)
  obtain ⟨b1, g1⟩ : ∃ z, z = h0.size := ⟨_, rfl⟩
  rw [← g1] at A1 D1 st1
  have lt_b1 : h1.size > b1 := A1.lt
  have sz2 : h0.size ≤ h1.size := E1.1
  have O3 : Old Z n0 h1 := O0.ext E1
  have R4 : CHr Z own_EL s.vm h0 s.vm h1 := R0.trans (CHr.ext E1 R0.1)
  have SF_b1 : Safe Z own_EL s.vm h1 b1 := Safe.ext E1 R0.1 (Safe.new (Nat.le_of_eq g1.symm))
  have K5 : Keep h0 h1 [] := K0.ext E1
  have F1_value : Fld Z h1 b1 "java/lang/String" "value" "[B" .null := D1 (Or.inr (wd20 hw)) (ty := (.array .byte)) (by decide)
  have F1_coder : Fld Z h1 b1 "java/lang/String" "coder" "B" (.int 0) := D1 (Or.inr (wd21 hw)) (ty := .byte) (by decide)
  refine ov T1 7 #[.val (.int n1), .val (.int c0), .val (.int c1), .val (.int c2)] [.ref b1] st1 ?_
  refine ov T1 8 #[.val (.int n1), .val (.int c0), .val (.int c1), .val (.int c2)] [.ref b1, .ref b1] (fun t k => XS.dup X1.here hx rfl (hb hby d1_7) rfl rfl k) ?_
  refine ov T1 9 #[.val (.int n1), .val (.int c0), .val (.int c1), .val (.int c2)] [.int 0, .ref b1, .ref b1] (fun t k => XS.iconst X1.here hx rfl (hb hby d1_8) k) ?_
  obtain ⟨T6, h6, k6, X6, e6, E6, A6, st6⟩ := newP (aty := .char) X1 hx hZ (wd7 hw) e1 (g := (mkF m 9 #[.val (.int n1), .val (.int c0), .val (.int c1), .val (.int c2)] [.int 0, .ref b1, .ref b1])) rfl (hb hby d1_9) rfl (by decide : ¬ ((0 : Int32) < (0 : Int32))) (cap := 0) (by decide) (by decide) (by decide) (by decide)
  obtain ⟨b6, g6⟩ : ∃ z, z = h1.size := ⟨_, rfl⟩
  rw [← g6] at A6 st6
  have lt_b6 : h6.size > b6 := A6.lt
  have sz7 : h1.size ≤ h6.size := E6.1
  have O8 : Old Z n0 h6 := O3.ext E6
  have R9 : CHr Z own_EL s.vm h0 s.vm h6 := R4.trans (CHr.ext E6 R4.1)
  have K10 : Keep h0 h6 [] := K5.ext E6
  have V6 : Arv Z h6 b6 k6 .char (0 : Int32) [] (.int 0) := (Arv.new A6 (by decide)).pad (pad_rep [] (.int 0) 0)
  refine ov T6 11 #[.val (.int n1), .val (.int c0), .val (.int c1), .val (.int c2)] [.ref b6, .ref b1, .ref b1] st6 ?_
  have cx12 : Exa Z h6 b1 "java/lang/String" := (A1.ext E6)
  have cx13 : Fld Z h6 b1 "java/lang/String" "value" "[B" .null := (F1_value.ext E6)
  have cx14 : Fld Z h6 b1 "java/lang/String" "coder" "B" (.int 0) := (F1_coder.ext E6)
  have hk11 : h0.size ≤ T6.heap.size := by rw [e6]; omega
  obtain ⟨_, _, ⟨T11, Lp11, kp11, np11⟩, -, X11, hS11, hgr11, ⟨Lc11, ⟨hQ11, R11q⟩, l11, y11, z11⟩, st11⟩ := X6.specialBackS hx (y := mt24) rfl hown (mvT hZ (wd8 hw)) (mvT hZ (wd9 hw)) (mvT hZ (wd10 hw)) (by decide) (own_backW (SL := []) (W := 1) (own_new1e l Z a0 hw [] b1 b6 k6 h6 n0 O8 cx12 cx13 cx14 V6 (by first | assumption | exact Ne.symm (by assumption) | omega | exact Nat.ne_of_lt (by omega) | exact Nat.ne_of_gt (by omega) | decide | exact Nat.le_of_ble_eq_true rfl)) hZ (wd10 hw) (wd6 hw) (by decide) (by decide) hEL R9.1 all0) (g := (mkF m 11 #[.val (.int n1), .val (.int c0), .val (.int c1), .val (.int c2)] [.ref b6, .ref b1, .ref b1])) rfl (by rw [hml]; rfl) (Steps.refl _) (a := b1) (argsL := [.ref b6]) (rest := [.ref b1]) (lenOf pd___C_V_325 rfl) rfl (by show 2 * 0 + _ ≤ _; exact Nat.le_of_eq rfl) (hb hby d1_11) (fun _ _ => ⟨rfl, e6, (by decide : 2 + 4 ≤ _), (by decide : 4 + 8 ≤ _)⟩)
  dsimp only [Pt.U, Pt.locs, Pt.cells, Pt.slots] at X11 l11 y11 z11 st11 hQ11 hS11 hgr11 R11q
  subst Lp11 kp11 np11
  obtain ⟨X11, hSn11, hZ, hown⟩ := rebS hS0 hk11 X11 hS11 hgr11 hZ hown
  obtain ⟨tb11, kb11, rfl, N11q, K11q, f11_0, f11_1, f11_2⟩ := hQ11
  have N11 := Fr.app N0 N11q
  have sz15 : h6.size ≤ T11.heap.size := K11q.1
  have R16 : CHr Z own_EL s.vm h0 T11.vm T11.heap := R9.trans R11q
  have O17 : Old Z n0 T11.heap := O8.keep K11q (allS (by omega : n0 ≤ b1) all0)
  have K18 : Keep h0 T11.heap [] := K10.trans K11q (allS (P := fun x => x ∈ [] ∨ h0.size ≤ x) (Or.inr (by omega)) all0)
  have lt19_tb11 : T11.heap.size > tb11 := f11_2.lt
  refine own_tr (S' := T11.setTop (mkF m 14 #[.val (.int n1), .val (.int c0), .val (.int c1), .val (.int c2)] [.ref b1])) st11 ?_
  have cx20 : Exa Z T11.heap b1 "java/lang/String" := (cx12.keep K11q)
  have RTR16 : CHr Z own_EL s.vm h0 T11.vm T11.heap := R16.trans (CHv.at X11 hZ hEL R16.1)
  have RXR16 : CHr Z own_EL s.vm s.heap T11.vm T11.heap := by rw [hh]; exact RTR16
  refine own_retW (Q := Q_own_tag0 Z n1 c0 c1 c2 zc h0 n0) (C := rm3_6_12_43.cells) (N := rm3_6_12_43.slots) X11 hSn11 (by omega) (v := some (.ref b1)) (fun h => by rw [Bd.returns] at h; cases h) Bd.notSynchronized ?_ RXR16 (by decide) (by decide) (fun fs hr => retOut X11 hx Bd.returns rfl (Or.inr (Or.inr (Or.inr (Or.inr ⟨rfl, rfl, rfl⟩)))) (hb hby d1_14) hr)
  show Q_own_tag0 Z n1 c0 c1 c2 zc h0 n0 _ T11.vm T11.heap _
  exact ⟨b1, tb11, kb11, rfl, N11, K18, cx20, f11_0, f11_1, f11_2⟩
def Q_own_exp0 (Z : State) (n1 : Int32) (c0 : Int32) (c1 : Int32) (c2 : Int32) (zc : Int32) (h0 : Heap) (n0 : Nat) (v : Option Value) (h : Heap) (L : List Loc) : Prop := ∃ b : Addr, ∃ tb : Addr, ∃ kb : ClassId, v = some (.ref b) ∧ Fr n0 L ∧ Keep h0 h [] ∧ Exa Z h b "java/lang/String" ∧ Fld Z h b "java/lang/String" "value" "[B" (.ref tb) ∧ Fld Z h b "java/lang/String" "coder" "B" (.int 0) ∧ Arv Z h tb kb .byte (19 : Int32) [(.int ((60 : Int32).toInt8.toInt32)), (.int ((33 : Int32).toInt8.toInt32)), (.int ((68 : Int32).toInt8.toInt32)), (.int ((79 : Int32).toInt8.toInt32)), (.int ((67 : Int32).toInt8.toInt32)), (.int ((84 : Int32).toInt8.toInt32)), (.int ((89 : Int32).toInt8.toInt32)), (.int ((80 : Int32).toInt8.toInt32)), (.int ((69 : Int32).toInt8.toInt32)), (.int ((32 : Int32).toInt8.toInt32)), (.int ((104 : Int32).toInt8.toInt32)), (.int ((116 : Int32).toInt8.toInt32)), (.int ((109 : Int32).toInt8.toInt32)), (.int ((108 : Int32).toInt8.toInt32)), (.int ((62 : Int32).toInt8.toInt32)), (.int ((10 : Int32).toInt8.toInt32)), (.int ((60 : Int32).toInt8.toInt32)), (.int ((47 : Int32).toInt8.toInt32)), (.int ((62 : Int32).toInt8.toInt32))] (.int 0)
set_option maxRecDepth 65536 in
set_option maxHeartbeats 40000000 in
theorem own_exp0 (l : Launch) (Z : State) (a0 : Array Value) (hw : ∀ d ∈ tables_1, d.before a0 Z = true) (ws : List Jvm.Cond) (n1 : Int32) (c0 : Int32) (c1 : Int32) (c2 : Int32) (zc : Int32) (h0 : Heap) (n0 : Nat) (O0 : Old Z n0 h0) (zfC : Sta Z Z.heap "java/lang/String" "COMPACT_STRINGS" "Z" (.int zc)) (hzc : ¬ (zc = (0 : Int32))) (rc0 : ¬ c0 < 0 ∧ ¬ (255 : Int32) < c0) (rc1 : ¬ c1 < 0 ∧ ¬ (255 : Int32) < c1) (rc2 : ¬ c2 < 0 ∧ ¬ (255 : Int32) < c2) (hn0 : n1 = (0 : Int32)) :
    MetFree l mt31 (head1 (Jvm.Cond.code mt31 method_4_code 4 (some (.object "java/lang/String")) :: ws) rm4_3_42_66) (fun aq U => aq = #[.int n1, .int c0, .int c1, .int c2] ∧ Z.Warmed39 U.vm ∧ U.heap = h0) (fun _ _ _ _ _ => True) (fun _ U o U' => ∃ v L, o = .returned v ∧ Q_own_exp0 Z n1 c0 c1 c2 zc h0 n0 v U'.heap L ∧ FrameEnd U o U' L rm4_3_42_66.cells rm4_3_42_66.slots) := by
  refine MetFree.of_bodySF (plainFor_of_name pn_com_example_regent_regent_HtmlClosePinLaw) hisR ?_
  intro p e s m args below meth c s₁ Bd hml0 hP hK
  obtain ⟨rfl, hZ, hh⟩ := hP
  have hx := Bd.exec
  have hby := Bd.bytes
  have hml : c.maxLocals = 4 := hml0
  have hown : s.vm.findClass "com/example/regent/regent/HtmlClosePinLaw" = some m.cls := findClass_of_methodNamed Bd.named
  have hnm := (name_of_methodNamed Bd.named Bd.method).1
  have X0 : Stand p l e rm4_3_42_66 s m #[.int n1, .int c0, .int c1, .int c2] below meth c s₁ [] 0 0 := Stand.of_body Bd
  have e0 : s₁.heap = h0 := by rw [← hh, Bd.state]; rfl
  have N0 := Fr.nil n0
  have zO := O0.1
  have zO2 := O0.2.1
  refine own_open (own_via (S' := s₁.setTop (mkF m 0 #[.val (.int n1), .val (.int c0), .val (.int c1), .val (.int c2)] [])) (fun t k => castTop (ef_own_exp0 m n1 c0 c1 c2) k) ?_)
  have K0 : Keep h0 h0 [] := Keep.refl _ _
  refine ov s₁ 1 #[.val (.int n1), .val (.int c0), .val (.int c1), .val (.int c2)] [.int n1] (fun t k => XS.iloadN X0.here hx rfl (hb hby d5_0) rfl k) ?_
  refine ov s₁ 4 #[.val (.int n1), .val (.int c0), .val (.int c1), .val (.int c2)] [] (fun t k => XS.ifNo X0.here hx rfl (hb hby d5_1) rfl ((if0 _ _).trans (teq hn0).2) k) ?_
  obtain ⟨T1, h1, X1, e1, E1, A1, D1, -, st1⟩ := newO X0 hx hZ hown (wd4 hw) (wd5 hw) (wd6 hw) e0 (g := (mkF m 4 #[.val (.int n1), .val (.int c0), .val (.int c1), .val (.int c2)] [])) rfl (hb hby d5_4) (by decide) (by decide)
  obtain ⟨b1, g1⟩ : ∃ z, z = h0.size := ⟨_, rfl⟩
  rw [← g1] at A1 D1 st1
  have lt_b1 : h1.size > b1 := A1.lt
  have sz2 : h0.size ≤ h1.size := E1.1
  have O3 : Old Z n0 h1 := O0.ext E1
  have K4 : Keep h0 h1 [] := K0.ext E1
  have F1_value : Fld Z h1 b1 "java/lang/String" "value" "[B" .null := D1 (Or.inr (wd20 hw)) (ty := (.array .byte)) (by decide)
  have F1_coder : Fld Z h1 b1 "java/lang/String" "coder" "B" (.int 0) := D1 (Or.inr (wd21 hw)) (ty := .byte) (by decide)
  refine ov T1 7 #[.val (.int n1), .val (.int c0), .val (.int c1), .val (.int c2)] [.ref b1] st1 ?_
  refine ov T1 8 #[.val (.int n1), .val (.int c0), .val (.int c1), .val (.int c2)] [.ref b1, .ref b1] (fun t k => XS.dup X1.here hx rfl (hb hby d5_7) rfl rfl k) ?_
  refine ov T1 10 #[.val (.int n1), .val (.int c0), .val (.int c1), .val (.int c2)] [.int 19, .ref b1, .ref b1] (fun t k => XS.bipush X1.here hx rfl (hb hby d5_8) k) ?_
  obtain ⟨T5, h5, k5, X5, e5, E5, A5, st5⟩ := newP (aty := .char) X1 hx hZ (wd7 hw) e1 (g := (mkF m 10 #[.val (.int n1), .val (.int c0), .val (.int c1), .val (.int c2)] [.int 19, .ref b1, .ref b1])) rfl (hb hby d5_10) rfl (by decide : ¬ ((19 : Int32) < (0 : Int32))) (cap := 19) (by decide) (by decide) (by decide) (by decide)
  obtain ⟨b5, g5⟩ : ∃ z, z = h1.size := ⟨_, rfl⟩
  rw [← g5] at A5 st5
  have lt_b5 : h5.size > b5 := A5.lt
  have sz6 : h1.size ≤ h5.size := E5.1
  have O7 : Old Z n0 h5 := O3.ext E5
  have K8 : Keep h0 h5 [] := K4.ext E5
  have V5 : Arv Z h5 b5 k5 .char (19 : Int32) [.int 0, .int 0, .int 0, .int 0, .int 0, .int 0, .int 0, .int 0, .int 0, .int 0, .int 0, .int 0, .int 0, .int 0, .int 0, .int 0, .int 0, .int 0, .int 0] (.int 0) := (Arv.new A5 (by decide)).pad (pad_rep [] (.int 0) 19)
  refine ov T5 12 #[.val (.int n1), .val (.int c0), .val (.int c1), .val (.int c2)] [.ref b5, .ref b1, .ref b1] st5 ?_
  refine ov T5 13 #[.val (.int n1), .val (.int c0), .val (.int c1), .val (.int c2)] [.ref b5, .ref b5, .ref b1, .ref b1] (fun t k => XS.dup X5.here hx rfl (hb hby d5_12) rfl rfl k) ?_
  refine ov T5 14 #[.val (.int n1), .val (.int c0), .val (.int c1), .val (.int c2)] [.int 0, .ref b5, .ref b5, .ref b1, .ref b1] (fun t k => XS.iconst X5.here hx rfl (hb hby d5_13) k) ?_
  refine ov T5 16 #[.val (.int n1), .val (.int c0), .val (.int c1), .val (.int c2)] [.int 60, .int 0, .ref b5, .ref b5, .ref b1, .ref b1] (fun t k => XS.bipush X5.here hx rfl (hb hby d5_14) k) ?_
  obtain ⟨cl9, Ar9, q9, S9, M9, H9, U9⟩ := id V5
  obtain ⟨T9, h9, X9, e9, W9, st9⟩ := stC X5 hx hZ e5 Ar9 (j := (0 : Int32)) (inb_of S9 ⟨by decide, by decide⟩) (g := (mkF m 16 #[.val (.int n1), .val (.int c0), .val (.int c1), .val (.int c2)] [.int 60, .int 0, .ref b5, .ref b5, .ref b1, .ref b1])) rfl rfl (hb hby d5_16)
  have sz10 : h5.size ≤ h9.size := Nat.le_of_eq W9.size.symm
  have O11 : Old Z n0 h9 := O7.wr W9 (by omega : n0 ≤ b5)
  have N9 := Fr.snoc X9 N0 (by omega : n0 ≤ b5)
  have K12 : Keep h0 h9 [] := K8.wr W9 (Or.inr (by omega : h0.size ≤ b5))
  have V9 : Arv Z h9 b5 k5 .char (19 : Int32) [.int 60, .int 0, .int 0, .int 0, .int 0, .int 0, .int 0, .int 0, .int 0, .int 0, .int 0, .int 0, .int 0, .int 0, .int 0, .int 0, .int 0, .int 0, .int 0] (.int 0) := Arv.set Ar9 q9 S9 M9 H9 U9 (fits_nar_char _) W9 0 rfl (Nat.le_of_ble_eq_true rfl)
  refine ov T9 17 #[.val (.int n1), .val (.int c0), .val (.int c1), .val (.int c2)] [.ref b5, .ref b1, .ref b1] st9 ?_
  refine ov T9 18 #[.val (.int n1), .val (.int c0), .val (.int c1), .val (.int c2)] [.ref b5, .ref b5, .ref b1, .ref b1] (fun t k => XS.dup X9.here hx rfl (hb hby d5_17) rfl rfl k) ?_
  refine ov T9 19 #[.val (.int n1), .val (.int c0), .val (.int c1), .val (.int c2)] [.int 1, .ref b5, .ref b5, .ref b1, .ref b1] (fun t k => XS.iconst X9.here hx rfl (hb hby d5_18) k) ?_
  refine ov T9 21 #[.val (.int n1), .val (.int c0), .val (.int c1), .val (.int c2)] [.int 33, .int 1, .ref b5, .ref b5, .ref b1, .ref b1] (fun t k => XS.bipush X9.here hx rfl (hb hby d5_19) k) ?_
  obtain ⟨cl13, Ar13, q13, S13, M13, H13, U13⟩ := id V9
  obtain ⟨T13, h13, X13, e13, W13, st13⟩ := stC X9 hx hZ e9 Ar13 (j := (1 : Int32)) (inb_of S13 ⟨by decide, by decide⟩) (g := (mkF m 21 #[.val (.int n1), .val (.int c0), .val (.int c1), .val (.int c2)] [.int 33, .int 1, .ref b5, .ref b5, .ref b1, .ref b1])) rfl rfl (hb hby d5_21)
  have sz14 : h9.size ≤ h13.size := Nat.le_of_eq W13.size.symm
  have O15 : Old Z n0 h13 := O11.wr W13 (by omega : n0 ≤ b5)
  have N13 := Fr.snoc X13 N9 (by omega : n0 ≤ b5)
  have K16 : Keep h0 h13 [] := K12.wr W13 (Or.inr (by omega : h0.size ≤ b5))
  have V13 : Arv Z h13 b5 k5 .char (19 : Int32) [.int 60, .int 33, .int 0, .int 0, .int 0, .int 0, .int 0, .int 0, .int 0, .int 0, .int 0, .int 0, .int 0, .int 0, .int 0, .int 0, .int 0, .int 0, .int 0] (.int 0) := Arv.set Ar13 q13 S13 M13 H13 U13 (fits_nar_char _) W13 1 rfl (Nat.le_of_ble_eq_true rfl)
  refine ov T13 22 #[.val (.int n1), .val (.int c0), .val (.int c1), .val (.int c2)] [.ref b5, .ref b1, .ref b1] st13 ?_
  refine ov T13 23 #[.val (.int n1), .val (.int c0), .val (.int c1), .val (.int c2)] [.ref b5, .ref b5, .ref b1, .ref b1] (fun t k => XS.dup X13.here hx rfl (hb hby d5_22) rfl rfl k) ?_
  refine ov T13 24 #[.val (.int n1), .val (.int c0), .val (.int c1), .val (.int c2)] [.int 2, .ref b5, .ref b5, .ref b1, .ref b1] (fun t k => XS.iconst X13.here hx rfl (hb hby d5_23) k) ?_
  refine ov T13 26 #[.val (.int n1), .val (.int c0), .val (.int c1), .val (.int c2)] [.int 68, .int 2, .ref b5, .ref b5, .ref b1, .ref b1] (fun t k => XS.bipush X13.here hx rfl (hb hby d5_24) k) ?_
  obtain ⟨cl17, Ar17, q17, S17, M17, H17, U17⟩ := id V13
  obtain ⟨T17, h17, X17, e17, W17, st17⟩ := stC X13 hx hZ e13 Ar17 (j := (2 : Int32)) (inb_of S17 ⟨by decide, by decide⟩) (g := (mkF m 26 #[.val (.int n1), .val (.int c0), .val (.int c1), .val (.int c2)] [.int 68, .int 2, .ref b5, .ref b5, .ref b1, .ref b1])) rfl rfl (hb hby d5_26)
  have sz18 : h13.size ≤ h17.size := Nat.le_of_eq W17.size.symm
  have O19 : Old Z n0 h17 := O15.wr W17 (by omega : n0 ≤ b5)
  have N17 := Fr.snoc X17 N13 (by omega : n0 ≤ b5)
  have K20 : Keep h0 h17 [] := K16.wr W17 (Or.inr (by omega : h0.size ≤ b5))
  have V17 : Arv Z h17 b5 k5 .char (19 : Int32) [.int 60, .int 33, .int 68, .int 0, .int 0, .int 0, .int 0, .int 0, .int 0, .int 0, .int 0, .int 0, .int 0, .int 0, .int 0, .int 0, .int 0, .int 0, .int 0] (.int 0) := Arv.set Ar17 q17 S17 M17 H17 U17 (fits_nar_char _) W17 2 rfl (Nat.le_of_ble_eq_true rfl)
  refine ov T17 27 #[.val (.int n1), .val (.int c0), .val (.int c1), .val (.int c2)] [.ref b5, .ref b1, .ref b1] st17 ?_
  refine ov T17 28 #[.val (.int n1), .val (.int c0), .val (.int c1), .val (.int c2)] [.ref b5, .ref b5, .ref b1, .ref b1] (fun t k => XS.dup X17.here hx rfl (hb hby d5_27) rfl rfl k) ?_
  refine ov T17 29 #[.val (.int n1), .val (.int c0), .val (.int c1), .val (.int c2)] [.int 3, .ref b5, .ref b5, .ref b1, .ref b1] (fun t k => XS.iconst X17.here hx rfl (hb hby d5_28) k) ?_
  refine ov T17 31 #[.val (.int n1), .val (.int c0), .val (.int c1), .val (.int c2)] [.int 79, .int 3, .ref b5, .ref b5, .ref b1, .ref b1] (fun t k => XS.bipush X17.here hx rfl (hb hby d5_29) k) ?_
  obtain ⟨cl21, Ar21, q21, S21, M21, H21, U21⟩ := id V17
  obtain ⟨T21, h21, X21, e21, W21, st21⟩ := stC X17 hx hZ e17 Ar21 (j := (3 : Int32)) (inb_of S21 ⟨by decide, by decide⟩) (g := (mkF m 31 #[.val (.int n1), .val (.int c0), .val (.int c1), .val (.int c2)] [.int 79, .int 3, .ref b5, .ref b5, .ref b1, .ref b1])) rfl rfl (hb hby d5_31)
  have sz22 : h17.size ≤ h21.size := Nat.le_of_eq W21.size.symm
  have O23 : Old Z n0 h21 := O19.wr W21 (by omega : n0 ≤ b5)
  have N21 := Fr.snoc X21 N17 (by omega : n0 ≤ b5)
  have K24 : Keep h0 h21 [] := K20.wr W21 (Or.inr (by omega : h0.size ≤ b5))
  have V21 : Arv Z h21 b5 k5 .char (19 : Int32) [.int 60, .int 33, .int 68, .int 79, .int 0, .int 0, .int 0, .int 0, .int 0, .int 0, .int 0, .int 0, .int 0, .int 0, .int 0, .int 0, .int 0, .int 0, .int 0] (.int 0) := Arv.set Ar21 q21 S21 M21 H21 U21 (fits_nar_char _) W21 3 rfl (Nat.le_of_ble_eq_true rfl)
  refine ov T21 32 #[.val (.int n1), .val (.int c0), .val (.int c1), .val (.int c2)] [.ref b5, .ref b1, .ref b1] st21 ?_
  refine ov T21 33 #[.val (.int n1), .val (.int c0), .val (.int c1), .val (.int c2)] [.ref b5, .ref b5, .ref b1, .ref b1] (fun t k => XS.dup X21.here hx rfl (hb hby d5_32) rfl rfl k) ?_
  refine ov T21 34 #[.val (.int n1), .val (.int c0), .val (.int c1), .val (.int c2)] [.int 4, .ref b5, .ref b5, .ref b1, .ref b1] (fun t k => XS.iconst X21.here hx rfl (hb hby d5_33) k) ?_
  refine ov T21 36 #[.val (.int n1), .val (.int c0), .val (.int c1), .val (.int c2)] [.int 67, .int 4, .ref b5, .ref b5, .ref b1, .ref b1] (fun t k => XS.bipush X21.here hx rfl (hb hby d5_34) k) ?_
  obtain ⟨cl25, Ar25, q25, S25, M25, H25, U25⟩ := id V21
  obtain ⟨T25, h25, X25, e25, W25, st25⟩ := stC X21 hx hZ e21 Ar25 (j := (4 : Int32)) (inb_of S25 ⟨by decide, by decide⟩) (g := (mkF m 36 #[.val (.int n1), .val (.int c0), .val (.int c1), .val (.int c2)] [.int 67, .int 4, .ref b5, .ref b5, .ref b1, .ref b1])) rfl rfl (hb hby d5_36)
  have sz26 : h21.size ≤ h25.size := Nat.le_of_eq W25.size.symm
  have O27 : Old Z n0 h25 := O23.wr W25 (by omega : n0 ≤ b5)
  have N25 := Fr.snoc X25 N21 (by omega : n0 ≤ b5)
  have K28 : Keep h0 h25 [] := K24.wr W25 (Or.inr (by omega : h0.size ≤ b5))
  have V25 : Arv Z h25 b5 k5 .char (19 : Int32) [.int 60, .int 33, .int 68, .int 79, .int 67, .int 0, .int 0, .int 0, .int 0, .int 0, .int 0, .int 0, .int 0, .int 0, .int 0, .int 0, .int 0, .int 0, .int 0] (.int 0) := Arv.set Ar25 q25 S25 M25 H25 U25 (fits_nar_char _) W25 4 rfl (Nat.le_of_ble_eq_true rfl)
  refine ov T25 37 #[.val (.int n1), .val (.int c0), .val (.int c1), .val (.int c2)] [.ref b5, .ref b1, .ref b1] st25 ?_
  refine ov T25 38 #[.val (.int n1), .val (.int c0), .val (.int c1), .val (.int c2)] [.ref b5, .ref b5, .ref b1, .ref b1] (fun t k => XS.dup X25.here hx rfl (hb hby d5_37) rfl rfl k) ?_
  refine ov T25 39 #[.val (.int n1), .val (.int c0), .val (.int c1), .val (.int c2)] [.int 5, .ref b5, .ref b5, .ref b1, .ref b1] (fun t k => XS.iconst X25.here hx rfl (hb hby d5_38) k) ?_
  refine ov T25 41 #[.val (.int n1), .val (.int c0), .val (.int c1), .val (.int c2)] [.int 84, .int 5, .ref b5, .ref b5, .ref b1, .ref b1] (fun t k => XS.bipush X25.here hx rfl (hb hby d5_39) k) ?_
  obtain ⟨cl29, Ar29, q29, S29, M29, H29, U29⟩ := id V25
  obtain ⟨T29, h29, X29, e29, W29, st29⟩ := stC X25 hx hZ e25 Ar29 (j := (5 : Int32)) (inb_of S29 ⟨by decide, by decide⟩) (g := (mkF m 41 #[.val (.int n1), .val (.int c0), .val (.int c1), .val (.int c2)] [.int 84, .int 5, .ref b5, .ref b5, .ref b1, .ref b1])) rfl rfl (hb hby d5_41)
  have sz30 : h25.size ≤ h29.size := Nat.le_of_eq W29.size.symm
  have O31 : Old Z n0 h29 := O27.wr W29 (by omega : n0 ≤ b5)
  have N29 := Fr.snoc X29 N25 (by omega : n0 ≤ b5)
  have K32 : Keep h0 h29 [] := K28.wr W29 (Or.inr (by omega : h0.size ≤ b5))
  have V29 : Arv Z h29 b5 k5 .char (19 : Int32) [.int 60, .int 33, .int 68, .int 79, .int 67, .int 84, .int 0, .int 0, .int 0, .int 0, .int 0, .int 0, .int 0, .int 0, .int 0, .int 0, .int 0, .int 0, .int 0] (.int 0) := Arv.set Ar29 q29 S29 M29 H29 U29 (fits_nar_char _) W29 5 rfl (Nat.le_of_ble_eq_true rfl)
  refine ov T29 42 #[.val (.int n1), .val (.int c0), .val (.int c1), .val (.int c2)] [.ref b5, .ref b1, .ref b1] st29 ?_
  refine ov T29 43 #[.val (.int n1), .val (.int c0), .val (.int c1), .val (.int c2)] [.ref b5, .ref b5, .ref b1, .ref b1] (fun t k => XS.dup X29.here hx rfl (hb hby d5_42) rfl rfl k) ?_
  refine ov T29 45 #[.val (.int n1), .val (.int c0), .val (.int c1), .val (.int c2)] [.int 6, .ref b5, .ref b5, .ref b1, .ref b1] (fun t k => XS.bipush X29.here hx rfl (hb hby d5_43) k) ?_
  refine ov T29 47 #[.val (.int n1), .val (.int c0), .val (.int c1), .val (.int c2)] [.int 89, .int 6, .ref b5, .ref b5, .ref b1, .ref b1] (fun t k => XS.bipush X29.here hx rfl (hb hby d5_45) k) ?_
  obtain ⟨cl33, Ar33, q33, S33, M33, H33, U33⟩ := id V29
  obtain ⟨T33, h33, X33, e33, W33, st33⟩ := stC X29 hx hZ e29 Ar33 (j := (6 : Int32)) (inb_of S33 ⟨by decide, by decide⟩) (g := (mkF m 47 #[.val (.int n1), .val (.int c0), .val (.int c1), .val (.int c2)] [.int 89, .int 6, .ref b5, .ref b5, .ref b1, .ref b1])) rfl rfl (hb hby d5_47)
  have sz34 : h29.size ≤ h33.size := Nat.le_of_eq W33.size.symm
  have O35 : Old Z n0 h33 := O31.wr W33 (by omega : n0 ≤ b5)
  have N33 := Fr.snoc X33 N29 (by omega : n0 ≤ b5)
  have K36 : Keep h0 h33 [] := K32.wr W33 (Or.inr (by omega : h0.size ≤ b5))
  have V33 : Arv Z h33 b5 k5 .char (19 : Int32) [.int 60, .int 33, .int 68, .int 79, .int 67, .int 84, .int 89, .int 0, .int 0, .int 0, .int 0, .int 0, .int 0, .int 0, .int 0, .int 0, .int 0, .int 0, .int 0] (.int 0) := Arv.set Ar33 q33 S33 M33 H33 U33 (fits_nar_char _) W33 6 rfl (Nat.le_of_ble_eq_true rfl)
  refine ov T33 48 #[.val (.int n1), .val (.int c0), .val (.int c1), .val (.int c2)] [.ref b5, .ref b1, .ref b1] st33 ?_
  refine ov T33 49 #[.val (.int n1), .val (.int c0), .val (.int c1), .val (.int c2)] [.ref b5, .ref b5, .ref b1, .ref b1] (fun t k => XS.dup X33.here hx rfl (hb hby d5_48) rfl rfl k) ?_
  refine ov T33 51 #[.val (.int n1), .val (.int c0), .val (.int c1), .val (.int c2)] [.int 7, .ref b5, .ref b5, .ref b1, .ref b1] (fun t k => XS.bipush X33.here hx rfl (hb hby d5_49) k) ?_
  refine ov T33 53 #[.val (.int n1), .val (.int c0), .val (.int c1), .val (.int c2)] [.int 80, .int 7, .ref b5, .ref b5, .ref b1, .ref b1] (fun t k => XS.bipush X33.here hx rfl (hb hby d5_51) k) ?_
  obtain ⟨cl37, Ar37, q37, S37, M37, H37, U37⟩ := id V33
  obtain ⟨T37, h37, X37, e37, W37, st37⟩ := stC X33 hx hZ e33 Ar37 (j := (7 : Int32)) (inb_of S37 ⟨by decide, by decide⟩) (g := (mkF m 53 #[.val (.int n1), .val (.int c0), .val (.int c1), .val (.int c2)] [.int 80, .int 7, .ref b5, .ref b5, .ref b1, .ref b1])) rfl rfl (hb hby d5_53)
  have sz38 : h33.size ≤ h37.size := Nat.le_of_eq W37.size.symm
  have O39 : Old Z n0 h37 := O35.wr W37 (by omega : n0 ≤ b5)
  have N37 := Fr.snoc X37 N33 (by omega : n0 ≤ b5)
  have K40 : Keep h0 h37 [] := K36.wr W37 (Or.inr (by omega : h0.size ≤ b5))
  have V37 : Arv Z h37 b5 k5 .char (19 : Int32) [.int 60, .int 33, .int 68, .int 79, .int 67, .int 84, .int 89, .int 80, .int 0, .int 0, .int 0, .int 0, .int 0, .int 0, .int 0, .int 0, .int 0, .int 0, .int 0] (.int 0) := Arv.set Ar37 q37 S37 M37 H37 U37 (fits_nar_char _) W37 7 rfl (Nat.le_of_ble_eq_true rfl)
  refine ov T37 54 #[.val (.int n1), .val (.int c0), .val (.int c1), .val (.int c2)] [.ref b5, .ref b1, .ref b1] st37 ?_
  refine ov T37 55 #[.val (.int n1), .val (.int c0), .val (.int c1), .val (.int c2)] [.ref b5, .ref b5, .ref b1, .ref b1] (fun t k => XS.dup X37.here hx rfl (hb hby d5_54) rfl rfl k) ?_
  refine ov T37 57 #[.val (.int n1), .val (.int c0), .val (.int c1), .val (.int c2)] [.int 8, .ref b5, .ref b5, .ref b1, .ref b1] (fun t k => XS.bipush X37.here hx rfl (hb hby d5_55) k) ?_
  refine ov T37 59 #[.val (.int n1), .val (.int c0), .val (.int c1), .val (.int c2)] [.int 69, .int 8, .ref b5, .ref b5, .ref b1, .ref b1] (fun t k => XS.bipush X37.here hx rfl (hb hby d5_57) k) ?_
  obtain ⟨cl41, Ar41, q41, S41, M41, H41, U41⟩ := id V37
  obtain ⟨T41, h41, X41, e41, W41, st41⟩ := stC X37 hx hZ e37 Ar41 (j := (8 : Int32)) (inb_of S41 ⟨by decide, by decide⟩) (g := (mkF m 59 #[.val (.int n1), .val (.int c0), .val (.int c1), .val (.int c2)] [.int 69, .int 8, .ref b5, .ref b5, .ref b1, .ref b1])) rfl rfl (hb hby d5_59)
  have sz42 : h37.size ≤ h41.size := Nat.le_of_eq W41.size.symm
  have O43 : Old Z n0 h41 := O39.wr W41 (by omega : n0 ≤ b5)
  have N41 := Fr.snoc X41 N37 (by omega : n0 ≤ b5)
  have K44 : Keep h0 h41 [] := K40.wr W41 (Or.inr (by omega : h0.size ≤ b5))
  have V41 : Arv Z h41 b5 k5 .char (19 : Int32) [.int 60, .int 33, .int 68, .int 79, .int 67, .int 84, .int 89, .int 80, .int 69, .int 0, .int 0, .int 0, .int 0, .int 0, .int 0, .int 0, .int 0, .int 0, .int 0] (.int 0) := Arv.set Ar41 q41 S41 M41 H41 U41 (fits_nar_char _) W41 8 rfl (Nat.le_of_ble_eq_true rfl)
  refine ov T41 60 #[.val (.int n1), .val (.int c0), .val (.int c1), .val (.int c2)] [.ref b5, .ref b1, .ref b1] st41 ?_
  refine ov T41 61 #[.val (.int n1), .val (.int c0), .val (.int c1), .val (.int c2)] [.ref b5, .ref b5, .ref b1, .ref b1] (fun t k => XS.dup X41.here hx rfl (hb hby d5_60) rfl rfl k) ?_
  refine ov T41 63 #[.val (.int n1), .val (.int c0), .val (.int c1), .val (.int c2)] [.int 9, .ref b5, .ref b5, .ref b1, .ref b1] (fun t k => XS.bipush X41.here hx rfl (hb hby d5_61) k) ?_
  refine ov T41 65 #[.val (.int n1), .val (.int c0), .val (.int c1), .val (.int c2)] [.int 32, .int 9, .ref b5, .ref b5, .ref b1, .ref b1] (fun t k => XS.bipush X41.here hx rfl (hb hby d5_63) k) ?_
  obtain ⟨cl45, Ar45, q45, S45, M45, H45, U45⟩ := id V41
  obtain ⟨T45, h45, X45, e45, W45, st45⟩ := stC X41 hx hZ e41 Ar45 (j := (9 : Int32)) (inb_of S45 ⟨by decide, by decide⟩) (g := (mkF m 65 #[.val (.int n1), .val (.int c0), .val (.int c1), .val (.int c2)] [.int 32, .int 9, .ref b5, .ref b5, .ref b1, .ref b1])) rfl rfl (hb hby d5_65)
  have sz46 : h41.size ≤ h45.size := Nat.le_of_eq W45.size.symm
  have O47 : Old Z n0 h45 := O43.wr W45 (by omega : n0 ≤ b5)
  have N45 := Fr.snoc X45 N41 (by omega : n0 ≤ b5)
  have K48 : Keep h0 h45 [] := K44.wr W45 (Or.inr (by omega : h0.size ≤ b5))
  have V45 : Arv Z h45 b5 k5 .char (19 : Int32) [.int 60, .int 33, .int 68, .int 79, .int 67, .int 84, .int 89, .int 80, .int 69, .int 32, .int 0, .int 0, .int 0, .int 0, .int 0, .int 0, .int 0, .int 0, .int 0] (.int 0) := Arv.set Ar45 q45 S45 M45 H45 U45 (fits_nar_char _) W45 9 rfl (Nat.le_of_ble_eq_true rfl)
  refine ov T45 66 #[.val (.int n1), .val (.int c0), .val (.int c1), .val (.int c2)] [.ref b5, .ref b1, .ref b1] st45 ?_
  refine ov T45 67 #[.val (.int n1), .val (.int c0), .val (.int c1), .val (.int c2)] [.ref b5, .ref b5, .ref b1, .ref b1] (fun t k => XS.dup X45.here hx rfl (hb hby d5_66) rfl rfl k) ?_
  refine ov T45 69 #[.val (.int n1), .val (.int c0), .val (.int c1), .val (.int c2)] [.int 10, .ref b5, .ref b5, .ref b1, .ref b1] (fun t k => XS.bipush X45.here hx rfl (hb hby d5_67) k) ?_
  refine ov T45 71 #[.val (.int n1), .val (.int c0), .val (.int c1), .val (.int c2)] [.int 104, .int 10, .ref b5, .ref b5, .ref b1, .ref b1] (fun t k => XS.bipush X45.here hx rfl (hb hby d5_69) k) ?_
  obtain ⟨cl49, Ar49, q49, S49, M49, H49, U49⟩ := id V45
  obtain ⟨T49, h49, X49, e49, W49, st49⟩ := stC X45 hx hZ e45 Ar49 (j := (10 : Int32)) (inb_of S49 ⟨by decide, by decide⟩) (g := (mkF m 71 #[.val (.int n1), .val (.int c0), .val (.int c1), .val (.int c2)] [.int 104, .int 10, .ref b5, .ref b5, .ref b1, .ref b1])) rfl rfl (hb hby d5_71)
  have sz50 : h45.size ≤ h49.size := Nat.le_of_eq W49.size.symm
  have O51 : Old Z n0 h49 := O47.wr W49 (by omega : n0 ≤ b5)
  have N49 := Fr.snoc X49 N45 (by omega : n0 ≤ b5)
  have K52 : Keep h0 h49 [] := K48.wr W49 (Or.inr (by omega : h0.size ≤ b5))
  have V49 : Arv Z h49 b5 k5 .char (19 : Int32) [.int 60, .int 33, .int 68, .int 79, .int 67, .int 84, .int 89, .int 80, .int 69, .int 32, .int 104, .int 0, .int 0, .int 0, .int 0, .int 0, .int 0, .int 0, .int 0] (.int 0) := Arv.set Ar49 q49 S49 M49 H49 U49 (fits_nar_char _) W49 10 rfl (Nat.le_of_ble_eq_true rfl)
  refine ov T49 72 #[.val (.int n1), .val (.int c0), .val (.int c1), .val (.int c2)] [.ref b5, .ref b1, .ref b1] st49 ?_
  refine ov T49 73 #[.val (.int n1), .val (.int c0), .val (.int c1), .val (.int c2)] [.ref b5, .ref b5, .ref b1, .ref b1] (fun t k => XS.dup X49.here hx rfl (hb hby d5_72) rfl rfl k) ?_
  refine ov T49 75 #[.val (.int n1), .val (.int c0), .val (.int c1), .val (.int c2)] [.int 11, .ref b5, .ref b5, .ref b1, .ref b1] (fun t k => XS.bipush X49.here hx rfl (hb hby d5_73) k) ?_
  refine ov T49 77 #[.val (.int n1), .val (.int c0), .val (.int c1), .val (.int c2)] [.int 116, .int 11, .ref b5, .ref b5, .ref b1, .ref b1] (fun t k => XS.bipush X49.here hx rfl (hb hby d5_75) k) ?_
  obtain ⟨cl53, Ar53, q53, S53, M53, H53, U53⟩ := id V49
  obtain ⟨T53, h53, X53, e53, W53, st53⟩ := stC X49 hx hZ e49 Ar53 (j := (11 : Int32)) (inb_of S53 ⟨by decide, by decide⟩) (g := (mkF m 77 #[.val (.int n1), .val (.int c0), .val (.int c1), .val (.int c2)] [.int 116, .int 11, .ref b5, .ref b5, .ref b1, .ref b1])) rfl rfl (hb hby d5_77)
  have sz54 : h49.size ≤ h53.size := Nat.le_of_eq W53.size.symm
  have O55 : Old Z n0 h53 := O51.wr W53 (by omega : n0 ≤ b5)
  have N53 := Fr.snoc X53 N49 (by omega : n0 ≤ b5)
  have K56 : Keep h0 h53 [] := K52.wr W53 (Or.inr (by omega : h0.size ≤ b5))
  have V53 : Arv Z h53 b5 k5 .char (19 : Int32) [.int 60, .int 33, .int 68, .int 79, .int 67, .int 84, .int 89, .int 80, .int 69, .int 32, .int 104, .int 116, .int 0, .int 0, .int 0, .int 0, .int 0, .int 0, .int 0] (.int 0) := Arv.set Ar53 q53 S53 M53 H53 U53 (fits_nar_char _) W53 11 rfl (Nat.le_of_ble_eq_true rfl)
  refine ov T53 78 #[.val (.int n1), .val (.int c0), .val (.int c1), .val (.int c2)] [.ref b5, .ref b1, .ref b1] st53 ?_
  refine ov T53 79 #[.val (.int n1), .val (.int c0), .val (.int c1), .val (.int c2)] [.ref b5, .ref b5, .ref b1, .ref b1] (fun t k => XS.dup X53.here hx rfl (hb hby d5_78) rfl rfl k) ?_
  refine ov T53 81 #[.val (.int n1), .val (.int c0), .val (.int c1), .val (.int c2)] [.int 12, .ref b5, .ref b5, .ref b1, .ref b1] (fun t k => XS.bipush X53.here hx rfl (hb hby d5_79) k) ?_
  refine ov T53 83 #[.val (.int n1), .val (.int c0), .val (.int c1), .val (.int c2)] [.int 109, .int 12, .ref b5, .ref b5, .ref b1, .ref b1] (fun t k => XS.bipush X53.here hx rfl (hb hby d5_81) k) ?_
  obtain ⟨cl57, Ar57, q57, S57, M57, H57, U57⟩ := id V53
  obtain ⟨T57, h57, X57, e57, W57, st57⟩ := stC X53 hx hZ e53 Ar57 (j := (12 : Int32)) (inb_of S57 ⟨by decide, by decide⟩) (g := (mkF m 83 #[.val (.int n1), .val (.int c0), .val (.int c1), .val (.int c2)] [.int 109, .int 12, .ref b5, .ref b5, .ref b1, .ref b1])) rfl rfl (hb hby d5_83)
  have sz58 : h53.size ≤ h57.size := Nat.le_of_eq W57.size.symm
  have O59 : Old Z n0 h57 := O55.wr W57 (by omega : n0 ≤ b5)
  have N57 := Fr.snoc X57 N53 (by omega : n0 ≤ b5)
  have K60 : Keep h0 h57 [] := K56.wr W57 (Or.inr (by omega : h0.size ≤ b5))
  have V57 : Arv Z h57 b5 k5 .char (19 : Int32) [.int 60, .int 33, .int 68, .int 79, .int 67, .int 84, .int 89, .int 80, .int 69, .int 32, .int 104, .int 116, .int 109, .int 0, .int 0, .int 0, .int 0, .int 0, .int 0] (.int 0) := Arv.set Ar57 q57 S57 M57 H57 U57 (fits_nar_char _) W57 12 rfl (Nat.le_of_ble_eq_true rfl)
  refine ov T57 84 #[.val (.int n1), .val (.int c0), .val (.int c1), .val (.int c2)] [.ref b5, .ref b1, .ref b1] st57 ?_
  refine ov T57 85 #[.val (.int n1), .val (.int c0), .val (.int c1), .val (.int c2)] [.ref b5, .ref b5, .ref b1, .ref b1] (fun t k => XS.dup X57.here hx rfl (hb hby d5_84) rfl rfl k) ?_
  refine ov T57 87 #[.val (.int n1), .val (.int c0), .val (.int c1), .val (.int c2)] [.int 13, .ref b5, .ref b5, .ref b1, .ref b1] (fun t k => XS.bipush X57.here hx rfl (hb hby d5_85) k) ?_
  refine ov T57 89 #[.val (.int n1), .val (.int c0), .val (.int c1), .val (.int c2)] [.int 108, .int 13, .ref b5, .ref b5, .ref b1, .ref b1] (fun t k => XS.bipush X57.here hx rfl (hb hby d5_87) k) ?_
  obtain ⟨cl61, Ar61, q61, S61, M61, H61, U61⟩ := id V57
  obtain ⟨T61, h61, X61, e61, W61, st61⟩ := stC X57 hx hZ e57 Ar61 (j := (13 : Int32)) (inb_of S61 ⟨by decide, by decide⟩) (g := (mkF m 89 #[.val (.int n1), .val (.int c0), .val (.int c1), .val (.int c2)] [.int 108, .int 13, .ref b5, .ref b5, .ref b1, .ref b1])) rfl rfl (hb hby d5_89)
  have sz62 : h57.size ≤ h61.size := Nat.le_of_eq W61.size.symm
  have O63 : Old Z n0 h61 := O59.wr W61 (by omega : n0 ≤ b5)
  have N61 := Fr.snoc X61 N57 (by omega : n0 ≤ b5)
  have K64 : Keep h0 h61 [] := K60.wr W61 (Or.inr (by omega : h0.size ≤ b5))
  have V61 : Arv Z h61 b5 k5 .char (19 : Int32) [.int 60, .int 33, .int 68, .int 79, .int 67, .int 84, .int 89, .int 80, .int 69, .int 32, .int 104, .int 116, .int 109, .int 108, .int 0, .int 0, .int 0, .int 0, .int 0] (.int 0) := Arv.set Ar61 q61 S61 M61 H61 U61 (fits_nar_char _) W61 13 rfl (Nat.le_of_ble_eq_true rfl)
  refine ov T61 90 #[.val (.int n1), .val (.int c0), .val (.int c1), .val (.int c2)] [.ref b5, .ref b1, .ref b1] st61 ?_
  refine ov T61 91 #[.val (.int n1), .val (.int c0), .val (.int c1), .val (.int c2)] [.ref b5, .ref b5, .ref b1, .ref b1] (fun t k => XS.dup X61.here hx rfl (hb hby d5_90) rfl rfl k) ?_
  refine ov T61 93 #[.val (.int n1), .val (.int c0), .val (.int c1), .val (.int c2)] [.int 14, .ref b5, .ref b5, .ref b1, .ref b1] (fun t k => XS.bipush X61.here hx rfl (hb hby d5_91) k) ?_
  refine ov T61 95 #[.val (.int n1), .val (.int c0), .val (.int c1), .val (.int c2)] [.int 62, .int 14, .ref b5, .ref b5, .ref b1, .ref b1] (fun t k => XS.bipush X61.here hx rfl (hb hby d5_93) k) ?_
  obtain ⟨cl65, Ar65, q65, S65, M65, H65, U65⟩ := id V61
  obtain ⟨T65, h65, X65, e65, W65, st65⟩ := stC X61 hx hZ e61 Ar65 (j := (14 : Int32)) (inb_of S65 ⟨by decide, by decide⟩) (g := (mkF m 95 #[.val (.int n1), .val (.int c0), .val (.int c1), .val (.int c2)] [.int 62, .int 14, .ref b5, .ref b5, .ref b1, .ref b1])) rfl rfl (hb hby d5_95)
  have sz66 : h61.size ≤ h65.size := Nat.le_of_eq W65.size.symm
  have O67 : Old Z n0 h65 := O63.wr W65 (by omega : n0 ≤ b5)
  have N65 := Fr.snoc X65 N61 (by omega : n0 ≤ b5)
  have K68 : Keep h0 h65 [] := K64.wr W65 (Or.inr (by omega : h0.size ≤ b5))
  have V65 : Arv Z h65 b5 k5 .char (19 : Int32) [.int 60, .int 33, .int 68, .int 79, .int 67, .int 84, .int 89, .int 80, .int 69, .int 32, .int 104, .int 116, .int 109, .int 108, .int 62, .int 0, .int 0, .int 0, .int 0] (.int 0) := Arv.set Ar65 q65 S65 M65 H65 U65 (fits_nar_char _) W65 14 rfl (Nat.le_of_ble_eq_true rfl)
  refine ov T65 96 #[.val (.int n1), .val (.int c0), .val (.int c1), .val (.int c2)] [.ref b5, .ref b1, .ref b1] st65 ?_
  refine ov T65 97 #[.val (.int n1), .val (.int c0), .val (.int c1), .val (.int c2)] [.ref b5, .ref b5, .ref b1, .ref b1] (fun t k => XS.dup X65.here hx rfl (hb hby d5_96) rfl rfl k) ?_
  refine ov T65 99 #[.val (.int n1), .val (.int c0), .val (.int c1), .val (.int c2)] [.int 15, .ref b5, .ref b5, .ref b1, .ref b1] (fun t k => XS.bipush X65.here hx rfl (hb hby d5_97) k) ?_
  refine ov T65 101 #[.val (.int n1), .val (.int c0), .val (.int c1), .val (.int c2)] [.int 10, .int 15, .ref b5, .ref b5, .ref b1, .ref b1] (fun t k => XS.bipush X65.here hx rfl (hb hby d5_99) k) ?_
  obtain ⟨cl69, Ar69, q69, S69, M69, H69, U69⟩ := id V65
  obtain ⟨T69, h69, X69, e69, W69, st69⟩ := stC X65 hx hZ e65 Ar69 (j := (15 : Int32)) (inb_of S69 ⟨by decide, by decide⟩) (g := (mkF m 101 #[.val (.int n1), .val (.int c0), .val (.int c1), .val (.int c2)] [.int 10, .int 15, .ref b5, .ref b5, .ref b1, .ref b1])) rfl rfl (hb hby d5_101)
  have sz70 : h65.size ≤ h69.size := Nat.le_of_eq W69.size.symm
  have O71 : Old Z n0 h69 := O67.wr W69 (by omega : n0 ≤ b5)
  have N69 := Fr.snoc X69 N65 (by omega : n0 ≤ b5)
  have K72 : Keep h0 h69 [] := K68.wr W69 (Or.inr (by omega : h0.size ≤ b5))
  have V69 : Arv Z h69 b5 k5 .char (19 : Int32) [.int 60, .int 33, .int 68, .int 79, .int 67, .int 84, .int 89, .int 80, .int 69, .int 32, .int 104, .int 116, .int 109, .int 108, .int 62, .int 10, .int 0, .int 0, .int 0] (.int 0) := Arv.set Ar69 q69 S69 M69 H69 U69 (fits_nar_char _) W69 15 rfl (Nat.le_of_ble_eq_true rfl)
  refine ov T69 102 #[.val (.int n1), .val (.int c0), .val (.int c1), .val (.int c2)] [.ref b5, .ref b1, .ref b1] st69 ?_
  refine ov T69 103 #[.val (.int n1), .val (.int c0), .val (.int c1), .val (.int c2)] [.ref b5, .ref b5, .ref b1, .ref b1] (fun t k => XS.dup X69.here hx rfl (hb hby d5_102) rfl rfl k) ?_
  refine ov T69 105 #[.val (.int n1), .val (.int c0), .val (.int c1), .val (.int c2)] [.int 16, .ref b5, .ref b5, .ref b1, .ref b1] (fun t k => XS.bipush X69.here hx rfl (hb hby d5_103) k) ?_
  refine ov T69 107 #[.val (.int n1), .val (.int c0), .val (.int c1), .val (.int c2)] [.int 60, .int 16, .ref b5, .ref b5, .ref b1, .ref b1] (fun t k => XS.bipush X69.here hx rfl (hb hby d5_105) k) ?_
  obtain ⟨cl73, Ar73, q73, S73, M73, H73, U73⟩ := id V69
  obtain ⟨T73, h73, X73, e73, W73, st73⟩ := stC X69 hx hZ e69 Ar73 (j := (16 : Int32)) (inb_of S73 ⟨by decide, by decide⟩) (g := (mkF m 107 #[.val (.int n1), .val (.int c0), .val (.int c1), .val (.int c2)] [.int 60, .int 16, .ref b5, .ref b5, .ref b1, .ref b1])) rfl rfl (hb hby d5_107)
  have sz74 : h69.size ≤ h73.size := Nat.le_of_eq W73.size.symm
  have O75 : Old Z n0 h73 := O71.wr W73 (by omega : n0 ≤ b5)
  have N73 := Fr.snoc X73 N69 (by omega : n0 ≤ b5)
  have K76 : Keep h0 h73 [] := K72.wr W73 (Or.inr (by omega : h0.size ≤ b5))
  have V73 : Arv Z h73 b5 k5 .char (19 : Int32) [.int 60, .int 33, .int 68, .int 79, .int 67, .int 84, .int 89, .int 80, .int 69, .int 32, .int 104, .int 116, .int 109, .int 108, .int 62, .int 10, .int 60, .int 0, .int 0] (.int 0) := Arv.set Ar73 q73 S73 M73 H73 U73 (fits_nar_char _) W73 16 rfl (Nat.le_of_ble_eq_true rfl)
  refine ov T73 108 #[.val (.int n1), .val (.int c0), .val (.int c1), .val (.int c2)] [.ref b5, .ref b1, .ref b1] st73 ?_
  refine ov T73 109 #[.val (.int n1), .val (.int c0), .val (.int c1), .val (.int c2)] [.ref b5, .ref b5, .ref b1, .ref b1] (fun t k => XS.dup X73.here hx rfl (hb hby d5_108) rfl rfl k) ?_
  refine ov T73 111 #[.val (.int n1), .val (.int c0), .val (.int c1), .val (.int c2)] [.int 17, .ref b5, .ref b5, .ref b1, .ref b1] (fun t k => XS.bipush X73.here hx rfl (hb hby d5_109) k) ?_
  refine ov T73 113 #[.val (.int n1), .val (.int c0), .val (.int c1), .val (.int c2)] [.int 47, .int 17, .ref b5, .ref b5, .ref b1, .ref b1] (fun t k => XS.bipush X73.here hx rfl (hb hby d5_111) k) ?_
  obtain ⟨cl77, Ar77, q77, S77, M77, H77, U77⟩ := id V73
  obtain ⟨T77, h77, X77, e77, W77, st77⟩ := stC X73 hx hZ e73 Ar77 (j := (17 : Int32)) (inb_of S77 ⟨by decide, by decide⟩) (g := (mkF m 113 #[.val (.int n1), .val (.int c0), .val (.int c1), .val (.int c2)] [.int 47, .int 17, .ref b5, .ref b5, .ref b1, .ref b1])) rfl rfl (hb hby d5_113)
  have sz78 : h73.size ≤ h77.size := Nat.le_of_eq W77.size.symm
  have O79 : Old Z n0 h77 := O75.wr W77 (by omega : n0 ≤ b5)
  have N77 := Fr.snoc X77 N73 (by omega : n0 ≤ b5)
  have K80 : Keep h0 h77 [] := K76.wr W77 (Or.inr (by omega : h0.size ≤ b5))
  have V77 : Arv Z h77 b5 k5 .char (19 : Int32) [.int 60, .int 33, .int 68, .int 79, .int 67, .int 84, .int 89, .int 80, .int 69, .int 32, .int 104, .int 116, .int 109, .int 108, .int 62, .int 10, .int 60, .int 47, .int 0] (.int 0) := Arv.set Ar77 q77 S77 M77 H77 U77 (fits_nar_char _) W77 17 rfl (Nat.le_of_ble_eq_true rfl)
  refine ov T77 114 #[.val (.int n1), .val (.int c0), .val (.int c1), .val (.int c2)] [.ref b5, .ref b1, .ref b1] st77 ?_
  refine ov T77 115 #[.val (.int n1), .val (.int c0), .val (.int c1), .val (.int c2)] [.ref b5, .ref b5, .ref b1, .ref b1] (fun t k => XS.dup X77.here hx rfl (hb hby d5_114) rfl rfl k) ?_
  refine ov T77 117 #[.val (.int n1), .val (.int c0), .val (.int c1), .val (.int c2)] [.int 18, .ref b5, .ref b5, .ref b1, .ref b1] (fun t k => XS.bipush X77.here hx rfl (hb hby d5_115) k) ?_
  refine ov T77 119 #[.val (.int n1), .val (.int c0), .val (.int c1), .val (.int c2)] [.int 62, .int 18, .ref b5, .ref b5, .ref b1, .ref b1] (fun t k => XS.bipush X77.here hx rfl (hb hby d5_117) k) ?_
  obtain ⟨cl81, Ar81, q81, S81, M81, H81, U81⟩ := id V77
  obtain ⟨T81, h81, X81, e81, W81, st81⟩ := stC X77 hx hZ e77 Ar81 (j := (18 : Int32)) (inb_of S81 ⟨by decide, by decide⟩) (g := (mkF m 119 #[.val (.int n1), .val (.int c0), .val (.int c1), .val (.int c2)] [.int 62, .int 18, .ref b5, .ref b5, .ref b1, .ref b1])) rfl rfl (hb hby d5_119)
  have sz82 : h77.size ≤ h81.size := Nat.le_of_eq W81.size.symm
  have O83 : Old Z n0 h81 := O79.wr W81 (by omega : n0 ≤ b5)
  have N81 := Fr.snoc X81 N77 (by omega : n0 ≤ b5)
  have K84 : Keep h0 h81 [] := K80.wr W81 (Or.inr (by omega : h0.size ≤ b5))
  have V81 : Arv Z h81 b5 k5 .char (19 : Int32) [.int 60, .int 33, .int 68, .int 79, .int 67, .int 84, .int 89, .int 80, .int 69, .int 32, .int 104, .int 116, .int 109, .int 108, .int 62, .int 10, .int 60, .int 47, .int 62] (.int 0) := Arv.set Ar81 q81 S81 M81 H81 U81 (fits_nar_char _) W81 18 rfl (Nat.le_of_ble_eq_true rfl)
  refine ov T81 120 #[.val (.int n1), .val (.int c0), .val (.int c1), .val (.int c2)] [.ref b5, .ref b1, .ref b1] st81 ?_
  have cx86 : Exa Z h81 b1 "java/lang/String" := (Exa.wr W81 (Exa.wr W77 (Exa.wr W73 (Exa.wr W69 (Exa.wr W65 (Exa.wr W61 (Exa.wr W57 (Exa.wr W53 (Exa.wr W49 (Exa.wr W45 (Exa.wr W41 (Exa.wr W37 (Exa.wr W33 (Exa.wr W29 (Exa.wr W25 (Exa.wr W21 (Exa.wr W17 (Exa.wr W13 (Exa.wr W9 (A1.ext E5))))))))))))))))))))
  have ne_b1_b5 : b1 ≠ b5 := by first | exact (Exa.neArv cx86 V81 (wd5 hw)) | exact Nat.ne_of_lt (by omega) | exact Nat.ne_of_gt (by omega)
  have cx87 : Fld Z h81 b1 "java/lang/String" "value" "[B" .null := (Fld.other W81 (Fld.other W77 (Fld.other W73 (Fld.other W69 (Fld.other W65 (Fld.other W61 (Fld.other W57 (Fld.other W53 (Fld.other W49 (Fld.other W45 (Fld.other W41 (Fld.other W37 (Fld.other W33 (Fld.other W29 (Fld.other W25 (Fld.other W21 (Fld.other W17 (Fld.other W13 (Fld.other W9 (F1_value.ext E5) (Or.inl ne_b1_b5)) (Or.inl ne_b1_b5)) (Or.inl ne_b1_b5)) (Or.inl ne_b1_b5)) (Or.inl ne_b1_b5)) (Or.inl ne_b1_b5)) (Or.inl ne_b1_b5)) (Or.inl ne_b1_b5)) (Or.inl ne_b1_b5)) (Or.inl ne_b1_b5)) (Or.inl ne_b1_b5)) (Or.inl ne_b1_b5)) (Or.inl ne_b1_b5)) (Or.inl ne_b1_b5)) (Or.inl ne_b1_b5)) (Or.inl ne_b1_b5)) (Or.inl ne_b1_b5)) (Or.inl ne_b1_b5)) (Or.inl ne_b1_b5))
  have cx88 : Fld Z h81 b1 "java/lang/String" "coder" "B" (.int 0) := (Fld.other W81 (Fld.other W77 (Fld.other W73 (Fld.other W69 (Fld.other W65 (Fld.other W61 (Fld.other W57 (Fld.other W53 (Fld.other W49 (Fld.other W45 (Fld.other W41 (Fld.other W37 (Fld.other W33 (Fld.other W29 (Fld.other W25 (Fld.other W21 (Fld.other W17 (Fld.other W13 (Fld.other W9 (F1_coder.ext E5) (Or.inl ne_b1_b5)) (Or.inl ne_b1_b5)) (Or.inl ne_b1_b5)) (Or.inl ne_b1_b5)) (Or.inl ne_b1_b5)) (Or.inl ne_b1_b5)) (Or.inl ne_b1_b5)) (Or.inl ne_b1_b5)) (Or.inl ne_b1_b5)) (Or.inl ne_b1_b5)) (Or.inl ne_b1_b5)) (Or.inl ne_b1_b5)) (Or.inl ne_b1_b5)) (Or.inl ne_b1_b5)) (Or.inl ne_b1_b5)) (Or.inl ne_b1_b5)) (Or.inl ne_b1_b5)) (Or.inl ne_b1_b5)) (Or.inl ne_b1_b5))
  have cx89 : Sta Z h81 "java/lang/String" "COMPACT_STRINGS" "Z" (.int zc) := zfC.ext O83.2
  have hws85 := own_mw hw
  have hp85 : ∀ c ∈ ([60, 33, 68, 79, 67, 84, 89, 80, 69, 32, 104, 116, 109, 108, 62, 10, 60, 47, 62] : List Int32), ¬ c < 0 ∧ ¬ (255 : Int32) < c := by
    intro c hc
    simp only [List.mem_cons, List.not_mem_nil, or_false] at hc
    rcases hc with rfl | rfl | rfl | rfl | rfl | rfl | rfl | rfl | rfl | rfl | rfl | rfl | rfl | rfl | rfl | rfl | rfl | rfl | rfl
    · exact by decide
    · exact by decide
    · exact by decide
    · exact by decide
    · exact by decide
    · exact by decide
    · exact by decide
    · exact by decide
    · exact by decide
    · exact by decide
    · exact by decide
    · exact by decide
    · exact by decide
    · exact by decide
    · exact by decide
    · exact by decide
    · exact by decide
    · exact by decide
    · exact by decide
  obtain ⟨_, _, ⟨T85, Lp85, kp85, np85⟩, -, X85, ⟨Lc85, hQ85, l85, y85, z85⟩, st85⟩ := X81.specialBack hx (y := mt24) rfl hown (mvT hZ (wd8 hw)) (mvT hZ (wd9 hw)) (mvT hZ (wd10 hw)) (by decide) (StrChars.Road.backV (W := 1) hZ hws85 (kI := 4) (wd5 hw) (cs := ([60, 33, 68, 79, 67, 84, 89, 80, 69, 32, 104, 116, 109, 108, 62, 10, 60, 47, 62] : List Int32)) (bs := (([60, 33, 68, 79, 67, 84, 89, 80, 69, 32, 104, 116, 109, 108, 62, 10, 60, 47, 62] : List Int32)).map (fun c => c.toInt8.toInt32)) (n := 19) (by omega : n0 ≤ b1) (by omega : n0 ≤ h81.size) cx86 cx87 cx88 V81 cx89 hzc rfl rfl (by decide) (by decide) hp85 rfl (by decide) (by decide)) (g := (mkF m 120 #[.val (.int n1), .val (.int c0), .val (.int c1), .val (.int c2)] [.ref b5, .ref b1, .ref b1])) rfl (by rw [hml]; rfl) (Steps.refl _) (a := b1) (argsL := [.ref b5]) (rest := [.ref b1]) (lenOf pd___C_V_325 rfl) rfl (by show 2 * 0 + _ ≤ _; exact Nat.le_of_eq rfl) (hb hby d5_120) (fun _ _ => ⟨rfl, e81, (by decide : 2 + 1 ≤ _), (by decide : 23 + 19 ≤ _)⟩)
  dsimp only [Pt.U, Pt.locs, Pt.cells, Pt.slots] at X85 l85 y85 z85 st85 hQ85
  subst Lp85 kp85 np85
  obtain ⟨rfl, N85q, K85q, f85_0, f85_1, t85, kb85, tg85, tg85', tn85, f85_2, f85_3⟩ := hQ85
  have N85 := Fr.app N81 N85q
  have sz90 : h81.size ≤ T85.heap.size := K85q.1
  have O91 : Old Z n0 T85.heap := O83.keep K85q (allS (by omega : n0 ≤ b1) all0)
  have K92 : Keep h0 T85.heap [] := K84.trans K85q (allS (P := fun x => x ∈ [] ∨ h0.size ≤ x) (Or.inr (by omega)) all0)
  have lt_t85 : T85.heap.size > t85 := f85_3.lt
  refine own_tr (S' := T85.setTop (mkF m 123 #[.val (.int n1), .val (.int c0), .val (.int c1), .val (.int c2)] [.ref b1])) st85 ?_
  refine own_ret (Q := Q_own_exp0 Z n1 c0 c1 c2 zc h0 n0) (C := rm4_3_42_66.cells) (N := rm4_3_42_66.slots) X85 (v := some (.ref b1)) (fun h => by rw [Bd.returns] at h; cases h) Bd.notSynchronized ?_ (by decide) (by decide) (fun fs hr => retOut X85 hx Bd.returns rfl (Or.inr (Or.inr (Or.inr (Or.inr ⟨rfl, rfl, rfl⟩)))) (hb hby d5_123) hr)
  show Q_own_exp0 Z n1 c0 c1 c2 zc h0 n0 _ T85.heap _
  exact ⟨b1, t85, kb85, rfl, N85, K92, f85_0, f85_2, f85_1, f85_3⟩
def Q_own_tag1 (Z : State) (n1 : Int32) (c0 : Int32) (c1 : Int32) (c2 : Int32) (zc : Int32) (h0 : Heap) (n0 : Nat) (v : Option Value) (vm : Vm) (h : Heap) (L : List Loc) : Prop := ∃ b : Addr, ∃ tb : Addr, ∃ kb : ClassId, v = some (.ref b) ∧ Fr n0 L ∧ Keep h0 h [] ∧ Exa Z h b "java/lang/String" ∧ Fld Z h b "java/lang/String" "value" "[B" (.ref tb) ∧ Fld Z h b "java/lang/String" "coder" "B" (.int 0) ∧ Arv Z h tb kb .byte (1 : Int32) [(.int (c0.toInt8.toInt32))] (.int 0)
set_option maxRecDepth 65536 in
set_option maxHeartbeats 40000000 in
theorem own_tag1 (l : Launch) (Z : State) (a0 : Array Value) (hw : ∀ d ∈ tables_1, d.before a0 Z = true) (ws : List Jvm.Cond) (n1 : Int32) (c0 : Int32) (c1 : Int32) (c2 : Int32) (zc : Int32) (h0 : Heap) (n0 : Nat) (O0 : Old Z n0 h0) (zfC : Sta Z Z.heap "java/lang/String" "COMPACT_STRINGS" "Z" (.int zc)) (hzc : ¬ (zc = (0 : Int32))) (rc0 : ¬ c0 < 0 ∧ ¬ (255 : Int32) < c0) (rc1 : ¬ c1 < 0 ∧ ¬ (255 : Int32) < c1) (rc2 : ¬ c2 < 0 ∧ ¬ (255 : Int32) < c2) (hn0 : ¬ (n1 = (0 : Int32))) (hn1 : n1 = (1 : Int32)) :
    MetFree l mt30 (head1 (Jvm.Cond.code mt30 method_3_code 4 (some (.object "java/lang/String")) :: ws) rm4_3_6_66) (fun aq U => aq = #[.int n1, .int c0, .int c1, .int c2] ∧ Z.Warmed39 U.vm ∧ U.heap = h0 ∧ CHv Z own_EL U.vm h0 ∧ ∀ x ∈ ([] : List Addr), Safe Z own_EL U.vm h0 x) (fun _ _ _ _ _ => True) (fun _ U o U' => ∃ v L, o = .returned v ∧ Q_own_tag1 Z n1 c0 c1 c2 zc h0 n0 v U'.vm U'.heap L ∧ CHr Z own_EL U.vm U.heap U'.vm U'.heap ∧ ReturnedEndW U o U' L rm4_3_6_66.cells rm4_3_6_66.slots) := by
  refine MetFree.of_bodySF (plainFor_of_name pn_com_example_regent_regent_HtmlClosePinLaw) hisR ?_
  intro p e s m args below meth c s₁ Bd hml0 hP hK
  obtain ⟨rfl, hZ, hh, hCH, hSL⟩ := hP
  have hx := Bd.exec
  have hby := Bd.bytes
  have hml : c.maxLocals = 4 := hml0
  have hown : s.vm.findClass "com/example/regent/regent/HtmlClosePinLaw" = some m.cls := findClass_of_methodNamed Bd.named
  have hnm := (name_of_methodNamed Bd.named Bd.method).1
  have X0 : Stand p l e rm4_3_6_66 (s.setVm s.vm) m #[.int n1, .int c0, .int c1, .int c2] below meth c s₁ [] 0 0 := Stand.of_body Bd
  have e0 : s₁.heap = h0 := by rw [← hh, Bd.state]; rfl
  have N0 := Fr.nil n0
  have zO := O0.1
  have zO2 := O0.2.1
  refine own_open (own_via (S' := s₁.setTop (mkF m 0 #[.val (.int n1), .val (.int c0), .val (.int c1), .val (.int c2)] [])) (fun t k => castTop (ef_own_tag1 m n1 c0 c1 c2) k) ?_)
  have hEL := own_EW hw
  have hS0 : s.Since s.vm h0.size := (State.WarmedH.refl s).since _
  have R0 : CHr Z own_EL s.vm h0 s.vm h0 := CHr.refl hCH
  have K0 : Keep h0 h0 [] := Keep.refl _ _
  refine ov s₁ 1 #[.val (.int n1), .val (.int c0), .val (.int c1), .val (.int c2)] [.int n1] (fun t k => XS.iloadN X0.here hx rfl (hb hby d1_0) rfl k) ?_
  refine ov s₁ 15 #[.val (.int n1), .val (.int c0), .val (.int c1), .val (.int c2)] [] (fun t k => XS.ifYes X0.here hx rfl (pc0 := 1) (pc' := 15) rfl (hb hby d1_1) rfl ((if0 _ _).trans (feq hn0).2) (by decide) (by decide) k) ?_
  refine ov s₁ 16 #[.val (.int n1), .val (.int c0), .val (.int c1), .val (.int c2)] [.int n1] (fun t k => XS.iloadN X0.here hx rfl (hb hby d1_15) rfl k) ?_
  refine ov s₁ 17 #[.val (.int n1), .val (.int c0), .val (.int c1), .val (.int c2)] [.int 1, .int n1] (fun t k => XS.iconst X0.here hx rfl (hb hby d1_16) k) ?_
  refine ov s₁ 20 #[.val (.int n1), .val (.int c0), .val (.int c1), .val (.int c2)] [] (fun t k => XS.icmpNo X0.here hx rfl (hb hby d1_17) rfl (teq hn1).2 k) ?_
  obtain ⟨T1, h1, X1, e1, E1, A1, D1, -, st1⟩ := newO X0 hx hZ hown (wd4 hw) (wd5 hw) (wd6 hw) e0 (g := (mkF m 20 #[.val (.int n1), .val (.int c0), .val (.int c1), .val (.int c2)] [])) rfl (hb hby d1_20) (by decide) (by decide)
  obtain ⟨b1, g1⟩ : ∃ z, z = h0.size := ⟨_, rfl⟩
  rw [← g1] at A1 D1 st1
  have lt_b1 : h1.size > b1 := A1.lt
  have sz2 : h0.size ≤ h1.size := E1.1
  have O3 : Old Z n0 h1 := O0.ext E1
  have R4 : CHr Z own_EL s.vm h0 s.vm h1 := R0.trans (CHr.ext E1 R0.1)
  have SF_b1 : Safe Z own_EL s.vm h1 b1 := Safe.ext E1 R0.1 (Safe.new (Nat.le_of_eq g1.symm))
  have K5 : Keep h0 h1 [] := K0.ext E1
  have F1_value : Fld Z h1 b1 "java/lang/String" "value" "[B" .null := D1 (Or.inr (wd20 hw)) (ty := (.array .byte)) (by decide)
  have F1_coder : Fld Z h1 b1 "java/lang/String" "coder" "B" (.int 0) := D1 (Or.inr (wd21 hw)) (ty := .byte) (by decide)
  refine ov T1 23 #[.val (.int n1), .val (.int c0), .val (.int c1), .val (.int c2)] [.ref b1] st1 ?_
  refine ov T1 24 #[.val (.int n1), .val (.int c0), .val (.int c1), .val (.int c2)] [.ref b1, .ref b1] (fun t k => XS.dup X1.here hx rfl (hb hby d1_23) rfl rfl k) ?_
  refine ov T1 25 #[.val (.int n1), .val (.int c0), .val (.int c1), .val (.int c2)] [.int 1, .ref b1, .ref b1] (fun t k => XS.iconst X1.here hx rfl (hb hby d1_24) k) ?_
  obtain ⟨T6, h6, k6, X6, e6, E6, A6, st6⟩ := newP (aty := .char) X1 hx hZ (wd7 hw) e1 (g := (mkF m 25 #[.val (.int n1), .val (.int c0), .val (.int c1), .val (.int c2)] [.int 1, .ref b1, .ref b1])) rfl (hb hby d1_25) rfl (by decide : ¬ ((1 : Int32) < (0 : Int32))) (cap := 1) (by decide) (by decide) (by decide) (by decide)
  obtain ⟨b6, g6⟩ : ∃ z, z = h1.size := ⟨_, rfl⟩
  rw [← g6] at A6 st6
  have lt_b6 : h6.size > b6 := A6.lt
  have sz7 : h1.size ≤ h6.size := E6.1
  have O8 : Old Z n0 h6 := O3.ext E6
  have R9 : CHr Z own_EL s.vm h0 s.vm h6 := R4.trans (CHr.ext E6 R4.1)
  have K10 : Keep h0 h6 [] := K5.ext E6
  have V6 : Arv Z h6 b6 k6 .char (1 : Int32) [.int 0] (.int 0) := (Arv.new A6 (by decide)).pad (pad_rep [] (.int 0) 1)
  refine ov T6 27 #[.val (.int n1), .val (.int c0), .val (.int c1), .val (.int c2)] [.ref b6, .ref b1, .ref b1] st6 ?_
  refine ov T6 28 #[.val (.int n1), .val (.int c0), .val (.int c1), .val (.int c2)] [.ref b6, .ref b6, .ref b1, .ref b1] (fun t k => XS.dup X6.here hx rfl (hb hby d1_27) rfl rfl k) ?_
  refine ov T6 29 #[.val (.int n1), .val (.int c0), .val (.int c1), .val (.int c2)] [.int 0, .ref b6, .ref b6, .ref b1, .ref b1] (fun t k => XS.iconst X6.here hx rfl (hb hby d1_28) k) ?_
  refine ov T6 30 #[.val (.int n1), .val (.int c0), .val (.int c1), .val (.int c2)] [.int c0, .int 0, .ref b6, .ref b6, .ref b1, .ref b1] (fun t k => XS.iloadN X6.here hx rfl (hb hby d1_29) rfl k) ?_
  obtain ⟨cl11, Ar11, q11, S11, M11, H11, U11⟩ := id V6
  obtain ⟨T11, h11, X11, e11, W11, st11⟩ := stC X6 hx hZ e6 Ar11 (j := (0 : Int32)) (inb_of S11 ⟨by decide, by decide⟩) (g := (mkF m 30 #[.val (.int n1), .val (.int c0), .val (.int c1), .val (.int c2)] [.int c0, .int 0, .ref b6, .ref b6, .ref b1, .ref b1])) rfl rfl (hb hby d1_30)
  have sf11 : Safe Z own_EL s.vm h6 b6 := (Safe.arv hZ.alike V6 (by decide))
  have sz12 : h6.size ≤ h11.size := Nat.le_of_eq W11.size.symm
  have R13 : CHr Z own_EL s.vm h0 s.vm h11 := R9.trans (CHr.wr W11 sf11 R9.1)
  have O14 : Old Z n0 h11 := O8.wr W11 (by omega : n0 ≤ b6)
  have N11 := Fr.snoc X11 N0 (by omega : n0 ≤ b6)
  have K15 : Keep h0 h11 [] := K10.wr W11 (Or.inr (by omega : h0.size ≤ b6))
  rw [own_narc rc0] at W11
  have V11 : Arv Z h11 b6 k6 .char (1 : Int32) [.int c0] (.int 0) := Arv.set Ar11 q11 S11 M11 H11 U11 (own_fitc rc0) W11 0 rfl (Nat.le_of_ble_eq_true rfl)
  refine ov T11 31 #[.val (.int n1), .val (.int c0), .val (.int c1), .val (.int c2)] [.ref b6, .ref b1, .ref b1] st11 ?_
  have cx17 : Exa Z h11 b1 "java/lang/String" := (Exa.wr W11 (A1.ext E6))
  have ne_b1_b6 : b1 ≠ b6 := by first | exact (Exa.neArv cx17 V11 (wd5 hw)) | exact Nat.ne_of_lt (by omega) | exact Nat.ne_of_gt (by omega)
  have cx18 : Fld Z h11 b1 "java/lang/String" "value" "[B" .null := (Fld.other W11 (F1_value.ext E6) (Or.inl ne_b1_b6))
  have cx19 : Fld Z h11 b1 "java/lang/String" "coder" "B" (.int 0) := (Fld.other W11 (F1_coder.ext E6) (Or.inl ne_b1_b6))
  have cx20 : Sta Z h11 "java/lang/String" "COMPACT_STRINGS" "Z" (.int zc) := zfC.ext O14.2
  have hws16 := own_mw hw
  have hp16 : ∀ c ∈ ([c0] : List Int32), ¬ c < 0 ∧ ¬ (255 : Int32) < c := by
    intro c hc
    simp only [List.mem_cons, List.not_mem_nil, or_false] at hc
    rcases hc with rfl
    · exact rc0
  obtain ⟨_, _, ⟨T16, Lp16, kp16, np16⟩, -, X16, ⟨Lc16, hQ16, l16, y16, z16⟩, st16⟩ := X11.specialBack hx (y := mt24) rfl hown (mvT hZ (wd8 hw)) (mvT hZ (wd9 hw)) (mvT hZ (wd10 hw)) (by decide) (StrChars.Road.backV (W := 1) hZ hws16 (kI := 4) (wd5 hw) (cs := ([c0] : List Int32)) (bs := (([c0] : List Int32)).map (fun c => c.toInt8.toInt32)) (n := 1) (by omega : n0 ≤ b1) (by omega : n0 ≤ h11.size) cx17 cx18 cx19 V11 cx20 hzc rfl rfl (by decide) (by decide) hp16 rfl (by decide) (by decide)) (g := (mkF m 31 #[.val (.int n1), .val (.int c0), .val (.int c1), .val (.int c2)] [.ref b6, .ref b1, .ref b1])) rfl (by rw [hml]; rfl) (Steps.refl _) (a := b1) (argsL := [.ref b6]) (rest := [.ref b1]) (lenOf pd___C_V_325 rfl) rfl (by show 2 * 0 + _ ≤ _; exact Nat.le_of_eq rfl) (hb hby d1_31) (fun _ _ => ⟨rfl, e11, (by decide : 2 + 1 ≤ _), (by decide : 5 + 1 ≤ _)⟩)
  dsimp only [Pt.U, Pt.locs, Pt.cells, Pt.slots] at X16 l16 y16 z16 st16 hQ16
  subst Lp16 kp16 np16
  obtain ⟨rfl, N16q, K16q, f16_0, f16_1, t16, kb16, tg16, tg16', tn16, f16_2, f16_3⟩ := hQ16
  have N16 := Fr.app N11 N16q
  have cx21 : Safe Z own_EL s.vm h11 b1 := (Safe.wr W11 sf11 R9.1 (Safe.ext E6 R4.1 SF_b1))
  have sf16 : ∀ x ∈ ([b1] : List Addr), Safe Z own_EL s.vm h11 x := (sfS cx21 sf0)
  have sz22 : h11.size ≤ T16.heap.size := K16q.1
  have R23 : CHr Z own_EL s.vm h0 s.vm T16.heap := R13.trans (CHr.keep K16q sf16 R13.1)
  have O24 : Old Z n0 T16.heap := O14.keep K16q (allS (by omega : n0 ≤ b1) all0)
  have K25 : Keep h0 T16.heap [] := K15.trans K16q (allS (P := fun x => x ∈ [] ∨ h0.size ≤ x) (Or.inr (by omega)) all0)
  have lt_t16 : T16.heap.size > t16 := f16_3.lt
  refine own_tr (S' := T16.setTop (mkF m 34 #[.val (.int n1), .val (.int c0), .val (.int c1), .val (.int c2)] [.ref b1])) st16 ?_
  have RTR23 : CHr Z own_EL s.vm h0 T16.vm T16.heap := R23.trans (CHv.at X16 hZ hEL R23.1)
  have RXR23 : CHr Z own_EL s.vm s.heap T16.vm T16.heap := by rw [hh]; exact RTR23
  refine own_retW (Q := Q_own_tag1 Z n1 c0 c1 c2 zc h0 n0) (C := rm4_3_6_66.cells) (N := rm4_3_6_66.slots) X16 hS0 (by omega) (v := some (.ref b1)) (fun h => by rw [Bd.returns] at h; cases h) Bd.notSynchronized ?_ RXR23 (by decide) (by decide) (fun fs hr => retOut X16 hx Bd.returns rfl (Or.inr (Or.inr (Or.inr (Or.inr ⟨rfl, rfl, rfl⟩)))) (hb hby d1_34) hr)
  show Q_own_tag1 Z n1 c0 c1 c2 zc h0 n0 _ T16.vm T16.heap _
  exact ⟨b1, t16, kb16, rfl, N16, K25, f16_0, f16_2, f16_1, f16_3⟩
def Q_own_exp1 (Z : State) (n1 : Int32) (c0 : Int32) (c1 : Int32) (c2 : Int32) (zc : Int32) (h0 : Heap) (n0 : Nat) (v : Option Value) (h : Heap) (L : List Loc) : Prop := ∃ b : Addr, ∃ tb : Addr, ∃ kb : ClassId, v = some (.ref b) ∧ Fr n0 L ∧ Keep h0 h [] ∧ Exa Z h b "java/lang/String" ∧ Fld Z h b "java/lang/String" "value" "[B" (.ref tb) ∧ Fld Z h b "java/lang/String" "coder" "B" (.int 0) ∧ Arv Z h tb kb .byte (20 : Int32) [(.int ((60 : Int32).toInt8.toInt32)), (.int ((33 : Int32).toInt8.toInt32)), (.int ((68 : Int32).toInt8.toInt32)), (.int ((79 : Int32).toInt8.toInt32)), (.int ((67 : Int32).toInt8.toInt32)), (.int ((84 : Int32).toInt8.toInt32)), (.int ((89 : Int32).toInt8.toInt32)), (.int ((80 : Int32).toInt8.toInt32)), (.int ((69 : Int32).toInt8.toInt32)), (.int ((32 : Int32).toInt8.toInt32)), (.int ((104 : Int32).toInt8.toInt32)), (.int ((116 : Int32).toInt8.toInt32)), (.int ((109 : Int32).toInt8.toInt32)), (.int ((108 : Int32).toInt8.toInt32)), (.int ((62 : Int32).toInt8.toInt32)), (.int ((10 : Int32).toInt8.toInt32)), (.int ((60 : Int32).toInt8.toInt32)), (.int ((47 : Int32).toInt8.toInt32)), (.int (c0.toInt8.toInt32)), (.int ((62 : Int32).toInt8.toInt32))] (.int 0)
set_option maxRecDepth 65536 in
set_option maxHeartbeats 40000000 in
theorem own_exp1 (l : Launch) (Z : State) (a0 : Array Value) (hw : ∀ d ∈ tables_1, d.before a0 Z = true) (ws : List Jvm.Cond) (n1 : Int32) (c0 : Int32) (c1 : Int32) (c2 : Int32) (zc : Int32) (h0 : Heap) (n0 : Nat) (O0 : Old Z n0 h0) (zfC : Sta Z Z.heap "java/lang/String" "COMPACT_STRINGS" "Z" (.int zc)) (hzc : ¬ (zc = (0 : Int32))) (rc0 : ¬ c0 < 0 ∧ ¬ (255 : Int32) < c0) (rc1 : ¬ c1 < 0 ∧ ¬ (255 : Int32) < c1) (rc2 : ¬ c2 < 0 ∧ ¬ (255 : Int32) < c2) (hn0 : ¬ (n1 = (0 : Int32))) (hn1 : n1 = (1 : Int32)) :
    MetFree l mt31 (head1 (Jvm.Cond.code mt31 method_4_code 4 (some (.object "java/lang/String")) :: ws) rm4_3_44_66) (fun aq U => aq = #[.int n1, .int c0, .int c1, .int c2] ∧ Z.Warmed39 U.vm ∧ U.heap = h0) (fun _ _ _ _ _ => True) (fun _ U o U' => ∃ v L, o = .returned v ∧ Q_own_exp1 Z n1 c0 c1 c2 zc h0 n0 v U'.heap L ∧ FrameEnd U o U' L rm4_3_44_66.cells rm4_3_44_66.slots) := by
  refine MetFree.of_bodySF (plainFor_of_name pn_com_example_regent_regent_HtmlClosePinLaw) hisR ?_
  intro p e s m args below meth c s₁ Bd hml0 hP hK
  obtain ⟨rfl, hZ, hh⟩ := hP
  have hx := Bd.exec
  have hby := Bd.bytes
  have hml : c.maxLocals = 4 := hml0
  have hown : s.vm.findClass "com/example/regent/regent/HtmlClosePinLaw" = some m.cls := findClass_of_methodNamed Bd.named
  have hnm := (name_of_methodNamed Bd.named Bd.method).1
  have X0 : Stand p l e rm4_3_44_66 s m #[.int n1, .int c0, .int c1, .int c2] below meth c s₁ [] 0 0 := Stand.of_body Bd
  have e0 : s₁.heap = h0 := by rw [← hh, Bd.state]; rfl
  have N0 := Fr.nil n0
  have zO := O0.1
  have zO2 := O0.2.1
  refine own_open (own_via (S' := s₁.setTop (mkF m 0 #[.val (.int n1), .val (.int c0), .val (.int c1), .val (.int c2)] [])) (fun t k => castTop (ef_own_exp1 m n1 c0 c1 c2) k) ?_)
  have K0 : Keep h0 h0 [] := Keep.refl _ _
  refine ov s₁ 1 #[.val (.int n1), .val (.int c0), .val (.int c1), .val (.int c2)] [.int n1] (fun t k => XS.iloadN X0.here hx rfl (hb hby d5_0) rfl k) ?_
  refine ov s₁ 124 #[.val (.int n1), .val (.int c0), .val (.int c1), .val (.int c2)] [] (fun t k => XS.ifYes X0.here hx rfl (pc0 := 1) (pc' := 124) rfl (hb hby d5_1) rfl ((if0 _ _).trans (feq hn0).2) (by decide) (by decide) k) ?_
  refine ov s₁ 125 #[.val (.int n1), .val (.int c0), .val (.int c1), .val (.int c2)] [.int n1] (fun t k => XS.iloadN X0.here hx rfl (hb hby d5_124) rfl k) ?_
  refine ov s₁ 126 #[.val (.int n1), .val (.int c0), .val (.int c1), .val (.int c2)] [.int 1, .int n1] (fun t k => XS.iconst X0.here hx rfl (hb hby d5_125) k) ?_
  refine ov s₁ 129 #[.val (.int n1), .val (.int c0), .val (.int c1), .val (.int c2)] [] (fun t k => XS.icmpNo X0.here hx rfl (hb hby d5_126) rfl (teq hn1).2 k) ?_
  obtain ⟨T1, h1, X1, e1, E1, A1, D1, -, st1⟩ := newO X0 hx hZ hown (wd4 hw) (wd5 hw) (wd6 hw) e0 (g := (mkF m 129 #[.val (.int n1), .val (.int c0), .val (.int c1), .val (.int c2)] [])) rfl (hb hby d5_129) (by decide) (by decide)
  obtain ⟨b1, g1⟩ : ∃ z, z = h0.size := ⟨_, rfl⟩
  rw [← g1] at A1 D1 st1
  have lt_b1 : h1.size > b1 := A1.lt
  have sz2 : h0.size ≤ h1.size := E1.1
  have O3 : Old Z n0 h1 := O0.ext E1
  have K4 : Keep h0 h1 [] := K0.ext E1
  have F1_value : Fld Z h1 b1 "java/lang/String" "value" "[B" .null := D1 (Or.inr (wd20 hw)) (ty := (.array .byte)) (by decide)
  have F1_coder : Fld Z h1 b1 "java/lang/String" "coder" "B" (.int 0) := D1 (Or.inr (wd21 hw)) (ty := .byte) (by decide)
  refine ov T1 132 #[.val (.int n1), .val (.int c0), .val (.int c1), .val (.int c2)] [.ref b1] st1 ?_
  refine ov T1 133 #[.val (.int n1), .val (.int c0), .val (.int c1), .val (.int c2)] [.ref b1, .ref b1] (fun t k => XS.dup X1.here hx rfl (hb hby d5_132) rfl rfl k) ?_
  refine ov T1 135 #[.val (.int n1), .val (.int c0), .val (.int c1), .val (.int c2)] [.int 20, .ref b1, .ref b1] (fun t k => XS.bipush X1.here hx rfl (hb hby d5_133) k) ?_
  obtain ⟨T5, h5, k5, X5, e5, E5, A5, st5⟩ := newP (aty := .char) X1 hx hZ (wd7 hw) e1 (g := (mkF m 135 #[.val (.int n1), .val (.int c0), .val (.int c1), .val (.int c2)] [.int 20, .ref b1, .ref b1])) rfl (hb hby d5_135) rfl (by decide : ¬ ((20 : Int32) < (0 : Int32))) (cap := 20) (by decide) (by decide) (by decide) (by decide)
  obtain ⟨b5, g5⟩ : ∃ z, z = h1.size := ⟨_, rfl⟩
  rw [← g5] at A5 st5
  have lt_b5 : h5.size > b5 := A5.lt
  have sz6 : h1.size ≤ h5.size := E5.1
  have O7 : Old Z n0 h5 := O3.ext E5
  have K8 : Keep h0 h5 [] := K4.ext E5
  have V5 : Arv Z h5 b5 k5 .char (20 : Int32) [.int 0, .int 0, .int 0, .int 0, .int 0, .int 0, .int 0, .int 0, .int 0, .int 0, .int 0, .int 0, .int 0, .int 0, .int 0, .int 0, .int 0, .int 0, .int 0, .int 0] (.int 0) := (Arv.new A5 (by decide)).pad (pad_rep [] (.int 0) 20)
  refine ov T5 137 #[.val (.int n1), .val (.int c0), .val (.int c1), .val (.int c2)] [.ref b5, .ref b1, .ref b1] st5 ?_
  refine ov T5 138 #[.val (.int n1), .val (.int c0), .val (.int c1), .val (.int c2)] [.ref b5, .ref b5, .ref b1, .ref b1] (fun t k => XS.dup X5.here hx rfl (hb hby d5_137) rfl rfl k) ?_
  refine ov T5 139 #[.val (.int n1), .val (.int c0), .val (.int c1), .val (.int c2)] [.int 0, .ref b5, .ref b5, .ref b1, .ref b1] (fun t k => XS.iconst X5.here hx rfl (hb hby d5_138) k) ?_
  refine ov T5 141 #[.val (.int n1), .val (.int c0), .val (.int c1), .val (.int c2)] [.int 60, .int 0, .ref b5, .ref b5, .ref b1, .ref b1] (fun t k => XS.bipush X5.here hx rfl (hb hby d5_139) k) ?_
  obtain ⟨cl9, Ar9, q9, S9, M9, H9, U9⟩ := id V5
  obtain ⟨T9, h9, X9, e9, W9, st9⟩ := stC X5 hx hZ e5 Ar9 (j := (0 : Int32)) (inb_of S9 ⟨by decide, by decide⟩) (g := (mkF m 141 #[.val (.int n1), .val (.int c0), .val (.int c1), .val (.int c2)] [.int 60, .int 0, .ref b5, .ref b5, .ref b1, .ref b1])) rfl rfl (hb hby d5_141)
  have sz10 : h5.size ≤ h9.size := Nat.le_of_eq W9.size.symm
  have O11 : Old Z n0 h9 := O7.wr W9 (by omega : n0 ≤ b5)
  have N9 := Fr.snoc X9 N0 (by omega : n0 ≤ b5)
  have K12 : Keep h0 h9 [] := K8.wr W9 (Or.inr (by omega : h0.size ≤ b5))
  have V9 : Arv Z h9 b5 k5 .char (20 : Int32) [.int 60, .int 0, .int 0, .int 0, .int 0, .int 0, .int 0, .int 0, .int 0, .int 0, .int 0, .int 0, .int 0, .int 0, .int 0, .int 0, .int 0, .int 0, .int 0, .int 0] (.int 0) := Arv.set Ar9 q9 S9 M9 H9 U9 (fits_nar_char _) W9 0 rfl (Nat.le_of_ble_eq_true rfl)
  refine ov T9 142 #[.val (.int n1), .val (.int c0), .val (.int c1), .val (.int c2)] [.ref b5, .ref b1, .ref b1] st9 ?_
  refine ov T9 143 #[.val (.int n1), .val (.int c0), .val (.int c1), .val (.int c2)] [.ref b5, .ref b5, .ref b1, .ref b1] (fun t k => XS.dup X9.here hx rfl (hb hby d5_142) rfl rfl k) ?_
  refine ov T9 144 #[.val (.int n1), .val (.int c0), .val (.int c1), .val (.int c2)] [.int 1, .ref b5, .ref b5, .ref b1, .ref b1] (fun t k => XS.iconst X9.here hx rfl (hb hby d5_143) k) ?_
  refine ov T9 146 #[.val (.int n1), .val (.int c0), .val (.int c1), .val (.int c2)] [.int 33, .int 1, .ref b5, .ref b5, .ref b1, .ref b1] (fun t k => XS.bipush X9.here hx rfl (hb hby d5_144) k) ?_
  obtain ⟨cl13, Ar13, q13, S13, M13, H13, U13⟩ := id V9
  obtain ⟨T13, h13, X13, e13, W13, st13⟩ := stC X9 hx hZ e9 Ar13 (j := (1 : Int32)) (inb_of S13 ⟨by decide, by decide⟩) (g := (mkF m 146 #[.val (.int n1), .val (.int c0), .val (.int c1), .val (.int c2)] [.int 33, .int 1, .ref b5, .ref b5, .ref b1, .ref b1])) rfl rfl (hb hby d5_146)
  have sz14 : h9.size ≤ h13.size := Nat.le_of_eq W13.size.symm
  have O15 : Old Z n0 h13 := O11.wr W13 (by omega : n0 ≤ b5)
  have N13 := Fr.snoc X13 N9 (by omega : n0 ≤ b5)
  have K16 : Keep h0 h13 [] := K12.wr W13 (Or.inr (by omega : h0.size ≤ b5))
  have V13 : Arv Z h13 b5 k5 .char (20 : Int32) [.int 60, .int 33, .int 0, .int 0, .int 0, .int 0, .int 0, .int 0, .int 0, .int 0, .int 0, .int 0, .int 0, .int 0, .int 0, .int 0, .int 0, .int 0, .int 0, .int 0] (.int 0) := Arv.set Ar13 q13 S13 M13 H13 U13 (fits_nar_char _) W13 1 rfl (Nat.le_of_ble_eq_true rfl)
  refine ov T13 147 #[.val (.int n1), .val (.int c0), .val (.int c1), .val (.int c2)] [.ref b5, .ref b1, .ref b1] st13 ?_
  refine ov T13 148 #[.val (.int n1), .val (.int c0), .val (.int c1), .val (.int c2)] [.ref b5, .ref b5, .ref b1, .ref b1] (fun t k => XS.dup X13.here hx rfl (hb hby d5_147) rfl rfl k) ?_
  refine ov T13 149 #[.val (.int n1), .val (.int c0), .val (.int c1), .val (.int c2)] [.int 2, .ref b5, .ref b5, .ref b1, .ref b1] (fun t k => XS.iconst X13.here hx rfl (hb hby d5_148) k) ?_
  refine ov T13 151 #[.val (.int n1), .val (.int c0), .val (.int c1), .val (.int c2)] [.int 68, .int 2, .ref b5, .ref b5, .ref b1, .ref b1] (fun t k => XS.bipush X13.here hx rfl (hb hby d5_149) k) ?_
  obtain ⟨cl17, Ar17, q17, S17, M17, H17, U17⟩ := id V13
  obtain ⟨T17, h17, X17, e17, W17, st17⟩ := stC X13 hx hZ e13 Ar17 (j := (2 : Int32)) (inb_of S17 ⟨by decide, by decide⟩) (g := (mkF m 151 #[.val (.int n1), .val (.int c0), .val (.int c1), .val (.int c2)] [.int 68, .int 2, .ref b5, .ref b5, .ref b1, .ref b1])) rfl rfl (hb hby d5_151)
  have sz18 : h13.size ≤ h17.size := Nat.le_of_eq W17.size.symm
  have O19 : Old Z n0 h17 := O15.wr W17 (by omega : n0 ≤ b5)
  have N17 := Fr.snoc X17 N13 (by omega : n0 ≤ b5)
  have K20 : Keep h0 h17 [] := K16.wr W17 (Or.inr (by omega : h0.size ≤ b5))
  have V17 : Arv Z h17 b5 k5 .char (20 : Int32) [.int 60, .int 33, .int 68, .int 0, .int 0, .int 0, .int 0, .int 0, .int 0, .int 0, .int 0, .int 0, .int 0, .int 0, .int 0, .int 0, .int 0, .int 0, .int 0, .int 0] (.int 0) := Arv.set Ar17 q17 S17 M17 H17 U17 (fits_nar_char _) W17 2 rfl (Nat.le_of_ble_eq_true rfl)
  refine ov T17 152 #[.val (.int n1), .val (.int c0), .val (.int c1), .val (.int c2)] [.ref b5, .ref b1, .ref b1] st17 ?_
  refine ov T17 153 #[.val (.int n1), .val (.int c0), .val (.int c1), .val (.int c2)] [.ref b5, .ref b5, .ref b1, .ref b1] (fun t k => XS.dup X17.here hx rfl (hb hby d5_152) rfl rfl k) ?_
  refine ov T17 154 #[.val (.int n1), .val (.int c0), .val (.int c1), .val (.int c2)] [.int 3, .ref b5, .ref b5, .ref b1, .ref b1] (fun t k => XS.iconst X17.here hx rfl (hb hby d5_153) k) ?_
  refine ov T17 156 #[.val (.int n1), .val (.int c0), .val (.int c1), .val (.int c2)] [.int 79, .int 3, .ref b5, .ref b5, .ref b1, .ref b1] (fun t k => XS.bipush X17.here hx rfl (hb hby d5_154) k) ?_
  obtain ⟨cl21, Ar21, q21, S21, M21, H21, U21⟩ := id V17
  obtain ⟨T21, h21, X21, e21, W21, st21⟩ := stC X17 hx hZ e17 Ar21 (j := (3 : Int32)) (inb_of S21 ⟨by decide, by decide⟩) (g := (mkF m 156 #[.val (.int n1), .val (.int c0), .val (.int c1), .val (.int c2)] [.int 79, .int 3, .ref b5, .ref b5, .ref b1, .ref b1])) rfl rfl (hb hby d5_156)
  have sz22 : h17.size ≤ h21.size := Nat.le_of_eq W21.size.symm
  have O23 : Old Z n0 h21 := O19.wr W21 (by omega : n0 ≤ b5)
  have N21 := Fr.snoc X21 N17 (by omega : n0 ≤ b5)
  have K24 : Keep h0 h21 [] := K20.wr W21 (Or.inr (by omega : h0.size ≤ b5))
  have V21 : Arv Z h21 b5 k5 .char (20 : Int32) [.int 60, .int 33, .int 68, .int 79, .int 0, .int 0, .int 0, .int 0, .int 0, .int 0, .int 0, .int 0, .int 0, .int 0, .int 0, .int 0, .int 0, .int 0, .int 0, .int 0] (.int 0) := Arv.set Ar21 q21 S21 M21 H21 U21 (fits_nar_char _) W21 3 rfl (Nat.le_of_ble_eq_true rfl)
  refine ov T21 157 #[.val (.int n1), .val (.int c0), .val (.int c1), .val (.int c2)] [.ref b5, .ref b1, .ref b1] st21 ?_
  refine ov T21 158 #[.val (.int n1), .val (.int c0), .val (.int c1), .val (.int c2)] [.ref b5, .ref b5, .ref b1, .ref b1] (fun t k => XS.dup X21.here hx rfl (hb hby d5_157) rfl rfl k) ?_
  refine ov T21 159 #[.val (.int n1), .val (.int c0), .val (.int c1), .val (.int c2)] [.int 4, .ref b5, .ref b5, .ref b1, .ref b1] (fun t k => XS.iconst X21.here hx rfl (hb hby d5_158) k) ?_
  refine ov T21 161 #[.val (.int n1), .val (.int c0), .val (.int c1), .val (.int c2)] [.int 67, .int 4, .ref b5, .ref b5, .ref b1, .ref b1] (fun t k => XS.bipush X21.here hx rfl (hb hby d5_159) k) ?_
  obtain ⟨cl25, Ar25, q25, S25, M25, H25, U25⟩ := id V21
  obtain ⟨T25, h25, X25, e25, W25, st25⟩ := stC X21 hx hZ e21 Ar25 (j := (4 : Int32)) (inb_of S25 ⟨by decide, by decide⟩) (g := (mkF m 161 #[.val (.int n1), .val (.int c0), .val (.int c1), .val (.int c2)] [.int 67, .int 4, .ref b5, .ref b5, .ref b1, .ref b1])) rfl rfl (hb hby d5_161)
  have sz26 : h21.size ≤ h25.size := Nat.le_of_eq W25.size.symm
  have O27 : Old Z n0 h25 := O23.wr W25 (by omega : n0 ≤ b5)
  have N25 := Fr.snoc X25 N21 (by omega : n0 ≤ b5)
  have K28 : Keep h0 h25 [] := K24.wr W25 (Or.inr (by omega : h0.size ≤ b5))
  have V25 : Arv Z h25 b5 k5 .char (20 : Int32) [.int 60, .int 33, .int 68, .int 79, .int 67, .int 0, .int 0, .int 0, .int 0, .int 0, .int 0, .int 0, .int 0, .int 0, .int 0, .int 0, .int 0, .int 0, .int 0, .int 0] (.int 0) := Arv.set Ar25 q25 S25 M25 H25 U25 (fits_nar_char _) W25 4 rfl (Nat.le_of_ble_eq_true rfl)
  refine ov T25 162 #[.val (.int n1), .val (.int c0), .val (.int c1), .val (.int c2)] [.ref b5, .ref b1, .ref b1] st25 ?_
  refine ov T25 163 #[.val (.int n1), .val (.int c0), .val (.int c1), .val (.int c2)] [.ref b5, .ref b5, .ref b1, .ref b1] (fun t k => XS.dup X25.here hx rfl (hb hby d5_162) rfl rfl k) ?_
  refine ov T25 164 #[.val (.int n1), .val (.int c0), .val (.int c1), .val (.int c2)] [.int 5, .ref b5, .ref b5, .ref b1, .ref b1] (fun t k => XS.iconst X25.here hx rfl (hb hby d5_163) k) ?_
  refine ov T25 166 #[.val (.int n1), .val (.int c0), .val (.int c1), .val (.int c2)] [.int 84, .int 5, .ref b5, .ref b5, .ref b1, .ref b1] (fun t k => XS.bipush X25.here hx rfl (hb hby d5_164) k) ?_
  obtain ⟨cl29, Ar29, q29, S29, M29, H29, U29⟩ := id V25
  obtain ⟨T29, h29, X29, e29, W29, st29⟩ := stC X25 hx hZ e25 Ar29 (j := (5 : Int32)) (inb_of S29 ⟨by decide, by decide⟩) (g := (mkF m 166 #[.val (.int n1), .val (.int c0), .val (.int c1), .val (.int c2)] [.int 84, .int 5, .ref b5, .ref b5, .ref b1, .ref b1])) rfl rfl (hb hby d5_166)
  have sz30 : h25.size ≤ h29.size := Nat.le_of_eq W29.size.symm
  have O31 : Old Z n0 h29 := O27.wr W29 (by omega : n0 ≤ b5)
  have N29 := Fr.snoc X29 N25 (by omega : n0 ≤ b5)
  have K32 : Keep h0 h29 [] := K28.wr W29 (Or.inr (by omega : h0.size ≤ b5))
  have V29 : Arv Z h29 b5 k5 .char (20 : Int32) [.int 60, .int 33, .int 68, .int 79, .int 67, .int 84, .int 0, .int 0, .int 0, .int 0, .int 0, .int 0, .int 0, .int 0, .int 0, .int 0, .int 0, .int 0, .int 0, .int 0] (.int 0) := Arv.set Ar29 q29 S29 M29 H29 U29 (fits_nar_char _) W29 5 rfl (Nat.le_of_ble_eq_true rfl)
  refine ov T29 167 #[.val (.int n1), .val (.int c0), .val (.int c1), .val (.int c2)] [.ref b5, .ref b1, .ref b1] st29 ?_
  refine ov T29 168 #[.val (.int n1), .val (.int c0), .val (.int c1), .val (.int c2)] [.ref b5, .ref b5, .ref b1, .ref b1] (fun t k => XS.dup X29.here hx rfl (hb hby d5_167) rfl rfl k) ?_
  refine ov T29 170 #[.val (.int n1), .val (.int c0), .val (.int c1), .val (.int c2)] [.int 6, .ref b5, .ref b5, .ref b1, .ref b1] (fun t k => XS.bipush X29.here hx rfl (hb hby d5_168) k) ?_
  refine ov T29 172 #[.val (.int n1), .val (.int c0), .val (.int c1), .val (.int c2)] [.int 89, .int 6, .ref b5, .ref b5, .ref b1, .ref b1] (fun t k => XS.bipush X29.here hx rfl (hb hby d5_170) k) ?_
  obtain ⟨cl33, Ar33, q33, S33, M33, H33, U33⟩ := id V29
  obtain ⟨T33, h33, X33, e33, W33, st33⟩ := stC X29 hx hZ e29 Ar33 (j := (6 : Int32)) (inb_of S33 ⟨by decide, by decide⟩) (g := (mkF m 172 #[.val (.int n1), .val (.int c0), .val (.int c1), .val (.int c2)] [.int 89, .int 6, .ref b5, .ref b5, .ref b1, .ref b1])) rfl rfl (hb hby d5_172)
  have sz34 : h29.size ≤ h33.size := Nat.le_of_eq W33.size.symm
  have O35 : Old Z n0 h33 := O31.wr W33 (by omega : n0 ≤ b5)
  have N33 := Fr.snoc X33 N29 (by omega : n0 ≤ b5)
  have K36 : Keep h0 h33 [] := K32.wr W33 (Or.inr (by omega : h0.size ≤ b5))
  have V33 : Arv Z h33 b5 k5 .char (20 : Int32) [.int 60, .int 33, .int 68, .int 79, .int 67, .int 84, .int 89, .int 0, .int 0, .int 0, .int 0, .int 0, .int 0, .int 0, .int 0, .int 0, .int 0, .int 0, .int 0, .int 0] (.int 0) := Arv.set Ar33 q33 S33 M33 H33 U33 (fits_nar_char _) W33 6 rfl (Nat.le_of_ble_eq_true rfl)
  refine ov T33 173 #[.val (.int n1), .val (.int c0), .val (.int c1), .val (.int c2)] [.ref b5, .ref b1, .ref b1] st33 ?_
  refine ov T33 174 #[.val (.int n1), .val (.int c0), .val (.int c1), .val (.int c2)] [.ref b5, .ref b5, .ref b1, .ref b1] (fun t k => XS.dup X33.here hx rfl (hb hby d5_173) rfl rfl k) ?_
  refine ov T33 176 #[.val (.int n1), .val (.int c0), .val (.int c1), .val (.int c2)] [.int 7, .ref b5, .ref b5, .ref b1, .ref b1] (fun t k => XS.bipush X33.here hx rfl (hb hby d5_174) k) ?_
  refine ov T33 178 #[.val (.int n1), .val (.int c0), .val (.int c1), .val (.int c2)] [.int 80, .int 7, .ref b5, .ref b5, .ref b1, .ref b1] (fun t k => XS.bipush X33.here hx rfl (hb hby d5_176) k) ?_
  obtain ⟨cl37, Ar37, q37, S37, M37, H37, U37⟩ := id V33
  obtain ⟨T37, h37, X37, e37, W37, st37⟩ := stC X33 hx hZ e33 Ar37 (j := (7 : Int32)) (inb_of S37 ⟨by decide, by decide⟩) (g := (mkF m 178 #[.val (.int n1), .val (.int c0), .val (.int c1), .val (.int c2)] [.int 80, .int 7, .ref b5, .ref b5, .ref b1, .ref b1])) rfl rfl (hb hby d5_178)
  have sz38 : h33.size ≤ h37.size := Nat.le_of_eq W37.size.symm
  have O39 : Old Z n0 h37 := O35.wr W37 (by omega : n0 ≤ b5)
  have N37 := Fr.snoc X37 N33 (by omega : n0 ≤ b5)
  have K40 : Keep h0 h37 [] := K36.wr W37 (Or.inr (by omega : h0.size ≤ b5))
  have V37 : Arv Z h37 b5 k5 .char (20 : Int32) [.int 60, .int 33, .int 68, .int 79, .int 67, .int 84, .int 89, .int 80, .int 0, .int 0, .int 0, .int 0, .int 0, .int 0, .int 0, .int 0, .int 0, .int 0, .int 0, .int 0] (.int 0) := Arv.set Ar37 q37 S37 M37 H37 U37 (fits_nar_char _) W37 7 rfl (Nat.le_of_ble_eq_true rfl)
  refine ov T37 179 #[.val (.int n1), .val (.int c0), .val (.int c1), .val (.int c2)] [.ref b5, .ref b1, .ref b1] st37 ?_
  refine ov T37 180 #[.val (.int n1), .val (.int c0), .val (.int c1), .val (.int c2)] [.ref b5, .ref b5, .ref b1, .ref b1] (fun t k => XS.dup X37.here hx rfl (hb hby d5_179) rfl rfl k) ?_
  refine ov T37 182 #[.val (.int n1), .val (.int c0), .val (.int c1), .val (.int c2)] [.int 8, .ref b5, .ref b5, .ref b1, .ref b1] (fun t k => XS.bipush X37.here hx rfl (hb hby d5_180) k) ?_
  refine ov T37 184 #[.val (.int n1), .val (.int c0), .val (.int c1), .val (.int c2)] [.int 69, .int 8, .ref b5, .ref b5, .ref b1, .ref b1] (fun t k => XS.bipush X37.here hx rfl (hb hby d5_182) k) ?_
  obtain ⟨cl41, Ar41, q41, S41, M41, H41, U41⟩ := id V37
  obtain ⟨T41, h41, X41, e41, W41, st41⟩ := stC X37 hx hZ e37 Ar41 (j := (8 : Int32)) (inb_of S41 ⟨by decide, by decide⟩) (g := (mkF m 184 #[.val (.int n1), .val (.int c0), .val (.int c1), .val (.int c2)] [.int 69, .int 8, .ref b5, .ref b5, .ref b1, .ref b1])) rfl rfl (hb hby d5_184)
  have sz42 : h37.size ≤ h41.size := Nat.le_of_eq W41.size.symm
  have O43 : Old Z n0 h41 := O39.wr W41 (by omega : n0 ≤ b5)
  have N41 := Fr.snoc X41 N37 (by omega : n0 ≤ b5)
  have K44 : Keep h0 h41 [] := K40.wr W41 (Or.inr (by omega : h0.size ≤ b5))
  have V41 : Arv Z h41 b5 k5 .char (20 : Int32) [.int 60, .int 33, .int 68, .int 79, .int 67, .int 84, .int 89, .int 80, .int 69, .int 0, .int 0, .int 0, .int 0, .int 0, .int 0, .int 0, .int 0, .int 0, .int 0, .int 0] (.int 0) := Arv.set Ar41 q41 S41 M41 H41 U41 (fits_nar_char _) W41 8 rfl (Nat.le_of_ble_eq_true rfl)
  refine ov T41 185 #[.val (.int n1), .val (.int c0), .val (.int c1), .val (.int c2)] [.ref b5, .ref b1, .ref b1] st41 ?_
  refine ov T41 186 #[.val (.int n1), .val (.int c0), .val (.int c1), .val (.int c2)] [.ref b5, .ref b5, .ref b1, .ref b1] (fun t k => XS.dup X41.here hx rfl (hb hby d5_185) rfl rfl k) ?_
  refine ov T41 188 #[.val (.int n1), .val (.int c0), .val (.int c1), .val (.int c2)] [.int 9, .ref b5, .ref b5, .ref b1, .ref b1] (fun t k => XS.bipush X41.here hx rfl (hb hby d5_186) k) ?_
  refine ov T41 190 #[.val (.int n1), .val (.int c0), .val (.int c1), .val (.int c2)] [.int 32, .int 9, .ref b5, .ref b5, .ref b1, .ref b1] (fun t k => XS.bipush X41.here hx rfl (hb hby d5_188) k) ?_
  obtain ⟨cl45, Ar45, q45, S45, M45, H45, U45⟩ := id V41
  obtain ⟨T45, h45, X45, e45, W45, st45⟩ := stC X41 hx hZ e41 Ar45 (j := (9 : Int32)) (inb_of S45 ⟨by decide, by decide⟩) (g := (mkF m 190 #[.val (.int n1), .val (.int c0), .val (.int c1), .val (.int c2)] [.int 32, .int 9, .ref b5, .ref b5, .ref b1, .ref b1])) rfl rfl (hb hby d5_190)
  have sz46 : h41.size ≤ h45.size := Nat.le_of_eq W45.size.symm
  have O47 : Old Z n0 h45 := O43.wr W45 (by omega : n0 ≤ b5)
  have N45 := Fr.snoc X45 N41 (by omega : n0 ≤ b5)
  have K48 : Keep h0 h45 [] := K44.wr W45 (Or.inr (by omega : h0.size ≤ b5))
  have V45 : Arv Z h45 b5 k5 .char (20 : Int32) [.int 60, .int 33, .int 68, .int 79, .int 67, .int 84, .int 89, .int 80, .int 69, .int 32, .int 0, .int 0, .int 0, .int 0, .int 0, .int 0, .int 0, .int 0, .int 0, .int 0] (.int 0) := Arv.set Ar45 q45 S45 M45 H45 U45 (fits_nar_char _) W45 9 rfl (Nat.le_of_ble_eq_true rfl)
  refine ov T45 191 #[.val (.int n1), .val (.int c0), .val (.int c1), .val (.int c2)] [.ref b5, .ref b1, .ref b1] st45 ?_
  refine ov T45 192 #[.val (.int n1), .val (.int c0), .val (.int c1), .val (.int c2)] [.ref b5, .ref b5, .ref b1, .ref b1] (fun t k => XS.dup X45.here hx rfl (hb hby d5_191) rfl rfl k) ?_
  refine ov T45 194 #[.val (.int n1), .val (.int c0), .val (.int c1), .val (.int c2)] [.int 10, .ref b5, .ref b5, .ref b1, .ref b1] (fun t k => XS.bipush X45.here hx rfl (hb hby d5_192) k) ?_
  refine ov T45 196 #[.val (.int n1), .val (.int c0), .val (.int c1), .val (.int c2)] [.int 104, .int 10, .ref b5, .ref b5, .ref b1, .ref b1] (fun t k => XS.bipush X45.here hx rfl (hb hby d5_194) k) ?_
  obtain ⟨cl49, Ar49, q49, S49, M49, H49, U49⟩ := id V45
  obtain ⟨T49, h49, X49, e49, W49, st49⟩ := stC X45 hx hZ e45 Ar49 (j := (10 : Int32)) (inb_of S49 ⟨by decide, by decide⟩) (g := (mkF m 196 #[.val (.int n1), .val (.int c0), .val (.int c1), .val (.int c2)] [.int 104, .int 10, .ref b5, .ref b5, .ref b1, .ref b1])) rfl rfl (hb hby d5_196)
  have sz50 : h45.size ≤ h49.size := Nat.le_of_eq W49.size.symm
  have O51 : Old Z n0 h49 := O47.wr W49 (by omega : n0 ≤ b5)
  have N49 := Fr.snoc X49 N45 (by omega : n0 ≤ b5)
  have K52 : Keep h0 h49 [] := K48.wr W49 (Or.inr (by omega : h0.size ≤ b5))
  have V49 : Arv Z h49 b5 k5 .char (20 : Int32) [.int 60, .int 33, .int 68, .int 79, .int 67, .int 84, .int 89, .int 80, .int 69, .int 32, .int 104, .int 0, .int 0, .int 0, .int 0, .int 0, .int 0, .int 0, .int 0, .int 0] (.int 0) := Arv.set Ar49 q49 S49 M49 H49 U49 (fits_nar_char _) W49 10 rfl (Nat.le_of_ble_eq_true rfl)
  refine ov T49 197 #[.val (.int n1), .val (.int c0), .val (.int c1), .val (.int c2)] [.ref b5, .ref b1, .ref b1] st49 ?_
  refine ov T49 198 #[.val (.int n1), .val (.int c0), .val (.int c1), .val (.int c2)] [.ref b5, .ref b5, .ref b1, .ref b1] (fun t k => XS.dup X49.here hx rfl (hb hby d5_197) rfl rfl k) ?_
  refine ov T49 200 #[.val (.int n1), .val (.int c0), .val (.int c1), .val (.int c2)] [.int 11, .ref b5, .ref b5, .ref b1, .ref b1] (fun t k => XS.bipush X49.here hx rfl (hb hby d5_198) k) ?_
  refine ov T49 202 #[.val (.int n1), .val (.int c0), .val (.int c1), .val (.int c2)] [.int 116, .int 11, .ref b5, .ref b5, .ref b1, .ref b1] (fun t k => XS.bipush X49.here hx rfl (hb hby d5_200) k) ?_
  obtain ⟨cl53, Ar53, q53, S53, M53, H53, U53⟩ := id V49
  obtain ⟨T53, h53, X53, e53, W53, st53⟩ := stC X49 hx hZ e49 Ar53 (j := (11 : Int32)) (inb_of S53 ⟨by decide, by decide⟩) (g := (mkF m 202 #[.val (.int n1), .val (.int c0), .val (.int c1), .val (.int c2)] [.int 116, .int 11, .ref b5, .ref b5, .ref b1, .ref b1])) rfl rfl (hb hby d5_202)
  have sz54 : h49.size ≤ h53.size := Nat.le_of_eq W53.size.symm
  have O55 : Old Z n0 h53 := O51.wr W53 (by omega : n0 ≤ b5)
  have N53 := Fr.snoc X53 N49 (by omega : n0 ≤ b5)
  have K56 : Keep h0 h53 [] := K52.wr W53 (Or.inr (by omega : h0.size ≤ b5))
  have V53 : Arv Z h53 b5 k5 .char (20 : Int32) [.int 60, .int 33, .int 68, .int 79, .int 67, .int 84, .int 89, .int 80, .int 69, .int 32, .int 104, .int 116, .int 0, .int 0, .int 0, .int 0, .int 0, .int 0, .int 0, .int 0] (.int 0) := Arv.set Ar53 q53 S53 M53 H53 U53 (fits_nar_char _) W53 11 rfl (Nat.le_of_ble_eq_true rfl)
  refine ov T53 203 #[.val (.int n1), .val (.int c0), .val (.int c1), .val (.int c2)] [.ref b5, .ref b1, .ref b1] st53 ?_
  refine ov T53 204 #[.val (.int n1), .val (.int c0), .val (.int c1), .val (.int c2)] [.ref b5, .ref b5, .ref b1, .ref b1] (fun t k => XS.dup X53.here hx rfl (hb hby d5_203) rfl rfl k) ?_
  refine ov T53 206 #[.val (.int n1), .val (.int c0), .val (.int c1), .val (.int c2)] [.int 12, .ref b5, .ref b5, .ref b1, .ref b1] (fun t k => XS.bipush X53.here hx rfl (hb hby d5_204) k) ?_
  refine ov T53 208 #[.val (.int n1), .val (.int c0), .val (.int c1), .val (.int c2)] [.int 109, .int 12, .ref b5, .ref b5, .ref b1, .ref b1] (fun t k => XS.bipush X53.here hx rfl (hb hby d5_206) k) ?_
  obtain ⟨cl57, Ar57, q57, S57, M57, H57, U57⟩ := id V53
  obtain ⟨T57, h57, X57, e57, W57, st57⟩ := stC X53 hx hZ e53 Ar57 (j := (12 : Int32)) (inb_of S57 ⟨by decide, by decide⟩) (g := (mkF m 208 #[.val (.int n1), .val (.int c0), .val (.int c1), .val (.int c2)] [.int 109, .int 12, .ref b5, .ref b5, .ref b1, .ref b1])) rfl rfl (hb hby d5_208)
  have sz58 : h53.size ≤ h57.size := Nat.le_of_eq W57.size.symm
  have O59 : Old Z n0 h57 := O55.wr W57 (by omega : n0 ≤ b5)
  have N57 := Fr.snoc X57 N53 (by omega : n0 ≤ b5)
  have K60 : Keep h0 h57 [] := K56.wr W57 (Or.inr (by omega : h0.size ≤ b5))
  have V57 : Arv Z h57 b5 k5 .char (20 : Int32) [.int 60, .int 33, .int 68, .int 79, .int 67, .int 84, .int 89, .int 80, .int 69, .int 32, .int 104, .int 116, .int 109, .int 0, .int 0, .int 0, .int 0, .int 0, .int 0, .int 0] (.int 0) := Arv.set Ar57 q57 S57 M57 H57 U57 (fits_nar_char _) W57 12 rfl (Nat.le_of_ble_eq_true rfl)
  refine ov T57 209 #[.val (.int n1), .val (.int c0), .val (.int c1), .val (.int c2)] [.ref b5, .ref b1, .ref b1] st57 ?_
  refine ov T57 210 #[.val (.int n1), .val (.int c0), .val (.int c1), .val (.int c2)] [.ref b5, .ref b5, .ref b1, .ref b1] (fun t k => XS.dup X57.here hx rfl (hb hby d5_209) rfl rfl k) ?_
  refine ov T57 212 #[.val (.int n1), .val (.int c0), .val (.int c1), .val (.int c2)] [.int 13, .ref b5, .ref b5, .ref b1, .ref b1] (fun t k => XS.bipush X57.here hx rfl (hb hby d5_210) k) ?_
  refine ov T57 214 #[.val (.int n1), .val (.int c0), .val (.int c1), .val (.int c2)] [.int 108, .int 13, .ref b5, .ref b5, .ref b1, .ref b1] (fun t k => XS.bipush X57.here hx rfl (hb hby d5_212) k) ?_
  obtain ⟨cl61, Ar61, q61, S61, M61, H61, U61⟩ := id V57
  obtain ⟨T61, h61, X61, e61, W61, st61⟩ := stC X57 hx hZ e57 Ar61 (j := (13 : Int32)) (inb_of S61 ⟨by decide, by decide⟩) (g := (mkF m 214 #[.val (.int n1), .val (.int c0), .val (.int c1), .val (.int c2)] [.int 108, .int 13, .ref b5, .ref b5, .ref b1, .ref b1])) rfl rfl (hb hby d5_214)
  have sz62 : h57.size ≤ h61.size := Nat.le_of_eq W61.size.symm
  have O63 : Old Z n0 h61 := O59.wr W61 (by omega : n0 ≤ b5)
  have N61 := Fr.snoc X61 N57 (by omega : n0 ≤ b5)
  have K64 : Keep h0 h61 [] := K60.wr W61 (Or.inr (by omega : h0.size ≤ b5))
  have V61 : Arv Z h61 b5 k5 .char (20 : Int32) [.int 60, .int 33, .int 68, .int 79, .int 67, .int 84, .int 89, .int 80, .int 69, .int 32, .int 104, .int 116, .int 109, .int 108, .int 0, .int 0, .int 0, .int 0, .int 0, .int 0] (.int 0) := Arv.set Ar61 q61 S61 M61 H61 U61 (fits_nar_char _) W61 13 rfl (Nat.le_of_ble_eq_true rfl)
  refine ov T61 215 #[.val (.int n1), .val (.int c0), .val (.int c1), .val (.int c2)] [.ref b5, .ref b1, .ref b1] st61 ?_
  refine ov T61 216 #[.val (.int n1), .val (.int c0), .val (.int c1), .val (.int c2)] [.ref b5, .ref b5, .ref b1, .ref b1] (fun t k => XS.dup X61.here hx rfl (hb hby d5_215) rfl rfl k) ?_
  refine ov T61 218 #[.val (.int n1), .val (.int c0), .val (.int c1), .val (.int c2)] [.int 14, .ref b5, .ref b5, .ref b1, .ref b1] (fun t k => XS.bipush X61.here hx rfl (hb hby d5_216) k) ?_
  refine ov T61 220 #[.val (.int n1), .val (.int c0), .val (.int c1), .val (.int c2)] [.int 62, .int 14, .ref b5, .ref b5, .ref b1, .ref b1] (fun t k => XS.bipush X61.here hx rfl (hb hby d5_218) k) ?_
  obtain ⟨cl65, Ar65, q65, S65, M65, H65, U65⟩ := id V61
  obtain ⟨T65, h65, X65, e65, W65, st65⟩ := stC X61 hx hZ e61 Ar65 (j := (14 : Int32)) (inb_of S65 ⟨by decide, by decide⟩) (g := (mkF m 220 #[.val (.int n1), .val (.int c0), .val (.int c1), .val (.int c2)] [.int 62, .int 14, .ref b5, .ref b5, .ref b1, .ref b1])) rfl rfl (hb hby d5_220)
  have sz66 : h61.size ≤ h65.size := Nat.le_of_eq W65.size.symm
  have O67 : Old Z n0 h65 := O63.wr W65 (by omega : n0 ≤ b5)
  have N65 := Fr.snoc X65 N61 (by omega : n0 ≤ b5)
  have K68 : Keep h0 h65 [] := K64.wr W65 (Or.inr (by omega : h0.size ≤ b5))
  have V65 : Arv Z h65 b5 k5 .char (20 : Int32) [.int 60, .int 33, .int 68, .int 79, .int 67, .int 84, .int 89, .int 80, .int 69, .int 32, .int 104, .int 116, .int 109, .int 108, .int 62, .int 0, .int 0, .int 0, .int 0, .int 0] (.int 0) := Arv.set Ar65 q65 S65 M65 H65 U65 (fits_nar_char _) W65 14 rfl (Nat.le_of_ble_eq_true rfl)
  refine ov T65 221 #[.val (.int n1), .val (.int c0), .val (.int c1), .val (.int c2)] [.ref b5, .ref b1, .ref b1] st65 ?_
  refine ov T65 222 #[.val (.int n1), .val (.int c0), .val (.int c1), .val (.int c2)] [.ref b5, .ref b5, .ref b1, .ref b1] (fun t k => XS.dup X65.here hx rfl (hb hby d5_221) rfl rfl k) ?_
  refine ov T65 224 #[.val (.int n1), .val (.int c0), .val (.int c1), .val (.int c2)] [.int 15, .ref b5, .ref b5, .ref b1, .ref b1] (fun t k => XS.bipush X65.here hx rfl (hb hby d5_222) k) ?_
  refine ov T65 226 #[.val (.int n1), .val (.int c0), .val (.int c1), .val (.int c2)] [.int 10, .int 15, .ref b5, .ref b5, .ref b1, .ref b1] (fun t k => XS.bipush X65.here hx rfl (hb hby d5_224) k) ?_
  obtain ⟨cl69, Ar69, q69, S69, M69, H69, U69⟩ := id V65
  obtain ⟨T69, h69, X69, e69, W69, st69⟩ := stC X65 hx hZ e65 Ar69 (j := (15 : Int32)) (inb_of S69 ⟨by decide, by decide⟩) (g := (mkF m 226 #[.val (.int n1), .val (.int c0), .val (.int c1), .val (.int c2)] [.int 10, .int 15, .ref b5, .ref b5, .ref b1, .ref b1])) rfl rfl (hb hby d5_226)
  have sz70 : h65.size ≤ h69.size := Nat.le_of_eq W69.size.symm
  have O71 : Old Z n0 h69 := O67.wr W69 (by omega : n0 ≤ b5)
  have N69 := Fr.snoc X69 N65 (by omega : n0 ≤ b5)
  have K72 : Keep h0 h69 [] := K68.wr W69 (Or.inr (by omega : h0.size ≤ b5))
  have V69 : Arv Z h69 b5 k5 .char (20 : Int32) [.int 60, .int 33, .int 68, .int 79, .int 67, .int 84, .int 89, .int 80, .int 69, .int 32, .int 104, .int 116, .int 109, .int 108, .int 62, .int 10, .int 0, .int 0, .int 0, .int 0] (.int 0) := Arv.set Ar69 q69 S69 M69 H69 U69 (fits_nar_char _) W69 15 rfl (Nat.le_of_ble_eq_true rfl)
  refine ov T69 227 #[.val (.int n1), .val (.int c0), .val (.int c1), .val (.int c2)] [.ref b5, .ref b1, .ref b1] st69 ?_
  refine ov T69 228 #[.val (.int n1), .val (.int c0), .val (.int c1), .val (.int c2)] [.ref b5, .ref b5, .ref b1, .ref b1] (fun t k => XS.dup X69.here hx rfl (hb hby d5_227) rfl rfl k) ?_
  refine ov T69 230 #[.val (.int n1), .val (.int c0), .val (.int c1), .val (.int c2)] [.int 16, .ref b5, .ref b5, .ref b1, .ref b1] (fun t k => XS.bipush X69.here hx rfl (hb hby d5_228) k) ?_
  refine ov T69 232 #[.val (.int n1), .val (.int c0), .val (.int c1), .val (.int c2)] [.int 60, .int 16, .ref b5, .ref b5, .ref b1, .ref b1] (fun t k => XS.bipush X69.here hx rfl (hb hby d5_230) k) ?_
  obtain ⟨cl73, Ar73, q73, S73, M73, H73, U73⟩ := id V69
  obtain ⟨T73, h73, X73, e73, W73, st73⟩ := stC X69 hx hZ e69 Ar73 (j := (16 : Int32)) (inb_of S73 ⟨by decide, by decide⟩) (g := (mkF m 232 #[.val (.int n1), .val (.int c0), .val (.int c1), .val (.int c2)] [.int 60, .int 16, .ref b5, .ref b5, .ref b1, .ref b1])) rfl rfl (hb hby d5_232)
  have sz74 : h69.size ≤ h73.size := Nat.le_of_eq W73.size.symm
  have O75 : Old Z n0 h73 := O71.wr W73 (by omega : n0 ≤ b5)
  have N73 := Fr.snoc X73 N69 (by omega : n0 ≤ b5)
  have K76 : Keep h0 h73 [] := K72.wr W73 (Or.inr (by omega : h0.size ≤ b5))
  have V73 : Arv Z h73 b5 k5 .char (20 : Int32) [.int 60, .int 33, .int 68, .int 79, .int 67, .int 84, .int 89, .int 80, .int 69, .int 32, .int 104, .int 116, .int 109, .int 108, .int 62, .int 10, .int 60, .int 0, .int 0, .int 0] (.int 0) := Arv.set Ar73 q73 S73 M73 H73 U73 (fits_nar_char _) W73 16 rfl (Nat.le_of_ble_eq_true rfl)
  refine ov T73 233 #[.val (.int n1), .val (.int c0), .val (.int c1), .val (.int c2)] [.ref b5, .ref b1, .ref b1] st73 ?_
  refine ov T73 234 #[.val (.int n1), .val (.int c0), .val (.int c1), .val (.int c2)] [.ref b5, .ref b5, .ref b1, .ref b1] (fun t k => XS.dup X73.here hx rfl (hb hby d5_233) rfl rfl k) ?_
  refine ov T73 236 #[.val (.int n1), .val (.int c0), .val (.int c1), .val (.int c2)] [.int 17, .ref b5, .ref b5, .ref b1, .ref b1] (fun t k => XS.bipush X73.here hx rfl (hb hby d5_234) k) ?_
  refine ov T73 238 #[.val (.int n1), .val (.int c0), .val (.int c1), .val (.int c2)] [.int 47, .int 17, .ref b5, .ref b5, .ref b1, .ref b1] (fun t k => XS.bipush X73.here hx rfl (hb hby d5_236) k) ?_
  obtain ⟨cl77, Ar77, q77, S77, M77, H77, U77⟩ := id V73
  obtain ⟨T77, h77, X77, e77, W77, st77⟩ := stC X73 hx hZ e73 Ar77 (j := (17 : Int32)) (inb_of S77 ⟨by decide, by decide⟩) (g := (mkF m 238 #[.val (.int n1), .val (.int c0), .val (.int c1), .val (.int c2)] [.int 47, .int 17, .ref b5, .ref b5, .ref b1, .ref b1])) rfl rfl (hb hby d5_238)
  have sz78 : h73.size ≤ h77.size := Nat.le_of_eq W77.size.symm
  have O79 : Old Z n0 h77 := O75.wr W77 (by omega : n0 ≤ b5)
  have N77 := Fr.snoc X77 N73 (by omega : n0 ≤ b5)
  have K80 : Keep h0 h77 [] := K76.wr W77 (Or.inr (by omega : h0.size ≤ b5))
  have V77 : Arv Z h77 b5 k5 .char (20 : Int32) [.int 60, .int 33, .int 68, .int 79, .int 67, .int 84, .int 89, .int 80, .int 69, .int 32, .int 104, .int 116, .int 109, .int 108, .int 62, .int 10, .int 60, .int 47, .int 0, .int 0] (.int 0) := Arv.set Ar77 q77 S77 M77 H77 U77 (fits_nar_char _) W77 17 rfl (Nat.le_of_ble_eq_true rfl)
  refine ov T77 239 #[.val (.int n1), .val (.int c0), .val (.int c1), .val (.int c2)] [.ref b5, .ref b1, .ref b1] st77 ?_
  refine ov T77 240 #[.val (.int n1), .val (.int c0), .val (.int c1), .val (.int c2)] [.ref b5, .ref b5, .ref b1, .ref b1] (fun t k => XS.dup X77.here hx rfl (hb hby d5_239) rfl rfl k) ?_
  refine ov T77 242 #[.val (.int n1), .val (.int c0), .val (.int c1), .val (.int c2)] [.int 18, .ref b5, .ref b5, .ref b1, .ref b1] (fun t k => XS.bipush X77.here hx rfl (hb hby d5_240) k) ?_
  refine ov T77 243 #[.val (.int n1), .val (.int c0), .val (.int c1), .val (.int c2)] [.int c0, .int 18, .ref b5, .ref b5, .ref b1, .ref b1] (fun t k => XS.iloadN X77.here hx rfl (hb hby d5_242) rfl k) ?_
  obtain ⟨cl81, Ar81, q81, S81, M81, H81, U81⟩ := id V77
  obtain ⟨T81, h81, X81, e81, W81, st81⟩ := stC X77 hx hZ e77 Ar81 (j := (18 : Int32)) (inb_of S81 ⟨by decide, by decide⟩) (g := (mkF m 243 #[.val (.int n1), .val (.int c0), .val (.int c1), .val (.int c2)] [.int c0, .int 18, .ref b5, .ref b5, .ref b1, .ref b1])) rfl rfl (hb hby d5_243)
  have sz82 : h77.size ≤ h81.size := Nat.le_of_eq W81.size.symm
  have O83 : Old Z n0 h81 := O79.wr W81 (by omega : n0 ≤ b5)
  have N81 := Fr.snoc X81 N77 (by omega : n0 ≤ b5)
  have K84 : Keep h0 h81 [] := K80.wr W81 (Or.inr (by omega : h0.size ≤ b5))
  rw [own_narc rc0] at W81
  have V81 : Arv Z h81 b5 k5 .char (20 : Int32) [.int 60, .int 33, .int 68, .int 79, .int 67, .int 84, .int 89, .int 80, .int 69, .int 32, .int 104, .int 116, .int 109, .int 108, .int 62, .int 10, .int 60, .int 47, .int c0, .int 0] (.int 0) := Arv.set Ar81 q81 S81 M81 H81 U81 (own_fitc rc0) W81 18 rfl (Nat.le_of_ble_eq_true rfl)
  refine ov T81 244 #[.val (.int n1), .val (.int c0), .val (.int c1), .val (.int c2)] [.ref b5, .ref b1, .ref b1] st81 ?_
  refine ov T81 245 #[.val (.int n1), .val (.int c0), .val (.int c1), .val (.int c2)] [.ref b5, .ref b5, .ref b1, .ref b1] (fun t k => XS.dup X81.here hx rfl (hb hby d5_244) rfl rfl k) ?_
  refine ov T81 247 #[.val (.int n1), .val (.int c0), .val (.int c1), .val (.int c2)] [.int 19, .ref b5, .ref b5, .ref b1, .ref b1] (fun t k => XS.bipush X81.here hx rfl (hb hby d5_245) k) ?_
  refine ov T81 249 #[.val (.int n1), .val (.int c0), .val (.int c1), .val (.int c2)] [.int 62, .int 19, .ref b5, .ref b5, .ref b1, .ref b1] (fun t k => XS.bipush X81.here hx rfl (hb hby d5_247) k) ?_
  obtain ⟨cl85, Ar85, q85, S85, M85, H85, U85⟩ := id V81
  obtain ⟨T85, h85, X85, e85, W85, st85⟩ := stC X81 hx hZ e81 Ar85 (j := (19 : Int32)) (inb_of S85 ⟨by decide, by decide⟩) (g := (mkF m 249 #[.val (.int n1), .val (.int c0), .val (.int c1), .val (.int c2)] [.int 62, .int 19, .ref b5, .ref b5, .ref b1, .ref b1])) rfl rfl (hb hby d5_249)
  have sz86 : h81.size ≤ h85.size := Nat.le_of_eq W85.size.symm
  have O87 : Old Z n0 h85 := O83.wr W85 (by omega : n0 ≤ b5)
  have N85 := Fr.snoc X85 N81 (by omega : n0 ≤ b5)
  have K88 : Keep h0 h85 [] := K84.wr W85 (Or.inr (by omega : h0.size ≤ b5))
  have V85 : Arv Z h85 b5 k5 .char (20 : Int32) [.int 60, .int 33, .int 68, .int 79, .int 67, .int 84, .int 89, .int 80, .int 69, .int 32, .int 104, .int 116, .int 109, .int 108, .int 62, .int 10, .int 60, .int 47, .int c0, .int 62] (.int 0) := Arv.set Ar85 q85 S85 M85 H85 U85 (fits_nar_char _) W85 19 rfl (Nat.le_of_ble_eq_true rfl)
  refine ov T85 250 #[.val (.int n1), .val (.int c0), .val (.int c1), .val (.int c2)] [.ref b5, .ref b1, .ref b1] st85 ?_
  have cx90 : Exa Z h85 b1 "java/lang/String" := (Exa.wr W85 (Exa.wr W81 (Exa.wr W77 (Exa.wr W73 (Exa.wr W69 (Exa.wr W65 (Exa.wr W61 (Exa.wr W57 (Exa.wr W53 (Exa.wr W49 (Exa.wr W45 (Exa.wr W41 (Exa.wr W37 (Exa.wr W33 (Exa.wr W29 (Exa.wr W25 (Exa.wr W21 (Exa.wr W17 (Exa.wr W13 (Exa.wr W9 (A1.ext E5)))))))))))))))))))))
  have ne_b1_b5 : b1 ≠ b5 := by first | exact (Exa.neArv cx90 V85 (wd5 hw)) | exact Nat.ne_of_lt (by omega) | exact Nat.ne_of_gt (by omega)
  have cx91 : Fld Z h85 b1 "java/lang/String" "value" "[B" .null := (Fld.other W85 (Fld.other W81 (Fld.other W77 (Fld.other W73 (Fld.other W69 (Fld.other W65 (Fld.other W61 (Fld.other W57 (Fld.other W53 (Fld.other W49 (Fld.other W45 (Fld.other W41 (Fld.other W37 (Fld.other W33 (Fld.other W29 (Fld.other W25 (Fld.other W21 (Fld.other W17 (Fld.other W13 (Fld.other W9 (F1_value.ext E5) (Or.inl ne_b1_b5)) (Or.inl ne_b1_b5)) (Or.inl ne_b1_b5)) (Or.inl ne_b1_b5)) (Or.inl ne_b1_b5)) (Or.inl ne_b1_b5)) (Or.inl ne_b1_b5)) (Or.inl ne_b1_b5)) (Or.inl ne_b1_b5)) (Or.inl ne_b1_b5)) (Or.inl ne_b1_b5)) (Or.inl ne_b1_b5)) (Or.inl ne_b1_b5)) (Or.inl ne_b1_b5)) (Or.inl ne_b1_b5)) (Or.inl ne_b1_b5)) (Or.inl ne_b1_b5)) (Or.inl ne_b1_b5)) (Or.inl ne_b1_b5)) (Or.inl ne_b1_b5))
  have cx92 : Fld Z h85 b1 "java/lang/String" "coder" "B" (.int 0) := (Fld.other W85 (Fld.other W81 (Fld.other W77 (Fld.other W73 (Fld.other W69 (Fld.other W65 (Fld.other W61 (Fld.other W57 (Fld.other W53 (Fld.other W49 (Fld.other W45 (Fld.other W41 (Fld.other W37 (Fld.other W33 (Fld.other W29 (Fld.other W25 (Fld.other W21 (Fld.other W17 (Fld.other W13 (Fld.other W9 (F1_coder.ext E5) (Or.inl ne_b1_b5)) (Or.inl ne_b1_b5)) (Or.inl ne_b1_b5)) (Or.inl ne_b1_b5)) (Or.inl ne_b1_b5)) (Or.inl ne_b1_b5)) (Or.inl ne_b1_b5)) (Or.inl ne_b1_b5)) (Or.inl ne_b1_b5)) (Or.inl ne_b1_b5)) (Or.inl ne_b1_b5)) (Or.inl ne_b1_b5)) (Or.inl ne_b1_b5)) (Or.inl ne_b1_b5)) (Or.inl ne_b1_b5)) (Or.inl ne_b1_b5)) (Or.inl ne_b1_b5)) (Or.inl ne_b1_b5)) (Or.inl ne_b1_b5)) (Or.inl ne_b1_b5))
  have cx93 : Sta Z h85 "java/lang/String" "COMPACT_STRINGS" "Z" (.int zc) := zfC.ext O87.2
  have hws89 := own_mw hw
  have hp89 : ∀ c ∈ ([60, 33, 68, 79, 67, 84, 89, 80, 69, 32, 104, 116, 109, 108, 62, 10, 60, 47, c0, 62] : List Int32), ¬ c < 0 ∧ ¬ (255 : Int32) < c := by
    intro c hc
    simp only [List.mem_cons, List.not_mem_nil, or_false] at hc
    rcases hc with rfl | rfl | rfl | rfl | rfl | rfl | rfl | rfl | rfl | rfl | rfl | rfl | rfl | rfl | rfl | rfl | rfl | rfl | rfl | rfl
    · exact by decide
    · exact by decide
    · exact by decide
    · exact by decide
    · exact by decide
    · exact by decide
    · exact by decide
    · exact by decide
    · exact by decide
    · exact by decide
    · exact by decide
    · exact by decide
    · exact by decide
    · exact by decide
    · exact by decide
    · exact by decide
    · exact by decide
    · exact by decide
    · exact rc0
    · exact by decide
  obtain ⟨_, _, ⟨T89, Lp89, kp89, np89⟩, -, X89, ⟨Lc89, hQ89, l89, y89, z89⟩, st89⟩ := X85.specialBack hx (y := mt24) rfl hown (mvT hZ (wd8 hw)) (mvT hZ (wd9 hw)) (mvT hZ (wd10 hw)) (by decide) (StrChars.Road.backV (W := 1) hZ hws89 (kI := 4) (wd5 hw) (cs := ([60, 33, 68, 79, 67, 84, 89, 80, 69, 32, 104, 116, 109, 108, 62, 10, 60, 47, c0, 62] : List Int32)) (bs := (([60, 33, 68, 79, 67, 84, 89, 80, 69, 32, 104, 116, 109, 108, 62, 10, 60, 47, c0, 62] : List Int32)).map (fun c => c.toInt8.toInt32)) (n := 20) (by omega : n0 ≤ b1) (by omega : n0 ≤ h85.size) cx90 cx91 cx92 V85 cx93 hzc rfl rfl (by decide) (by decide) hp89 rfl (by decide) (by decide)) (g := (mkF m 250 #[.val (.int n1), .val (.int c0), .val (.int c1), .val (.int c2)] [.ref b5, .ref b1, .ref b1])) rfl (by rw [hml]; rfl) (Steps.refl _) (a := b1) (argsL := [.ref b5]) (rest := [.ref b1]) (lenOf pd___C_V_325 rfl) rfl (by show 2 * 0 + _ ≤ _; exact Nat.le_of_eq rfl) (hb hby d5_250) (fun _ _ => ⟨rfl, e85, (by decide : 2 + 1 ≤ _), (by decide : 24 + 20 ≤ _)⟩)
  dsimp only [Pt.U, Pt.locs, Pt.cells, Pt.slots] at X89 l89 y89 z89 st89 hQ89
  subst Lp89 kp89 np89
  obtain ⟨rfl, N89q, K89q, f89_0, f89_1, t89, kb89, tg89, tg89', tn89, f89_2, f89_3⟩ := hQ89
  have N89 := Fr.app N85 N89q
  have sz94 : h85.size ≤ T89.heap.size := K89q.1
  have O95 : Old Z n0 T89.heap := O87.keep K89q (allS (by omega : n0 ≤ b1) all0)
  have K96 : Keep h0 T89.heap [] := K88.trans K89q (allS (P := fun x => x ∈ [] ∨ h0.size ≤ x) (Or.inr (by omega)) all0)
  have lt_t89 : T89.heap.size > t89 := f89_3.lt
  refine own_tr (S' := T89.setTop (mkF m 253 #[.val (.int n1), .val (.int c0), .val (.int c1), .val (.int c2)] [.ref b1])) st89 ?_
  refine own_ret (Q := Q_own_exp1 Z n1 c0 c1 c2 zc h0 n0) (C := rm4_3_44_66.cells) (N := rm4_3_44_66.slots) X89 (v := some (.ref b1)) (fun h => by rw [Bd.returns] at h; cases h) Bd.notSynchronized ?_ (by decide) (by decide) (fun fs hr => retOut X89 hx Bd.returns rfl (Or.inr (Or.inr (Or.inr (Or.inr ⟨rfl, rfl, rfl⟩)))) (hb hby d5_253) hr)
  show Q_own_exp1 Z n1 c0 c1 c2 zc h0 n0 _ T89.heap _
  exact ⟨b1, t89, kb89, rfl, N89, K96, f89_0, f89_2, f89_1, f89_3⟩
def Q_own_tag2 (Z : State) (n1 : Int32) (c0 : Int32) (c1 : Int32) (c2 : Int32) (zc : Int32) (h0 : Heap) (n0 : Nat) (v : Option Value) (vm : Vm) (h : Heap) (L : List Loc) : Prop := ∃ b : Addr, ∃ tb : Addr, ∃ kb : ClassId, v = some (.ref b) ∧ Fr n0 L ∧ Keep h0 h [] ∧ Exa Z h b "java/lang/String" ∧ Fld Z h b "java/lang/String" "value" "[B" (.ref tb) ∧ Fld Z h b "java/lang/String" "coder" "B" (.int 0) ∧ Arv Z h tb kb .byte (2 : Int32) [(.int (c0.toInt8.toInt32)), (.int (c1.toInt8.toInt32))] (.int 0)
set_option maxRecDepth 65536 in
set_option maxHeartbeats 40000000 in
theorem own_tag2 (l : Launch) (Z : State) (a0 : Array Value) (hw : ∀ d ∈ tables_1, d.before a0 Z = true) (ws : List Jvm.Cond) (n1 : Int32) (c0 : Int32) (c1 : Int32) (c2 : Int32) (zc : Int32) (h0 : Heap) (n0 : Nat) (O0 : Old Z n0 h0) (zfC : Sta Z Z.heap "java/lang/String" "COMPACT_STRINGS" "Z" (.int zc)) (hzc : ¬ (zc = (0 : Int32))) (rc0 : ¬ c0 < 0 ∧ ¬ (255 : Int32) < c0) (rc1 : ¬ c1 < 0 ∧ ¬ (255 : Int32) < c1) (rc2 : ¬ c2 < 0 ∧ ¬ (255 : Int32) < c2) (hn0 : ¬ (n1 = (0 : Int32))) (hn1 : ¬ (n1 = (1 : Int32))) (hn2 : n1 = (2 : Int32)) :
    MetFree l mt30 (head1 (Jvm.Cond.code mt30 method_3_code 4 (some (.object "java/lang/String")) :: ws) rm4_3_8_66) (fun aq U => aq = #[.int n1, .int c0, .int c1, .int c2] ∧ Z.Warmed39 U.vm ∧ U.heap = h0 ∧ CHv Z own_EL U.vm h0 ∧ ∀ x ∈ ([] : List Addr), Safe Z own_EL U.vm h0 x) (fun _ _ _ _ _ => True) (fun _ U o U' => ∃ v L, o = .returned v ∧ Q_own_tag2 Z n1 c0 c1 c2 zc h0 n0 v U'.vm U'.heap L ∧ CHr Z own_EL U.vm U.heap U'.vm U'.heap ∧ ReturnedEndW U o U' L rm4_3_8_66.cells rm4_3_8_66.slots) := by
  refine MetFree.of_bodySF (plainFor_of_name pn_com_example_regent_regent_HtmlClosePinLaw) hisR ?_
  intro p e s m args below meth c s₁ Bd hml0 hP hK
  obtain ⟨rfl, hZ, hh, hCH, hSL⟩ := hP
  have hx := Bd.exec
  have hby := Bd.bytes
  have hml : c.maxLocals = 4 := hml0
  have hown : s.vm.findClass "com/example/regent/regent/HtmlClosePinLaw" = some m.cls := findClass_of_methodNamed Bd.named
  have hnm := (name_of_methodNamed Bd.named Bd.method).1
  have X0 : Stand p l e rm4_3_8_66 (s.setVm s.vm) m #[.int n1, .int c0, .int c1, .int c2] below meth c s₁ [] 0 0 := Stand.of_body Bd
  have e0 : s₁.heap = h0 := by rw [← hh, Bd.state]; rfl
  have N0 := Fr.nil n0
  have zO := O0.1
  have zO2 := O0.2.1
  refine own_open (own_via (S' := s₁.setTop (mkF m 0 #[.val (.int n1), .val (.int c0), .val (.int c1), .val (.int c2)] [])) (fun t k => castTop (ef_own_tag2 m n1 c0 c1 c2) k) ?_)
  have hEL := own_EW hw
  have hS0 : s.Since s.vm h0.size := (State.WarmedH.refl s).since _
  have R0 : CHr Z own_EL s.vm h0 s.vm h0 := CHr.refl hCH
  have K0 : Keep h0 h0 [] := Keep.refl _ _
  refine ov s₁ 1 #[.val (.int n1), .val (.int c0), .val (.int c1), .val (.int c2)] [.int n1] (fun t k => XS.iloadN X0.here hx rfl (hb hby d1_0) rfl k) ?_
  refine ov s₁ 15 #[.val (.int n1), .val (.int c0), .val (.int c1), .val (.int c2)] [] (fun t k => XS.ifYes X0.here hx rfl (pc0 := 1) (pc' := 15) rfl (hb hby d1_1) rfl ((if0 _ _).trans (feq hn0).2) (by decide) (by decide) k) ?_
  refine ov s₁ 16 #[.val (.int n1), .val (.int c0), .val (.int c1), .val (.int c2)] [.int n1] (fun t k => XS.iloadN X0.here hx rfl (hb hby d1_15) rfl k) ?_
  refine ov s₁ 17 #[.val (.int n1), .val (.int c0), .val (.int c1), .val (.int c2)] [.int 1, .int n1] (fun t k => XS.iconst X0.here hx rfl (hb hby d1_16) k) ?_
  refine ov s₁ 35 #[.val (.int n1), .val (.int c0), .val (.int c1), .val (.int c2)] [] (fun t k => XS.icmpYes X0.here hx rfl (pc0 := 17) (pc' := 35) rfl (hb hby d1_17) rfl (feq hn1).2 (by decide) (by decide) k) ?_
  refine ov s₁ 36 #[.val (.int n1), .val (.int c0), .val (.int c1), .val (.int c2)] [.int n1] (fun t k => XS.iloadN X0.here hx rfl (hb hby d1_35) rfl k) ?_
  refine ov s₁ 37 #[.val (.int n1), .val (.int c0), .val (.int c1), .val (.int c2)] [.int 2, .int n1] (fun t k => XS.iconst X0.here hx rfl (hb hby d1_36) k) ?_
  refine ov s₁ 40 #[.val (.int n1), .val (.int c0), .val (.int c1), .val (.int c2)] [] (fun t k => XS.icmpNo X0.here hx rfl (hb hby d1_37) rfl (teq hn2).2 k) ?_
  obtain ⟨T1, h1, X1, e1, E1, A1, D1, -, st1⟩ := newO X0 hx hZ hown (wd4 hw) (wd5 hw) (wd6 hw) e0 (g := (mkF m 40 #[.val (.int n1), .val (.int c0), .val (.int c1), .val (.int c2)] [])) rfl (hb hby d1_40) (by decide) (by decide)
  obtain ⟨b1, g1⟩ : ∃ z, z = h0.size := ⟨_, rfl⟩
  rw [← g1] at A1 D1 st1
  have lt_b1 : h1.size > b1 := A1.lt
  have sz2 : h0.size ≤ h1.size := E1.1
  have O3 : Old Z n0 h1 := O0.ext E1
  have R4 : CHr Z own_EL s.vm h0 s.vm h1 := R0.trans (CHr.ext E1 R0.1)
  have SF_b1 : Safe Z own_EL s.vm h1 b1 := Safe.ext E1 R0.1 (Safe.new (Nat.le_of_eq g1.symm))
  have K5 : Keep h0 h1 [] := K0.ext E1
  have F1_value : Fld Z h1 b1 "java/lang/String" "value" "[B" .null := D1 (Or.inr (wd20 hw)) (ty := (.array .byte)) (by decide)
  have F1_coder : Fld Z h1 b1 "java/lang/String" "coder" "B" (.int 0) := D1 (Or.inr (wd21 hw)) (ty := .byte) (by decide)
  refine ov T1 43 #[.val (.int n1), .val (.int c0), .val (.int c1), .val (.int c2)] [.ref b1] st1 ?_
  refine ov T1 44 #[.val (.int n1), .val (.int c0), .val (.int c1), .val (.int c2)] [.ref b1, .ref b1] (fun t k => XS.dup X1.here hx rfl (hb hby d1_43) rfl rfl k) ?_
  refine ov T1 45 #[.val (.int n1), .val (.int c0), .val (.int c1), .val (.int c2)] [.int 2, .ref b1, .ref b1] (fun t k => XS.iconst X1.here hx rfl (hb hby d1_44) k) ?_
  obtain ⟨T6, h6, k6, X6, e6, E6, A6, st6⟩ := newP (aty := .char) X1 hx hZ (wd7 hw) e1 (g := (mkF m 45 #[.val (.int n1), .val (.int c0), .val (.int c1), .val (.int c2)] [.int 2, .ref b1, .ref b1])) rfl (hb hby d1_45) rfl (by decide : ¬ ((2 : Int32) < (0 : Int32))) (cap := 2) (by decide) (by decide) (by decide) (by decide)
  obtain ⟨b6, g6⟩ : ∃ z, z = h1.size := ⟨_, rfl⟩
  rw [← g6] at A6 st6
  have lt_b6 : h6.size > b6 := A6.lt
  have sz7 : h1.size ≤ h6.size := E6.1
  have O8 : Old Z n0 h6 := O3.ext E6
  have R9 : CHr Z own_EL s.vm h0 s.vm h6 := R4.trans (CHr.ext E6 R4.1)
  have K10 : Keep h0 h6 [] := K5.ext E6
  have V6 : Arv Z h6 b6 k6 .char (2 : Int32) [.int 0, .int 0] (.int 0) := (Arv.new A6 (by decide)).pad (pad_rep [] (.int 0) 2)
  refine ov T6 47 #[.val (.int n1), .val (.int c0), .val (.int c1), .val (.int c2)] [.ref b6, .ref b1, .ref b1] st6 ?_
  refine ov T6 48 #[.val (.int n1), .val (.int c0), .val (.int c1), .val (.int c2)] [.ref b6, .ref b6, .ref b1, .ref b1] (fun t k => XS.dup X6.here hx rfl (hb hby d1_47) rfl rfl k) ?_
  refine ov T6 49 #[.val (.int n1), .val (.int c0), .val (.int c1), .val (.int c2)] [.int 0, .ref b6, .ref b6, .ref b1, .ref b1] (fun t k => XS.iconst X6.here hx rfl (hb hby d1_48) k) ?_
  refine ov T6 50 #[.val (.int n1), .val (.int c0), .val (.int c1), .val (.int c2)] [.int c0, .int 0, .ref b6, .ref b6, .ref b1, .ref b1] (fun t k => XS.iloadN X6.here hx rfl (hb hby d1_49) rfl k) ?_
  obtain ⟨cl11, Ar11, q11, S11, M11, H11, U11⟩ := id V6
  obtain ⟨T11, h11, X11, e11, W11, st11⟩ := stC X6 hx hZ e6 Ar11 (j := (0 : Int32)) (inb_of S11 ⟨by decide, by decide⟩) (g := (mkF m 50 #[.val (.int n1), .val (.int c0), .val (.int c1), .val (.int c2)] [.int c0, .int 0, .ref b6, .ref b6, .ref b1, .ref b1])) rfl rfl (hb hby d1_50)
  have sf11 : Safe Z own_EL s.vm h6 b6 := (Safe.arv hZ.alike V6 (by decide))
  have sz12 : h6.size ≤ h11.size := Nat.le_of_eq W11.size.symm
  have R13 : CHr Z own_EL s.vm h0 s.vm h11 := R9.trans (CHr.wr W11 sf11 R9.1)
  have O14 : Old Z n0 h11 := O8.wr W11 (by omega : n0 ≤ b6)
  have N11 := Fr.snoc X11 N0 (by omega : n0 ≤ b6)
  have K15 : Keep h0 h11 [] := K10.wr W11 (Or.inr (by omega : h0.size ≤ b6))
  rw [own_narc rc0] at W11
  have V11 : Arv Z h11 b6 k6 .char (2 : Int32) [.int c0, .int 0] (.int 0) := Arv.set Ar11 q11 S11 M11 H11 U11 (own_fitc rc0) W11 0 rfl (Nat.le_of_ble_eq_true rfl)
  refine ov T11 51 #[.val (.int n1), .val (.int c0), .val (.int c1), .val (.int c2)] [.ref b6, .ref b1, .ref b1] st11 ?_
  refine ov T11 52 #[.val (.int n1), .val (.int c0), .val (.int c1), .val (.int c2)] [.ref b6, .ref b6, .ref b1, .ref b1] (fun t k => XS.dup X11.here hx rfl (hb hby d1_51) rfl rfl k) ?_
  refine ov T11 53 #[.val (.int n1), .val (.int c0), .val (.int c1), .val (.int c2)] [.int 1, .ref b6, .ref b6, .ref b1, .ref b1] (fun t k => XS.iconst X11.here hx rfl (hb hby d1_52) k) ?_
  refine ov T11 54 #[.val (.int n1), .val (.int c0), .val (.int c1), .val (.int c2)] [.int c1, .int 1, .ref b6, .ref b6, .ref b1, .ref b1] (fun t k => XS.iloadN X11.here hx rfl (hb hby d1_53) rfl k) ?_
  obtain ⟨cl16, Ar16, q16, S16, M16, H16, U16⟩ := id V11
  obtain ⟨T16, h16, X16, e16, W16, st16⟩ := stC X11 hx hZ e11 Ar16 (j := (1 : Int32)) (inb_of S16 ⟨by decide, by decide⟩) (g := (mkF m 54 #[.val (.int n1), .val (.int c0), .val (.int c1), .val (.int c2)] [.int c1, .int 1, .ref b6, .ref b6, .ref b1, .ref b1])) rfl rfl (hb hby d1_54)
  have sf16 : Safe Z own_EL s.vm h11 b6 := (Safe.arv hZ.alike V11 (by decide))
  have sz17 : h11.size ≤ h16.size := Nat.le_of_eq W16.size.symm
  have R18 : CHr Z own_EL s.vm h0 s.vm h16 := R13.trans (CHr.wr W16 sf16 R13.1)
  have O19 : Old Z n0 h16 := O14.wr W16 (by omega : n0 ≤ b6)
  have N16 := Fr.snoc X16 N11 (by omega : n0 ≤ b6)
  have K20 : Keep h0 h16 [] := K15.wr W16 (Or.inr (by omega : h0.size ≤ b6))
  rw [own_narc rc1] at W16
  have V16 : Arv Z h16 b6 k6 .char (2 : Int32) [.int c0, .int c1] (.int 0) := Arv.set Ar16 q16 S16 M16 H16 U16 (own_fitc rc1) W16 1 rfl (Nat.le_of_ble_eq_true rfl)
  refine ov T16 55 #[.val (.int n1), .val (.int c0), .val (.int c1), .val (.int c2)] [.ref b6, .ref b1, .ref b1] st16 ?_
  have cx22 : Exa Z h16 b1 "java/lang/String" := (Exa.wr W16 (Exa.wr W11 (A1.ext E6)))
  have ne_b1_b6 : b1 ≠ b6 := by first | exact (Exa.neArv cx22 V16 (wd5 hw)) | exact Nat.ne_of_lt (by omega) | exact Nat.ne_of_gt (by omega)
  have cx23 : Fld Z h16 b1 "java/lang/String" "value" "[B" .null := (Fld.other W16 (Fld.other W11 (F1_value.ext E6) (Or.inl ne_b1_b6)) (Or.inl ne_b1_b6))
  have cx24 : Fld Z h16 b1 "java/lang/String" "coder" "B" (.int 0) := (Fld.other W16 (Fld.other W11 (F1_coder.ext E6) (Or.inl ne_b1_b6)) (Or.inl ne_b1_b6))
  have cx25 : Sta Z h16 "java/lang/String" "COMPACT_STRINGS" "Z" (.int zc) := zfC.ext O19.2
  have hws21 := own_mw hw
  have hp21 : ∀ c ∈ ([c0, c1] : List Int32), ¬ c < 0 ∧ ¬ (255 : Int32) < c := by
    intro c hc
    simp only [List.mem_cons, List.not_mem_nil, or_false] at hc
    rcases hc with rfl | rfl
    · exact rc0
    · exact rc1
  obtain ⟨_, _, ⟨T21, Lp21, kp21, np21⟩, -, X21, ⟨Lc21, hQ21, l21, y21, z21⟩, st21⟩ := X16.specialBack hx (y := mt24) rfl hown (mvT hZ (wd8 hw)) (mvT hZ (wd9 hw)) (mvT hZ (wd10 hw)) (by decide) (StrChars.Road.backV (W := 1) hZ hws21 (kI := 4) (wd5 hw) (cs := ([c0, c1] : List Int32)) (bs := (([c0, c1] : List Int32)).map (fun c => c.toInt8.toInt32)) (n := 2) (by omega : n0 ≤ b1) (by omega : n0 ≤ h16.size) cx22 cx23 cx24 V16 cx25 hzc rfl rfl (by decide) (by decide) hp21 rfl (by decide) (by decide)) (g := (mkF m 55 #[.val (.int n1), .val (.int c0), .val (.int c1), .val (.int c2)] [.ref b6, .ref b1, .ref b1])) rfl (by rw [hml]; rfl) (Steps.refl _) (a := b1) (argsL := [.ref b6]) (rest := [.ref b1]) (lenOf pd___C_V_325 rfl) rfl (by show 2 * 0 + _ ≤ _; exact Nat.le_of_eq rfl) (hb hby d1_55) (fun _ _ => ⟨rfl, e16, (by decide : 2 + 1 ≤ _), (by decide : 6 + 2 ≤ _)⟩)
  dsimp only [Pt.U, Pt.locs, Pt.cells, Pt.slots] at X21 l21 y21 z21 st21 hQ21
  subst Lp21 kp21 np21
  obtain ⟨rfl, N21q, K21q, f21_0, f21_1, t21, kb21, tg21, tg21', tn21, f21_2, f21_3⟩ := hQ21
  have N21 := Fr.app N16 N21q
  have cx26 : Safe Z own_EL s.vm h16 b1 := (Safe.wr W16 sf16 R13.1 (Safe.wr W11 sf11 R9.1 (Safe.ext E6 R4.1 SF_b1)))
  have sf21 : ∀ x ∈ ([b1] : List Addr), Safe Z own_EL s.vm h16 x := (sfS cx26 sf0)
  have sz27 : h16.size ≤ T21.heap.size := K21q.1
  have R28 : CHr Z own_EL s.vm h0 s.vm T21.heap := R18.trans (CHr.keep K21q sf21 R18.1)
  have O29 : Old Z n0 T21.heap := O19.keep K21q (allS (by omega : n0 ≤ b1) all0)
  have K30 : Keep h0 T21.heap [] := K20.trans K21q (allS (P := fun x => x ∈ [] ∨ h0.size ≤ x) (Or.inr (by omega)) all0)
  have lt_t21 : T21.heap.size > t21 := f21_3.lt
  refine own_tr (S' := T21.setTop (mkF m 58 #[.val (.int n1), .val (.int c0), .val (.int c1), .val (.int c2)] [.ref b1])) st21 ?_
  have RTR28 : CHr Z own_EL s.vm h0 T21.vm T21.heap := R28.trans (CHv.at X21 hZ hEL R28.1)
  have RXR28 : CHr Z own_EL s.vm s.heap T21.vm T21.heap := by rw [hh]; exact RTR28
  refine own_retW (Q := Q_own_tag2 Z n1 c0 c1 c2 zc h0 n0) (C := rm4_3_8_66.cells) (N := rm4_3_8_66.slots) X21 hS0 (by omega) (v := some (.ref b1)) (fun h => by rw [Bd.returns] at h; cases h) Bd.notSynchronized ?_ RXR28 (by decide) (by decide) (fun fs hr => retOut X21 hx Bd.returns rfl (Or.inr (Or.inr (Or.inr (Or.inr ⟨rfl, rfl, rfl⟩)))) (hb hby d1_58) hr)
  show Q_own_tag2 Z n1 c0 c1 c2 zc h0 n0 _ T21.vm T21.heap _
  exact ⟨b1, t21, kb21, rfl, N21, K30, f21_0, f21_2, f21_1, f21_3⟩
def Q_own_exp2 (Z : State) (n1 : Int32) (c0 : Int32) (c1 : Int32) (c2 : Int32) (zc : Int32) (h0 : Heap) (n0 : Nat) (v : Option Value) (h : Heap) (L : List Loc) : Prop := ∃ b : Addr, ∃ tb : Addr, ∃ kb : ClassId, v = some (.ref b) ∧ Fr n0 L ∧ Keep h0 h [] ∧ Exa Z h b "java/lang/String" ∧ Fld Z h b "java/lang/String" "value" "[B" (.ref tb) ∧ Fld Z h b "java/lang/String" "coder" "B" (.int 0) ∧ Arv Z h tb kb .byte (21 : Int32) [(.int ((60 : Int32).toInt8.toInt32)), (.int ((33 : Int32).toInt8.toInt32)), (.int ((68 : Int32).toInt8.toInt32)), (.int ((79 : Int32).toInt8.toInt32)), (.int ((67 : Int32).toInt8.toInt32)), (.int ((84 : Int32).toInt8.toInt32)), (.int ((89 : Int32).toInt8.toInt32)), (.int ((80 : Int32).toInt8.toInt32)), (.int ((69 : Int32).toInt8.toInt32)), (.int ((32 : Int32).toInt8.toInt32)), (.int ((104 : Int32).toInt8.toInt32)), (.int ((116 : Int32).toInt8.toInt32)), (.int ((109 : Int32).toInt8.toInt32)), (.int ((108 : Int32).toInt8.toInt32)), (.int ((62 : Int32).toInt8.toInt32)), (.int ((10 : Int32).toInt8.toInt32)), (.int ((60 : Int32).toInt8.toInt32)), (.int ((47 : Int32).toInt8.toInt32)), (.int (c0.toInt8.toInt32)), (.int (c1.toInt8.toInt32)), (.int ((62 : Int32).toInt8.toInt32))] (.int 0)
set_option maxRecDepth 65536 in
set_option maxHeartbeats 40000000 in
theorem own_exp2 (l : Launch) (Z : State) (a0 : Array Value) (hw : ∀ d ∈ tables_1, d.before a0 Z = true) (ws : List Jvm.Cond) (n1 : Int32) (c0 : Int32) (c1 : Int32) (c2 : Int32) (zc : Int32) (h0 : Heap) (n0 : Nat) (O0 : Old Z n0 h0) (zfC : Sta Z Z.heap "java/lang/String" "COMPACT_STRINGS" "Z" (.int zc)) (hzc : ¬ (zc = (0 : Int32))) (rc0 : ¬ c0 < 0 ∧ ¬ (255 : Int32) < c0) (rc1 : ¬ c1 < 0 ∧ ¬ (255 : Int32) < c1) (rc2 : ¬ c2 < 0 ∧ ¬ (255 : Int32) < c2) (hn0 : ¬ (n1 = (0 : Int32))) (hn1 : ¬ (n1 = (1 : Int32))) (hn2 : n1 = (2 : Int32)) :
    MetFree l mt31 (head1 (Jvm.Cond.code mt31 method_4_code 4 (some (.object "java/lang/String")) :: ws) rm4_3_46_66) (fun aq U => aq = #[.int n1, .int c0, .int c1, .int c2] ∧ Z.Warmed39 U.vm ∧ U.heap = h0) (fun _ _ _ _ _ => True) (fun _ U o U' => ∃ v L, o = .returned v ∧ Q_own_exp2 Z n1 c0 c1 c2 zc h0 n0 v U'.heap L ∧ FrameEnd U o U' L rm4_3_46_66.cells rm4_3_46_66.slots) := by
  refine MetFree.of_bodySF (plainFor_of_name pn_com_example_regent_regent_HtmlClosePinLaw) hisR ?_
  intro p e s m args below meth c s₁ Bd hml0 hP hK
  obtain ⟨rfl, hZ, hh⟩ := hP
  have hx := Bd.exec
  have hby := Bd.bytes
  have hml : c.maxLocals = 4 := hml0
  have hown : s.vm.findClass "com/example/regent/regent/HtmlClosePinLaw" = some m.cls := findClass_of_methodNamed Bd.named
  have hnm := (name_of_methodNamed Bd.named Bd.method).1
  have X0 : Stand p l e rm4_3_46_66 s m #[.int n1, .int c0, .int c1, .int c2] below meth c s₁ [] 0 0 := Stand.of_body Bd
  have e0 : s₁.heap = h0 := by rw [← hh, Bd.state]; rfl
  have N0 := Fr.nil n0
  have zO := O0.1
  have zO2 := O0.2.1
  refine own_open (own_via (S' := s₁.setTop (mkF m 0 #[.val (.int n1), .val (.int c0), .val (.int c1), .val (.int c2)] [])) (fun t k => castTop (ef_own_exp2 m n1 c0 c1 c2) k) ?_)
  have K0 : Keep h0 h0 [] := Keep.refl _ _
  refine ov s₁ 1 #[.val (.int n1), .val (.int c0), .val (.int c1), .val (.int c2)] [.int n1] (fun t k => XS.iloadN X0.here hx rfl (hb hby d5_0) rfl k) ?_
  refine ov s₁ 124 #[.val (.int n1), .val (.int c0), .val (.int c1), .val (.int c2)] [] (fun t k => XS.ifYes X0.here hx rfl (pc0 := 1) (pc' := 124) rfl (hb hby d5_1) rfl ((if0 _ _).trans (feq hn0).2) (by decide) (by decide) k) ?_
  refine ov s₁ 125 #[.val (.int n1), .val (.int c0), .val (.int c1), .val (.int c2)] [.int n1] (fun t k => XS.iloadN X0.here hx rfl (hb hby d5_124) rfl k) ?_
  refine ov s₁ 126 #[.val (.int n1), .val (.int c0), .val (.int c1), .val (.int c2)] [.int 1, .int n1] (fun t k => XS.iconst X0.here hx rfl (hb hby d5_125) k) ?_
  refine ov s₁ 254 #[.val (.int n1), .val (.int c0), .val (.int c1), .val (.int c2)] [] (fun t k => XS.icmpYes X0.here hx rfl (pc0 := 126) (pc' := 254) rfl (hb hby d5_126) rfl (feq hn1).2 (by decide) (by decide) k) ?_
  refine ov s₁ 255 #[.val (.int n1), .val (.int c0), .val (.int c1), .val (.int c2)] [.int n1] (fun t k => XS.iloadN X0.here hx rfl (hb hby d5_254) rfl k) ?_
  refine ov s₁ 256 #[.val (.int n1), .val (.int c0), .val (.int c1), .val (.int c2)] [.int 2, .int n1] (fun t k => XS.iconst X0.here hx rfl (hb hby d5_255) k) ?_
  refine ov s₁ 259 #[.val (.int n1), .val (.int c0), .val (.int c1), .val (.int c2)] [] (fun t k => XS.icmpNo X0.here hx rfl (hb hby d5_256) rfl (teq hn2).2 k) ?_
  obtain ⟨T1, h1, X1, e1, E1, A1, D1, -, st1⟩ := newO X0 hx hZ hown (wd4 hw) (wd5 hw) (wd6 hw) e0 (g := (mkF m 259 #[.val (.int n1), .val (.int c0), .val (.int c1), .val (.int c2)] [])) rfl (hb hby d5_259) (by decide) (by decide)
  obtain ⟨b1, g1⟩ : ∃ z, z = h0.size := ⟨_, rfl⟩
  rw [← g1] at A1 D1 st1
  have lt_b1 : h1.size > b1 := A1.lt
  have sz2 : h0.size ≤ h1.size := E1.1
  have O3 : Old Z n0 h1 := O0.ext E1
  have K4 : Keep h0 h1 [] := K0.ext E1
  have F1_value : Fld Z h1 b1 "java/lang/String" "value" "[B" .null := D1 (Or.inr (wd20 hw)) (ty := (.array .byte)) (by decide)
  have F1_coder : Fld Z h1 b1 "java/lang/String" "coder" "B" (.int 0) := D1 (Or.inr (wd21 hw)) (ty := .byte) (by decide)
  refine ov T1 262 #[.val (.int n1), .val (.int c0), .val (.int c1), .val (.int c2)] [.ref b1] st1 ?_
  refine ov T1 263 #[.val (.int n1), .val (.int c0), .val (.int c1), .val (.int c2)] [.ref b1, .ref b1] (fun t k => XS.dup X1.here hx rfl (hb hby d5_262) rfl rfl k) ?_
  refine ov T1 265 #[.val (.int n1), .val (.int c0), .val (.int c1), .val (.int c2)] [.int 21, .ref b1, .ref b1] (fun t k => XS.bipush X1.here hx rfl (hb hby d5_263) k) ?_
  obtain ⟨T5, h5, k5, X5, e5, E5, A5, st5⟩ := newP (aty := .char) X1 hx hZ (wd7 hw) e1 (g := (mkF m 265 #[.val (.int n1), .val (.int c0), .val (.int c1), .val (.int c2)] [.int 21, .ref b1, .ref b1])) rfl (hb hby d5_265) rfl (by decide : ¬ ((21 : Int32) < (0 : Int32))) (cap := 21) (by decide) (by decide) (by decide) (by decide)
  obtain ⟨b5, g5⟩ : ∃ z, z = h1.size := ⟨_, rfl⟩
  rw [← g5] at A5 st5
  have lt_b5 : h5.size > b5 := A5.lt
  have sz6 : h1.size ≤ h5.size := E5.1
  have O7 : Old Z n0 h5 := O3.ext E5
  have K8 : Keep h0 h5 [] := K4.ext E5
  have V5 : Arv Z h5 b5 k5 .char (21 : Int32) [.int 0, .int 0, .int 0, .int 0, .int 0, .int 0, .int 0, .int 0, .int 0, .int 0, .int 0, .int 0, .int 0, .int 0, .int 0, .int 0, .int 0, .int 0, .int 0, .int 0, .int 0] (.int 0) := (Arv.new A5 (by decide)).pad (pad_rep [] (.int 0) 21)
  refine ov T5 267 #[.val (.int n1), .val (.int c0), .val (.int c1), .val (.int c2)] [.ref b5, .ref b1, .ref b1] st5 ?_
  refine ov T5 268 #[.val (.int n1), .val (.int c0), .val (.int c1), .val (.int c2)] [.ref b5, .ref b5, .ref b1, .ref b1] (fun t k => XS.dup X5.here hx rfl (hb hby d5_267) rfl rfl k) ?_
  refine ov T5 269 #[.val (.int n1), .val (.int c0), .val (.int c1), .val (.int c2)] [.int 0, .ref b5, .ref b5, .ref b1, .ref b1] (fun t k => XS.iconst X5.here hx rfl (hb hby d5_268) k) ?_
  refine ov T5 271 #[.val (.int n1), .val (.int c0), .val (.int c1), .val (.int c2)] [.int 60, .int 0, .ref b5, .ref b5, .ref b1, .ref b1] (fun t k => XS.bipush X5.here hx rfl (hb hby d5_269) k) ?_
  obtain ⟨cl9, Ar9, q9, S9, M9, H9, U9⟩ := id V5
  obtain ⟨T9, h9, X9, e9, W9, st9⟩ := stC X5 hx hZ e5 Ar9 (j := (0 : Int32)) (inb_of S9 ⟨by decide, by decide⟩) (g := (mkF m 271 #[.val (.int n1), .val (.int c0), .val (.int c1), .val (.int c2)] [.int 60, .int 0, .ref b5, .ref b5, .ref b1, .ref b1])) rfl rfl (hb hby d5_271)
  have sz10 : h5.size ≤ h9.size := Nat.le_of_eq W9.size.symm
  have O11 : Old Z n0 h9 := O7.wr W9 (by omega : n0 ≤ b5)
  have N9 := Fr.snoc X9 N0 (by omega : n0 ≤ b5)
  have K12 : Keep h0 h9 [] := K8.wr W9 (Or.inr (by omega : h0.size ≤ b5))
  have V9 : Arv Z h9 b5 k5 .char (21 : Int32) [.int 60, .int 0, .int 0, .int 0, .int 0, .int 0, .int 0, .int 0, .int 0, .int 0, .int 0, .int 0, .int 0, .int 0, .int 0, .int 0, .int 0, .int 0, .int 0, .int 0, .int 0] (.int 0) := Arv.set Ar9 q9 S9 M9 H9 U9 (fits_nar_char _) W9 0 rfl (Nat.le_of_ble_eq_true rfl)
  refine ov T9 272 #[.val (.int n1), .val (.int c0), .val (.int c1), .val (.int c2)] [.ref b5, .ref b1, .ref b1] st9 ?_
  refine ov T9 273 #[.val (.int n1), .val (.int c0), .val (.int c1), .val (.int c2)] [.ref b5, .ref b5, .ref b1, .ref b1] (fun t k => XS.dup X9.here hx rfl (hb hby d5_272) rfl rfl k) ?_
  refine ov T9 274 #[.val (.int n1), .val (.int c0), .val (.int c1), .val (.int c2)] [.int 1, .ref b5, .ref b5, .ref b1, .ref b1] (fun t k => XS.iconst X9.here hx rfl (hb hby d5_273) k) ?_
  refine ov T9 276 #[.val (.int n1), .val (.int c0), .val (.int c1), .val (.int c2)] [.int 33, .int 1, .ref b5, .ref b5, .ref b1, .ref b1] (fun t k => XS.bipush X9.here hx rfl (hb hby d5_274) k) ?_
  obtain ⟨cl13, Ar13, q13, S13, M13, H13, U13⟩ := id V9
  obtain ⟨T13, h13, X13, e13, W13, st13⟩ := stC X9 hx hZ e9 Ar13 (j := (1 : Int32)) (inb_of S13 ⟨by decide, by decide⟩) (g := (mkF m 276 #[.val (.int n1), .val (.int c0), .val (.int c1), .val (.int c2)] [.int 33, .int 1, .ref b5, .ref b5, .ref b1, .ref b1])) rfl rfl (hb hby d5_276)
  have sz14 : h9.size ≤ h13.size := Nat.le_of_eq W13.size.symm
  have O15 : Old Z n0 h13 := O11.wr W13 (by omega : n0 ≤ b5)
  have N13 := Fr.snoc X13 N9 (by omega : n0 ≤ b5)
  have K16 : Keep h0 h13 [] := K12.wr W13 (Or.inr (by omega : h0.size ≤ b5))
  have V13 : Arv Z h13 b5 k5 .char (21 : Int32) [.int 60, .int 33, .int 0, .int 0, .int 0, .int 0, .int 0, .int 0, .int 0, .int 0, .int 0, .int 0, .int 0, .int 0, .int 0, .int 0, .int 0, .int 0, .int 0, .int 0, .int 0] (.int 0) := Arv.set Ar13 q13 S13 M13 H13 U13 (fits_nar_char _) W13 1 rfl (Nat.le_of_ble_eq_true rfl)
  refine ov T13 277 #[.val (.int n1), .val (.int c0), .val (.int c1), .val (.int c2)] [.ref b5, .ref b1, .ref b1] st13 ?_
  refine ov T13 278 #[.val (.int n1), .val (.int c0), .val (.int c1), .val (.int c2)] [.ref b5, .ref b5, .ref b1, .ref b1] (fun t k => XS.dup X13.here hx rfl (hb hby d5_277) rfl rfl k) ?_
  refine ov T13 279 #[.val (.int n1), .val (.int c0), .val (.int c1), .val (.int c2)] [.int 2, .ref b5, .ref b5, .ref b1, .ref b1] (fun t k => XS.iconst X13.here hx rfl (hb hby d5_278) k) ?_
  refine ov T13 281 #[.val (.int n1), .val (.int c0), .val (.int c1), .val (.int c2)] [.int 68, .int 2, .ref b5, .ref b5, .ref b1, .ref b1] (fun t k => XS.bipush X13.here hx rfl (hb hby d5_279) k) ?_
  obtain ⟨cl17, Ar17, q17, S17, M17, H17, U17⟩ := id V13
  obtain ⟨T17, h17, X17, e17, W17, st17⟩ := stC X13 hx hZ e13 Ar17 (j := (2 : Int32)) (inb_of S17 ⟨by decide, by decide⟩) (g := (mkF m 281 #[.val (.int n1), .val (.int c0), .val (.int c1), .val (.int c2)] [.int 68, .int 2, .ref b5, .ref b5, .ref b1, .ref b1])) rfl rfl (hb hby d5_281)
  have sz18 : h13.size ≤ h17.size := Nat.le_of_eq W17.size.symm
  have O19 : Old Z n0 h17 := O15.wr W17 (by omega : n0 ≤ b5)
  have N17 := Fr.snoc X17 N13 (by omega : n0 ≤ b5)
  have K20 : Keep h0 h17 [] := K16.wr W17 (Or.inr (by omega : h0.size ≤ b5))
  have V17 : Arv Z h17 b5 k5 .char (21 : Int32) [.int 60, .int 33, .int 68, .int 0, .int 0, .int 0, .int 0, .int 0, .int 0, .int 0, .int 0, .int 0, .int 0, .int 0, .int 0, .int 0, .int 0, .int 0, .int 0, .int 0, .int 0] (.int 0) := Arv.set Ar17 q17 S17 M17 H17 U17 (fits_nar_char _) W17 2 rfl (Nat.le_of_ble_eq_true rfl)
  refine ov T17 282 #[.val (.int n1), .val (.int c0), .val (.int c1), .val (.int c2)] [.ref b5, .ref b1, .ref b1] st17 ?_
  refine ov T17 283 #[.val (.int n1), .val (.int c0), .val (.int c1), .val (.int c2)] [.ref b5, .ref b5, .ref b1, .ref b1] (fun t k => XS.dup X17.here hx rfl (hb hby d5_282) rfl rfl k) ?_
  refine ov T17 284 #[.val (.int n1), .val (.int c0), .val (.int c1), .val (.int c2)] [.int 3, .ref b5, .ref b5, .ref b1, .ref b1] (fun t k => XS.iconst X17.here hx rfl (hb hby d5_283) k) ?_
  refine ov T17 286 #[.val (.int n1), .val (.int c0), .val (.int c1), .val (.int c2)] [.int 79, .int 3, .ref b5, .ref b5, .ref b1, .ref b1] (fun t k => XS.bipush X17.here hx rfl (hb hby d5_284) k) ?_
  obtain ⟨cl21, Ar21, q21, S21, M21, H21, U21⟩ := id V17
  obtain ⟨T21, h21, X21, e21, W21, st21⟩ := stC X17 hx hZ e17 Ar21 (j := (3 : Int32)) (inb_of S21 ⟨by decide, by decide⟩) (g := (mkF m 286 #[.val (.int n1), .val (.int c0), .val (.int c1), .val (.int c2)] [.int 79, .int 3, .ref b5, .ref b5, .ref b1, .ref b1])) rfl rfl (hb hby d5_286)
  have sz22 : h17.size ≤ h21.size := Nat.le_of_eq W21.size.symm
  have O23 : Old Z n0 h21 := O19.wr W21 (by omega : n0 ≤ b5)
  have N21 := Fr.snoc X21 N17 (by omega : n0 ≤ b5)
  have K24 : Keep h0 h21 [] := K20.wr W21 (Or.inr (by omega : h0.size ≤ b5))
  have V21 : Arv Z h21 b5 k5 .char (21 : Int32) [.int 60, .int 33, .int 68, .int 79, .int 0, .int 0, .int 0, .int 0, .int 0, .int 0, .int 0, .int 0, .int 0, .int 0, .int 0, .int 0, .int 0, .int 0, .int 0, .int 0, .int 0] (.int 0) := Arv.set Ar21 q21 S21 M21 H21 U21 (fits_nar_char _) W21 3 rfl (Nat.le_of_ble_eq_true rfl)
  refine ov T21 287 #[.val (.int n1), .val (.int c0), .val (.int c1), .val (.int c2)] [.ref b5, .ref b1, .ref b1] st21 ?_
  refine ov T21 288 #[.val (.int n1), .val (.int c0), .val (.int c1), .val (.int c2)] [.ref b5, .ref b5, .ref b1, .ref b1] (fun t k => XS.dup X21.here hx rfl (hb hby d5_287) rfl rfl k) ?_
  refine ov T21 289 #[.val (.int n1), .val (.int c0), .val (.int c1), .val (.int c2)] [.int 4, .ref b5, .ref b5, .ref b1, .ref b1] (fun t k => XS.iconst X21.here hx rfl (hb hby d5_288) k) ?_
  refine ov T21 291 #[.val (.int n1), .val (.int c0), .val (.int c1), .val (.int c2)] [.int 67, .int 4, .ref b5, .ref b5, .ref b1, .ref b1] (fun t k => XS.bipush X21.here hx rfl (hb hby d5_289) k) ?_
  obtain ⟨cl25, Ar25, q25, S25, M25, H25, U25⟩ := id V21
  obtain ⟨T25, h25, X25, e25, W25, st25⟩ := stC X21 hx hZ e21 Ar25 (j := (4 : Int32)) (inb_of S25 ⟨by decide, by decide⟩) (g := (mkF m 291 #[.val (.int n1), .val (.int c0), .val (.int c1), .val (.int c2)] [.int 67, .int 4, .ref b5, .ref b5, .ref b1, .ref b1])) rfl rfl (hb hby d5_291)
  have sz26 : h21.size ≤ h25.size := Nat.le_of_eq W25.size.symm
  have O27 : Old Z n0 h25 := O23.wr W25 (by omega : n0 ≤ b5)
  have N25 := Fr.snoc X25 N21 (by omega : n0 ≤ b5)
  have K28 : Keep h0 h25 [] := K24.wr W25 (Or.inr (by omega : h0.size ≤ b5))
  have V25 : Arv Z h25 b5 k5 .char (21 : Int32) [.int 60, .int 33, .int 68, .int 79, .int 67, .int 0, .int 0, .int 0, .int 0, .int 0, .int 0, .int 0, .int 0, .int 0, .int 0, .int 0, .int 0, .int 0, .int 0, .int 0, .int 0] (.int 0) := Arv.set Ar25 q25 S25 M25 H25 U25 (fits_nar_char _) W25 4 rfl (Nat.le_of_ble_eq_true rfl)
  refine ov T25 292 #[.val (.int n1), .val (.int c0), .val (.int c1), .val (.int c2)] [.ref b5, .ref b1, .ref b1] st25 ?_
  refine ov T25 293 #[.val (.int n1), .val (.int c0), .val (.int c1), .val (.int c2)] [.ref b5, .ref b5, .ref b1, .ref b1] (fun t k => XS.dup X25.here hx rfl (hb hby d5_292) rfl rfl k) ?_
  refine ov T25 294 #[.val (.int n1), .val (.int c0), .val (.int c1), .val (.int c2)] [.int 5, .ref b5, .ref b5, .ref b1, .ref b1] (fun t k => XS.iconst X25.here hx rfl (hb hby d5_293) k) ?_
  refine ov T25 296 #[.val (.int n1), .val (.int c0), .val (.int c1), .val (.int c2)] [.int 84, .int 5, .ref b5, .ref b5, .ref b1, .ref b1] (fun t k => XS.bipush X25.here hx rfl (hb hby d5_294) k) ?_
  obtain ⟨cl29, Ar29, q29, S29, M29, H29, U29⟩ := id V25
  obtain ⟨T29, h29, X29, e29, W29, st29⟩ := stC X25 hx hZ e25 Ar29 (j := (5 : Int32)) (inb_of S29 ⟨by decide, by decide⟩) (g := (mkF m 296 #[.val (.int n1), .val (.int c0), .val (.int c1), .val (.int c2)] [.int 84, .int 5, .ref b5, .ref b5, .ref b1, .ref b1])) rfl rfl (hb hby d5_296)
  have sz30 : h25.size ≤ h29.size := Nat.le_of_eq W29.size.symm
  have O31 : Old Z n0 h29 := O27.wr W29 (by omega : n0 ≤ b5)
  have N29 := Fr.snoc X29 N25 (by omega : n0 ≤ b5)
  have K32 : Keep h0 h29 [] := K28.wr W29 (Or.inr (by omega : h0.size ≤ b5))
  have V29 : Arv Z h29 b5 k5 .char (21 : Int32) [.int 60, .int 33, .int 68, .int 79, .int 67, .int 84, .int 0, .int 0, .int 0, .int 0, .int 0, .int 0, .int 0, .int 0, .int 0, .int 0, .int 0, .int 0, .int 0, .int 0, .int 0] (.int 0) := Arv.set Ar29 q29 S29 M29 H29 U29 (fits_nar_char _) W29 5 rfl (Nat.le_of_ble_eq_true rfl)
  refine ov T29 297 #[.val (.int n1), .val (.int c0), .val (.int c1), .val (.int c2)] [.ref b5, .ref b1, .ref b1] st29 ?_
  refine ov T29 298 #[.val (.int n1), .val (.int c0), .val (.int c1), .val (.int c2)] [.ref b5, .ref b5, .ref b1, .ref b1] (fun t k => XS.dup X29.here hx rfl (hb hby d5_297) rfl rfl k) ?_
  refine ov T29 300 #[.val (.int n1), .val (.int c0), .val (.int c1), .val (.int c2)] [.int 6, .ref b5, .ref b5, .ref b1, .ref b1] (fun t k => XS.bipush X29.here hx rfl (hb hby d5_298) k) ?_
  refine ov T29 302 #[.val (.int n1), .val (.int c0), .val (.int c1), .val (.int c2)] [.int 89, .int 6, .ref b5, .ref b5, .ref b1, .ref b1] (fun t k => XS.bipush X29.here hx rfl (hb hby d5_300) k) ?_
  obtain ⟨cl33, Ar33, q33, S33, M33, H33, U33⟩ := id V29
  obtain ⟨T33, h33, X33, e33, W33, st33⟩ := stC X29 hx hZ e29 Ar33 (j := (6 : Int32)) (inb_of S33 ⟨by decide, by decide⟩) (g := (mkF m 302 #[.val (.int n1), .val (.int c0), .val (.int c1), .val (.int c2)] [.int 89, .int 6, .ref b5, .ref b5, .ref b1, .ref b1])) rfl rfl (hb hby d5_302)
  have sz34 : h29.size ≤ h33.size := Nat.le_of_eq W33.size.symm
  have O35 : Old Z n0 h33 := O31.wr W33 (by omega : n0 ≤ b5)
  have N33 := Fr.snoc X33 N29 (by omega : n0 ≤ b5)
  have K36 : Keep h0 h33 [] := K32.wr W33 (Or.inr (by omega : h0.size ≤ b5))
  have V33 : Arv Z h33 b5 k5 .char (21 : Int32) [.int 60, .int 33, .int 68, .int 79, .int 67, .int 84, .int 89, .int 0, .int 0, .int 0, .int 0, .int 0, .int 0, .int 0, .int 0, .int 0, .int 0, .int 0, .int 0, .int 0, .int 0] (.int 0) := Arv.set Ar33 q33 S33 M33 H33 U33 (fits_nar_char _) W33 6 rfl (Nat.le_of_ble_eq_true rfl)
  refine ov T33 303 #[.val (.int n1), .val (.int c0), .val (.int c1), .val (.int c2)] [.ref b5, .ref b1, .ref b1] st33 ?_
  refine ov T33 304 #[.val (.int n1), .val (.int c0), .val (.int c1), .val (.int c2)] [.ref b5, .ref b5, .ref b1, .ref b1] (fun t k => XS.dup X33.here hx rfl (hb hby d5_303) rfl rfl k) ?_
  refine ov T33 306 #[.val (.int n1), .val (.int c0), .val (.int c1), .val (.int c2)] [.int 7, .ref b5, .ref b5, .ref b1, .ref b1] (fun t k => XS.bipush X33.here hx rfl (hb hby d5_304) k) ?_
  refine ov T33 308 #[.val (.int n1), .val (.int c0), .val (.int c1), .val (.int c2)] [.int 80, .int 7, .ref b5, .ref b5, .ref b1, .ref b1] (fun t k => XS.bipush X33.here hx rfl (hb hby d5_306) k) ?_
  obtain ⟨cl37, Ar37, q37, S37, M37, H37, U37⟩ := id V33
  obtain ⟨T37, h37, X37, e37, W37, st37⟩ := stC X33 hx hZ e33 Ar37 (j := (7 : Int32)) (inb_of S37 ⟨by decide, by decide⟩) (g := (mkF m 308 #[.val (.int n1), .val (.int c0), .val (.int c1), .val (.int c2)] [.int 80, .int 7, .ref b5, .ref b5, .ref b1, .ref b1])) rfl rfl (hb hby d5_308)
  have sz38 : h33.size ≤ h37.size := Nat.le_of_eq W37.size.symm
  have O39 : Old Z n0 h37 := O35.wr W37 (by omega : n0 ≤ b5)
  have N37 := Fr.snoc X37 N33 (by omega : n0 ≤ b5)
  have K40 : Keep h0 h37 [] := K36.wr W37 (Or.inr (by omega : h0.size ≤ b5))
  have V37 : Arv Z h37 b5 k5 .char (21 : Int32) [.int 60, .int 33, .int 68, .int 79, .int 67, .int 84, .int 89, .int 80, .int 0, .int 0, .int 0, .int 0, .int 0, .int 0, .int 0, .int 0, .int 0, .int 0, .int 0, .int 0, .int 0] (.int 0) := Arv.set Ar37 q37 S37 M37 H37 U37 (fits_nar_char _) W37 7 rfl (Nat.le_of_ble_eq_true rfl)
  refine ov T37 309 #[.val (.int n1), .val (.int c0), .val (.int c1), .val (.int c2)] [.ref b5, .ref b1, .ref b1] st37 ?_
  refine ov T37 310 #[.val (.int n1), .val (.int c0), .val (.int c1), .val (.int c2)] [.ref b5, .ref b5, .ref b1, .ref b1] (fun t k => XS.dup X37.here hx rfl (hb hby d5_309) rfl rfl k) ?_
  refine ov T37 312 #[.val (.int n1), .val (.int c0), .val (.int c1), .val (.int c2)] [.int 8, .ref b5, .ref b5, .ref b1, .ref b1] (fun t k => XS.bipush X37.here hx rfl (hb hby d5_310) k) ?_
  refine ov T37 314 #[.val (.int n1), .val (.int c0), .val (.int c1), .val (.int c2)] [.int 69, .int 8, .ref b5, .ref b5, .ref b1, .ref b1] (fun t k => XS.bipush X37.here hx rfl (hb hby d5_312) k) ?_
  obtain ⟨cl41, Ar41, q41, S41, M41, H41, U41⟩ := id V37
  obtain ⟨T41, h41, X41, e41, W41, st41⟩ := stC X37 hx hZ e37 Ar41 (j := (8 : Int32)) (inb_of S41 ⟨by decide, by decide⟩) (g := (mkF m 314 #[.val (.int n1), .val (.int c0), .val (.int c1), .val (.int c2)] [.int 69, .int 8, .ref b5, .ref b5, .ref b1, .ref b1])) rfl rfl (hb hby d5_314)
  have sz42 : h37.size ≤ h41.size := Nat.le_of_eq W41.size.symm
  have O43 : Old Z n0 h41 := O39.wr W41 (by omega : n0 ≤ b5)
  have N41 := Fr.snoc X41 N37 (by omega : n0 ≤ b5)
  have K44 : Keep h0 h41 [] := K40.wr W41 (Or.inr (by omega : h0.size ≤ b5))
  have V41 : Arv Z h41 b5 k5 .char (21 : Int32) [.int 60, .int 33, .int 68, .int 79, .int 67, .int 84, .int 89, .int 80, .int 69, .int 0, .int 0, .int 0, .int 0, .int 0, .int 0, .int 0, .int 0, .int 0, .int 0, .int 0, .int 0] (.int 0) := Arv.set Ar41 q41 S41 M41 H41 U41 (fits_nar_char _) W41 8 rfl (Nat.le_of_ble_eq_true rfl)
  refine ov T41 315 #[.val (.int n1), .val (.int c0), .val (.int c1), .val (.int c2)] [.ref b5, .ref b1, .ref b1] st41 ?_
  refine ov T41 316 #[.val (.int n1), .val (.int c0), .val (.int c1), .val (.int c2)] [.ref b5, .ref b5, .ref b1, .ref b1] (fun t k => XS.dup X41.here hx rfl (hb hby d5_315) rfl rfl k) ?_
  refine ov T41 318 #[.val (.int n1), .val (.int c0), .val (.int c1), .val (.int c2)] [.int 9, .ref b5, .ref b5, .ref b1, .ref b1] (fun t k => XS.bipush X41.here hx rfl (hb hby d5_316) k) ?_
  refine ov T41 320 #[.val (.int n1), .val (.int c0), .val (.int c1), .val (.int c2)] [.int 32, .int 9, .ref b5, .ref b5, .ref b1, .ref b1] (fun t k => XS.bipush X41.here hx rfl (hb hby d5_318) k) ?_
  obtain ⟨cl45, Ar45, q45, S45, M45, H45, U45⟩ := id V41
  obtain ⟨T45, h45, X45, e45, W45, st45⟩ := stC X41 hx hZ e41 Ar45 (j := (9 : Int32)) (inb_of S45 ⟨by decide, by decide⟩) (g := (mkF m 320 #[.val (.int n1), .val (.int c0), .val (.int c1), .val (.int c2)] [.int 32, .int 9, .ref b5, .ref b5, .ref b1, .ref b1])) rfl rfl (hb hby d5_320)
  have sz46 : h41.size ≤ h45.size := Nat.le_of_eq W45.size.symm
  have O47 : Old Z n0 h45 := O43.wr W45 (by omega : n0 ≤ b5)
  have N45 := Fr.snoc X45 N41 (by omega : n0 ≤ b5)
  have K48 : Keep h0 h45 [] := K44.wr W45 (Or.inr (by omega : h0.size ≤ b5))
  have V45 : Arv Z h45 b5 k5 .char (21 : Int32) [.int 60, .int 33, .int 68, .int 79, .int 67, .int 84, .int 89, .int 80, .int 69, .int 32, .int 0, .int 0, .int 0, .int 0, .int 0, .int 0, .int 0, .int 0, .int 0, .int 0, .int 0] (.int 0) := Arv.set Ar45 q45 S45 M45 H45 U45 (fits_nar_char _) W45 9 rfl (Nat.le_of_ble_eq_true rfl)
  refine ov T45 321 #[.val (.int n1), .val (.int c0), .val (.int c1), .val (.int c2)] [.ref b5, .ref b1, .ref b1] st45 ?_
  refine ov T45 322 #[.val (.int n1), .val (.int c0), .val (.int c1), .val (.int c2)] [.ref b5, .ref b5, .ref b1, .ref b1] (fun t k => XS.dup X45.here hx rfl (hb hby d5_321) rfl rfl k) ?_
  refine ov T45 324 #[.val (.int n1), .val (.int c0), .val (.int c1), .val (.int c2)] [.int 10, .ref b5, .ref b5, .ref b1, .ref b1] (fun t k => XS.bipush X45.here hx rfl (hb hby d5_322) k) ?_
  refine ov T45 326 #[.val (.int n1), .val (.int c0), .val (.int c1), .val (.int c2)] [.int 104, .int 10, .ref b5, .ref b5, .ref b1, .ref b1] (fun t k => XS.bipush X45.here hx rfl (hb hby d5_324) k) ?_
  obtain ⟨cl49, Ar49, q49, S49, M49, H49, U49⟩ := id V45
  obtain ⟨T49, h49, X49, e49, W49, st49⟩ := stC X45 hx hZ e45 Ar49 (j := (10 : Int32)) (inb_of S49 ⟨by decide, by decide⟩) (g := (mkF m 326 #[.val (.int n1), .val (.int c0), .val (.int c1), .val (.int c2)] [.int 104, .int 10, .ref b5, .ref b5, .ref b1, .ref b1])) rfl rfl (hb hby d5_326)
  have sz50 : h45.size ≤ h49.size := Nat.le_of_eq W49.size.symm
  have O51 : Old Z n0 h49 := O47.wr W49 (by omega : n0 ≤ b5)
  have N49 := Fr.snoc X49 N45 (by omega : n0 ≤ b5)
  have K52 : Keep h0 h49 [] := K48.wr W49 (Or.inr (by omega : h0.size ≤ b5))
  have V49 : Arv Z h49 b5 k5 .char (21 : Int32) [.int 60, .int 33, .int 68, .int 79, .int 67, .int 84, .int 89, .int 80, .int 69, .int 32, .int 104, .int 0, .int 0, .int 0, .int 0, .int 0, .int 0, .int 0, .int 0, .int 0, .int 0] (.int 0) := Arv.set Ar49 q49 S49 M49 H49 U49 (fits_nar_char _) W49 10 rfl (Nat.le_of_ble_eq_true rfl)
  refine ov T49 327 #[.val (.int n1), .val (.int c0), .val (.int c1), .val (.int c2)] [.ref b5, .ref b1, .ref b1] st49 ?_
  refine ov T49 328 #[.val (.int n1), .val (.int c0), .val (.int c1), .val (.int c2)] [.ref b5, .ref b5, .ref b1, .ref b1] (fun t k => XS.dup X49.here hx rfl (hb hby d5_327) rfl rfl k) ?_
  refine ov T49 330 #[.val (.int n1), .val (.int c0), .val (.int c1), .val (.int c2)] [.int 11, .ref b5, .ref b5, .ref b1, .ref b1] (fun t k => XS.bipush X49.here hx rfl (hb hby d5_328) k) ?_
  refine ov T49 332 #[.val (.int n1), .val (.int c0), .val (.int c1), .val (.int c2)] [.int 116, .int 11, .ref b5, .ref b5, .ref b1, .ref b1] (fun t k => XS.bipush X49.here hx rfl (hb hby d5_330) k) ?_
  obtain ⟨cl53, Ar53, q53, S53, M53, H53, U53⟩ := id V49
  obtain ⟨T53, h53, X53, e53, W53, st53⟩ := stC X49 hx hZ e49 Ar53 (j := (11 : Int32)) (inb_of S53 ⟨by decide, by decide⟩) (g := (mkF m 332 #[.val (.int n1), .val (.int c0), .val (.int c1), .val (.int c2)] [.int 116, .int 11, .ref b5, .ref b5, .ref b1, .ref b1])) rfl rfl (hb hby d5_332)
  have sz54 : h49.size ≤ h53.size := Nat.le_of_eq W53.size.symm
  have O55 : Old Z n0 h53 := O51.wr W53 (by omega : n0 ≤ b5)
  have N53 := Fr.snoc X53 N49 (by omega : n0 ≤ b5)
  have K56 : Keep h0 h53 [] := K52.wr W53 (Or.inr (by omega : h0.size ≤ b5))
  have V53 : Arv Z h53 b5 k5 .char (21 : Int32) [.int 60, .int 33, .int 68, .int 79, .int 67, .int 84, .int 89, .int 80, .int 69, .int 32, .int 104, .int 116, .int 0, .int 0, .int 0, .int 0, .int 0, .int 0, .int 0, .int 0, .int 0] (.int 0) := Arv.set Ar53 q53 S53 M53 H53 U53 (fits_nar_char _) W53 11 rfl (Nat.le_of_ble_eq_true rfl)
  refine ov T53 333 #[.val (.int n1), .val (.int c0), .val (.int c1), .val (.int c2)] [.ref b5, .ref b1, .ref b1] st53 ?_
  refine ov T53 334 #[.val (.int n1), .val (.int c0), .val (.int c1), .val (.int c2)] [.ref b5, .ref b5, .ref b1, .ref b1] (fun t k => XS.dup X53.here hx rfl (hb hby d5_333) rfl rfl k) ?_
  refine ov T53 336 #[.val (.int n1), .val (.int c0), .val (.int c1), .val (.int c2)] [.int 12, .ref b5, .ref b5, .ref b1, .ref b1] (fun t k => XS.bipush X53.here hx rfl (hb hby d5_334) k) ?_
  refine ov T53 338 #[.val (.int n1), .val (.int c0), .val (.int c1), .val (.int c2)] [.int 109, .int 12, .ref b5, .ref b5, .ref b1, .ref b1] (fun t k => XS.bipush X53.here hx rfl (hb hby d5_336) k) ?_
  obtain ⟨cl57, Ar57, q57, S57, M57, H57, U57⟩ := id V53
  obtain ⟨T57, h57, X57, e57, W57, st57⟩ := stC X53 hx hZ e53 Ar57 (j := (12 : Int32)) (inb_of S57 ⟨by decide, by decide⟩) (g := (mkF m 338 #[.val (.int n1), .val (.int c0), .val (.int c1), .val (.int c2)] [.int 109, .int 12, .ref b5, .ref b5, .ref b1, .ref b1])) rfl rfl (hb hby d5_338)
  have sz58 : h53.size ≤ h57.size := Nat.le_of_eq W57.size.symm
  have O59 : Old Z n0 h57 := O55.wr W57 (by omega : n0 ≤ b5)
  have N57 := Fr.snoc X57 N53 (by omega : n0 ≤ b5)
  have K60 : Keep h0 h57 [] := K56.wr W57 (Or.inr (by omega : h0.size ≤ b5))
  have V57 : Arv Z h57 b5 k5 .char (21 : Int32) [.int 60, .int 33, .int 68, .int 79, .int 67, .int 84, .int 89, .int 80, .int 69, .int 32, .int 104, .int 116, .int 109, .int 0, .int 0, .int 0, .int 0, .int 0, .int 0, .int 0, .int 0] (.int 0) := Arv.set Ar57 q57 S57 M57 H57 U57 (fits_nar_char _) W57 12 rfl (Nat.le_of_ble_eq_true rfl)
  refine ov T57 339 #[.val (.int n1), .val (.int c0), .val (.int c1), .val (.int c2)] [.ref b5, .ref b1, .ref b1] st57 ?_
  refine ov T57 340 #[.val (.int n1), .val (.int c0), .val (.int c1), .val (.int c2)] [.ref b5, .ref b5, .ref b1, .ref b1] (fun t k => XS.dup X57.here hx rfl (hb hby d5_339) rfl rfl k) ?_
  refine ov T57 342 #[.val (.int n1), .val (.int c0), .val (.int c1), .val (.int c2)] [.int 13, .ref b5, .ref b5, .ref b1, .ref b1] (fun t k => XS.bipush X57.here hx rfl (hb hby d5_340) k) ?_
  refine ov T57 344 #[.val (.int n1), .val (.int c0), .val (.int c1), .val (.int c2)] [.int 108, .int 13, .ref b5, .ref b5, .ref b1, .ref b1] (fun t k => XS.bipush X57.here hx rfl (hb hby d5_342) k) ?_
  obtain ⟨cl61, Ar61, q61, S61, M61, H61, U61⟩ := id V57
  obtain ⟨T61, h61, X61, e61, W61, st61⟩ := stC X57 hx hZ e57 Ar61 (j := (13 : Int32)) (inb_of S61 ⟨by decide, by decide⟩) (g := (mkF m 344 #[.val (.int n1), .val (.int c0), .val (.int c1), .val (.int c2)] [.int 108, .int 13, .ref b5, .ref b5, .ref b1, .ref b1])) rfl rfl (hb hby d5_344)
  have sz62 : h57.size ≤ h61.size := Nat.le_of_eq W61.size.symm
  have O63 : Old Z n0 h61 := O59.wr W61 (by omega : n0 ≤ b5)
  have N61 := Fr.snoc X61 N57 (by omega : n0 ≤ b5)
  have K64 : Keep h0 h61 [] := K60.wr W61 (Or.inr (by omega : h0.size ≤ b5))
  have V61 : Arv Z h61 b5 k5 .char (21 : Int32) [.int 60, .int 33, .int 68, .int 79, .int 67, .int 84, .int 89, .int 80, .int 69, .int 32, .int 104, .int 116, .int 109, .int 108, .int 0, .int 0, .int 0, .int 0, .int 0, .int 0, .int 0] (.int 0) := Arv.set Ar61 q61 S61 M61 H61 U61 (fits_nar_char _) W61 13 rfl (Nat.le_of_ble_eq_true rfl)
  refine ov T61 345 #[.val (.int n1), .val (.int c0), .val (.int c1), .val (.int c2)] [.ref b5, .ref b1, .ref b1] st61 ?_
  refine ov T61 346 #[.val (.int n1), .val (.int c0), .val (.int c1), .val (.int c2)] [.ref b5, .ref b5, .ref b1, .ref b1] (fun t k => XS.dup X61.here hx rfl (hb hby d5_345) rfl rfl k) ?_
  refine ov T61 348 #[.val (.int n1), .val (.int c0), .val (.int c1), .val (.int c2)] [.int 14, .ref b5, .ref b5, .ref b1, .ref b1] (fun t k => XS.bipush X61.here hx rfl (hb hby d5_346) k) ?_
  refine ov T61 350 #[.val (.int n1), .val (.int c0), .val (.int c1), .val (.int c2)] [.int 62, .int 14, .ref b5, .ref b5, .ref b1, .ref b1] (fun t k => XS.bipush X61.here hx rfl (hb hby d5_348) k) ?_
  obtain ⟨cl65, Ar65, q65, S65, M65, H65, U65⟩ := id V61
  obtain ⟨T65, h65, X65, e65, W65, st65⟩ := stC X61 hx hZ e61 Ar65 (j := (14 : Int32)) (inb_of S65 ⟨by decide, by decide⟩) (g := (mkF m 350 #[.val (.int n1), .val (.int c0), .val (.int c1), .val (.int c2)] [.int 62, .int 14, .ref b5, .ref b5, .ref b1, .ref b1])) rfl rfl (hb hby d5_350)
  have sz66 : h61.size ≤ h65.size := Nat.le_of_eq W65.size.symm
  have O67 : Old Z n0 h65 := O63.wr W65 (by omega : n0 ≤ b5)
  have N65 := Fr.snoc X65 N61 (by omega : n0 ≤ b5)
  have K68 : Keep h0 h65 [] := K64.wr W65 (Or.inr (by omega : h0.size ≤ b5))
  have V65 : Arv Z h65 b5 k5 .char (21 : Int32) [.int 60, .int 33, .int 68, .int 79, .int 67, .int 84, .int 89, .int 80, .int 69, .int 32, .int 104, .int 116, .int 109, .int 108, .int 62, .int 0, .int 0, .int 0, .int 0, .int 0, .int 0] (.int 0) := Arv.set Ar65 q65 S65 M65 H65 U65 (fits_nar_char _) W65 14 rfl (Nat.le_of_ble_eq_true rfl)
  refine ov T65 351 #[.val (.int n1), .val (.int c0), .val (.int c1), .val (.int c2)] [.ref b5, .ref b1, .ref b1] st65 ?_
  refine ov T65 352 #[.val (.int n1), .val (.int c0), .val (.int c1), .val (.int c2)] [.ref b5, .ref b5, .ref b1, .ref b1] (fun t k => XS.dup X65.here hx rfl (hb hby d5_351) rfl rfl k) ?_
  refine ov T65 354 #[.val (.int n1), .val (.int c0), .val (.int c1), .val (.int c2)] [.int 15, .ref b5, .ref b5, .ref b1, .ref b1] (fun t k => XS.bipush X65.here hx rfl (hb hby d5_352) k) ?_
  refine ov T65 356 #[.val (.int n1), .val (.int c0), .val (.int c1), .val (.int c2)] [.int 10, .int 15, .ref b5, .ref b5, .ref b1, .ref b1] (fun t k => XS.bipush X65.here hx rfl (hb hby d5_354) k) ?_
  obtain ⟨cl69, Ar69, q69, S69, M69, H69, U69⟩ := id V65
  obtain ⟨T69, h69, X69, e69, W69, st69⟩ := stC X65 hx hZ e65 Ar69 (j := (15 : Int32)) (inb_of S69 ⟨by decide, by decide⟩) (g := (mkF m 356 #[.val (.int n1), .val (.int c0), .val (.int c1), .val (.int c2)] [.int 10, .int 15, .ref b5, .ref b5, .ref b1, .ref b1])) rfl rfl (hb hby d5_356)
  have sz70 : h65.size ≤ h69.size := Nat.le_of_eq W69.size.symm
  have O71 : Old Z n0 h69 := O67.wr W69 (by omega : n0 ≤ b5)
  have N69 := Fr.snoc X69 N65 (by omega : n0 ≤ b5)
  have K72 : Keep h0 h69 [] := K68.wr W69 (Or.inr (by omega : h0.size ≤ b5))
  have V69 : Arv Z h69 b5 k5 .char (21 : Int32) [.int 60, .int 33, .int 68, .int 79, .int 67, .int 84, .int 89, .int 80, .int 69, .int 32, .int 104, .int 116, .int 109, .int 108, .int 62, .int 10, .int 0, .int 0, .int 0, .int 0, .int 0] (.int 0) := Arv.set Ar69 q69 S69 M69 H69 U69 (fits_nar_char _) W69 15 rfl (Nat.le_of_ble_eq_true rfl)
  refine ov T69 357 #[.val (.int n1), .val (.int c0), .val (.int c1), .val (.int c2)] [.ref b5, .ref b1, .ref b1] st69 ?_
  refine ov T69 358 #[.val (.int n1), .val (.int c0), .val (.int c1), .val (.int c2)] [.ref b5, .ref b5, .ref b1, .ref b1] (fun t k => XS.dup X69.here hx rfl (hb hby d5_357) rfl rfl k) ?_
  refine ov T69 360 #[.val (.int n1), .val (.int c0), .val (.int c1), .val (.int c2)] [.int 16, .ref b5, .ref b5, .ref b1, .ref b1] (fun t k => XS.bipush X69.here hx rfl (hb hby d5_358) k) ?_
  refine ov T69 362 #[.val (.int n1), .val (.int c0), .val (.int c1), .val (.int c2)] [.int 60, .int 16, .ref b5, .ref b5, .ref b1, .ref b1] (fun t k => XS.bipush X69.here hx rfl (hb hby d5_360) k) ?_
  obtain ⟨cl73, Ar73, q73, S73, M73, H73, U73⟩ := id V69
  obtain ⟨T73, h73, X73, e73, W73, st73⟩ := stC X69 hx hZ e69 Ar73 (j := (16 : Int32)) (inb_of S73 ⟨by decide, by decide⟩) (g := (mkF m 362 #[.val (.int n1), .val (.int c0), .val (.int c1), .val (.int c2)] [.int 60, .int 16, .ref b5, .ref b5, .ref b1, .ref b1])) rfl rfl (hb hby d5_362)
  have sz74 : h69.size ≤ h73.size := Nat.le_of_eq W73.size.symm
  have O75 : Old Z n0 h73 := O71.wr W73 (by omega : n0 ≤ b5)
  have N73 := Fr.snoc X73 N69 (by omega : n0 ≤ b5)
  have K76 : Keep h0 h73 [] := K72.wr W73 (Or.inr (by omega : h0.size ≤ b5))
  have V73 : Arv Z h73 b5 k5 .char (21 : Int32) [.int 60, .int 33, .int 68, .int 79, .int 67, .int 84, .int 89, .int 80, .int 69, .int 32, .int 104, .int 116, .int 109, .int 108, .int 62, .int 10, .int 60, .int 0, .int 0, .int 0, .int 0] (.int 0) := Arv.set Ar73 q73 S73 M73 H73 U73 (fits_nar_char _) W73 16 rfl (Nat.le_of_ble_eq_true rfl)
  refine ov T73 363 #[.val (.int n1), .val (.int c0), .val (.int c1), .val (.int c2)] [.ref b5, .ref b1, .ref b1] st73 ?_
  refine ov T73 364 #[.val (.int n1), .val (.int c0), .val (.int c1), .val (.int c2)] [.ref b5, .ref b5, .ref b1, .ref b1] (fun t k => XS.dup X73.here hx rfl (hb hby d5_363) rfl rfl k) ?_
  refine ov T73 366 #[.val (.int n1), .val (.int c0), .val (.int c1), .val (.int c2)] [.int 17, .ref b5, .ref b5, .ref b1, .ref b1] (fun t k => XS.bipush X73.here hx rfl (hb hby d5_364) k) ?_
  refine ov T73 368 #[.val (.int n1), .val (.int c0), .val (.int c1), .val (.int c2)] [.int 47, .int 17, .ref b5, .ref b5, .ref b1, .ref b1] (fun t k => XS.bipush X73.here hx rfl (hb hby d5_366) k) ?_
  obtain ⟨cl77, Ar77, q77, S77, M77, H77, U77⟩ := id V73
  obtain ⟨T77, h77, X77, e77, W77, st77⟩ := stC X73 hx hZ e73 Ar77 (j := (17 : Int32)) (inb_of S77 ⟨by decide, by decide⟩) (g := (mkF m 368 #[.val (.int n1), .val (.int c0), .val (.int c1), .val (.int c2)] [.int 47, .int 17, .ref b5, .ref b5, .ref b1, .ref b1])) rfl rfl (hb hby d5_368)
  have sz78 : h73.size ≤ h77.size := Nat.le_of_eq W77.size.symm
  have O79 : Old Z n0 h77 := O75.wr W77 (by omega : n0 ≤ b5)
  have N77 := Fr.snoc X77 N73 (by omega : n0 ≤ b5)
  have K80 : Keep h0 h77 [] := K76.wr W77 (Or.inr (by omega : h0.size ≤ b5))
  have V77 : Arv Z h77 b5 k5 .char (21 : Int32) [.int 60, .int 33, .int 68, .int 79, .int 67, .int 84, .int 89, .int 80, .int 69, .int 32, .int 104, .int 116, .int 109, .int 108, .int 62, .int 10, .int 60, .int 47, .int 0, .int 0, .int 0] (.int 0) := Arv.set Ar77 q77 S77 M77 H77 U77 (fits_nar_char _) W77 17 rfl (Nat.le_of_ble_eq_true rfl)
  refine ov T77 369 #[.val (.int n1), .val (.int c0), .val (.int c1), .val (.int c2)] [.ref b5, .ref b1, .ref b1] st77 ?_
  refine ov T77 370 #[.val (.int n1), .val (.int c0), .val (.int c1), .val (.int c2)] [.ref b5, .ref b5, .ref b1, .ref b1] (fun t k => XS.dup X77.here hx rfl (hb hby d5_369) rfl rfl k) ?_
  refine ov T77 372 #[.val (.int n1), .val (.int c0), .val (.int c1), .val (.int c2)] [.int 18, .ref b5, .ref b5, .ref b1, .ref b1] (fun t k => XS.bipush X77.here hx rfl (hb hby d5_370) k) ?_
  refine ov T77 373 #[.val (.int n1), .val (.int c0), .val (.int c1), .val (.int c2)] [.int c0, .int 18, .ref b5, .ref b5, .ref b1, .ref b1] (fun t k => XS.iloadN X77.here hx rfl (hb hby d5_372) rfl k) ?_
  obtain ⟨cl81, Ar81, q81, S81, M81, H81, U81⟩ := id V77
  obtain ⟨T81, h81, X81, e81, W81, st81⟩ := stC X77 hx hZ e77 Ar81 (j := (18 : Int32)) (inb_of S81 ⟨by decide, by decide⟩) (g := (mkF m 373 #[.val (.int n1), .val (.int c0), .val (.int c1), .val (.int c2)] [.int c0, .int 18, .ref b5, .ref b5, .ref b1, .ref b1])) rfl rfl (hb hby d5_373)
  have sz82 : h77.size ≤ h81.size := Nat.le_of_eq W81.size.symm
  have O83 : Old Z n0 h81 := O79.wr W81 (by omega : n0 ≤ b5)
  have N81 := Fr.snoc X81 N77 (by omega : n0 ≤ b5)
  have K84 : Keep h0 h81 [] := K80.wr W81 (Or.inr (by omega : h0.size ≤ b5))
  rw [own_narc rc0] at W81
  have V81 : Arv Z h81 b5 k5 .char (21 : Int32) [.int 60, .int 33, .int 68, .int 79, .int 67, .int 84, .int 89, .int 80, .int 69, .int 32, .int 104, .int 116, .int 109, .int 108, .int 62, .int 10, .int 60, .int 47, .int c0, .int 0, .int 0] (.int 0) := Arv.set Ar81 q81 S81 M81 H81 U81 (own_fitc rc0) W81 18 rfl (Nat.le_of_ble_eq_true rfl)
  refine ov T81 374 #[.val (.int n1), .val (.int c0), .val (.int c1), .val (.int c2)] [.ref b5, .ref b1, .ref b1] st81 ?_
  refine ov T81 375 #[.val (.int n1), .val (.int c0), .val (.int c1), .val (.int c2)] [.ref b5, .ref b5, .ref b1, .ref b1] (fun t k => XS.dup X81.here hx rfl (hb hby d5_374) rfl rfl k) ?_
  refine ov T81 377 #[.val (.int n1), .val (.int c0), .val (.int c1), .val (.int c2)] [.int 19, .ref b5, .ref b5, .ref b1, .ref b1] (fun t k => XS.bipush X81.here hx rfl (hb hby d5_375) k) ?_
  refine ov T81 378 #[.val (.int n1), .val (.int c0), .val (.int c1), .val (.int c2)] [.int c1, .int 19, .ref b5, .ref b5, .ref b1, .ref b1] (fun t k => XS.iloadN X81.here hx rfl (hb hby d5_377) rfl k) ?_
  obtain ⟨cl85, Ar85, q85, S85, M85, H85, U85⟩ := id V81
  obtain ⟨T85, h85, X85, e85, W85, st85⟩ := stC X81 hx hZ e81 Ar85 (j := (19 : Int32)) (inb_of S85 ⟨by decide, by decide⟩) (g := (mkF m 378 #[.val (.int n1), .val (.int c0), .val (.int c1), .val (.int c2)] [.int c1, .int 19, .ref b5, .ref b5, .ref b1, .ref b1])) rfl rfl (hb hby d5_378)
  have sz86 : h81.size ≤ h85.size := Nat.le_of_eq W85.size.symm
  have O87 : Old Z n0 h85 := O83.wr W85 (by omega : n0 ≤ b5)
  have N85 := Fr.snoc X85 N81 (by omega : n0 ≤ b5)
  have K88 : Keep h0 h85 [] := K84.wr W85 (Or.inr (by omega : h0.size ≤ b5))
  rw [own_narc rc1] at W85
  have V85 : Arv Z h85 b5 k5 .char (21 : Int32) [.int 60, .int 33, .int 68, .int 79, .int 67, .int 84, .int 89, .int 80, .int 69, .int 32, .int 104, .int 116, .int 109, .int 108, .int 62, .int 10, .int 60, .int 47, .int c0, .int c1, .int 0] (.int 0) := Arv.set Ar85 q85 S85 M85 H85 U85 (own_fitc rc1) W85 19 rfl (Nat.le_of_ble_eq_true rfl)
  refine ov T85 379 #[.val (.int n1), .val (.int c0), .val (.int c1), .val (.int c2)] [.ref b5, .ref b1, .ref b1] st85 ?_
  refine ov T85 380 #[.val (.int n1), .val (.int c0), .val (.int c1), .val (.int c2)] [.ref b5, .ref b5, .ref b1, .ref b1] (fun t k => XS.dup X85.here hx rfl (hb hby d5_379) rfl rfl k) ?_
  refine ov T85 382 #[.val (.int n1), .val (.int c0), .val (.int c1), .val (.int c2)] [.int 20, .ref b5, .ref b5, .ref b1, .ref b1] (fun t k => XS.bipush X85.here hx rfl (hb hby d5_380) k) ?_
  refine ov T85 384 #[.val (.int n1), .val (.int c0), .val (.int c1), .val (.int c2)] [.int 62, .int 20, .ref b5, .ref b5, .ref b1, .ref b1] (fun t k => XS.bipush X85.here hx rfl (hb hby d5_382) k) ?_
  obtain ⟨cl89, Ar89, q89, S89, M89, H89, U89⟩ := id V85
  obtain ⟨T89, h89, X89, e89, W89, st89⟩ := stC X85 hx hZ e85 Ar89 (j := (20 : Int32)) (inb_of S89 ⟨by decide, by decide⟩) (g := (mkF m 384 #[.val (.int n1), .val (.int c0), .val (.int c1), .val (.int c2)] [.int 62, .int 20, .ref b5, .ref b5, .ref b1, .ref b1])) rfl rfl (hb hby d5_384)
  have sz90 : h85.size ≤ h89.size := Nat.le_of_eq W89.size.symm
  have O91 : Old Z n0 h89 := O87.wr W89 (by omega : n0 ≤ b5)
  have N89 := Fr.snoc X89 N85 (by omega : n0 ≤ b5)
  have K92 : Keep h0 h89 [] := K88.wr W89 (Or.inr (by omega : h0.size ≤ b5))
  have V89 : Arv Z h89 b5 k5 .char (21 : Int32) [.int 60, .int 33, .int 68, .int 79, .int 67, .int 84, .int 89, .int 80, .int 69, .int 32, .int 104, .int 116, .int 109, .int 108, .int 62, .int 10, .int 60, .int 47, .int c0, .int c1, .int 62] (.int 0) := Arv.set Ar89 q89 S89 M89 H89 U89 (fits_nar_char _) W89 20 rfl (Nat.le_of_ble_eq_true rfl)
  refine ov T89 385 #[.val (.int n1), .val (.int c0), .val (.int c1), .val (.int c2)] [.ref b5, .ref b1, .ref b1] st89 ?_
  have cx94 : Exa Z h89 b1 "java/lang/String" := (Exa.wr W89 (Exa.wr W85 (Exa.wr W81 (Exa.wr W77 (Exa.wr W73 (Exa.wr W69 (Exa.wr W65 (Exa.wr W61 (Exa.wr W57 (Exa.wr W53 (Exa.wr W49 (Exa.wr W45 (Exa.wr W41 (Exa.wr W37 (Exa.wr W33 (Exa.wr W29 (Exa.wr W25 (Exa.wr W21 (Exa.wr W17 (Exa.wr W13 (Exa.wr W9 (A1.ext E5))))))))))))))))))))))
  have ne_b1_b5 : b1 ≠ b5 := by first | exact (Exa.neArv cx94 V89 (wd5 hw)) | exact Nat.ne_of_lt (by omega) | exact Nat.ne_of_gt (by omega)
  have cx95 : Fld Z h89 b1 "java/lang/String" "value" "[B" .null := (Fld.other W89 (Fld.other W85 (Fld.other W81 (Fld.other W77 (Fld.other W73 (Fld.other W69 (Fld.other W65 (Fld.other W61 (Fld.other W57 (Fld.other W53 (Fld.other W49 (Fld.other W45 (Fld.other W41 (Fld.other W37 (Fld.other W33 (Fld.other W29 (Fld.other W25 (Fld.other W21 (Fld.other W17 (Fld.other W13 (Fld.other W9 (F1_value.ext E5) (Or.inl ne_b1_b5)) (Or.inl ne_b1_b5)) (Or.inl ne_b1_b5)) (Or.inl ne_b1_b5)) (Or.inl ne_b1_b5)) (Or.inl ne_b1_b5)) (Or.inl ne_b1_b5)) (Or.inl ne_b1_b5)) (Or.inl ne_b1_b5)) (Or.inl ne_b1_b5)) (Or.inl ne_b1_b5)) (Or.inl ne_b1_b5)) (Or.inl ne_b1_b5)) (Or.inl ne_b1_b5)) (Or.inl ne_b1_b5)) (Or.inl ne_b1_b5)) (Or.inl ne_b1_b5)) (Or.inl ne_b1_b5)) (Or.inl ne_b1_b5)) (Or.inl ne_b1_b5)) (Or.inl ne_b1_b5))
  have cx96 : Fld Z h89 b1 "java/lang/String" "coder" "B" (.int 0) := (Fld.other W89 (Fld.other W85 (Fld.other W81 (Fld.other W77 (Fld.other W73 (Fld.other W69 (Fld.other W65 (Fld.other W61 (Fld.other W57 (Fld.other W53 (Fld.other W49 (Fld.other W45 (Fld.other W41 (Fld.other W37 (Fld.other W33 (Fld.other W29 (Fld.other W25 (Fld.other W21 (Fld.other W17 (Fld.other W13 (Fld.other W9 (F1_coder.ext E5) (Or.inl ne_b1_b5)) (Or.inl ne_b1_b5)) (Or.inl ne_b1_b5)) (Or.inl ne_b1_b5)) (Or.inl ne_b1_b5)) (Or.inl ne_b1_b5)) (Or.inl ne_b1_b5)) (Or.inl ne_b1_b5)) (Or.inl ne_b1_b5)) (Or.inl ne_b1_b5)) (Or.inl ne_b1_b5)) (Or.inl ne_b1_b5)) (Or.inl ne_b1_b5)) (Or.inl ne_b1_b5)) (Or.inl ne_b1_b5)) (Or.inl ne_b1_b5)) (Or.inl ne_b1_b5)) (Or.inl ne_b1_b5)) (Or.inl ne_b1_b5)) (Or.inl ne_b1_b5)) (Or.inl ne_b1_b5))
  have cx97 : Sta Z h89 "java/lang/String" "COMPACT_STRINGS" "Z" (.int zc) := zfC.ext O91.2
  have hws93 := own_mw hw
  have hp93 : ∀ c ∈ ([60, 33, 68, 79, 67, 84, 89, 80, 69, 32, 104, 116, 109, 108, 62, 10, 60, 47, c0, c1, 62] : List Int32), ¬ c < 0 ∧ ¬ (255 : Int32) < c := by
    intro c hc
    simp only [List.mem_cons, List.not_mem_nil, or_false] at hc
    rcases hc with rfl | rfl | rfl | rfl | rfl | rfl | rfl | rfl | rfl | rfl | rfl | rfl | rfl | rfl | rfl | rfl | rfl | rfl | rfl | rfl | rfl
    · exact by decide
    · exact by decide
    · exact by decide
    · exact by decide
    · exact by decide
    · exact by decide
    · exact by decide
    · exact by decide
    · exact by decide
    · exact by decide
    · exact by decide
    · exact by decide
    · exact by decide
    · exact by decide
    · exact by decide
    · exact by decide
    · exact by decide
    · exact by decide
    · exact rc0
    · exact rc1
    · exact by decide
  obtain ⟨_, _, ⟨T93, Lp93, kp93, np93⟩, -, X93, ⟨Lc93, hQ93, l93, y93, z93⟩, st93⟩ := X89.specialBack hx (y := mt24) rfl hown (mvT hZ (wd8 hw)) (mvT hZ (wd9 hw)) (mvT hZ (wd10 hw)) (by decide) (StrChars.Road.backV (W := 1) hZ hws93 (kI := 4) (wd5 hw) (cs := ([60, 33, 68, 79, 67, 84, 89, 80, 69, 32, 104, 116, 109, 108, 62, 10, 60, 47, c0, c1, 62] : List Int32)) (bs := (([60, 33, 68, 79, 67, 84, 89, 80, 69, 32, 104, 116, 109, 108, 62, 10, 60, 47, c0, c1, 62] : List Int32)).map (fun c => c.toInt8.toInt32)) (n := 21) (by omega : n0 ≤ b1) (by omega : n0 ≤ h89.size) cx94 cx95 cx96 V89 cx97 hzc rfl rfl (by decide) (by decide) hp93 rfl (by decide) (by decide)) (g := (mkF m 385 #[.val (.int n1), .val (.int c0), .val (.int c1), .val (.int c2)] [.ref b5, .ref b1, .ref b1])) rfl (by rw [hml]; rfl) (Steps.refl _) (a := b1) (argsL := [.ref b5]) (rest := [.ref b1]) (lenOf pd___C_V_325 rfl) rfl (by show 2 * 0 + _ ≤ _; exact Nat.le_of_eq rfl) (hb hby d5_385) (fun _ _ => ⟨rfl, e89, (by decide : 2 + 1 ≤ _), (by decide : 25 + 21 ≤ _)⟩)
  dsimp only [Pt.U, Pt.locs, Pt.cells, Pt.slots] at X93 l93 y93 z93 st93 hQ93
  subst Lp93 kp93 np93
  obtain ⟨rfl, N93q, K93q, f93_0, f93_1, t93, kb93, tg93, tg93', tn93, f93_2, f93_3⟩ := hQ93
  have N93 := Fr.app N89 N93q
  have sz98 : h89.size ≤ T93.heap.size := K93q.1
  have O99 : Old Z n0 T93.heap := O91.keep K93q (allS (by omega : n0 ≤ b1) all0)
  have K100 : Keep h0 T93.heap [] := K92.trans K93q (allS (P := fun x => x ∈ [] ∨ h0.size ≤ x) (Or.inr (by omega)) all0)
  have lt_t93 : T93.heap.size > t93 := f93_3.lt
  refine own_tr (S' := T93.setTop (mkF m 388 #[.val (.int n1), .val (.int c0), .val (.int c1), .val (.int c2)] [.ref b1])) st93 ?_
  refine own_ret (Q := Q_own_exp2 Z n1 c0 c1 c2 zc h0 n0) (C := rm4_3_46_66.cells) (N := rm4_3_46_66.slots) X93 (v := some (.ref b1)) (fun h => by rw [Bd.returns] at h; cases h) Bd.notSynchronized ?_ (by decide) (by decide) (fun fs hr => retOut X93 hx Bd.returns rfl (Or.inr (Or.inr (Or.inr (Or.inr ⟨rfl, rfl, rfl⟩)))) (hb hby d5_388) hr)
  show Q_own_exp2 Z n1 c0 c1 c2 zc h0 n0 _ T93.heap _
  exact ⟨b1, t93, kb93, rfl, N93, K100, f93_0, f93_2, f93_1, f93_3⟩
def Q_own_tag3 (Z : State) (n1 : Int32) (c0 : Int32) (c1 : Int32) (c2 : Int32) (zc : Int32) (h0 : Heap) (n0 : Nat) (v : Option Value) (vm : Vm) (h : Heap) (L : List Loc) : Prop := ∃ b : Addr, ∃ tb : Addr, ∃ kb : ClassId, v = some (.ref b) ∧ Fr n0 L ∧ Keep h0 h [] ∧ Exa Z h b "java/lang/String" ∧ Fld Z h b "java/lang/String" "value" "[B" (.ref tb) ∧ Fld Z h b "java/lang/String" "coder" "B" (.int 0) ∧ Arv Z h tb kb .byte (3 : Int32) [(.int (c0.toInt8.toInt32)), (.int (c1.toInt8.toInt32)), (.int (c2.toInt8.toInt32))] (.int 0)
set_option maxRecDepth 65536 in
set_option maxHeartbeats 40000000 in
theorem own_tag3 (l : Launch) (Z : State) (a0 : Array Value) (hw : ∀ d ∈ tables_1, d.before a0 Z = true) (ws : List Jvm.Cond) (n1 : Int32) (c0 : Int32) (c1 : Int32) (c2 : Int32) (zc : Int32) (h0 : Heap) (n0 : Nat) (O0 : Old Z n0 h0) (zfC : Sta Z Z.heap "java/lang/String" "COMPACT_STRINGS" "Z" (.int zc)) (hzc : ¬ (zc = (0 : Int32))) (rc0 : ¬ c0 < 0 ∧ ¬ (255 : Int32) < c0) (rc1 : ¬ c1 < 0 ∧ ¬ (255 : Int32) < c1) (rc2 : ¬ c2 < 0 ∧ ¬ (255 : Int32) < c2) (hn0 : ¬ (n1 = (0 : Int32))) (hn1 : ¬ (n1 = (1 : Int32))) (hn2 : ¬ (n1 = (2 : Int32))) :
    MetFree l mt30 (head1 (Jvm.Cond.code mt30 method_3_code 4 (some (.object "java/lang/String")) :: ws) rm4_3_10_66) (fun aq U => aq = #[.int n1, .int c0, .int c1, .int c2] ∧ Z.Warmed39 U.vm ∧ U.heap = h0 ∧ CHv Z own_EL U.vm h0 ∧ ∀ x ∈ ([] : List Addr), Safe Z own_EL U.vm h0 x) (fun _ _ _ _ _ => True) (fun _ U o U' => ∃ v L, o = .returned v ∧ Q_own_tag3 Z n1 c0 c1 c2 zc h0 n0 v U'.vm U'.heap L ∧ CHr Z own_EL U.vm U.heap U'.vm U'.heap ∧ ReturnedEndW U o U' L rm4_3_10_66.cells rm4_3_10_66.slots) := by
  refine MetFree.of_bodySF (plainFor_of_name pn_com_example_regent_regent_HtmlClosePinLaw) hisR ?_
  intro p e s m args below meth c s₁ Bd hml0 hP hK
  obtain ⟨rfl, hZ, hh, hCH, hSL⟩ := hP
  have hx := Bd.exec
  have hby := Bd.bytes
  have hml : c.maxLocals = 4 := hml0
  have hown : s.vm.findClass "com/example/regent/regent/HtmlClosePinLaw" = some m.cls := findClass_of_methodNamed Bd.named
  have hnm := (name_of_methodNamed Bd.named Bd.method).1
  have X0 : Stand p l e rm4_3_10_66 (s.setVm s.vm) m #[.int n1, .int c0, .int c1, .int c2] below meth c s₁ [] 0 0 := Stand.of_body Bd
  have e0 : s₁.heap = h0 := by rw [← hh, Bd.state]; rfl
  have N0 := Fr.nil n0
  have zO := O0.1
  have zO2 := O0.2.1
  refine own_open (own_via (S' := s₁.setTop (mkF m 0 #[.val (.int n1), .val (.int c0), .val (.int c1), .val (.int c2)] [])) (fun t k => castTop (ef_own_tag3 m n1 c0 c1 c2) k) ?_)
  have hEL := own_EW hw
  have hS0 : s.Since s.vm h0.size := (State.WarmedH.refl s).since _
  have R0 : CHr Z own_EL s.vm h0 s.vm h0 := CHr.refl hCH
  have K0 : Keep h0 h0 [] := Keep.refl _ _
  refine ov s₁ 1 #[.val (.int n1), .val (.int c0), .val (.int c1), .val (.int c2)] [.int n1] (fun t k => XS.iloadN X0.here hx rfl (hb hby d1_0) rfl k) ?_
  refine ov s₁ 15 #[.val (.int n1), .val (.int c0), .val (.int c1), .val (.int c2)] [] (fun t k => XS.ifYes X0.here hx rfl (pc0 := 1) (pc' := 15) rfl (hb hby d1_1) rfl ((if0 _ _).trans (feq hn0).2) (by decide) (by decide) k) ?_
  refine ov s₁ 16 #[.val (.int n1), .val (.int c0), .val (.int c1), .val (.int c2)] [.int n1] (fun t k => XS.iloadN X0.here hx rfl (hb hby d1_15) rfl k) ?_
  refine ov s₁ 17 #[.val (.int n1), .val (.int c0), .val (.int c1), .val (.int c2)] [.int 1, .int n1] (fun t k => XS.iconst X0.here hx rfl (hb hby d1_16) k) ?_
  refine ov s₁ 35 #[.val (.int n1), .val (.int c0), .val (.int c1), .val (.int c2)] [] (fun t k => XS.icmpYes X0.here hx rfl (pc0 := 17) (pc' := 35) rfl (hb hby d1_17) rfl (feq hn1).2 (by decide) (by decide) k) ?_
  refine ov s₁ 36 #[.val (.int n1), .val (.int c0), .val (.int c1), .val (.int c2)] [.int n1] (fun t k => XS.iloadN X0.here hx rfl (hb hby d1_35) rfl k) ?_
  refine ov s₁ 37 #[.val (.int n1), .val (.int c0), .val (.int c1), .val (.int c2)] [.int 2, .int n1] (fun t k => XS.iconst X0.here hx rfl (hb hby d1_36) k) ?_
  refine ov s₁ 59 #[.val (.int n1), .val (.int c0), .val (.int c1), .val (.int c2)] [] (fun t k => XS.icmpYes X0.here hx rfl (pc0 := 37) (pc' := 59) rfl (hb hby d1_37) rfl (feq hn2).2 (by decide) (by decide) k) ?_
  obtain ⟨T1, h1, X1, e1, E1, A1, D1, -, st1⟩ := newO X0 hx hZ hown (wd4 hw) (wd5 hw) (wd6 hw) e0 (g := (mkF m 59 #[.val (.int n1), .val (.int c0), .val (.int c1), .val (.int c2)] [])) rfl (hb hby d1_59) (by decide) (by decide)
  obtain ⟨b1, g1⟩ : ∃ z, z = h0.size := ⟨_, rfl⟩
  rw [← g1] at A1 D1 st1
  have lt_b1 : h1.size > b1 := A1.lt
  have sz2 : h0.size ≤ h1.size := E1.1
  have O3 : Old Z n0 h1 := O0.ext E1
  have R4 : CHr Z own_EL s.vm h0 s.vm h1 := R0.trans (CHr.ext E1 R0.1)
  have SF_b1 : Safe Z own_EL s.vm h1 b1 := Safe.ext E1 R0.1 (Safe.new (Nat.le_of_eq g1.symm))
  have K5 : Keep h0 h1 [] := K0.ext E1
  have F1_value : Fld Z h1 b1 "java/lang/String" "value" "[B" .null := D1 (Or.inr (wd20 hw)) (ty := (.array .byte)) (by decide)
  have F1_coder : Fld Z h1 b1 "java/lang/String" "coder" "B" (.int 0) := D1 (Or.inr (wd21 hw)) (ty := .byte) (by decide)
  refine ov T1 62 #[.val (.int n1), .val (.int c0), .val (.int c1), .val (.int c2)] [.ref b1] st1 ?_
  refine ov T1 63 #[.val (.int n1), .val (.int c0), .val (.int c1), .val (.int c2)] [.ref b1, .ref b1] (fun t k => XS.dup X1.here hx rfl (hb hby d1_62) rfl rfl k) ?_
  refine ov T1 64 #[.val (.int n1), .val (.int c0), .val (.int c1), .val (.int c2)] [.int 3, .ref b1, .ref b1] (fun t k => XS.iconst X1.here hx rfl (hb hby d1_63) k) ?_
  obtain ⟨T6, h6, k6, X6, e6, E6, A6, st6⟩ := newP (aty := .char) X1 hx hZ (wd7 hw) e1 (g := (mkF m 64 #[.val (.int n1), .val (.int c0), .val (.int c1), .val (.int c2)] [.int 3, .ref b1, .ref b1])) rfl (hb hby d1_64) rfl (by decide : ¬ ((3 : Int32) < (0 : Int32))) (cap := 3) (by decide) (by decide) (by decide) (by decide)
  obtain ⟨b6, g6⟩ : ∃ z, z = h1.size := ⟨_, rfl⟩
  rw [← g6] at A6 st6
  have lt_b6 : h6.size > b6 := A6.lt
  have sz7 : h1.size ≤ h6.size := E6.1
  have O8 : Old Z n0 h6 := O3.ext E6
  have R9 : CHr Z own_EL s.vm h0 s.vm h6 := R4.trans (CHr.ext E6 R4.1)
  have K10 : Keep h0 h6 [] := K5.ext E6
  have V6 : Arv Z h6 b6 k6 .char (3 : Int32) [.int 0, .int 0, .int 0] (.int 0) := (Arv.new A6 (by decide)).pad (pad_rep [] (.int 0) 3)
  refine ov T6 66 #[.val (.int n1), .val (.int c0), .val (.int c1), .val (.int c2)] [.ref b6, .ref b1, .ref b1] st6 ?_
  refine ov T6 67 #[.val (.int n1), .val (.int c0), .val (.int c1), .val (.int c2)] [.ref b6, .ref b6, .ref b1, .ref b1] (fun t k => XS.dup X6.here hx rfl (hb hby d1_66) rfl rfl k) ?_
  refine ov T6 68 #[.val (.int n1), .val (.int c0), .val (.int c1), .val (.int c2)] [.int 0, .ref b6, .ref b6, .ref b1, .ref b1] (fun t k => XS.iconst X6.here hx rfl (hb hby d1_67) k) ?_
  refine ov T6 69 #[.val (.int n1), .val (.int c0), .val (.int c1), .val (.int c2)] [.int c0, .int 0, .ref b6, .ref b6, .ref b1, .ref b1] (fun t k => XS.iloadN X6.here hx rfl (hb hby d1_68) rfl k) ?_
  obtain ⟨cl11, Ar11, q11, S11, M11, H11, U11⟩ := id V6
  obtain ⟨T11, h11, X11, e11, W11, st11⟩ := stC X6 hx hZ e6 Ar11 (j := (0 : Int32)) (inb_of S11 ⟨by decide, by decide⟩) (g := (mkF m 69 #[.val (.int n1), .val (.int c0), .val (.int c1), .val (.int c2)] [.int c0, .int 0, .ref b6, .ref b6, .ref b1, .ref b1])) rfl rfl (hb hby d1_69)
  have sf11 : Safe Z own_EL s.vm h6 b6 := (Safe.arv hZ.alike V6 (by decide))
  have sz12 : h6.size ≤ h11.size := Nat.le_of_eq W11.size.symm
  have R13 : CHr Z own_EL s.vm h0 s.vm h11 := R9.trans (CHr.wr W11 sf11 R9.1)
  have O14 : Old Z n0 h11 := O8.wr W11 (by omega : n0 ≤ b6)
  have N11 := Fr.snoc X11 N0 (by omega : n0 ≤ b6)
  have K15 : Keep h0 h11 [] := K10.wr W11 (Or.inr (by omega : h0.size ≤ b6))
  rw [own_narc rc0] at W11
  have V11 : Arv Z h11 b6 k6 .char (3 : Int32) [.int c0, .int 0, .int 0] (.int 0) := Arv.set Ar11 q11 S11 M11 H11 U11 (own_fitc rc0) W11 0 rfl (Nat.le_of_ble_eq_true rfl)
  refine ov T11 70 #[.val (.int n1), .val (.int c0), .val (.int c1), .val (.int c2)] [.ref b6, .ref b1, .ref b1] st11 ?_
  refine ov T11 71 #[.val (.int n1), .val (.int c0), .val (.int c1), .val (.int c2)] [.ref b6, .ref b6, .ref b1, .ref b1] (fun t k => XS.dup X11.here hx rfl (hb hby d1_70) rfl rfl k) ?_
  refine ov T11 72 #[.val (.int n1), .val (.int c0), .val (.int c1), .val (.int c2)] [.int 1, .ref b6, .ref b6, .ref b1, .ref b1] (fun t k => XS.iconst X11.here hx rfl (hb hby d1_71) k) ?_
  refine ov T11 73 #[.val (.int n1), .val (.int c0), .val (.int c1), .val (.int c2)] [.int c1, .int 1, .ref b6, .ref b6, .ref b1, .ref b1] (fun t k => XS.iloadN X11.here hx rfl (hb hby d1_72) rfl k) ?_
  obtain ⟨cl16, Ar16, q16, S16, M16, H16, U16⟩ := id V11
  obtain ⟨T16, h16, X16, e16, W16, st16⟩ := stC X11 hx hZ e11 Ar16 (j := (1 : Int32)) (inb_of S16 ⟨by decide, by decide⟩) (g := (mkF m 73 #[.val (.int n1), .val (.int c0), .val (.int c1), .val (.int c2)] [.int c1, .int 1, .ref b6, .ref b6, .ref b1, .ref b1])) rfl rfl (hb hby d1_73)
  have sf16 : Safe Z own_EL s.vm h11 b6 := (Safe.arv hZ.alike V11 (by decide))
  have sz17 : h11.size ≤ h16.size := Nat.le_of_eq W16.size.symm
  have R18 : CHr Z own_EL s.vm h0 s.vm h16 := R13.trans (CHr.wr W16 sf16 R13.1)
  have O19 : Old Z n0 h16 := O14.wr W16 (by omega : n0 ≤ b6)
  have N16 := Fr.snoc X16 N11 (by omega : n0 ≤ b6)
  have K20 : Keep h0 h16 [] := K15.wr W16 (Or.inr (by omega : h0.size ≤ b6))
  rw [own_narc rc1] at W16
  have V16 : Arv Z h16 b6 k6 .char (3 : Int32) [.int c0, .int c1, .int 0] (.int 0) := Arv.set Ar16 q16 S16 M16 H16 U16 (own_fitc rc1) W16 1 rfl (Nat.le_of_ble_eq_true rfl)
  refine ov T16 74 #[.val (.int n1), .val (.int c0), .val (.int c1), .val (.int c2)] [.ref b6, .ref b1, .ref b1] st16 ?_
  refine ov T16 75 #[.val (.int n1), .val (.int c0), .val (.int c1), .val (.int c2)] [.ref b6, .ref b6, .ref b1, .ref b1] (fun t k => XS.dup X16.here hx rfl (hb hby d1_74) rfl rfl k) ?_
  refine ov T16 76 #[.val (.int n1), .val (.int c0), .val (.int c1), .val (.int c2)] [.int 2, .ref b6, .ref b6, .ref b1, .ref b1] (fun t k => XS.iconst X16.here hx rfl (hb hby d1_75) k) ?_
  refine ov T16 77 #[.val (.int n1), .val (.int c0), .val (.int c1), .val (.int c2)] [.int c2, .int 2, .ref b6, .ref b6, .ref b1, .ref b1] (fun t k => XS.iloadN X16.here hx rfl (hb hby d1_76) rfl k) ?_
  obtain ⟨cl21, Ar21, q21, S21, M21, H21, U21⟩ := id V16
  obtain ⟨T21, h21, X21, e21, W21, st21⟩ := stC X16 hx hZ e16 Ar21 (j := (2 : Int32)) (inb_of S21 ⟨by decide, by decide⟩) (g := (mkF m 77 #[.val (.int n1), .val (.int c0), .val (.int c1), .val (.int c2)] [.int c2, .int 2, .ref b6, .ref b6, .ref b1, .ref b1])) rfl rfl (hb hby d1_77)
  have sf21 : Safe Z own_EL s.vm h16 b6 := (Safe.arv hZ.alike V16 (by decide))
  have sz22 : h16.size ≤ h21.size := Nat.le_of_eq W21.size.symm
  have R23 : CHr Z own_EL s.vm h0 s.vm h21 := R18.trans (CHr.wr W21 sf21 R18.1)
  have O24 : Old Z n0 h21 := O19.wr W21 (by omega : n0 ≤ b6)
  have N21 := Fr.snoc X21 N16 (by omega : n0 ≤ b6)
  have K25 : Keep h0 h21 [] := K20.wr W21 (Or.inr (by omega : h0.size ≤ b6))
  rw [own_narc rc2] at W21
  have V21 : Arv Z h21 b6 k6 .char (3 : Int32) [.int c0, .int c1, .int c2] (.int 0) := Arv.set Ar21 q21 S21 M21 H21 U21 (own_fitc rc2) W21 2 rfl (Nat.le_of_ble_eq_true rfl)
  refine ov T21 78 #[.val (.int n1), .val (.int c0), .val (.int c1), .val (.int c2)] [.ref b6, .ref b1, .ref b1] st21 ?_
  have cx27 : Exa Z h21 b1 "java/lang/String" := (Exa.wr W21 (Exa.wr W16 (Exa.wr W11 (A1.ext E6))))
  have ne_b1_b6 : b1 ≠ b6 := by first | exact (Exa.neArv cx27 V21 (wd5 hw)) | exact Nat.ne_of_lt (by omega) | exact Nat.ne_of_gt (by omega)
  have cx28 : Fld Z h21 b1 "java/lang/String" "value" "[B" .null := (Fld.other W21 (Fld.other W16 (Fld.other W11 (F1_value.ext E6) (Or.inl ne_b1_b6)) (Or.inl ne_b1_b6)) (Or.inl ne_b1_b6))
  have cx29 : Fld Z h21 b1 "java/lang/String" "coder" "B" (.int 0) := (Fld.other W21 (Fld.other W16 (Fld.other W11 (F1_coder.ext E6) (Or.inl ne_b1_b6)) (Or.inl ne_b1_b6)) (Or.inl ne_b1_b6))
  have cx30 : Sta Z h21 "java/lang/String" "COMPACT_STRINGS" "Z" (.int zc) := zfC.ext O24.2
  have hws26 := own_mw hw
  have hp26 : ∀ c ∈ ([c0, c1, c2] : List Int32), ¬ c < 0 ∧ ¬ (255 : Int32) < c := by
    intro c hc
    simp only [List.mem_cons, List.not_mem_nil, or_false] at hc
    rcases hc with rfl | rfl | rfl
    · exact rc0
    · exact rc1
    · exact rc2
  obtain ⟨_, _, ⟨T26, Lp26, kp26, np26⟩, -, X26, ⟨Lc26, hQ26, l26, y26, z26⟩, st26⟩ := X21.specialBack hx (y := mt24) rfl hown (mvT hZ (wd8 hw)) (mvT hZ (wd9 hw)) (mvT hZ (wd10 hw)) (by decide) (StrChars.Road.backV (W := 1) hZ hws26 (kI := 4) (wd5 hw) (cs := ([c0, c1, c2] : List Int32)) (bs := (([c0, c1, c2] : List Int32)).map (fun c => c.toInt8.toInt32)) (n := 3) (by omega : n0 ≤ b1) (by omega : n0 ≤ h21.size) cx27 cx28 cx29 V21 cx30 hzc rfl rfl (by decide) (by decide) hp26 rfl (by decide) (by decide)) (g := (mkF m 78 #[.val (.int n1), .val (.int c0), .val (.int c1), .val (.int c2)] [.ref b6, .ref b1, .ref b1])) rfl (by rw [hml]; rfl) (Steps.refl _) (a := b1) (argsL := [.ref b6]) (rest := [.ref b1]) (lenOf pd___C_V_325 rfl) rfl (by show 2 * 0 + _ ≤ _; exact Nat.le_of_eq rfl) (hb hby d1_78) (fun _ _ => ⟨rfl, e21, (by decide : 2 + 1 ≤ _), (by decide : 7 + 3 ≤ _)⟩)
  dsimp only [Pt.U, Pt.locs, Pt.cells, Pt.slots] at X26 l26 y26 z26 st26 hQ26
  subst Lp26 kp26 np26
  obtain ⟨rfl, N26q, K26q, f26_0, f26_1, t26, kb26, tg26, tg26', tn26, f26_2, f26_3⟩ := hQ26
  have N26 := Fr.app N21 N26q
  have cx31 : Safe Z own_EL s.vm h21 b1 := (Safe.wr W21 sf21 R18.1 (Safe.wr W16 sf16 R13.1 (Safe.wr W11 sf11 R9.1 (Safe.ext E6 R4.1 SF_b1))))
  have sf26 : ∀ x ∈ ([b1] : List Addr), Safe Z own_EL s.vm h21 x := (sfS cx31 sf0)
  have sz32 : h21.size ≤ T26.heap.size := K26q.1
  have R33 : CHr Z own_EL s.vm h0 s.vm T26.heap := R23.trans (CHr.keep K26q sf26 R23.1)
  have O34 : Old Z n0 T26.heap := O24.keep K26q (allS (by omega : n0 ≤ b1) all0)
  have K35 : Keep h0 T26.heap [] := K25.trans K26q (allS (P := fun x => x ∈ [] ∨ h0.size ≤ x) (Or.inr (by omega)) all0)
  have lt_t26 : T26.heap.size > t26 := f26_3.lt
  refine own_tr (S' := T26.setTop (mkF m 81 #[.val (.int n1), .val (.int c0), .val (.int c1), .val (.int c2)] [.ref b1])) st26 ?_
  have RTR33 : CHr Z own_EL s.vm h0 T26.vm T26.heap := R33.trans (CHv.at X26 hZ hEL R33.1)
  have RXR33 : CHr Z own_EL s.vm s.heap T26.vm T26.heap := by rw [hh]; exact RTR33
  refine own_retW (Q := Q_own_tag3 Z n1 c0 c1 c2 zc h0 n0) (C := rm4_3_10_66.cells) (N := rm4_3_10_66.slots) X26 hS0 (by omega) (v := some (.ref b1)) (fun h => by rw [Bd.returns] at h; cases h) Bd.notSynchronized ?_ RXR33 (by decide) (by decide) (fun fs hr => retOut X26 hx Bd.returns rfl (Or.inr (Or.inr (Or.inr (Or.inr ⟨rfl, rfl, rfl⟩)))) (hb hby d1_81) hr)
  show Q_own_tag3 Z n1 c0 c1 c2 zc h0 n0 _ T26.vm T26.heap _
  exact ⟨b1, t26, kb26, rfl, N26, K35, f26_0, f26_2, f26_1, f26_3⟩
def Q_own_exp3 (Z : State) (n1 : Int32) (c0 : Int32) (c1 : Int32) (c2 : Int32) (zc : Int32) (h0 : Heap) (n0 : Nat) (v : Option Value) (h : Heap) (L : List Loc) : Prop := ∃ b : Addr, ∃ tb : Addr, ∃ kb : ClassId, v = some (.ref b) ∧ Fr n0 L ∧ Keep h0 h [] ∧ Exa Z h b "java/lang/String" ∧ Fld Z h b "java/lang/String" "value" "[B" (.ref tb) ∧ Fld Z h b "java/lang/String" "coder" "B" (.int 0) ∧ Arv Z h tb kb .byte (22 : Int32) [(.int ((60 : Int32).toInt8.toInt32)), (.int ((33 : Int32).toInt8.toInt32)), (.int ((68 : Int32).toInt8.toInt32)), (.int ((79 : Int32).toInt8.toInt32)), (.int ((67 : Int32).toInt8.toInt32)), (.int ((84 : Int32).toInt8.toInt32)), (.int ((89 : Int32).toInt8.toInt32)), (.int ((80 : Int32).toInt8.toInt32)), (.int ((69 : Int32).toInt8.toInt32)), (.int ((32 : Int32).toInt8.toInt32)), (.int ((104 : Int32).toInt8.toInt32)), (.int ((116 : Int32).toInt8.toInt32)), (.int ((109 : Int32).toInt8.toInt32)), (.int ((108 : Int32).toInt8.toInt32)), (.int ((62 : Int32).toInt8.toInt32)), (.int ((10 : Int32).toInt8.toInt32)), (.int ((60 : Int32).toInt8.toInt32)), (.int ((47 : Int32).toInt8.toInt32)), (.int (c0.toInt8.toInt32)), (.int (c1.toInt8.toInt32)), (.int (c2.toInt8.toInt32)), (.int ((62 : Int32).toInt8.toInt32))] (.int 0)
set_option maxRecDepth 65536 in
set_option maxHeartbeats 40000000 in
theorem own_exp3 (l : Launch) (Z : State) (a0 : Array Value) (hw : ∀ d ∈ tables_1, d.before a0 Z = true) (ws : List Jvm.Cond) (n1 : Int32) (c0 : Int32) (c1 : Int32) (c2 : Int32) (zc : Int32) (h0 : Heap) (n0 : Nat) (O0 : Old Z n0 h0) (zfC : Sta Z Z.heap "java/lang/String" "COMPACT_STRINGS" "Z" (.int zc)) (hzc : ¬ (zc = (0 : Int32))) (rc0 : ¬ c0 < 0 ∧ ¬ (255 : Int32) < c0) (rc1 : ¬ c1 < 0 ∧ ¬ (255 : Int32) < c1) (rc2 : ¬ c2 < 0 ∧ ¬ (255 : Int32) < c2) (hn0 : ¬ (n1 = (0 : Int32))) (hn1 : ¬ (n1 = (1 : Int32))) (hn2 : ¬ (n1 = (2 : Int32))) :
    MetFree l mt31 (head1 (Jvm.Cond.code mt31 method_4_code 4 (some (.object "java/lang/String")) :: ws) rm4_3_48_66) (fun aq U => aq = #[.int n1, .int c0, .int c1, .int c2] ∧ Z.Warmed39 U.vm ∧ U.heap = h0) (fun _ _ _ _ _ => True) (fun _ U o U' => ∃ v L, o = .returned v ∧ Q_own_exp3 Z n1 c0 c1 c2 zc h0 n0 v U'.heap L ∧ FrameEnd U o U' L rm4_3_48_66.cells rm4_3_48_66.slots) := by
  refine MetFree.of_bodySF (plainFor_of_name pn_com_example_regent_regent_HtmlClosePinLaw) hisR ?_
  intro p e s m args below meth c s₁ Bd hml0 hP hK
  obtain ⟨rfl, hZ, hh⟩ := hP
  have hx := Bd.exec
  have hby := Bd.bytes
  have hml : c.maxLocals = 4 := hml0
  have hown : s.vm.findClass "com/example/regent/regent/HtmlClosePinLaw" = some m.cls := findClass_of_methodNamed Bd.named
  have hnm := (name_of_methodNamed Bd.named Bd.method).1
  have X0 : Stand p l e rm4_3_48_66 s m #[.int n1, .int c0, .int c1, .int c2] below meth c s₁ [] 0 0 := Stand.of_body Bd
  have e0 : s₁.heap = h0 := by rw [← hh, Bd.state]; rfl
  have N0 := Fr.nil n0
  have zO := O0.1
  have zO2 := O0.2.1
  refine own_open (own_via (S' := s₁.setTop (mkF m 0 #[.val (.int n1), .val (.int c0), .val (.int c1), .val (.int c2)] [])) (fun t k => castTop (ef_own_exp3 m n1 c0 c1 c2) k) ?_)
  have K0 : Keep h0 h0 [] := Keep.refl _ _
  refine ov s₁ 1 #[.val (.int n1), .val (.int c0), .val (.int c1), .val (.int c2)] [.int n1] (fun t k => XS.iloadN X0.here hx rfl (hb hby d5_0) rfl k) ?_
  refine ov s₁ 124 #[.val (.int n1), .val (.int c0), .val (.int c1), .val (.int c2)] [] (fun t k => XS.ifYes X0.here hx rfl (pc0 := 1) (pc' := 124) rfl (hb hby d5_1) rfl ((if0 _ _).trans (feq hn0).2) (by decide) (by decide) k) ?_
  refine ov s₁ 125 #[.val (.int n1), .val (.int c0), .val (.int c1), .val (.int c2)] [.int n1] (fun t k => XS.iloadN X0.here hx rfl (hb hby d5_124) rfl k) ?_
  refine ov s₁ 126 #[.val (.int n1), .val (.int c0), .val (.int c1), .val (.int c2)] [.int 1, .int n1] (fun t k => XS.iconst X0.here hx rfl (hb hby d5_125) k) ?_
  refine ov s₁ 254 #[.val (.int n1), .val (.int c0), .val (.int c1), .val (.int c2)] [] (fun t k => XS.icmpYes X0.here hx rfl (pc0 := 126) (pc' := 254) rfl (hb hby d5_126) rfl (feq hn1).2 (by decide) (by decide) k) ?_
  refine ov s₁ 255 #[.val (.int n1), .val (.int c0), .val (.int c1), .val (.int c2)] [.int n1] (fun t k => XS.iloadN X0.here hx rfl (hb hby d5_254) rfl k) ?_
  refine ov s₁ 256 #[.val (.int n1), .val (.int c0), .val (.int c1), .val (.int c2)] [.int 2, .int n1] (fun t k => XS.iconst X0.here hx rfl (hb hby d5_255) k) ?_
  refine ov s₁ 389 #[.val (.int n1), .val (.int c0), .val (.int c1), .val (.int c2)] [] (fun t k => XS.icmpYes X0.here hx rfl (pc0 := 256) (pc' := 389) rfl (hb hby d5_256) rfl (feq hn2).2 (by decide) (by decide) k) ?_
  obtain ⟨T1, h1, X1, e1, E1, A1, D1, -, st1⟩ := newO X0 hx hZ hown (wd4 hw) (wd5 hw) (wd6 hw) e0 (g := (mkF m 389 #[.val (.int n1), .val (.int c0), .val (.int c1), .val (.int c2)] [])) rfl (hb hby d5_389) (by decide) (by decide)
  obtain ⟨b1, g1⟩ : ∃ z, z = h0.size := ⟨_, rfl⟩
  rw [← g1] at A1 D1 st1
  have lt_b1 : h1.size > b1 := A1.lt
  have sz2 : h0.size ≤ h1.size := E1.1
  have O3 : Old Z n0 h1 := O0.ext E1
  have K4 : Keep h0 h1 [] := K0.ext E1
  have F1_value : Fld Z h1 b1 "java/lang/String" "value" "[B" .null := D1 (Or.inr (wd20 hw)) (ty := (.array .byte)) (by decide)
  have F1_coder : Fld Z h1 b1 "java/lang/String" "coder" "B" (.int 0) := D1 (Or.inr (wd21 hw)) (ty := .byte) (by decide)
  refine ov T1 392 #[.val (.int n1), .val (.int c0), .val (.int c1), .val (.int c2)] [.ref b1] st1 ?_
  refine ov T1 393 #[.val (.int n1), .val (.int c0), .val (.int c1), .val (.int c2)] [.ref b1, .ref b1] (fun t k => XS.dup X1.here hx rfl (hb hby d5_392) rfl rfl k) ?_
  refine ov T1 395 #[.val (.int n1), .val (.int c0), .val (.int c1), .val (.int c2)] [.int 22, .ref b1, .ref b1] (fun t k => XS.bipush X1.here hx rfl (hb hby d5_393) k) ?_
  obtain ⟨T5, h5, k5, X5, e5, E5, A5, st5⟩ := newP (aty := .char) X1 hx hZ (wd7 hw) e1 (g := (mkF m 395 #[.val (.int n1), .val (.int c0), .val (.int c1), .val (.int c2)] [.int 22, .ref b1, .ref b1])) rfl (hb hby d5_395) rfl (by decide : ¬ ((22 : Int32) < (0 : Int32))) (cap := 22) (by decide) (by decide) (by decide) (by decide)
  obtain ⟨b5, g5⟩ : ∃ z, z = h1.size := ⟨_, rfl⟩
  rw [← g5] at A5 st5
  have lt_b5 : h5.size > b5 := A5.lt
  have sz6 : h1.size ≤ h5.size := E5.1
  have O7 : Old Z n0 h5 := O3.ext E5
  have K8 : Keep h0 h5 [] := K4.ext E5
  have V5 : Arv Z h5 b5 k5 .char (22 : Int32) [.int 0, .int 0, .int 0, .int 0, .int 0, .int 0, .int 0, .int 0, .int 0, .int 0, .int 0, .int 0, .int 0, .int 0, .int 0, .int 0, .int 0, .int 0, .int 0, .int 0, .int 0, .int 0] (.int 0) := (Arv.new A5 (by decide)).pad (pad_rep [] (.int 0) 22)
  refine ov T5 397 #[.val (.int n1), .val (.int c0), .val (.int c1), .val (.int c2)] [.ref b5, .ref b1, .ref b1] st5 ?_
  refine ov T5 398 #[.val (.int n1), .val (.int c0), .val (.int c1), .val (.int c2)] [.ref b5, .ref b5, .ref b1, .ref b1] (fun t k => XS.dup X5.here hx rfl (hb hby d5_397) rfl rfl k) ?_
  refine ov T5 399 #[.val (.int n1), .val (.int c0), .val (.int c1), .val (.int c2)] [.int 0, .ref b5, .ref b5, .ref b1, .ref b1] (fun t k => XS.iconst X5.here hx rfl (hb hby d5_398) k) ?_
  refine ov T5 401 #[.val (.int n1), .val (.int c0), .val (.int c1), .val (.int c2)] [.int 60, .int 0, .ref b5, .ref b5, .ref b1, .ref b1] (fun t k => XS.bipush X5.here hx rfl (hb hby d5_399) k) ?_
  obtain ⟨cl9, Ar9, q9, S9, M9, H9, U9⟩ := id V5
  obtain ⟨T9, h9, X9, e9, W9, st9⟩ := stC X5 hx hZ e5 Ar9 (j := (0 : Int32)) (inb_of S9 ⟨by decide, by decide⟩) (g := (mkF m 401 #[.val (.int n1), .val (.int c0), .val (.int c1), .val (.int c2)] [.int 60, .int 0, .ref b5, .ref b5, .ref b1, .ref b1])) rfl rfl (hb hby d5_401)
  have sz10 : h5.size ≤ h9.size := Nat.le_of_eq W9.size.symm
  have O11 : Old Z n0 h9 := O7.wr W9 (by omega : n0 ≤ b5)
  have N9 := Fr.snoc X9 N0 (by omega : n0 ≤ b5)
  have K12 : Keep h0 h9 [] := K8.wr W9 (Or.inr (by omega : h0.size ≤ b5))
  have V9 : Arv Z h9 b5 k5 .char (22 : Int32) [.int 60, .int 0, .int 0, .int 0, .int 0, .int 0, .int 0, .int 0, .int 0, .int 0, .int 0, .int 0, .int 0, .int 0, .int 0, .int 0, .int 0, .int 0, .int 0, .int 0, .int 0, .int 0] (.int 0) := Arv.set Ar9 q9 S9 M9 H9 U9 (fits_nar_char _) W9 0 rfl (Nat.le_of_ble_eq_true rfl)
  refine ov T9 402 #[.val (.int n1), .val (.int c0), .val (.int c1), .val (.int c2)] [.ref b5, .ref b1, .ref b1] st9 ?_
  refine ov T9 403 #[.val (.int n1), .val (.int c0), .val (.int c1), .val (.int c2)] [.ref b5, .ref b5, .ref b1, .ref b1] (fun t k => XS.dup X9.here hx rfl (hb hby d5_402) rfl rfl k) ?_
  refine ov T9 404 #[.val (.int n1), .val (.int c0), .val (.int c1), .val (.int c2)] [.int 1, .ref b5, .ref b5, .ref b1, .ref b1] (fun t k => XS.iconst X9.here hx rfl (hb hby d5_403) k) ?_
  refine ov T9 406 #[.val (.int n1), .val (.int c0), .val (.int c1), .val (.int c2)] [.int 33, .int 1, .ref b5, .ref b5, .ref b1, .ref b1] (fun t k => XS.bipush X9.here hx rfl (hb hby d5_404) k) ?_
  obtain ⟨cl13, Ar13, q13, S13, M13, H13, U13⟩ := id V9
  obtain ⟨T13, h13, X13, e13, W13, st13⟩ := stC X9 hx hZ e9 Ar13 (j := (1 : Int32)) (inb_of S13 ⟨by decide, by decide⟩) (g := (mkF m 406 #[.val (.int n1), .val (.int c0), .val (.int c1), .val (.int c2)] [.int 33, .int 1, .ref b5, .ref b5, .ref b1, .ref b1])) rfl rfl (hb hby d5_406)
  have sz14 : h9.size ≤ h13.size := Nat.le_of_eq W13.size.symm
  have O15 : Old Z n0 h13 := O11.wr W13 (by omega : n0 ≤ b5)
  have N13 := Fr.snoc X13 N9 (by omega : n0 ≤ b5)
  have K16 : Keep h0 h13 [] := K12.wr W13 (Or.inr (by omega : h0.size ≤ b5))
  have V13 : Arv Z h13 b5 k5 .char (22 : Int32) [.int 60, .int 33, .int 0, .int 0, .int 0, .int 0, .int 0, .int 0, .int 0, .int 0, .int 0, .int 0, .int 0, .int 0, .int 0, .int 0, .int 0, .int 0, .int 0, .int 0, .int 0, .int 0] (.int 0) := Arv.set Ar13 q13 S13 M13 H13 U13 (fits_nar_char _) W13 1 rfl (Nat.le_of_ble_eq_true rfl)
  refine ov T13 407 #[.val (.int n1), .val (.int c0), .val (.int c1), .val (.int c2)] [.ref b5, .ref b1, .ref b1] st13 ?_
  refine ov T13 408 #[.val (.int n1), .val (.int c0), .val (.int c1), .val (.int c2)] [.ref b5, .ref b5, .ref b1, .ref b1] (fun t k => XS.dup X13.here hx rfl (hb hby d5_407) rfl rfl k) ?_
  refine ov T13 409 #[.val (.int n1), .val (.int c0), .val (.int c1), .val (.int c2)] [.int 2, .ref b5, .ref b5, .ref b1, .ref b1] (fun t k => XS.iconst X13.here hx rfl (hb hby d5_408) k) ?_
  refine ov T13 411 #[.val (.int n1), .val (.int c0), .val (.int c1), .val (.int c2)] [.int 68, .int 2, .ref b5, .ref b5, .ref b1, .ref b1] (fun t k => XS.bipush X13.here hx rfl (hb hby d5_409) k) ?_
  obtain ⟨cl17, Ar17, q17, S17, M17, H17, U17⟩ := id V13
  obtain ⟨T17, h17, X17, e17, W17, st17⟩ := stC X13 hx hZ e13 Ar17 (j := (2 : Int32)) (inb_of S17 ⟨by decide, by decide⟩) (g := (mkF m 411 #[.val (.int n1), .val (.int c0), .val (.int c1), .val (.int c2)] [.int 68, .int 2, .ref b5, .ref b5, .ref b1, .ref b1])) rfl rfl (hb hby d5_411)
  have sz18 : h13.size ≤ h17.size := Nat.le_of_eq W17.size.symm
  have O19 : Old Z n0 h17 := O15.wr W17 (by omega : n0 ≤ b5)
  have N17 := Fr.snoc X17 N13 (by omega : n0 ≤ b5)
  have K20 : Keep h0 h17 [] := K16.wr W17 (Or.inr (by omega : h0.size ≤ b5))
  have V17 : Arv Z h17 b5 k5 .char (22 : Int32) [.int 60, .int 33, .int 68, .int 0, .int 0, .int 0, .int 0, .int 0, .int 0, .int 0, .int 0, .int 0, .int 0, .int 0, .int 0, .int 0, .int 0, .int 0, .int 0, .int 0, .int 0, .int 0] (.int 0) := Arv.set Ar17 q17 S17 M17 H17 U17 (fits_nar_char _) W17 2 rfl (Nat.le_of_ble_eq_true rfl)
  refine ov T17 412 #[.val (.int n1), .val (.int c0), .val (.int c1), .val (.int c2)] [.ref b5, .ref b1, .ref b1] st17 ?_
  refine ov T17 413 #[.val (.int n1), .val (.int c0), .val (.int c1), .val (.int c2)] [.ref b5, .ref b5, .ref b1, .ref b1] (fun t k => XS.dup X17.here hx rfl (hb hby d5_412) rfl rfl k) ?_
  refine ov T17 414 #[.val (.int n1), .val (.int c0), .val (.int c1), .val (.int c2)] [.int 3, .ref b5, .ref b5, .ref b1, .ref b1] (fun t k => XS.iconst X17.here hx rfl (hb hby d5_413) k) ?_
  refine ov T17 416 #[.val (.int n1), .val (.int c0), .val (.int c1), .val (.int c2)] [.int 79, .int 3, .ref b5, .ref b5, .ref b1, .ref b1] (fun t k => XS.bipush X17.here hx rfl (hb hby d5_414) k) ?_
  obtain ⟨cl21, Ar21, q21, S21, M21, H21, U21⟩ := id V17
  obtain ⟨T21, h21, X21, e21, W21, st21⟩ := stC X17 hx hZ e17 Ar21 (j := (3 : Int32)) (inb_of S21 ⟨by decide, by decide⟩) (g := (mkF m 416 #[.val (.int n1), .val (.int c0), .val (.int c1), .val (.int c2)] [.int 79, .int 3, .ref b5, .ref b5, .ref b1, .ref b1])) rfl rfl (hb hby d5_416)
  have sz22 : h17.size ≤ h21.size := Nat.le_of_eq W21.size.symm
  have O23 : Old Z n0 h21 := O19.wr W21 (by omega : n0 ≤ b5)
  have N21 := Fr.snoc X21 N17 (by omega : n0 ≤ b5)
  have K24 : Keep h0 h21 [] := K20.wr W21 (Or.inr (by omega : h0.size ≤ b5))
  have V21 : Arv Z h21 b5 k5 .char (22 : Int32) [.int 60, .int 33, .int 68, .int 79, .int 0, .int 0, .int 0, .int 0, .int 0, .int 0, .int 0, .int 0, .int 0, .int 0, .int 0, .int 0, .int 0, .int 0, .int 0, .int 0, .int 0, .int 0] (.int 0) := Arv.set Ar21 q21 S21 M21 H21 U21 (fits_nar_char _) W21 3 rfl (Nat.le_of_ble_eq_true rfl)
  refine ov T21 417 #[.val (.int n1), .val (.int c0), .val (.int c1), .val (.int c2)] [.ref b5, .ref b1, .ref b1] st21 ?_
  refine ov T21 418 #[.val (.int n1), .val (.int c0), .val (.int c1), .val (.int c2)] [.ref b5, .ref b5, .ref b1, .ref b1] (fun t k => XS.dup X21.here hx rfl (hb hby d5_417) rfl rfl k) ?_
  refine ov T21 419 #[.val (.int n1), .val (.int c0), .val (.int c1), .val (.int c2)] [.int 4, .ref b5, .ref b5, .ref b1, .ref b1] (fun t k => XS.iconst X21.here hx rfl (hb hby d5_418) k) ?_
  refine ov T21 421 #[.val (.int n1), .val (.int c0), .val (.int c1), .val (.int c2)] [.int 67, .int 4, .ref b5, .ref b5, .ref b1, .ref b1] (fun t k => XS.bipush X21.here hx rfl (hb hby d5_419) k) ?_
  obtain ⟨cl25, Ar25, q25, S25, M25, H25, U25⟩ := id V21
  obtain ⟨T25, h25, X25, e25, W25, st25⟩ := stC X21 hx hZ e21 Ar25 (j := (4 : Int32)) (inb_of S25 ⟨by decide, by decide⟩) (g := (mkF m 421 #[.val (.int n1), .val (.int c0), .val (.int c1), .val (.int c2)] [.int 67, .int 4, .ref b5, .ref b5, .ref b1, .ref b1])) rfl rfl (hb hby d5_421)
  have sz26 : h21.size ≤ h25.size := Nat.le_of_eq W25.size.symm
  have O27 : Old Z n0 h25 := O23.wr W25 (by omega : n0 ≤ b5)
  have N25 := Fr.snoc X25 N21 (by omega : n0 ≤ b5)
  have K28 : Keep h0 h25 [] := K24.wr W25 (Or.inr (by omega : h0.size ≤ b5))
  have V25 : Arv Z h25 b5 k5 .char (22 : Int32) [.int 60, .int 33, .int 68, .int 79, .int 67, .int 0, .int 0, .int 0, .int 0, .int 0, .int 0, .int 0, .int 0, .int 0, .int 0, .int 0, .int 0, .int 0, .int 0, .int 0, .int 0, .int 0] (.int 0) := Arv.set Ar25 q25 S25 M25 H25 U25 (fits_nar_char _) W25 4 rfl (Nat.le_of_ble_eq_true rfl)
  refine ov T25 422 #[.val (.int n1), .val (.int c0), .val (.int c1), .val (.int c2)] [.ref b5, .ref b1, .ref b1] st25 ?_
  refine ov T25 423 #[.val (.int n1), .val (.int c0), .val (.int c1), .val (.int c2)] [.ref b5, .ref b5, .ref b1, .ref b1] (fun t k => XS.dup X25.here hx rfl (hb hby d5_422) rfl rfl k) ?_
  refine ov T25 424 #[.val (.int n1), .val (.int c0), .val (.int c1), .val (.int c2)] [.int 5, .ref b5, .ref b5, .ref b1, .ref b1] (fun t k => XS.iconst X25.here hx rfl (hb hby d5_423) k) ?_
  refine ov T25 426 #[.val (.int n1), .val (.int c0), .val (.int c1), .val (.int c2)] [.int 84, .int 5, .ref b5, .ref b5, .ref b1, .ref b1] (fun t k => XS.bipush X25.here hx rfl (hb hby d5_424) k) ?_
  obtain ⟨cl29, Ar29, q29, S29, M29, H29, U29⟩ := id V25
  obtain ⟨T29, h29, X29, e29, W29, st29⟩ := stC X25 hx hZ e25 Ar29 (j := (5 : Int32)) (inb_of S29 ⟨by decide, by decide⟩) (g := (mkF m 426 #[.val (.int n1), .val (.int c0), .val (.int c1), .val (.int c2)] [.int 84, .int 5, .ref b5, .ref b5, .ref b1, .ref b1])) rfl rfl (hb hby d5_426)
  have sz30 : h25.size ≤ h29.size := Nat.le_of_eq W29.size.symm
  have O31 : Old Z n0 h29 := O27.wr W29 (by omega : n0 ≤ b5)
  have N29 := Fr.snoc X29 N25 (by omega : n0 ≤ b5)
  have K32 : Keep h0 h29 [] := K28.wr W29 (Or.inr (by omega : h0.size ≤ b5))
  have V29 : Arv Z h29 b5 k5 .char (22 : Int32) [.int 60, .int 33, .int 68, .int 79, .int 67, .int 84, .int 0, .int 0, .int 0, .int 0, .int 0, .int 0, .int 0, .int 0, .int 0, .int 0, .int 0, .int 0, .int 0, .int 0, .int 0, .int 0] (.int 0) := Arv.set Ar29 q29 S29 M29 H29 U29 (fits_nar_char _) W29 5 rfl (Nat.le_of_ble_eq_true rfl)
  refine ov T29 427 #[.val (.int n1), .val (.int c0), .val (.int c1), .val (.int c2)] [.ref b5, .ref b1, .ref b1] st29 ?_
  refine ov T29 428 #[.val (.int n1), .val (.int c0), .val (.int c1), .val (.int c2)] [.ref b5, .ref b5, .ref b1, .ref b1] (fun t k => XS.dup X29.here hx rfl (hb hby d5_427) rfl rfl k) ?_
  refine ov T29 430 #[.val (.int n1), .val (.int c0), .val (.int c1), .val (.int c2)] [.int 6, .ref b5, .ref b5, .ref b1, .ref b1] (fun t k => XS.bipush X29.here hx rfl (hb hby d5_428) k) ?_
  refine ov T29 432 #[.val (.int n1), .val (.int c0), .val (.int c1), .val (.int c2)] [.int 89, .int 6, .ref b5, .ref b5, .ref b1, .ref b1] (fun t k => XS.bipush X29.here hx rfl (hb hby d5_430) k) ?_
  obtain ⟨cl33, Ar33, q33, S33, M33, H33, U33⟩ := id V29
  obtain ⟨T33, h33, X33, e33, W33, st33⟩ := stC X29 hx hZ e29 Ar33 (j := (6 : Int32)) (inb_of S33 ⟨by decide, by decide⟩) (g := (mkF m 432 #[.val (.int n1), .val (.int c0), .val (.int c1), .val (.int c2)] [.int 89, .int 6, .ref b5, .ref b5, .ref b1, .ref b1])) rfl rfl (hb hby d5_432)
  have sz34 : h29.size ≤ h33.size := Nat.le_of_eq W33.size.symm
  have O35 : Old Z n0 h33 := O31.wr W33 (by omega : n0 ≤ b5)
  have N33 := Fr.snoc X33 N29 (by omega : n0 ≤ b5)
  have K36 : Keep h0 h33 [] := K32.wr W33 (Or.inr (by omega : h0.size ≤ b5))
  have V33 : Arv Z h33 b5 k5 .char (22 : Int32) [.int 60, .int 33, .int 68, .int 79, .int 67, .int 84, .int 89, .int 0, .int 0, .int 0, .int 0, .int 0, .int 0, .int 0, .int 0, .int 0, .int 0, .int 0, .int 0, .int 0, .int 0, .int 0] (.int 0) := Arv.set Ar33 q33 S33 M33 H33 U33 (fits_nar_char _) W33 6 rfl (Nat.le_of_ble_eq_true rfl)
  refine ov T33 433 #[.val (.int n1), .val (.int c0), .val (.int c1), .val (.int c2)] [.ref b5, .ref b1, .ref b1] st33 ?_
  refine ov T33 434 #[.val (.int n1), .val (.int c0), .val (.int c1), .val (.int c2)] [.ref b5, .ref b5, .ref b1, .ref b1] (fun t k => XS.dup X33.here hx rfl (hb hby d5_433) rfl rfl k) ?_
  refine ov T33 436 #[.val (.int n1), .val (.int c0), .val (.int c1), .val (.int c2)] [.int 7, .ref b5, .ref b5, .ref b1, .ref b1] (fun t k => XS.bipush X33.here hx rfl (hb hby d5_434) k) ?_
  refine ov T33 438 #[.val (.int n1), .val (.int c0), .val (.int c1), .val (.int c2)] [.int 80, .int 7, .ref b5, .ref b5, .ref b1, .ref b1] (fun t k => XS.bipush X33.here hx rfl (hb hby d5_436) k) ?_
  obtain ⟨cl37, Ar37, q37, S37, M37, H37, U37⟩ := id V33
  obtain ⟨T37, h37, X37, e37, W37, st37⟩ := stC X33 hx hZ e33 Ar37 (j := (7 : Int32)) (inb_of S37 ⟨by decide, by decide⟩) (g := (mkF m 438 #[.val (.int n1), .val (.int c0), .val (.int c1), .val (.int c2)] [.int 80, .int 7, .ref b5, .ref b5, .ref b1, .ref b1])) rfl rfl (hb hby d5_438)
  have sz38 : h33.size ≤ h37.size := Nat.le_of_eq W37.size.symm
  have O39 : Old Z n0 h37 := O35.wr W37 (by omega : n0 ≤ b5)
  have N37 := Fr.snoc X37 N33 (by omega : n0 ≤ b5)
  have K40 : Keep h0 h37 [] := K36.wr W37 (Or.inr (by omega : h0.size ≤ b5))
  have V37 : Arv Z h37 b5 k5 .char (22 : Int32) [.int 60, .int 33, .int 68, .int 79, .int 67, .int 84, .int 89, .int 80, .int 0, .int 0, .int 0, .int 0, .int 0, .int 0, .int 0, .int 0, .int 0, .int 0, .int 0, .int 0, .int 0, .int 0] (.int 0) := Arv.set Ar37 q37 S37 M37 H37 U37 (fits_nar_char _) W37 7 rfl (Nat.le_of_ble_eq_true rfl)
  refine ov T37 439 #[.val (.int n1), .val (.int c0), .val (.int c1), .val (.int c2)] [.ref b5, .ref b1, .ref b1] st37 ?_
  refine ov T37 440 #[.val (.int n1), .val (.int c0), .val (.int c1), .val (.int c2)] [.ref b5, .ref b5, .ref b1, .ref b1] (fun t k => XS.dup X37.here hx rfl (hb hby d5_439) rfl rfl k) ?_
  refine ov T37 442 #[.val (.int n1), .val (.int c0), .val (.int c1), .val (.int c2)] [.int 8, .ref b5, .ref b5, .ref b1, .ref b1] (fun t k => XS.bipush X37.here hx rfl (hb hby d5_440) k) ?_
  refine ov T37 444 #[.val (.int n1), .val (.int c0), .val (.int c1), .val (.int c2)] [.int 69, .int 8, .ref b5, .ref b5, .ref b1, .ref b1] (fun t k => XS.bipush X37.here hx rfl (hb hby d5_442) k) ?_
  obtain ⟨cl41, Ar41, q41, S41, M41, H41, U41⟩ := id V37
  obtain ⟨T41, h41, X41, e41, W41, st41⟩ := stC X37 hx hZ e37 Ar41 (j := (8 : Int32)) (inb_of S41 ⟨by decide, by decide⟩) (g := (mkF m 444 #[.val (.int n1), .val (.int c0), .val (.int c1), .val (.int c2)] [.int 69, .int 8, .ref b5, .ref b5, .ref b1, .ref b1])) rfl rfl (hb hby d5_444)
  have sz42 : h37.size ≤ h41.size := Nat.le_of_eq W41.size.symm
  have O43 : Old Z n0 h41 := O39.wr W41 (by omega : n0 ≤ b5)
  have N41 := Fr.snoc X41 N37 (by omega : n0 ≤ b5)
  have K44 : Keep h0 h41 [] := K40.wr W41 (Or.inr (by omega : h0.size ≤ b5))
  have V41 : Arv Z h41 b5 k5 .char (22 : Int32) [.int 60, .int 33, .int 68, .int 79, .int 67, .int 84, .int 89, .int 80, .int 69, .int 0, .int 0, .int 0, .int 0, .int 0, .int 0, .int 0, .int 0, .int 0, .int 0, .int 0, .int 0, .int 0] (.int 0) := Arv.set Ar41 q41 S41 M41 H41 U41 (fits_nar_char _) W41 8 rfl (Nat.le_of_ble_eq_true rfl)
  refine ov T41 445 #[.val (.int n1), .val (.int c0), .val (.int c1), .val (.int c2)] [.ref b5, .ref b1, .ref b1] st41 ?_
  refine ov T41 446 #[.val (.int n1), .val (.int c0), .val (.int c1), .val (.int c2)] [.ref b5, .ref b5, .ref b1, .ref b1] (fun t k => XS.dup X41.here hx rfl (hb hby d5_445) rfl rfl k) ?_
  refine ov T41 448 #[.val (.int n1), .val (.int c0), .val (.int c1), .val (.int c2)] [.int 9, .ref b5, .ref b5, .ref b1, .ref b1] (fun t k => XS.bipush X41.here hx rfl (hb hby d5_446) k) ?_
  refine ov T41 450 #[.val (.int n1), .val (.int c0), .val (.int c1), .val (.int c2)] [.int 32, .int 9, .ref b5, .ref b5, .ref b1, .ref b1] (fun t k => XS.bipush X41.here hx rfl (hb hby d5_448) k) ?_
  obtain ⟨cl45, Ar45, q45, S45, M45, H45, U45⟩ := id V41
  obtain ⟨T45, h45, X45, e45, W45, st45⟩ := stC X41 hx hZ e41 Ar45 (j := (9 : Int32)) (inb_of S45 ⟨by decide, by decide⟩) (g := (mkF m 450 #[.val (.int n1), .val (.int c0), .val (.int c1), .val (.int c2)] [.int 32, .int 9, .ref b5, .ref b5, .ref b1, .ref b1])) rfl rfl (hb hby d5_450)
  have sz46 : h41.size ≤ h45.size := Nat.le_of_eq W45.size.symm
  have O47 : Old Z n0 h45 := O43.wr W45 (by omega : n0 ≤ b5)
  have N45 := Fr.snoc X45 N41 (by omega : n0 ≤ b5)
  have K48 : Keep h0 h45 [] := K44.wr W45 (Or.inr (by omega : h0.size ≤ b5))
  have V45 : Arv Z h45 b5 k5 .char (22 : Int32) [.int 60, .int 33, .int 68, .int 79, .int 67, .int 84, .int 89, .int 80, .int 69, .int 32, .int 0, .int 0, .int 0, .int 0, .int 0, .int 0, .int 0, .int 0, .int 0, .int 0, .int 0, .int 0] (.int 0) := Arv.set Ar45 q45 S45 M45 H45 U45 (fits_nar_char _) W45 9 rfl (Nat.le_of_ble_eq_true rfl)
  refine ov T45 451 #[.val (.int n1), .val (.int c0), .val (.int c1), .val (.int c2)] [.ref b5, .ref b1, .ref b1] st45 ?_
  refine ov T45 452 #[.val (.int n1), .val (.int c0), .val (.int c1), .val (.int c2)] [.ref b5, .ref b5, .ref b1, .ref b1] (fun t k => XS.dup X45.here hx rfl (hb hby d5_451) rfl rfl k) ?_
  refine ov T45 454 #[.val (.int n1), .val (.int c0), .val (.int c1), .val (.int c2)] [.int 10, .ref b5, .ref b5, .ref b1, .ref b1] (fun t k => XS.bipush X45.here hx rfl (hb hby d5_452) k) ?_
  refine ov T45 456 #[.val (.int n1), .val (.int c0), .val (.int c1), .val (.int c2)] [.int 104, .int 10, .ref b5, .ref b5, .ref b1, .ref b1] (fun t k => XS.bipush X45.here hx rfl (hb hby d5_454) k) ?_
  obtain ⟨cl49, Ar49, q49, S49, M49, H49, U49⟩ := id V45
  obtain ⟨T49, h49, X49, e49, W49, st49⟩ := stC X45 hx hZ e45 Ar49 (j := (10 : Int32)) (inb_of S49 ⟨by decide, by decide⟩) (g := (mkF m 456 #[.val (.int n1), .val (.int c0), .val (.int c1), .val (.int c2)] [.int 104, .int 10, .ref b5, .ref b5, .ref b1, .ref b1])) rfl rfl (hb hby d5_456)
  have sz50 : h45.size ≤ h49.size := Nat.le_of_eq W49.size.symm
  have O51 : Old Z n0 h49 := O47.wr W49 (by omega : n0 ≤ b5)
  have N49 := Fr.snoc X49 N45 (by omega : n0 ≤ b5)
  have K52 : Keep h0 h49 [] := K48.wr W49 (Or.inr (by omega : h0.size ≤ b5))
  have V49 : Arv Z h49 b5 k5 .char (22 : Int32) [.int 60, .int 33, .int 68, .int 79, .int 67, .int 84, .int 89, .int 80, .int 69, .int 32, .int 104, .int 0, .int 0, .int 0, .int 0, .int 0, .int 0, .int 0, .int 0, .int 0, .int 0, .int 0] (.int 0) := Arv.set Ar49 q49 S49 M49 H49 U49 (fits_nar_char _) W49 10 rfl (Nat.le_of_ble_eq_true rfl)
  refine ov T49 457 #[.val (.int n1), .val (.int c0), .val (.int c1), .val (.int c2)] [.ref b5, .ref b1, .ref b1] st49 ?_
  refine ov T49 458 #[.val (.int n1), .val (.int c0), .val (.int c1), .val (.int c2)] [.ref b5, .ref b5, .ref b1, .ref b1] (fun t k => XS.dup X49.here hx rfl (hb hby d5_457) rfl rfl k) ?_
  refine ov T49 460 #[.val (.int n1), .val (.int c0), .val (.int c1), .val (.int c2)] [.int 11, .ref b5, .ref b5, .ref b1, .ref b1] (fun t k => XS.bipush X49.here hx rfl (hb hby d5_458) k) ?_
  refine ov T49 462 #[.val (.int n1), .val (.int c0), .val (.int c1), .val (.int c2)] [.int 116, .int 11, .ref b5, .ref b5, .ref b1, .ref b1] (fun t k => XS.bipush X49.here hx rfl (hb hby d5_460) k) ?_
  obtain ⟨cl53, Ar53, q53, S53, M53, H53, U53⟩ := id V49
  obtain ⟨T53, h53, X53, e53, W53, st53⟩ := stC X49 hx hZ e49 Ar53 (j := (11 : Int32)) (inb_of S53 ⟨by decide, by decide⟩) (g := (mkF m 462 #[.val (.int n1), .val (.int c0), .val (.int c1), .val (.int c2)] [.int 116, .int 11, .ref b5, .ref b5, .ref b1, .ref b1])) rfl rfl (hb hby d5_462)
  have sz54 : h49.size ≤ h53.size := Nat.le_of_eq W53.size.symm
  have O55 : Old Z n0 h53 := O51.wr W53 (by omega : n0 ≤ b5)
  have N53 := Fr.snoc X53 N49 (by omega : n0 ≤ b5)
  have K56 : Keep h0 h53 [] := K52.wr W53 (Or.inr (by omega : h0.size ≤ b5))
  have V53 : Arv Z h53 b5 k5 .char (22 : Int32) [.int 60, .int 33, .int 68, .int 79, .int 67, .int 84, .int 89, .int 80, .int 69, .int 32, .int 104, .int 116, .int 0, .int 0, .int 0, .int 0, .int 0, .int 0, .int 0, .int 0, .int 0, .int 0] (.int 0) := Arv.set Ar53 q53 S53 M53 H53 U53 (fits_nar_char _) W53 11 rfl (Nat.le_of_ble_eq_true rfl)
  refine ov T53 463 #[.val (.int n1), .val (.int c0), .val (.int c1), .val (.int c2)] [.ref b5, .ref b1, .ref b1] st53 ?_
  refine ov T53 464 #[.val (.int n1), .val (.int c0), .val (.int c1), .val (.int c2)] [.ref b5, .ref b5, .ref b1, .ref b1] (fun t k => XS.dup X53.here hx rfl (hb hby d5_463) rfl rfl k) ?_
  refine ov T53 466 #[.val (.int n1), .val (.int c0), .val (.int c1), .val (.int c2)] [.int 12, .ref b5, .ref b5, .ref b1, .ref b1] (fun t k => XS.bipush X53.here hx rfl (hb hby d5_464) k) ?_
  refine ov T53 468 #[.val (.int n1), .val (.int c0), .val (.int c1), .val (.int c2)] [.int 109, .int 12, .ref b5, .ref b5, .ref b1, .ref b1] (fun t k => XS.bipush X53.here hx rfl (hb hby d5_466) k) ?_
  obtain ⟨cl57, Ar57, q57, S57, M57, H57, U57⟩ := id V53
  obtain ⟨T57, h57, X57, e57, W57, st57⟩ := stC X53 hx hZ e53 Ar57 (j := (12 : Int32)) (inb_of S57 ⟨by decide, by decide⟩) (g := (mkF m 468 #[.val (.int n1), .val (.int c0), .val (.int c1), .val (.int c2)] [.int 109, .int 12, .ref b5, .ref b5, .ref b1, .ref b1])) rfl rfl (hb hby d5_468)
  have sz58 : h53.size ≤ h57.size := Nat.le_of_eq W57.size.symm
  have O59 : Old Z n0 h57 := O55.wr W57 (by omega : n0 ≤ b5)
  have N57 := Fr.snoc X57 N53 (by omega : n0 ≤ b5)
  have K60 : Keep h0 h57 [] := K56.wr W57 (Or.inr (by omega : h0.size ≤ b5))
  have V57 : Arv Z h57 b5 k5 .char (22 : Int32) [.int 60, .int 33, .int 68, .int 79, .int 67, .int 84, .int 89, .int 80, .int 69, .int 32, .int 104, .int 116, .int 109, .int 0, .int 0, .int 0, .int 0, .int 0, .int 0, .int 0, .int 0, .int 0] (.int 0) := Arv.set Ar57 q57 S57 M57 H57 U57 (fits_nar_char _) W57 12 rfl (Nat.le_of_ble_eq_true rfl)
  refine ov T57 469 #[.val (.int n1), .val (.int c0), .val (.int c1), .val (.int c2)] [.ref b5, .ref b1, .ref b1] st57 ?_
  refine ov T57 470 #[.val (.int n1), .val (.int c0), .val (.int c1), .val (.int c2)] [.ref b5, .ref b5, .ref b1, .ref b1] (fun t k => XS.dup X57.here hx rfl (hb hby d5_469) rfl rfl k) ?_
  refine ov T57 472 #[.val (.int n1), .val (.int c0), .val (.int c1), .val (.int c2)] [.int 13, .ref b5, .ref b5, .ref b1, .ref b1] (fun t k => XS.bipush X57.here hx rfl (hb hby d5_470) k) ?_
  refine ov T57 474 #[.val (.int n1), .val (.int c0), .val (.int c1), .val (.int c2)] [.int 108, .int 13, .ref b5, .ref b5, .ref b1, .ref b1] (fun t k => XS.bipush X57.here hx rfl (hb hby d5_472) k) ?_
  obtain ⟨cl61, Ar61, q61, S61, M61, H61, U61⟩ := id V57
  obtain ⟨T61, h61, X61, e61, W61, st61⟩ := stC X57 hx hZ e57 Ar61 (j := (13 : Int32)) (inb_of S61 ⟨by decide, by decide⟩) (g := (mkF m 474 #[.val (.int n1), .val (.int c0), .val (.int c1), .val (.int c2)] [.int 108, .int 13, .ref b5, .ref b5, .ref b1, .ref b1])) rfl rfl (hb hby d5_474)
  have sz62 : h57.size ≤ h61.size := Nat.le_of_eq W61.size.symm
  have O63 : Old Z n0 h61 := O59.wr W61 (by omega : n0 ≤ b5)
  have N61 := Fr.snoc X61 N57 (by omega : n0 ≤ b5)
  have K64 : Keep h0 h61 [] := K60.wr W61 (Or.inr (by omega : h0.size ≤ b5))
  have V61 : Arv Z h61 b5 k5 .char (22 : Int32) [.int 60, .int 33, .int 68, .int 79, .int 67, .int 84, .int 89, .int 80, .int 69, .int 32, .int 104, .int 116, .int 109, .int 108, .int 0, .int 0, .int 0, .int 0, .int 0, .int 0, .int 0, .int 0] (.int 0) := Arv.set Ar61 q61 S61 M61 H61 U61 (fits_nar_char _) W61 13 rfl (Nat.le_of_ble_eq_true rfl)
  refine ov T61 475 #[.val (.int n1), .val (.int c0), .val (.int c1), .val (.int c2)] [.ref b5, .ref b1, .ref b1] st61 ?_
  refine ov T61 476 #[.val (.int n1), .val (.int c0), .val (.int c1), .val (.int c2)] [.ref b5, .ref b5, .ref b1, .ref b1] (fun t k => XS.dup X61.here hx rfl (hb hby d5_475) rfl rfl k) ?_
  refine ov T61 478 #[.val (.int n1), .val (.int c0), .val (.int c1), .val (.int c2)] [.int 14, .ref b5, .ref b5, .ref b1, .ref b1] (fun t k => XS.bipush X61.here hx rfl (hb hby d5_476) k) ?_
  refine ov T61 480 #[.val (.int n1), .val (.int c0), .val (.int c1), .val (.int c2)] [.int 62, .int 14, .ref b5, .ref b5, .ref b1, .ref b1] (fun t k => XS.bipush X61.here hx rfl (hb hby d5_478) k) ?_
  obtain ⟨cl65, Ar65, q65, S65, M65, H65, U65⟩ := id V61
  obtain ⟨T65, h65, X65, e65, W65, st65⟩ := stC X61 hx hZ e61 Ar65 (j := (14 : Int32)) (inb_of S65 ⟨by decide, by decide⟩) (g := (mkF m 480 #[.val (.int n1), .val (.int c0), .val (.int c1), .val (.int c2)] [.int 62, .int 14, .ref b5, .ref b5, .ref b1, .ref b1])) rfl rfl (hb hby d5_480)
  have sz66 : h61.size ≤ h65.size := Nat.le_of_eq W65.size.symm
  have O67 : Old Z n0 h65 := O63.wr W65 (by omega : n0 ≤ b5)
  have N65 := Fr.snoc X65 N61 (by omega : n0 ≤ b5)
  have K68 : Keep h0 h65 [] := K64.wr W65 (Or.inr (by omega : h0.size ≤ b5))
  have V65 : Arv Z h65 b5 k5 .char (22 : Int32) [.int 60, .int 33, .int 68, .int 79, .int 67, .int 84, .int 89, .int 80, .int 69, .int 32, .int 104, .int 116, .int 109, .int 108, .int 62, .int 0, .int 0, .int 0, .int 0, .int 0, .int 0, .int 0] (.int 0) := Arv.set Ar65 q65 S65 M65 H65 U65 (fits_nar_char _) W65 14 rfl (Nat.le_of_ble_eq_true rfl)
  refine ov T65 481 #[.val (.int n1), .val (.int c0), .val (.int c1), .val (.int c2)] [.ref b5, .ref b1, .ref b1] st65 ?_
  refine ov T65 482 #[.val (.int n1), .val (.int c0), .val (.int c1), .val (.int c2)] [.ref b5, .ref b5, .ref b1, .ref b1] (fun t k => XS.dup X65.here hx rfl (hb hby d5_481) rfl rfl k) ?_
  refine ov T65 484 #[.val (.int n1), .val (.int c0), .val (.int c1), .val (.int c2)] [.int 15, .ref b5, .ref b5, .ref b1, .ref b1] (fun t k => XS.bipush X65.here hx rfl (hb hby d5_482) k) ?_
  refine ov T65 486 #[.val (.int n1), .val (.int c0), .val (.int c1), .val (.int c2)] [.int 10, .int 15, .ref b5, .ref b5, .ref b1, .ref b1] (fun t k => XS.bipush X65.here hx rfl (hb hby d5_484) k) ?_
  obtain ⟨cl69, Ar69, q69, S69, M69, H69, U69⟩ := id V65
  obtain ⟨T69, h69, X69, e69, W69, st69⟩ := stC X65 hx hZ e65 Ar69 (j := (15 : Int32)) (inb_of S69 ⟨by decide, by decide⟩) (g := (mkF m 486 #[.val (.int n1), .val (.int c0), .val (.int c1), .val (.int c2)] [.int 10, .int 15, .ref b5, .ref b5, .ref b1, .ref b1])) rfl rfl (hb hby d5_486)
  have sz70 : h65.size ≤ h69.size := Nat.le_of_eq W69.size.symm
  have O71 : Old Z n0 h69 := O67.wr W69 (by omega : n0 ≤ b5)
  have N69 := Fr.snoc X69 N65 (by omega : n0 ≤ b5)
  have K72 : Keep h0 h69 [] := K68.wr W69 (Or.inr (by omega : h0.size ≤ b5))
  have V69 : Arv Z h69 b5 k5 .char (22 : Int32) [.int 60, .int 33, .int 68, .int 79, .int 67, .int 84, .int 89, .int 80, .int 69, .int 32, .int 104, .int 116, .int 109, .int 108, .int 62, .int 10, .int 0, .int 0, .int 0, .int 0, .int 0, .int 0] (.int 0) := Arv.set Ar69 q69 S69 M69 H69 U69 (fits_nar_char _) W69 15 rfl (Nat.le_of_ble_eq_true rfl)
  refine ov T69 487 #[.val (.int n1), .val (.int c0), .val (.int c1), .val (.int c2)] [.ref b5, .ref b1, .ref b1] st69 ?_
  refine ov T69 488 #[.val (.int n1), .val (.int c0), .val (.int c1), .val (.int c2)] [.ref b5, .ref b5, .ref b1, .ref b1] (fun t k => XS.dup X69.here hx rfl (hb hby d5_487) rfl rfl k) ?_
  refine ov T69 490 #[.val (.int n1), .val (.int c0), .val (.int c1), .val (.int c2)] [.int 16, .ref b5, .ref b5, .ref b1, .ref b1] (fun t k => XS.bipush X69.here hx rfl (hb hby d5_488) k) ?_
  refine ov T69 492 #[.val (.int n1), .val (.int c0), .val (.int c1), .val (.int c2)] [.int 60, .int 16, .ref b5, .ref b5, .ref b1, .ref b1] (fun t k => XS.bipush X69.here hx rfl (hb hby d5_490) k) ?_
  obtain ⟨cl73, Ar73, q73, S73, M73, H73, U73⟩ := id V69
  obtain ⟨T73, h73, X73, e73, W73, st73⟩ := stC X69 hx hZ e69 Ar73 (j := (16 : Int32)) (inb_of S73 ⟨by decide, by decide⟩) (g := (mkF m 492 #[.val (.int n1), .val (.int c0), .val (.int c1), .val (.int c2)] [.int 60, .int 16, .ref b5, .ref b5, .ref b1, .ref b1])) rfl rfl (hb hby d5_492)
  have sz74 : h69.size ≤ h73.size := Nat.le_of_eq W73.size.symm
  have O75 : Old Z n0 h73 := O71.wr W73 (by omega : n0 ≤ b5)
  have N73 := Fr.snoc X73 N69 (by omega : n0 ≤ b5)
  have K76 : Keep h0 h73 [] := K72.wr W73 (Or.inr (by omega : h0.size ≤ b5))
  have V73 : Arv Z h73 b5 k5 .char (22 : Int32) [.int 60, .int 33, .int 68, .int 79, .int 67, .int 84, .int 89, .int 80, .int 69, .int 32, .int 104, .int 116, .int 109, .int 108, .int 62, .int 10, .int 60, .int 0, .int 0, .int 0, .int 0, .int 0] (.int 0) := Arv.set Ar73 q73 S73 M73 H73 U73 (fits_nar_char _) W73 16 rfl (Nat.le_of_ble_eq_true rfl)
  refine ov T73 493 #[.val (.int n1), .val (.int c0), .val (.int c1), .val (.int c2)] [.ref b5, .ref b1, .ref b1] st73 ?_
  refine ov T73 494 #[.val (.int n1), .val (.int c0), .val (.int c1), .val (.int c2)] [.ref b5, .ref b5, .ref b1, .ref b1] (fun t k => XS.dup X73.here hx rfl (hb hby d5_493) rfl rfl k) ?_
  refine ov T73 496 #[.val (.int n1), .val (.int c0), .val (.int c1), .val (.int c2)] [.int 17, .ref b5, .ref b5, .ref b1, .ref b1] (fun t k => XS.bipush X73.here hx rfl (hb hby d5_494) k) ?_
  refine ov T73 498 #[.val (.int n1), .val (.int c0), .val (.int c1), .val (.int c2)] [.int 47, .int 17, .ref b5, .ref b5, .ref b1, .ref b1] (fun t k => XS.bipush X73.here hx rfl (hb hby d5_496) k) ?_
  obtain ⟨cl77, Ar77, q77, S77, M77, H77, U77⟩ := id V73
  obtain ⟨T77, h77, X77, e77, W77, st77⟩ := stC X73 hx hZ e73 Ar77 (j := (17 : Int32)) (inb_of S77 ⟨by decide, by decide⟩) (g := (mkF m 498 #[.val (.int n1), .val (.int c0), .val (.int c1), .val (.int c2)] [.int 47, .int 17, .ref b5, .ref b5, .ref b1, .ref b1])) rfl rfl (hb hby d5_498)
  have sz78 : h73.size ≤ h77.size := Nat.le_of_eq W77.size.symm
  have O79 : Old Z n0 h77 := O75.wr W77 (by omega : n0 ≤ b5)
  have N77 := Fr.snoc X77 N73 (by omega : n0 ≤ b5)
  have K80 : Keep h0 h77 [] := K76.wr W77 (Or.inr (by omega : h0.size ≤ b5))
  have V77 : Arv Z h77 b5 k5 .char (22 : Int32) [.int 60, .int 33, .int 68, .int 79, .int 67, .int 84, .int 89, .int 80, .int 69, .int 32, .int 104, .int 116, .int 109, .int 108, .int 62, .int 10, .int 60, .int 47, .int 0, .int 0, .int 0, .int 0] (.int 0) := Arv.set Ar77 q77 S77 M77 H77 U77 (fits_nar_char _) W77 17 rfl (Nat.le_of_ble_eq_true rfl)
  refine ov T77 499 #[.val (.int n1), .val (.int c0), .val (.int c1), .val (.int c2)] [.ref b5, .ref b1, .ref b1] st77 ?_
  refine ov T77 500 #[.val (.int n1), .val (.int c0), .val (.int c1), .val (.int c2)] [.ref b5, .ref b5, .ref b1, .ref b1] (fun t k => XS.dup X77.here hx rfl (hb hby d5_499) rfl rfl k) ?_
  refine ov T77 502 #[.val (.int n1), .val (.int c0), .val (.int c1), .val (.int c2)] [.int 18, .ref b5, .ref b5, .ref b1, .ref b1] (fun t k => XS.bipush X77.here hx rfl (hb hby d5_500) k) ?_
  refine ov T77 503 #[.val (.int n1), .val (.int c0), .val (.int c1), .val (.int c2)] [.int c0, .int 18, .ref b5, .ref b5, .ref b1, .ref b1] (fun t k => XS.iloadN X77.here hx rfl (hb hby d5_502) rfl k) ?_
  obtain ⟨cl81, Ar81, q81, S81, M81, H81, U81⟩ := id V77
  obtain ⟨T81, h81, X81, e81, W81, st81⟩ := stC X77 hx hZ e77 Ar81 (j := (18 : Int32)) (inb_of S81 ⟨by decide, by decide⟩) (g := (mkF m 503 #[.val (.int n1), .val (.int c0), .val (.int c1), .val (.int c2)] [.int c0, .int 18, .ref b5, .ref b5, .ref b1, .ref b1])) rfl rfl (hb hby d5_503)
  have sz82 : h77.size ≤ h81.size := Nat.le_of_eq W81.size.symm
  have O83 : Old Z n0 h81 := O79.wr W81 (by omega : n0 ≤ b5)
  have N81 := Fr.snoc X81 N77 (by omega : n0 ≤ b5)
  have K84 : Keep h0 h81 [] := K80.wr W81 (Or.inr (by omega : h0.size ≤ b5))
  rw [own_narc rc0] at W81
  have V81 : Arv Z h81 b5 k5 .char (22 : Int32) [.int 60, .int 33, .int 68, .int 79, .int 67, .int 84, .int 89, .int 80, .int 69, .int 32, .int 104, .int 116, .int 109, .int 108, .int 62, .int 10, .int 60, .int 47, .int c0, .int 0, .int 0, .int 0] (.int 0) := Arv.set Ar81 q81 S81 M81 H81 U81 (own_fitc rc0) W81 18 rfl (Nat.le_of_ble_eq_true rfl)
  refine ov T81 504 #[.val (.int n1), .val (.int c0), .val (.int c1), .val (.int c2)] [.ref b5, .ref b1, .ref b1] st81 ?_
  refine ov T81 505 #[.val (.int n1), .val (.int c0), .val (.int c1), .val (.int c2)] [.ref b5, .ref b5, .ref b1, .ref b1] (fun t k => XS.dup X81.here hx rfl (hb hby d5_504) rfl rfl k) ?_
  refine ov T81 507 #[.val (.int n1), .val (.int c0), .val (.int c1), .val (.int c2)] [.int 19, .ref b5, .ref b5, .ref b1, .ref b1] (fun t k => XS.bipush X81.here hx rfl (hb hby d5_505) k) ?_
  refine ov T81 508 #[.val (.int n1), .val (.int c0), .val (.int c1), .val (.int c2)] [.int c1, .int 19, .ref b5, .ref b5, .ref b1, .ref b1] (fun t k => XS.iloadN X81.here hx rfl (hb hby d5_507) rfl k) ?_
  obtain ⟨cl85, Ar85, q85, S85, M85, H85, U85⟩ := id V81
  obtain ⟨T85, h85, X85, e85, W85, st85⟩ := stC X81 hx hZ e81 Ar85 (j := (19 : Int32)) (inb_of S85 ⟨by decide, by decide⟩) (g := (mkF m 508 #[.val (.int n1), .val (.int c0), .val (.int c1), .val (.int c2)] [.int c1, .int 19, .ref b5, .ref b5, .ref b1, .ref b1])) rfl rfl (hb hby d5_508)
  have sz86 : h81.size ≤ h85.size := Nat.le_of_eq W85.size.symm
  have O87 : Old Z n0 h85 := O83.wr W85 (by omega : n0 ≤ b5)
  have N85 := Fr.snoc X85 N81 (by omega : n0 ≤ b5)
  have K88 : Keep h0 h85 [] := K84.wr W85 (Or.inr (by omega : h0.size ≤ b5))
  rw [own_narc rc1] at W85
  have V85 : Arv Z h85 b5 k5 .char (22 : Int32) [.int 60, .int 33, .int 68, .int 79, .int 67, .int 84, .int 89, .int 80, .int 69, .int 32, .int 104, .int 116, .int 109, .int 108, .int 62, .int 10, .int 60, .int 47, .int c0, .int c1, .int 0, .int 0] (.int 0) := Arv.set Ar85 q85 S85 M85 H85 U85 (own_fitc rc1) W85 19 rfl (Nat.le_of_ble_eq_true rfl)
  refine ov T85 509 #[.val (.int n1), .val (.int c0), .val (.int c1), .val (.int c2)] [.ref b5, .ref b1, .ref b1] st85 ?_
  refine ov T85 510 #[.val (.int n1), .val (.int c0), .val (.int c1), .val (.int c2)] [.ref b5, .ref b5, .ref b1, .ref b1] (fun t k => XS.dup X85.here hx rfl (hb hby d5_509) rfl rfl k) ?_
  refine ov T85 512 #[.val (.int n1), .val (.int c0), .val (.int c1), .val (.int c2)] [.int 20, .ref b5, .ref b5, .ref b1, .ref b1] (fun t k => XS.bipush X85.here hx rfl (hb hby d5_510) k) ?_
  refine ov T85 513 #[.val (.int n1), .val (.int c0), .val (.int c1), .val (.int c2)] [.int c2, .int 20, .ref b5, .ref b5, .ref b1, .ref b1] (fun t k => XS.iloadN X85.here hx rfl (hb hby d5_512) rfl k) ?_
  obtain ⟨cl89, Ar89, q89, S89, M89, H89, U89⟩ := id V85
  obtain ⟨T89, h89, X89, e89, W89, st89⟩ := stC X85 hx hZ e85 Ar89 (j := (20 : Int32)) (inb_of S89 ⟨by decide, by decide⟩) (g := (mkF m 513 #[.val (.int n1), .val (.int c0), .val (.int c1), .val (.int c2)] [.int c2, .int 20, .ref b5, .ref b5, .ref b1, .ref b1])) rfl rfl (hb hby d5_513)
  have sz90 : h85.size ≤ h89.size := Nat.le_of_eq W89.size.symm
  have O91 : Old Z n0 h89 := O87.wr W89 (by omega : n0 ≤ b5)
  have N89 := Fr.snoc X89 N85 (by omega : n0 ≤ b5)
  have K92 : Keep h0 h89 [] := K88.wr W89 (Or.inr (by omega : h0.size ≤ b5))
  rw [own_narc rc2] at W89
  have V89 : Arv Z h89 b5 k5 .char (22 : Int32) [.int 60, .int 33, .int 68, .int 79, .int 67, .int 84, .int 89, .int 80, .int 69, .int 32, .int 104, .int 116, .int 109, .int 108, .int 62, .int 10, .int 60, .int 47, .int c0, .int c1, .int c2, .int 0] (.int 0) := Arv.set Ar89 q89 S89 M89 H89 U89 (own_fitc rc2) W89 20 rfl (Nat.le_of_ble_eq_true rfl)
  refine ov T89 514 #[.val (.int n1), .val (.int c0), .val (.int c1), .val (.int c2)] [.ref b5, .ref b1, .ref b1] st89 ?_
  refine ov T89 515 #[.val (.int n1), .val (.int c0), .val (.int c1), .val (.int c2)] [.ref b5, .ref b5, .ref b1, .ref b1] (fun t k => XS.dup X89.here hx rfl (hb hby d5_514) rfl rfl k) ?_
  refine ov T89 517 #[.val (.int n1), .val (.int c0), .val (.int c1), .val (.int c2)] [.int 21, .ref b5, .ref b5, .ref b1, .ref b1] (fun t k => XS.bipush X89.here hx rfl (hb hby d5_515) k) ?_
  refine ov T89 519 #[.val (.int n1), .val (.int c0), .val (.int c1), .val (.int c2)] [.int 62, .int 21, .ref b5, .ref b5, .ref b1, .ref b1] (fun t k => XS.bipush X89.here hx rfl (hb hby d5_517) k) ?_
  obtain ⟨cl93, Ar93, q93, S93, M93, H93, U93⟩ := id V89
  obtain ⟨T93, h93, X93, e93, W93, st93⟩ := stC X89 hx hZ e89 Ar93 (j := (21 : Int32)) (inb_of S93 ⟨by decide, by decide⟩) (g := (mkF m 519 #[.val (.int n1), .val (.int c0), .val (.int c1), .val (.int c2)] [.int 62, .int 21, .ref b5, .ref b5, .ref b1, .ref b1])) rfl rfl (hb hby d5_519)
  have sz94 : h89.size ≤ h93.size := Nat.le_of_eq W93.size.symm
  have O95 : Old Z n0 h93 := O91.wr W93 (by omega : n0 ≤ b5)
  have N93 := Fr.snoc X93 N89 (by omega : n0 ≤ b5)
  have K96 : Keep h0 h93 [] := K92.wr W93 (Or.inr (by omega : h0.size ≤ b5))
  have V93 : Arv Z h93 b5 k5 .char (22 : Int32) [.int 60, .int 33, .int 68, .int 79, .int 67, .int 84, .int 89, .int 80, .int 69, .int 32, .int 104, .int 116, .int 109, .int 108, .int 62, .int 10, .int 60, .int 47, .int c0, .int c1, .int c2, .int 62] (.int 0) := Arv.set Ar93 q93 S93 M93 H93 U93 (fits_nar_char _) W93 21 rfl (Nat.le_of_ble_eq_true rfl)
  refine ov T93 520 #[.val (.int n1), .val (.int c0), .val (.int c1), .val (.int c2)] [.ref b5, .ref b1, .ref b1] st93 ?_
  have cx98 : Exa Z h93 b1 "java/lang/String" := (Exa.wr W93 (Exa.wr W89 (Exa.wr W85 (Exa.wr W81 (Exa.wr W77 (Exa.wr W73 (Exa.wr W69 (Exa.wr W65 (Exa.wr W61 (Exa.wr W57 (Exa.wr W53 (Exa.wr W49 (Exa.wr W45 (Exa.wr W41 (Exa.wr W37 (Exa.wr W33 (Exa.wr W29 (Exa.wr W25 (Exa.wr W21 (Exa.wr W17 (Exa.wr W13 (Exa.wr W9 (A1.ext E5)))))))))))))))))))))))
  have ne_b1_b5 : b1 ≠ b5 := by first | exact (Exa.neArv cx98 V93 (wd5 hw)) | exact Nat.ne_of_lt (by omega) | exact Nat.ne_of_gt (by omega)
  have cx99 : Fld Z h93 b1 "java/lang/String" "value" "[B" .null := (Fld.other W93 (Fld.other W89 (Fld.other W85 (Fld.other W81 (Fld.other W77 (Fld.other W73 (Fld.other W69 (Fld.other W65 (Fld.other W61 (Fld.other W57 (Fld.other W53 (Fld.other W49 (Fld.other W45 (Fld.other W41 (Fld.other W37 (Fld.other W33 (Fld.other W29 (Fld.other W25 (Fld.other W21 (Fld.other W17 (Fld.other W13 (Fld.other W9 (F1_value.ext E5) (Or.inl ne_b1_b5)) (Or.inl ne_b1_b5)) (Or.inl ne_b1_b5)) (Or.inl ne_b1_b5)) (Or.inl ne_b1_b5)) (Or.inl ne_b1_b5)) (Or.inl ne_b1_b5)) (Or.inl ne_b1_b5)) (Or.inl ne_b1_b5)) (Or.inl ne_b1_b5)) (Or.inl ne_b1_b5)) (Or.inl ne_b1_b5)) (Or.inl ne_b1_b5)) (Or.inl ne_b1_b5)) (Or.inl ne_b1_b5)) (Or.inl ne_b1_b5)) (Or.inl ne_b1_b5)) (Or.inl ne_b1_b5)) (Or.inl ne_b1_b5)) (Or.inl ne_b1_b5)) (Or.inl ne_b1_b5)) (Or.inl ne_b1_b5))
  have cx100 : Fld Z h93 b1 "java/lang/String" "coder" "B" (.int 0) := (Fld.other W93 (Fld.other W89 (Fld.other W85 (Fld.other W81 (Fld.other W77 (Fld.other W73 (Fld.other W69 (Fld.other W65 (Fld.other W61 (Fld.other W57 (Fld.other W53 (Fld.other W49 (Fld.other W45 (Fld.other W41 (Fld.other W37 (Fld.other W33 (Fld.other W29 (Fld.other W25 (Fld.other W21 (Fld.other W17 (Fld.other W13 (Fld.other W9 (F1_coder.ext E5) (Or.inl ne_b1_b5)) (Or.inl ne_b1_b5)) (Or.inl ne_b1_b5)) (Or.inl ne_b1_b5)) (Or.inl ne_b1_b5)) (Or.inl ne_b1_b5)) (Or.inl ne_b1_b5)) (Or.inl ne_b1_b5)) (Or.inl ne_b1_b5)) (Or.inl ne_b1_b5)) (Or.inl ne_b1_b5)) (Or.inl ne_b1_b5)) (Or.inl ne_b1_b5)) (Or.inl ne_b1_b5)) (Or.inl ne_b1_b5)) (Or.inl ne_b1_b5)) (Or.inl ne_b1_b5)) (Or.inl ne_b1_b5)) (Or.inl ne_b1_b5)) (Or.inl ne_b1_b5)) (Or.inl ne_b1_b5)) (Or.inl ne_b1_b5))
  have cx101 : Sta Z h93 "java/lang/String" "COMPACT_STRINGS" "Z" (.int zc) := zfC.ext O95.2
  have hws97 := own_mw hw
  have hp97 : ∀ c ∈ ([60, 33, 68, 79, 67, 84, 89, 80, 69, 32, 104, 116, 109, 108, 62, 10, 60, 47, c0, c1, c2, 62] : List Int32), ¬ c < 0 ∧ ¬ (255 : Int32) < c := by
    intro c hc
    simp only [List.mem_cons, List.not_mem_nil, or_false] at hc
    rcases hc with rfl | rfl | rfl | rfl | rfl | rfl | rfl | rfl | rfl | rfl | rfl | rfl | rfl | rfl | rfl | rfl | rfl | rfl | rfl | rfl | rfl | rfl
    · exact by decide
    · exact by decide
    · exact by decide
    · exact by decide
    · exact by decide
    · exact by decide
    · exact by decide
    · exact by decide
    · exact by decide
    · exact by decide
    · exact by decide
    · exact by decide
    · exact by decide
    · exact by decide
    · exact by decide
    · exact by decide
    · exact by decide
    · exact by decide
    · exact rc0
    · exact rc1
    · exact rc2
    · exact by decide
  obtain ⟨_, _, ⟨T97, Lp97, kp97, np97⟩, -, X97, ⟨Lc97, hQ97, l97, y97, z97⟩, st97⟩ := X93.specialBack hx (y := mt24) rfl hown (mvT hZ (wd8 hw)) (mvT hZ (wd9 hw)) (mvT hZ (wd10 hw)) (by decide) (StrChars.Road.backV (W := 1) hZ hws97 (kI := 4) (wd5 hw) (cs := ([60, 33, 68, 79, 67, 84, 89, 80, 69, 32, 104, 116, 109, 108, 62, 10, 60, 47, c0, c1, c2, 62] : List Int32)) (bs := (([60, 33, 68, 79, 67, 84, 89, 80, 69, 32, 104, 116, 109, 108, 62, 10, 60, 47, c0, c1, c2, 62] : List Int32)).map (fun c => c.toInt8.toInt32)) (n := 22) (by omega : n0 ≤ b1) (by omega : n0 ≤ h93.size) cx98 cx99 cx100 V93 cx101 hzc rfl rfl (by decide) (by decide) hp97 rfl (by decide) (by decide)) (g := (mkF m 520 #[.val (.int n1), .val (.int c0), .val (.int c1), .val (.int c2)] [.ref b5, .ref b1, .ref b1])) rfl (by rw [hml]; rfl) (Steps.refl _) (a := b1) (argsL := [.ref b5]) (rest := [.ref b1]) (lenOf pd___C_V_325 rfl) rfl (by show 2 * 0 + _ ≤ _; exact Nat.le_of_eq rfl) (hb hby d5_520) (fun _ _ => ⟨rfl, e93, (by decide : 2 + 1 ≤ _), (by decide : 26 + 22 ≤ _)⟩)
  dsimp only [Pt.U, Pt.locs, Pt.cells, Pt.slots] at X97 l97 y97 z97 st97 hQ97
  subst Lp97 kp97 np97
  obtain ⟨rfl, N97q, K97q, f97_0, f97_1, t97, kb97, tg97, tg97', tn97, f97_2, f97_3⟩ := hQ97
  have N97 := Fr.app N93 N97q
  have sz102 : h93.size ≤ T97.heap.size := K97q.1
  have O103 : Old Z n0 T97.heap := O95.keep K97q (allS (by omega : n0 ≤ b1) all0)
  have K104 : Keep h0 T97.heap [] := K96.trans K97q (allS (P := fun x => x ∈ [] ∨ h0.size ≤ x) (Or.inr (by omega)) all0)
  have lt_t97 : T97.heap.size > t97 := f97_3.lt
  refine own_tr (S' := T97.setTop (mkF m 523 #[.val (.int n1), .val (.int c0), .val (.int c1), .val (.int c2)] [.ref b1])) st97 ?_
  refine own_ret (Q := Q_own_exp3 Z n1 c0 c1 c2 zc h0 n0) (C := rm4_3_48_66.cells) (N := rm4_3_48_66.slots) X97 (v := some (.ref b1)) (fun h => by rw [Bd.returns] at h; cases h) Bd.notSynchronized ?_ (by decide) (by decide) (fun fs hr => retOut X97 hx Bd.returns rfl (Or.inr (Or.inr (Or.inr (Or.inr ⟨rfl, rfl, rfl⟩)))) (hb hby d5_523) hr)
  show Q_own_exp3 Z n1 c0 c1 c2 zc h0 n0 _ T97.heap _
  exact ⟨b1, t97, kb97, rfl, N97, K104, f97_0, f97_2, f97_1, f97_3⟩
def Q_own_law (Z : State) (p0 : Int32) (p1 : Int32) (p2 : Int32) (p3 : Int32) (zc : Int32) (h0 : Heap) (n0 : Nat) (v : Option Value) (vm : Vm) (h : Heap) (L : List Loc) : Prop := v = some (.int 1) ∧ Fr n0 L
set_option maxRecDepth 65536 in
set_option maxHeartbeats 40000000 in
theorem own_law (l : Launch) (Z : State) (a0 : Array Value) (hw : ∀ d ∈ tables_1, d.before a0 Z = true) (ws : List Jvm.Cond) (p0 : Int32) (p1 : Int32) (p2 : Int32) (p3 : Int32) (zc : Int32) (h0 : Heap) (n0 : Nat) (O0 : Old Z n0 h0) (zfC : Sta Z Z.heap "java/lang/String" "COMPACT_STRINGS" "Z" (.int zc)) (hzc : ¬ (zc = (0 : Int32))) :
    MetFree l x (head1 (Jvm.Cond.code x code maxLocals ret :: ws) room_1) (fun aq U => aq = #[.int p0, .int p1, .int p2, .int p3] ∧ Z.Warmed39 U.vm ∧ U.heap = h0 ∧ CHv Z own_EL U.vm h0 ∧ ∀ x ∈ ([] : List Addr), Safe Z own_EL U.vm h0 x) (fun _ _ _ _ _ => True) (fun _ U o U' => ∃ v L, o = .returned v ∧ Q_own_law Z p0 p1 p2 p3 zc h0 n0 v U'.vm U'.heap L ∧ CHr Z own_EL U.vm U.heap U'.vm U'.heap ∧ ReturnedEndW U o U' L room_1.cells room_1.slots) := by
  refine MetFree.of_bodySF (plainFor_of_name pn_com_example_regent_regent_HtmlClosePinLaw) hisR ?_
  intro p e s m args below meth c s₁ Bd hml0 hP hK
  obtain ⟨rfl, hZ, hh, hCH, hSL⟩ := hP
  have hx := Bd.exec
  have hby := Bd.bytes
  have hml : c.maxLocals = 12 := hml0
  have hown : s.vm.findClass "com/example/regent/regent/HtmlClosePinLaw" = some m.cls := findClass_of_methodNamed Bd.named
  have hnm := (name_of_methodNamed Bd.named Bd.method).1
  have X0 : Stand p l e room_1 (s.setVm s.vm) m #[.int p0, .int p1, .int p2, .int p3] below meth c s₁ [] 0 0 := Stand.of_body Bd
  have e0 : s₁.heap = h0 := by rw [← hh, Bd.state]; rfl
  have N0 := Fr.nil n0
  have zO := O0.1
  have zO2 := O0.2.1
  refine own_open (own_via (S' := s₁.setTop (mkF m 0 #[.val (.int p0), .val (.int p1), .val (.int p2), .val (.int p3), .unset, .unset, .unset, .unset, .unset, .unset, .unset, .unset] [])) (fun t k => castTop (ef_own_law m p0 p1 p2 p3) k) ?_)
  have hEL := own_EW hw
  have hS0 : s.Since s.vm h0.size := (State.WarmedH.refl s).since _
  have R0 : CHr Z own_EL s.vm h0 s.vm h0 := CHr.refl hCH
  refine ov s₁ 1 #[.val (.int p0), .val (.int p1), .val (.int p2), .val (.int p3), .unset, .unset, .unset, .unset, .unset, .unset, .unset, .unset] [.int p0] (fun t k => XS.iloadN X0.here hx rfl (hb hby at_0) rfl k) ?_
  refine ov s₁ 2 #[.val (.int p0), .val (.int p1), .val (.int p2), .val (.int p3), .unset, .unset, .unset, .unset, .unset, .unset, .unset, .unset] [.int 3, .int p0] (fun t k => XS.iconst X0.here hx rfl (hb hby at_1) k) ?_
  refine ov s₁ 3 #[.val (.int p0), .val (.int p1), .val (.int p2), .val (.int p3), .unset, .unset, .unset, .unset, .unset, .unset, .unset, .unset] [(.int (p0 &&& (3 : Int32)))] (fun t k => XS.iand X0.here hx rfl (hb hby at_2) rfl k) ?_
  refine ov s₁ 5 #[.val (.int p0), .val (.int p1), .val (.int p2), .val (.int p3), .val (.int (p0 &&& (3 : Int32))), .unset, .unset, .unset, .unset, .unset, .unset, .unset] [] (fun t k => XS.istore X0.here hx rfl (hb hby at_3) rfl (l' := #[.val (.int p0), .val (.int p1), .val (.int p2), .val (.int p3), .val (.int (p0 &&& (3 : Int32))), .unset, .unset, .unset, .unset, .unset, .unset, .unset]) rfl k) ?_
  obtain ⟨nn, hn_nn⟩ : ∃ z : Int32, z = (p0 &&& (3 : Int32)) := ⟨_, rfl⟩
  rw [← hn_nn]
  refine ov s₁ 6 #[.val (.int p0), .val (.int p1), .val (.int p2), .val (.int p3), .val (.int nn), .unset, .unset, .unset, .unset, .unset, .unset, .unset] [.int p1] (fun t k => XS.iloadN X0.here hx rfl (hb hby at_5) rfl k) ?_
  refine ov s₁ 9 #[.val (.int p0), .val (.int p1), .val (.int p2), .val (.int p3), .val (.int nn), .unset, .unset, .unset, .unset, .unset, .unset, .unset] [.int 255, .int p1] (fun t k => XS.sipush X0.here hx rfl (hb hby at_6) k) ?_
  refine ov s₁ 10 #[.val (.int p0), .val (.int p1), .val (.int p2), .val (.int p3), .val (.int nn), .unset, .unset, .unset, .unset, .unset, .unset, .unset] [(.int (p1 &&& (255 : Int32)))] (fun t k => XS.iand X0.here hx rfl (hb hby at_9) rfl k) ?_
  refine ov s₁ 11 #[.val (.int p0), .val (.int p1), .val (.int p2), .val (.int p3), .val (.int nn), .unset, .unset, .unset, .unset, .unset, .unset, .unset] [(.int ((p1 &&& (255 : Int32)).toUInt32.toUInt16.toUInt32.toInt32))] (fun t k => XS.i2c X0.here hx rfl (hb hby at_10) rfl k) ?_
  obtain ⟨v0, hn_v0⟩ : ∃ z : Int32, z = ((p1 &&& (255 : Int32)).toUInt32.toUInt16.toUInt32.toInt32) := ⟨_, rfl⟩
  rw [← hn_v0]
  have rng_v0 : ¬ v0 < 0 ∧ ¬ (255 : Int32) < v0 := by rw [hn_v0]; exact own_and255 _
  refine ov s₁ 13 #[.val (.int p0), .val (.int p1), .val (.int p2), .val (.int p3), .val (.int nn), .val (.int v0), .unset, .unset, .unset, .unset, .unset, .unset] [] (fun t k => XS.istore X0.here hx rfl (hb hby at_11) rfl (l' := #[.val (.int p0), .val (.int p1), .val (.int p2), .val (.int p3), .val (.int nn), .val (.int v0), .unset, .unset, .unset, .unset, .unset, .unset]) rfl k) ?_
  refine ov s₁ 14 #[.val (.int p0), .val (.int p1), .val (.int p2), .val (.int p3), .val (.int nn), .val (.int v0), .unset, .unset, .unset, .unset, .unset, .unset] [.int p2] (fun t k => XS.iloadN X0.here hx rfl (hb hby at_13) rfl k) ?_
  refine ov s₁ 17 #[.val (.int p0), .val (.int p1), .val (.int p2), .val (.int p3), .val (.int nn), .val (.int v0), .unset, .unset, .unset, .unset, .unset, .unset] [.int 255, .int p2] (fun t k => XS.sipush X0.here hx rfl (hb hby at_14) k) ?_
  refine ov s₁ 18 #[.val (.int p0), .val (.int p1), .val (.int p2), .val (.int p3), .val (.int nn), .val (.int v0), .unset, .unset, .unset, .unset, .unset, .unset] [(.int (p2 &&& (255 : Int32)))] (fun t k => XS.iand X0.here hx rfl (hb hby at_17) rfl k) ?_
  refine ov s₁ 19 #[.val (.int p0), .val (.int p1), .val (.int p2), .val (.int p3), .val (.int nn), .val (.int v0), .unset, .unset, .unset, .unset, .unset, .unset] [(.int ((p2 &&& (255 : Int32)).toUInt32.toUInt16.toUInt32.toInt32))] (fun t k => XS.i2c X0.here hx rfl (hb hby at_18) rfl k) ?_
  obtain ⟨v1, hn_v1⟩ : ∃ z : Int32, z = ((p2 &&& (255 : Int32)).toUInt32.toUInt16.toUInt32.toInt32) := ⟨_, rfl⟩
  rw [← hn_v1]
  have rng_v1 : ¬ v1 < 0 ∧ ¬ (255 : Int32) < v1 := by rw [hn_v1]; exact own_and255 _
  refine ov s₁ 21 #[.val (.int p0), .val (.int p1), .val (.int p2), .val (.int p3), .val (.int nn), .val (.int v0), .val (.int v1), .unset, .unset, .unset, .unset, .unset] [] (fun t k => XS.istore X0.here hx rfl (hb hby at_19) rfl (l' := #[.val (.int p0), .val (.int p1), .val (.int p2), .val (.int p3), .val (.int nn), .val (.int v0), .val (.int v1), .unset, .unset, .unset, .unset, .unset]) rfl k) ?_
  refine ov s₁ 22 #[.val (.int p0), .val (.int p1), .val (.int p2), .val (.int p3), .val (.int nn), .val (.int v0), .val (.int v1), .unset, .unset, .unset, .unset, .unset] [.int p3] (fun t k => XS.iloadN X0.here hx rfl (hb hby at_21) rfl k) ?_
  refine ov s₁ 25 #[.val (.int p0), .val (.int p1), .val (.int p2), .val (.int p3), .val (.int nn), .val (.int v0), .val (.int v1), .unset, .unset, .unset, .unset, .unset] [.int 255, .int p3] (fun t k => XS.sipush X0.here hx rfl (hb hby at_22) k) ?_
  refine ov s₁ 26 #[.val (.int p0), .val (.int p1), .val (.int p2), .val (.int p3), .val (.int nn), .val (.int v0), .val (.int v1), .unset, .unset, .unset, .unset, .unset] [(.int (p3 &&& (255 : Int32)))] (fun t k => XS.iand X0.here hx rfl (hb hby at_25) rfl k) ?_
  refine ov s₁ 27 #[.val (.int p0), .val (.int p1), .val (.int p2), .val (.int p3), .val (.int nn), .val (.int v0), .val (.int v1), .unset, .unset, .unset, .unset, .unset] [(.int ((p3 &&& (255 : Int32)).toUInt32.toUInt16.toUInt32.toInt32))] (fun t k => XS.i2c X0.here hx rfl (hb hby at_26) rfl k) ?_
  obtain ⟨v2, hn_v2⟩ : ∃ z : Int32, z = ((p3 &&& (255 : Int32)).toUInt32.toUInt16.toUInt32.toInt32) := ⟨_, rfl⟩
  rw [← hn_v2]
  have rng_v2 : ¬ v2 < 0 ∧ ¬ (255 : Int32) < v2 := by rw [hn_v2]; exact own_and255 _
  refine ov s₁ 29 #[.val (.int p0), .val (.int p1), .val (.int p2), .val (.int p3), .val (.int nn), .val (.int v0), .val (.int v1), .val (.int v2), .unset, .unset, .unset, .unset] [] (fun t k => XS.istore X0.here hx rfl (hb hby at_27) rfl (l' := #[.val (.int p0), .val (.int p1), .val (.int p2), .val (.int p3), .val (.int nn), .val (.int v0), .val (.int v1), .val (.int v2), .unset, .unset, .unset, .unset]) rfl k) ?_
  by_cases hs29_1 : nn = (0 : Int32)
  · -- split
    refine ov s₁ 31 #[.val (.int p0), .val (.int p1), .val (.int p2), .val (.int p3), .val (.int nn), .val (.int v0), .val (.int v1), .val (.int v2), .unset, .unset, .unset, .unset] [.int nn] (fun t k => XS.iload X0.here hx rfl (hb hby at_29) rfl k) ?_
    refine ov s₁ 33 #[.val (.int p0), .val (.int p1), .val (.int p2), .val (.int p3), .val (.int nn), .val (.int v0), .val (.int v1), .val (.int v2), .unset, .unset, .unset, .unset] [.int v0, .int nn] (fun t k => XS.iload X0.here hx rfl (hb hby at_31) rfl k) ?_
    refine ov s₁ 35 #[.val (.int p0), .val (.int p1), .val (.int p2), .val (.int p3), .val (.int nn), .val (.int v0), .val (.int v1), .val (.int v2), .unset, .unset, .unset, .unset] [.int v1, .int v0, .int nn] (fun t k => XS.iload X0.here hx rfl (hb hby at_33) rfl k) ?_
    refine ov s₁ 37 #[.val (.int p0), .val (.int p1), .val (.int p2), .val (.int p3), .val (.int nn), .val (.int v0), .val (.int v1), .val (.int v2), .unset, .unset, .unset, .unset] [.int v2, .int v1, .int v0, .int nn] (fun t k => XS.iload X0.here hx rfl (hb hby at_35) rfl k) ?_
    have hk2 : h0.size ≤ s₁.heap.size := by rw [e0]; omega
    obtain ⟨_, _, ⟨T2, Lp2, kp2, np2⟩, -, X2, hS2, hgr2, ⟨Lc2, ⟨hQ2, R2q⟩, l2, y2, z2⟩, st2⟩ := callSS X0 hx (y := mt30) hown (mvT hZ (wd0 hw)) (mvT hZ (wd1 hw)) (mvT hZ (wd2 hw)) (mvT hZ (wd3 hw)) (by decide) (own_backW (SL := []) (W := 0) (own_tag0 l Z a0 hw [] nn v0 v1 v2 zc h0 n0 O0 zfC hzc rng_v0 rng_v1 rng_v2 hs29_1) hZ (wd3 hw) (wd2 hw) (by decide) (by decide) hEL R0.1 all0) (g := (mkF m 37 #[.val (.int p0), .val (.int p1), .val (.int p2), .val (.int p3), .val (.int nn), .val (.int v0), .val (.int v1), .val (.int v2), .unset, .unset, .unset, .unset] [.int v2, .int v1, .int v0, .int nn])) rfl (by rw [hml]; rfl) (argsL := [.int nn, .int v0, .int v1, .int v2]) (rest := []) (lenOf pd__ICCC_Ljava_lang_String__2051 rfl) rfl (by show 2 * 0 + _ ≤ _; exact Nat.le_of_eq rfl) (hb hby at_37) (fun _ _ => ⟨rfl, e0, (by decide : 0 + 6 ≤ _), (by decide : 0 + 12 ≤ _)⟩)
    dsimp only [Pt.U, Pt.locs, Pt.cells, Pt.slots] at X2 l2 y2 z2 st2 hQ2 hS2 hgr2 R2q
    subst Lp2 kp2 np2
    obtain ⟨X2, hSn2, hZ, hown⟩ := rebS hS0 hk2 X2 hS2 hgr2 hZ hown
    obtain ⟨b2, tb2, kb2, rfl, N2q, K2q, f2_0, f2_1, f2_2, f2_3⟩ := hQ2
    have N2 := Fr.app N0 N2q
    have sz3 : h0.size ≤ T2.heap.size := K2q.1
    have R4 : CHr Z own_EL s.vm h0 T2.vm T2.heap := R0.trans R2q
    have O5 : Old Z n0 T2.heap := O0.keep K2q all0
    have lt6_b2 : T2.heap.size > b2 := f2_0.lt
    have lt7_b2 : T2.heap.size > b2 := f2_1.lt
    have lt8_b2 : T2.heap.size > b2 := f2_2.lt
    have lt9_tb2 : T2.heap.size > tb2 := f2_3.lt
    refine own_tr (S' := T2.setTop (mkF m 40 #[.val (.int p0), .val (.int p1), .val (.int p2), .val (.int p3), .val (.int nn), .val (.int v0), .val (.int v1), .val (.int v2), .unset, .unset, .unset, .unset] [.ref b2])) st2 ?_
    refine ov T2 42 #[.val (.int p0), .val (.int p1), .val (.int p2), .val (.int p3), .val (.int nn), .val (.int v0), .val (.int v1), .val (.int v2), .val (.ref b2), .unset, .unset, .unset] [] (fun t k => XS.astore X2.here hx rfl (hb hby at_40) rfl rfl (l' := #[.val (.int p0), .val (.int p1), .val (.int p2), .val (.int p3), .val (.int nn), .val (.int v0), .val (.int v1), .val (.int v2), .val (.ref b2), .unset, .unset, .unset]) rfl k) ?_
    refine ov T2 44 #[.val (.int p0), .val (.int p1), .val (.int p2), .val (.int p3), .val (.int nn), .val (.int v0), .val (.int v1), .val (.int v2), .val (.ref b2), .unset, .unset, .unset] [.int nn] (fun t k => XS.iload X2.here hx rfl (hb hby at_42) rfl k) ?_
    refine ov T2 46 #[.val (.int p0), .val (.int p1), .val (.int p2), .val (.int p3), .val (.int nn), .val (.int v0), .val (.int v1), .val (.int v2), .val (.ref b2), .unset, .unset, .unset] [.int v0, .int nn] (fun t k => XS.iload X2.here hx rfl (hb hby at_44) rfl k) ?_
    refine ov T2 48 #[.val (.int p0), .val (.int p1), .val (.int p2), .val (.int p3), .val (.int nn), .val (.int v0), .val (.int v1), .val (.int v2), .val (.ref b2), .unset, .unset, .unset] [.int v1, .int v0, .int nn] (fun t k => XS.iload X2.here hx rfl (hb hby at_46) rfl k) ?_
    refine ov T2 50 #[.val (.int p0), .val (.int p1), .val (.int p2), .val (.int p3), .val (.int nn), .val (.int v0), .val (.int v1), .val (.int v2), .val (.ref b2), .unset, .unset, .unset] [.int v2, .int v1, .int v0, .int nn] (fun t k => XS.iload X2.here hx rfl (hb hby at_48) rfl k) ?_
    obtain ⟨_, _, ⟨T10, Lp10, kp10, np10⟩, -, X10, ⟨Lc10, hQ10, l10, y10, z10⟩, st10⟩ := Jvm.LawKit.callS X2 hx (y := mt31) hown (mvT hZ (wd26 hw)) (mvT hZ (wd27 hw)) (mvT hZ (wd2 hw)) (mvT hZ (wd28 hw)) (by decide) (backOf (W := 0) (own_exp0 l Z a0 hw [] nn v0 v1 v2 zc T2.heap n0 O5 zfC hzc rng_v0 rng_v1 rng_v2 hs29_1) hZ (wd28 hw) (wd2 hw) (by decide) (by decide)) (g := (mkF m 50 #[.val (.int p0), .val (.int p1), .val (.int p2), .val (.int p3), .val (.int nn), .val (.int v0), .val (.int v1), .val (.int v2), .val (.ref b2), .unset, .unset, .unset] [.int v2, .int v1, .int v0, .int nn])) rfl (by rw [hml]; rfl) (argsL := [.int nn, .int v0, .int v1, .int v2]) (rest := []) (lenOf pd__ICCC_Ljava_lang_String__2051 rfl) rfl (by show 2 * 0 + _ ≤ _; exact Nat.le_of_eq rfl) (hb hby at_50) (fun _ _ => ⟨rfl, rfl, (by decide : 6 + 3 ≤ _), (by decide : 12 + 42 ≤ _)⟩)
    dsimp only [Pt.U, Pt.locs, Pt.cells, Pt.slots] at X10 l10 y10 z10 st10 hQ10
    subst Lp10 kp10 np10
    obtain ⟨b10, tb10, kb10, rfl, N10q, K10q, f10_0, f10_1, f10_2, f10_3⟩ := hQ10
    have N10 := Fr.app N2 N10q
    have sf10 : ∀ x ∈ ([] : List Addr), Safe Z own_EL T2.vm T2.heap x := sf0
    have sz11 : T2.heap.size ≤ T10.heap.size := K10q.1
    have R12 : CHr Z own_EL s.vm h0 T2.vm T10.heap := R4.trans (CHr.keep K10q sf10 R4.1)
    have O13 : Old Z n0 T10.heap := O5.keep K10q all0
    have lt14_b10 : T10.heap.size > b10 := f10_0.lt
    have lt15_b10 : T10.heap.size > b10 := f10_1.lt
    have lt16_b10 : T10.heap.size > b10 := f10_2.lt
    have lt17_tb10 : T10.heap.size > tb10 := f10_3.lt
    refine ov T10 53 #[.val (.int p0), .val (.int p1), .val (.int p2), .val (.int p3), .val (.int nn), .val (.int v0), .val (.int v1), .val (.int v2), .val (.ref b2), .unset, .unset, .unset] [.ref b10] st10 ?_
    refine ov T10 55 #[.val (.int p0), .val (.int p1), .val (.int p2), .val (.int p3), .val (.int nn), .val (.int v0), .val (.int v1), .val (.int v2), .val (.ref b2), .val (.ref b10), .unset, .unset] [] (fun t k => XS.astore X10.here hx rfl (hb hby at_53) rfl rfl (l' := #[.val (.int p0), .val (.int p1), .val (.int p2), .val (.int p3), .val (.int nn), .val (.int v0), .val (.int v1), .val (.int v2), .val (.ref b2), .val (.ref b10), .unset, .unset]) rfl k) ?_
    obtain ⟨T18, h18, X18, e18, E18, A18, D18, -, st18⟩ := newO X10 hx hZ hown (wd40 hw) (wd41 hw) (wd42 hw) rfl (g := (mkF m 55 #[.val (.int p0), .val (.int p1), .val (.int p2), .val (.int p3), .val (.int nn), .val (.int v0), .val (.int v1), .val (.int v2), .val (.ref b2), .val (.ref b10), .unset, .unset] [])) rfl (hb hby at_55) (by decide) (by decide)
    obtain ⟨b18, g18⟩ : ∃ z, z = T10.heap.size := ⟨_, rfl⟩
    rw [← g18] at A18 D18 st18
    have lt_b18 : h18.size > b18 := A18.lt
    have sz19 : T10.heap.size ≤ h18.size := E18.1
    have O20 : Old Z n0 h18 := O13.ext E18
    have R21 : CHr Z own_EL s.vm h0 T2.vm h18 := R12.trans (CHr.ext E18 R12.1)
    have F18_out : Fld Z h18 b18 "com/example/regent/regent/Html" "out" "Ljava/lang/StringBuilder;" .null := D18 (Or.inr (wd119 hw)) (ty := (.object "java/lang/StringBuilder")) (by decide)
    refine ov T18 58 #[.val (.int p0), .val (.int p1), .val (.int p2), .val (.int p3), .val (.int nn), .val (.int v0), .val (.int v1), .val (.int v2), .val (.ref b2), .val (.ref b10), .unset, .unset] [.ref b18] st18 ?_
    refine ov T18 59 #[.val (.int p0), .val (.int p1), .val (.int p2), .val (.int p3), .val (.int nn), .val (.int v0), .val (.int v1), .val (.int v2), .val (.ref b2), .val (.ref b10), .unset, .unset] [.ref b18, .ref b18] (fun t k => XS.dup X18.here hx rfl (hb hby at_58) rfl rfl k) ?_
    have hk22 : T2.heap.size ≤ T18.heap.size := by rw [e18]; omega
    obtain ⟨_, _, ⟨T22, Lp22, kp22, np22⟩, -, X22, hS22, hgr22, ⟨Lc22, ⟨hQ22, R22q⟩, l22, y22, z22⟩, st22⟩ := X18.specialBackS hx (y := mt27) rfl hown (mvT hZ (wd43 hw)) (mvT hZ (wd44 hw)) (mvT hZ (wd45 hw)) (by decide) (own_backW (SL := []) (W := 1) (own_hti l Z a0 hw [] b18 zc h18 n0 O20 zfC A18 F18_out hzc (by first | assumption | exact Ne.symm (by assumption) | omega | exact Nat.ne_of_lt (by omega) | exact Nat.ne_of_gt (by omega) | decide | exact Nat.le_of_ble_eq_true rfl)) hZ (wd45 hw) (wd42 hw) (by decide) (by decide) hEL R21.1 all0) (g := (mkF m 59 #[.val (.int p0), .val (.int p1), .val (.int p2), .val (.int p3), .val (.int nn), .val (.int v0), .val (.int v1), .val (.int v2), .val (.ref b2), .val (.ref b10), .unset, .unset] [.ref b18, .ref b18])) rfl (by rw [hml]; rfl) (Steps.refl _) (a := b18) (argsL := []) (rest := [.ref b18]) (lenOf pd___V_167 rfl) rfl (by show 2 * 0 + _ ≤ _; exact Nat.le_of_eq rfl) (hb hby at_59) (fun _ _ => ⟨rfl, e18, (by decide : 10 + 4 ≤ _), (by decide : 55 + 104 ≤ _)⟩)
    dsimp only [Pt.U, Pt.locs, Pt.cells, Pt.slots] at X22 l22 y22 z22 st22 hQ22 hS22 hgr22 R22q
    subst Lp22 kp22 np22
    obtain ⟨X22, hSn22, hZ, hown⟩ := rebS hSn2 hk22 X22 hS22 hgr22 hZ hown
    obtain ⟨sb22, dd22, kd22, rfl, N22q, K22q, f22_0, f22_1, f22_2, f22_3, f22_4, f22_5, pp22_0, pp22_1, sfp22_0⟩ := hQ22
    have N22 := Fr.app N10 N22q
    have sz23 : h18.size ≤ T22.heap.size := K22q.1
    have R24 : CHr Z own_EL s.vm h0 T22.vm T22.heap := R21.trans R22q
    have O25 : Old Z n0 T22.heap := O20.keep K22q (allS (by omega : n0 ≤ b18) all0)
    have lt26_sb22 : T22.heap.size > sb22 := f22_1.lt
    have lt27_sb22 : T22.heap.size > sb22 := f22_2.lt
    have lt28_sb22 : T22.heap.size > sb22 := f22_3.lt
    have lt29_sb22 : T22.heap.size > sb22 := f22_4.lt
    have lt30_dd22 : T22.heap.size > dd22 := f22_5.lt
    refine own_tr (S' := T22.setTop (mkF m 62 #[.val (.int p0), .val (.int p1), .val (.int p2), .val (.int p3), .val (.int nn), .val (.int v0), .val (.int v1), .val (.int v2), .val (.ref b2), .val (.ref b10), .unset, .unset] [.ref b18])) st22 ?_
    refine ov T22 64 #[.val (.int p0), .val (.int p1), .val (.int p2), .val (.int p3), .val (.int nn), .val (.int v0), .val (.int v1), .val (.int v2), .val (.ref b2), .val (.ref b10), .val (.ref b18), .unset] [] (fun t k => XS.astore X22.here hx rfl (hb hby at_62) rfl rfl (l' := #[.val (.int p0), .val (.int p1), .val (.int p2), .val (.int p3), .val (.int nn), .val (.int v0), .val (.int v1), .val (.int v2), .val (.ref b2), .val (.ref b10), .val (.ref b18), .unset]) rfl k) ?_
    refine ov T22 66 #[.val (.int p0), .val (.int p1), .val (.int p2), .val (.int p3), .val (.int nn), .val (.int v0), .val (.int v1), .val (.int v2), .val (.ref b2), .val (.ref b10), .val (.ref b18), .unset] [.ref b18] (fun t k => XS.aload X22.here hx rfl (hb hby at_64) rfl rfl k) ?_
    refine ov T22 68 #[.val (.int p0), .val (.int p1), .val (.int p2), .val (.int p3), .val (.int nn), .val (.int v0), .val (.int v1), .val (.int v2), .val (.ref b2), .val (.ref b10), .val (.ref b18), .unset] [.ref b2, .ref b18] (fun t k => XS.aload X22.here hx rfl (hb hby at_66) rfl rfl k) ?_
    have cx32 : Exa Z T22.heap b2 "java/lang/String" := (((f2_0.keep K10q).ext E18).keep K22q)
    have cx33 : Exa Z T22.heap b18 "com/example/regent/regent/Html" := (A18.keep K22q)
    have ne_b2_b18 : b2 ≠ b18 := by first | exact Exa.ne cx32 cx33 (by decide) | exact Nat.ne_of_lt (by omega) | exact Nat.ne_of_gt (by omega)
    have cx34 : Fld Z T22.heap b2 "java/lang/String" "coder" "B" (.int 0) := (((f2_2.keep K10q nin0).ext E18).keep K22q (ninS ne_b2_b18 nin0))
    have cx35 : Fld Z T22.heap b2 "java/lang/String" "value" "[B" (.ref tb2) := (((f2_1.keep K10q nin0).ext E18).keep K22q (ninS ne_b2_b18 nin0))
    have ne_tb2_b18 : tb2 ≠ b18 := by first | exact Nat.ne_of_lt (by omega) | exact Nat.ne_of_gt (by omega)
    have cx36 : Arv Z T22.heap tb2 kb2 .byte (0 : Int32) [] (.int 0) := (((f2_3.keep K10q nin0).ext E18).keep K22q (ninS ne_tb2_b18 nin0))
    have hk31 : T22.heap.size ≤ T22.heap.size := by omega
    obtain ⟨cq31, kq31, q31a, q31b, q31c⟩ := isOf hZ rfl cx33
    obtain ⟨_, _, ⟨T31, Lp31, kp31, np31⟩, -, X31, hS31, hgr31, ⟨Lc31, ⟨hQ31, R31q⟩, l31, y31, z31⟩, st31⟩ := X22.virtualBackS hx (y := mt28) (z := mt28) hown (mvT hZ (wd120 hw)) (mvT hZ (wd121 hw)) (notFace_of_selects (args := #[]) (mvT hZ (wd123 hw))) (mvT hZ (wd123 hw)) (mvT hZ (wd122 hw)) (by decide) (own_backW (SL := [dd22]) (W := 0) (own_cl l Z a0 hw [] b18 b2 tb2 kb2 (0 : Int32) [] zc sb22 dd22 kd22 T22.heap n0 O25 zfC f22_0 f22_1 f22_2 f22_3 f22_4 f22_5 cx32 cx34 cx35 cx36 hzc (by decide) (by first | assumption | exact Ne.symm (by assumption) | omega | exact Nat.ne_of_lt (by omega) | exact Nat.ne_of_gt (by omega) | decide | exact Nat.le_of_ble_eq_true rfl) (by first | assumption | exact Ne.symm (by assumption) | omega | exact Nat.ne_of_lt (by omega) | exact Nat.ne_of_gt (by omega) | decide | exact Nat.le_of_ble_eq_true rfl) (by first | assumption | exact Ne.symm (by assumption) | omega | exact Nat.ne_of_lt (by omega) | exact Nat.ne_of_gt (by omega) | decide | exact Nat.le_of_ble_eq_true rfl)) hZ (wd124 hw) (wd42 hw) (by decide) (by decide) hEL R24.1 (allS (P := fun x => x < T22.heap.size ∧ Safe Z own_EL T22.vm T22.heap x) ⟨own_ltA (by omega), sfp22_0⟩ all0)) q31a q31c (g := (mkF m 68 #[.val (.int p0), .val (.int p1), .val (.int p2), .val (.int p3), .val (.int nn), .val (.int v0), .val (.int v1), .val (.int v2), .val (.ref b2), .val (.ref b10), .val (.ref b18), .unset] [.ref b2, .ref b18])) rfl (by rw [hml]; rfl) (Steps.refl _) (argsL := [.ref b2]) (rest := []) (lenOf pd__Ljava_lang_String__Lcom_example_regent_regent_Html__4862 rfl) rfl (by show 2 * 0 + _ ≤ _; exact Nat.le_of_eq rfl) (hb hby at_68) (fun _ _ => ⟨rfl, rfl, (by decide : 14 + 2 ≤ _), (by decide : 159 + 12 ≤ _)⟩)
    dsimp only [Pt.U, Pt.locs, Pt.cells, Pt.slots] at X31 l31 y31 z31 st31 hQ31 hS31 hgr31 R31q
    subst Lp31 kp31 np31
    obtain ⟨X31, hSn31, hZ, hown⟩ := rebS hSn22 hk31 X31 hS31 hgr31 hZ hown
    obtain ⟨rfl, N31q, K31q, f31_0, f31_1, f31_2, f31_3⟩ := hQ31
    have N31 := Fr.app N22 N31q
    have sz37 : T22.heap.size ≤ T31.heap.size := K31q.1
    have R38 : CHr Z own_EL s.vm h0 T31.vm T31.heap := R24.trans R31q
    have O39 : Old Z n0 T31.heap := O25.keep K31q (allS (by omega : n0 ≤ sb22) (allS (by omega : n0 ≤ dd22) all0))
    have f31_2c : Fld Z T31.heap sb22 "java/lang/AbstractStringBuilder" "count" "I" (.int 19) := f31_2
    have f31_3c : Arv Z T31.heap dd22 kd22 .byte (32 : Int32) (own_L3) (.int 0) := f31_3
    refine own_tr (S' := T31.setTop (mkF m 71 #[.val (.int p0), .val (.int p1), .val (.int p2), .val (.int p3), .val (.int nn), .val (.int v0), .val (.int v1), .val (.int v2), .val (.ref b2), .val (.ref b10), .val (.ref b18), .unset] [.ref b18])) st31 ?_
    refine ov T31 73 #[.val (.int p0), .val (.int p1), .val (.int p2), .val (.int p3), .val (.int nn), .val (.int v0), .val (.int v1), .val (.int v2), .val (.ref b2), .val (.ref b10), .val (.ref b18), .val (.ref b18)] [] (fun t k => XS.astore X31.here hx rfl (hb hby at_71) rfl rfl (l' := #[.val (.int p0), .val (.int p1), .val (.int p2), .val (.int p3), .val (.int nn), .val (.int v0), .val (.int v1), .val (.int v2), .val (.ref b2), .val (.ref b10), .val (.ref b18), .val (.ref b18)]) rfl k) ?_
    refine ov T31 75 #[.val (.int p0), .val (.int p1), .val (.int p2), .val (.int p3), .val (.int nn), .val (.int v0), .val (.int v1), .val (.int v2), .val (.ref b2), .val (.ref b10), .val (.ref b18), .val (.ref b18)] [.ref b18] (fun t k => XS.aload X31.here hx rfl (hb hby at_73) rfl rfl k) ?_
    refine ov T31 77 #[.val (.int p0), .val (.int p1), .val (.int p2), .val (.int p3), .val (.int nn), .val (.int v0), .val (.int v1), .val (.int v2), .val (.ref b2), .val (.ref b10), .val (.ref b18), .val (.ref b18)] [.ref b18, .ref b18] (fun t k => XS.aload X31.here hx rfl (hb hby at_75) rfl rfl k) ?_
    refine ov T31 80 #[.val (.int p0), .val (.int p1), .val (.int p2), .val (.int p3), .val (.int nn), .val (.int v0), .val (.int v1), .val (.int v2), .val (.ref b2), .val (.ref b10), .val (.ref b18), .val (.ref b18)] [] (fun t k => Jvm.RoadKit.acmp (g := (mkF m 77 #[.val (.int p0), .val (.int p1), .val (.int p2), .val (.int p3), .val (.int nn), .val (.int v0), .val (.int v1), .val (.int v2), .val (.ref b2), .val (.ref b10), .val (.ref b18), .val (.ref b18)] [.ref b18, .ref b18])) X31 hx rfl rfl rfl (pc0 := 77) (pc' := 80) (same := true) rfl (hb hby at_77) rfl (decide_eq_true rfl) (by decide) (by decide) k) ?_
    refine ov T31 82 #[.val (.int p0), .val (.int p1), .val (.int p2), .val (.int p3), .val (.int nn), .val (.int v0), .val (.int v1), .val (.int v2), .val (.ref b2), .val (.ref b10), .val (.ref b18), .val (.ref b18)] [.ref b18] (fun t k => XS.aload X31.here hx rfl (hb hby at_80) rfl rfl k) ?_
    have ne_b18_dd22 : b18 ≠ dd22 := by first | exact (Exa.neArv (cx33.keep K31q) f31_3c (wd41 hw)) | exact Nat.ne_of_lt (by omega) | exact Nat.ne_of_gt (by omega)
    have cx41 : Exa Z T31.heap b18 "com/example/regent/regent/Html" := (cx33.keep K31q)
    have cx42 : Exa Z T31.heap sb22 "java/lang/StringBuilder" := (f22_1.keep K31q)
    have ne_b18_sb22 : b18 ≠ sb22 := by first | exact Exa.ne cx41 cx42 (by decide) | exact Nat.ne_of_lt (by omega) | exact Nat.ne_of_gt (by omega)
    have cx43 : Fld Z T31.heap b18 "com/example/regent/regent/Html" "out" "Ljava/lang/StringBuilder;" (.ref sb22) := (f22_0.keep K31q (ninS ne_b18_sb22 (ninS ne_b18_dd22 nin0)))
    obtain ⟨cq40, kq40, q40a, q40b, q40c⟩ := isOf hZ rfl cx41
    obtain ⟨_, _, ⟨T40, Lp40, kp40, np40⟩, -, X40, ⟨Lc40, hQ40, l40, y40, z40⟩, st40⟩ := X31.virtualBack hx (y := mt29) (z := mt29) hown (mvT hZ (wd145 hw)) (mvT hZ (wd146 hw)) (notFace_of_selects (args := #[]) (mvT hZ (wd148 hw))) (mvT hZ (wd148 hw)) (mvT hZ (wd147 hw)) (by decide) (backOf (W := 0) (own_hts l Z a0 hw [] b18 zc sb22 dd22 kd22 (own_L3) (19 : Int32) T31.heap n0 O39 zfC cx43 cx42 f31_0 f31_1 f31_2c f31_3c hzc (by first | assumption | exact Ne.symm (by assumption) | omega | exact Nat.ne_of_lt (by omega) | exact Nat.ne_of_gt (by omega) | decide | exact Nat.le_of_ble_eq_true rfl) (by first | assumption | exact Ne.symm (by assumption) | omega | exact Nat.ne_of_lt (by omega) | exact Nat.ne_of_gt (by omega) | decide | exact Nat.le_of_ble_eq_true rfl) (by first | assumption | exact Ne.symm (by assumption) | omega | exact Nat.ne_of_lt (by omega) | exact Nat.ne_of_gt (by omega) | decide | exact Nat.le_of_ble_eq_true rfl) (by first | assumption | exact Ne.symm (by assumption) | omega | exact Nat.ne_of_lt (by omega) | exact Nat.ne_of_gt (by omega) | decide | exact Nat.le_of_ble_eq_true rfl) (by first | assumption | exact Ne.symm (by assumption) | omega | exact Nat.ne_of_lt (by omega) | exact Nat.ne_of_gt (by omega) | decide | exact Nat.le_of_ble_eq_true rfl)) hZ (wd149 hw) (wd42 hw) (by decide) (by decide)) q40a q40c (g := (mkF m 82 #[.val (.int p0), .val (.int p1), .val (.int p2), .val (.int p3), .val (.int nn), .val (.int v0), .val (.int v1), .val (.int v2), .val (.ref b2), .val (.ref b10), .val (.ref b18), .val (.ref b18)] [.ref b18])) rfl (by rw [hml]; rfl) (Steps.refl _) (argsL := []) (rest := []) (lenOf pd___Ljava_lang_String__1777 rfl) rfl (by show 2 * 0 + _ ≤ _; exact Nat.le_of_eq rfl) (hb hby at_82) (fun _ _ => ⟨rfl, rfl, (by decide : 16 + 2 ≤ _), (by decide : 171 + 36 ≤ _)⟩)
    dsimp only [Pt.U, Pt.locs, Pt.cells, Pt.slots] at X40 l40 y40 z40 st40 hQ40
    subst Lp40 kp40 np40
    obtain ⟨x140, b40, kb40, rfl, N40q, K40q, f40_0, f40_1, f40_2, f40_3⟩ := hQ40
    have N40 := Fr.app N31 N40q
    have sf40 : ∀ x ∈ ([] : List Addr), Safe Z own_EL T31.vm T31.heap x := sf0
    have sz44 : T31.heap.size ≤ T40.heap.size := K40q.1
    have R45 : CHr Z own_EL s.vm h0 T31.vm T40.heap := R38.trans (CHr.keep K40q sf40 R38.1)
    have O46 : Old Z n0 T40.heap := O39.keep K40q all0
    have lt47_x140 : T40.heap.size > x140 := f40_0.lt
    have lt48_x140 : T40.heap.size > x140 := f40_1.lt
    have lt49_x140 : T40.heap.size > x140 := f40_2.lt
    have f40_3c : Arv Z T40.heap b40 kb40 .byte (19 : Int32) (own_L4) (.int 0) := f40_3
    have lt50_b40 : T40.heap.size > b40 := f40_3c.lt
    refine own_tr (S' := T40.setTop (mkF m 85 #[.val (.int p0), .val (.int p1), .val (.int p2), .val (.int p3), .val (.int nn), .val (.int v0), .val (.int v1), .val (.int v2), .val (.ref b2), .val (.ref b10), .val (.ref b18), .val (.ref b18)] [.ref x140])) st40 ?_
    refine ov T40 87 #[.val (.int p0), .val (.int p1), .val (.int p2), .val (.int p3), .val (.int nn), .val (.int v0), .val (.int v1), .val (.int v2), .val (.ref b2), .val (.ref b10), .val (.ref b18), .val (.ref b18)] [.ref b10, .ref x140] (fun t k => XS.aload X40.here hx rfl (hb hby at_85) rfl rfl k) ?_
    have hpE : ∀ c ∈ ([60, 33, 68, 79, 67, 84, 89, 80, 69, 32, 104, 116, 109, 108, 62, 10, 60, 47, 62] : List Int32), ¬ c < 0 ∧ ¬ (255 : Int32) < c := by
      intro c hc
      simp only [List.mem_cons, List.not_mem_nil, or_false] at hc
      rcases hc with rfl | rfl | rfl | rfl | rfl | rfl | rfl | rfl | rfl | rfl | rfl | rfl | rfl | rfl | rfl | rfl | rfl | rfl | rfl
      · exact by decide
      · exact by decide
      · exact by decide
      · exact by decide
      · exact by decide
      · exact by decide
      · exact by decide
      · exact by decide
      · exact by decide
      · exact by decide
      · exact by decide
      · exact by decide
      · exact by decide
      · exact by decide
      · exact by decide
      · exact by decide
      · exact by decide
      · exact by decide
      · exact by decide
    have cx52 : Exa Z T40.heap b10 "java/lang/String" := ((((f10_0.ext E18).keep K22q).keep K31q).keep K40q)
    have cx53 : Exa Z T40.heap b18 "com/example/regent/regent/Html" := (cx41.keep K40q)
    have ne_b10_b18 : b10 ≠ b18 := by first | exact Exa.ne cx52 cx53 (by decide) | exact Nat.ne_of_lt (by omega) | exact Nat.ne_of_gt (by omega)
    have ne_b10_dd22 : b10 ≠ dd22 := by first | exact (Exa.neArv (((f10_0.ext E18).keep K22q).keep K31q) f31_3c (wd5 hw)) | exact Nat.ne_of_lt (by omega) | exact Nat.ne_of_gt (by omega)
    have cx54 : Exa Z T40.heap sb22 "java/lang/StringBuilder" := (cx42.keep K40q)
    have ne_b10_sb22 : b10 ≠ sb22 := by first | exact Exa.ne cx52 cx54 (by decide) | exact Nat.ne_of_lt (by omega) | exact Nat.ne_of_gt (by omega)
    have cx55 : Fld Z T40.heap b10 "java/lang/String" "value" "[B" (.ref tb10) := ((((f10_1.ext E18).keep K22q (ninS ne_b10_b18 nin0)).keep K31q (ninS ne_b10_sb22 (ninS ne_b10_dd22 nin0))).keep K40q nin0)
    have cx56 : Fld Z T40.heap b10 "java/lang/String" "coder" "B" (.int 0) := ((((f10_2.ext E18).keep K22q (ninS ne_b10_b18 nin0)).keep K31q (ninS ne_b10_sb22 (ninS ne_b10_dd22 nin0))).keep K40q nin0)
    have ne_tb10_b18 : tb10 ≠ b18 := by first | exact Nat.ne_of_lt (by omega) | exact Nat.ne_of_gt (by omega)
    have ne_tb10_dd22 : tb10 ≠ dd22 := by first | exact Nat.ne_of_lt (by omega) | exact Nat.ne_of_gt (by omega)
    have ne_tb10_sb22 : tb10 ≠ sb22 := by first | exact Nat.ne_of_lt (by omega) | exact Nat.ne_of_gt (by omega)
    have cx57 : Arv Z T40.heap tb10 kb10 .byte (19 : Int32) [(.int ((60 : Int32).toInt8.toInt32)), (.int ((33 : Int32).toInt8.toInt32)), (.int ((68 : Int32).toInt8.toInt32)), (.int ((79 : Int32).toInt8.toInt32)), (.int ((67 : Int32).toInt8.toInt32)), (.int ((84 : Int32).toInt8.toInt32)), (.int ((89 : Int32).toInt8.toInt32)), (.int ((80 : Int32).toInt8.toInt32)), (.int ((69 : Int32).toInt8.toInt32)), (.int ((32 : Int32).toInt8.toInt32)), (.int ((104 : Int32).toInt8.toInt32)), (.int ((116 : Int32).toInt8.toInt32)), (.int ((109 : Int32).toInt8.toInt32)), (.int ((108 : Int32).toInt8.toInt32)), (.int ((62 : Int32).toInt8.toInt32)), (.int ((10 : Int32).toInt8.toInt32)), (.int ((60 : Int32).toInt8.toInt32)), (.int ((47 : Int32).toInt8.toInt32)), (.int ((62 : Int32).toInt8.toInt32))] (.int 0) := ((((f10_3.ext E18).keep K22q (ninS ne_tb10_b18 nin0)).keep K31q (ninS ne_tb10_sb22 (ninS ne_tb10_dd22 nin0))).keep K40q nin0)
    have hwe51 := own_mwe hw
    have cx58 : Sta Z T40.heap "java/lang/String" "COMPACT_STRINGS" "Z" (.int zc) := zfC.ext O46.2
    obtain ⟨cq51, kq51, q51a, q51b, q51c⟩ := isOf hZ rfl f40_0
    obtain ⟨_, _, ⟨T51, Lp51, kp51, np51⟩, -, X51, ⟨Lc51, hQ51, l51, y51, z51⟩, st51⟩ := X40.virtualBack hx (y := mt32) (z := mt32) hown (mvT hZ (wd191 hw)) (mvT hZ (wd192 hw)) (notFace_of_selects (args := #[]) (mvT hZ (wd194 hw))) (mvT hZ (wd194 hw)) (mvT hZ (wd193 hw)) (by decide) (StrChars.Road.eqW (W := 0) hZ hwe51 (kI := 4) (wd5 hw) f40_0 f40_1 f40_2 f40_3c (StrChars.Road.codOf (cs := ([60, 33, 68, 79, 67, 84, 89, 80, 69, 32, 104, 116, 109, 108, 62, 10, 60, 47, 62] : List Int32)) rfl (fun c hc => (hpE c hc).2)) (own_up ([60, 33, 68, 79, 67, 84, 89, 80, 69, 32, 104, 116, 109, 108, 62, 10, 60, 47, 62] : List Int32) hpE) (by first | decide | exact Nat.le_of_ble_eq_true rfl) cx52 cx55 cx56 cx57 (StrChars.Road.codOf (cs := ([60, 33, 68, 79, 67, 84, 89, 80, 69, 32, 104, 116, 109, 108, 62, 10, 60, 47, 62] : List Int32)) rfl (fun c hc => (hpE c hc).2)) (own_up ([60, 33, 68, 79, 67, 84, 89, 80, 69, 32, 104, 116, 109, 108, 62, 10, 60, 47, 62] : List Int32) hpE) (by first | decide | exact Nat.le_of_ble_eq_true rfl) cx58 hzc (by decide) (by decide)) q51a q51c (g := (mkF m 87 #[.val (.int p0), .val (.int p1), .val (.int p2), .val (.int p3), .val (.int nn), .val (.int v0), .val (.int v1), .val (.int v2), .val (.ref b2), .val (.ref b10), .val (.ref b18), .val (.ref b18)] [.ref b10, .ref x140])) rfl (by rw [hml]; rfl) (Steps.refl _) (argsL := [.ref b10]) (rest := []) (lenOf pd__Ljava_lang_Object__Z_1835 rfl) rfl (by show 2 * 0 + _ ≤ _; exact Nat.le_of_eq rfl) (hb hby at_87) (fun _ _ => ⟨rfl, rfl, (by decide : 18 + 0 ≤ _), (by decide : 207 + 0 ≤ _)⟩)
    dsimp only [Pt.U, Pt.locs, Pt.cells, Pt.slots] at X51 l51 y51 z51 st51 hQ51
    subst Lp51 kp51 np51
    obtain ⟨hv51, rfl, e51⟩ := hQ51
    obtain ⟨zq51, hzq51, rfl⟩ : ∃ z : Int32, z = (if ([60, 33, 68, 79, 67, 84, 89, 80, 69, 32, 104, 116, 109, 108, 62, 10, 60, 47, 62] : List Int32) = ([60, 33, 68, 79, 67, 84, 89, 80, 69, 32, 104, 116, 109, 108, 62, 10, 60, 47, 62] : List Int32) then (1 : Int32) else (0 : Int32)) ∧ _ = some (Value.int z) := by rcases hv51 with ⟨q1, q2⟩ | ⟨q1, q2⟩; exact ⟨_, (if_pos q2).symm, q1⟩; exact ⟨_, (if_neg q2).symm, q1⟩
    try rw [List.append_nil] at X51
    refine own_tr (S' := T51.setTop (mkF m 90 #[.val (.int p0), .val (.int p1), .val (.int p2), .val (.int p3), .val (.int nn), .val (.int v0), .val (.int v1), .val (.int v2), .val (.ref b2), .val (.ref b10), .val (.ref b18), .val (.ref b18)] [.int zq51])) st51 ?_
    obtain rfl : zq51 = (1 : Int32) := hzq51.trans (if_pos rfl)
    refine ov T51 93 #[.val (.int p0), .val (.int p1), .val (.int p2), .val (.int p3), .val (.int nn), .val (.int v0), .val (.int v1), .val (.int v2), .val (.ref b2), .val (.ref b10), .val (.ref b18), .val (.ref b18)] [] (fun t k => XS.ifNo X51.here hx rfl (hb hby at_90) rfl ((if0 _ _).trans (feq (by decide : ¬ ((1 : Int32) = (0 : Int32)))).1) k) ?_
    refine ov T51 94 #[.val (.int p0), .val (.int p1), .val (.int p2), .val (.int p3), .val (.int nn), .val (.int v0), .val (.int v1), .val (.int v2), .val (.ref b2), .val (.ref b10), .val (.ref b18), .val (.ref b18)] [.int 1] (fun t k => XS.iconst X51.here hx rfl (hb hby at_93) k) ?_
    refine ov T51 98 #[.val (.int p0), .val (.int p1), .val (.int p2), .val (.int p3), .val (.int nn), .val (.int v0), .val (.int v1), .val (.int v2), .val (.ref b2), .val (.ref b10), .val (.ref b18), .val (.ref b18)] [.int 1] (fun t k => XS.goto X51.here hx rfl (pc0 := 94) (pc' := 98) rfl (hb hby at_94) (by decide) (by decide) k) ?_
    have RTR45 : CHr Z own_EL s.vm h0 T51.vm T40.heap := R45.trans (CHv.at X51 hZ hEL R45.1)
    have RXR45 : CHr Z own_EL s.vm s.heap T51.vm T51.heap := by rw [hh, e51]; exact RTR45
    refine own_retW (Q := Q_own_law Z p0 p1 p2 p3 zc h0 n0) (C := room_1.cells) (N := room_1.slots) X51 hSn31 (by rw [e51]; omega) (v := some (.int 1)) (fun h => by rw [Bd.returns] at h; cases h) Bd.notSynchronized ?_ RXR45 (by decide) (by decide) (fun fs hr => retN X51 hx (t := .boolean) Bd.returns (by simp) (hb hby at_98) hr)
    show Q_own_law Z p0 p1 p2 p3 zc h0 n0 _ T51.vm T51.heap _
    rw [e51]
    exact ⟨rfl, N40⟩
  · -- split
    by_cases hs29_60 : nn = (1 : Int32)
    · -- split
      refine ov s₁ 31 #[.val (.int p0), .val (.int p1), .val (.int p2), .val (.int p3), .val (.int nn), .val (.int v0), .val (.int v1), .val (.int v2), .unset, .unset, .unset, .unset] [.int nn] (fun t k => XS.iload X0.here hx rfl (hb hby at_29) rfl k) ?_
      refine ov s₁ 33 #[.val (.int p0), .val (.int p1), .val (.int p2), .val (.int p3), .val (.int nn), .val (.int v0), .val (.int v1), .val (.int v2), .unset, .unset, .unset, .unset] [.int v0, .int nn] (fun t k => XS.iload X0.here hx rfl (hb hby at_31) rfl k) ?_
      refine ov s₁ 35 #[.val (.int p0), .val (.int p1), .val (.int p2), .val (.int p3), .val (.int nn), .val (.int v0), .val (.int v1), .val (.int v2), .unset, .unset, .unset, .unset] [.int v1, .int v0, .int nn] (fun t k => XS.iload X0.here hx rfl (hb hby at_33) rfl k) ?_
      refine ov s₁ 37 #[.val (.int p0), .val (.int p1), .val (.int p2), .val (.int p3), .val (.int nn), .val (.int v0), .val (.int v1), .val (.int v2), .unset, .unset, .unset, .unset] [.int v2, .int v1, .int v0, .int nn] (fun t k => XS.iload X0.here hx rfl (hb hby at_35) rfl k) ?_
      have hk61 : h0.size ≤ s₁.heap.size := by rw [e0]; omega
      obtain ⟨_, _, ⟨T61, Lp61, kp61, np61⟩, -, X61, hS61, hgr61, ⟨Lc61, ⟨hQ61, R61q⟩, l61, y61, z61⟩, st61⟩ := callSS X0 hx (y := mt30) hown (mvT hZ (wd0 hw)) (mvT hZ (wd1 hw)) (mvT hZ (wd2 hw)) (mvT hZ (wd3 hw)) (by decide) (own_backW (SL := []) (W := 0) (own_tag1 l Z a0 hw [] nn v0 v1 v2 zc h0 n0 O0 zfC hzc rng_v0 rng_v1 rng_v2 hs29_1 hs29_60) hZ (wd3 hw) (wd2 hw) (by decide) (by decide) hEL R0.1 all0) (g := (mkF m 37 #[.val (.int p0), .val (.int p1), .val (.int p2), .val (.int p3), .val (.int nn), .val (.int v0), .val (.int v1), .val (.int v2), .unset, .unset, .unset, .unset] [.int v2, .int v1, .int v0, .int nn])) rfl (by rw [hml]; rfl) (argsL := [.int nn, .int v0, .int v1, .int v2]) (rest := []) (lenOf pd__ICCC_Ljava_lang_String__2051 rfl) rfl (by show 2 * 0 + _ ≤ _; exact Nat.le_of_eq rfl) (hb hby at_37) (fun _ _ => ⟨rfl, e0, (by decide : 0 + 3 ≤ _), (by decide : 0 + 6 ≤ _)⟩)
      dsimp only [Pt.U, Pt.locs, Pt.cells, Pt.slots] at X61 l61 y61 z61 st61 hQ61 hS61 hgr61 R61q
      subst Lp61 kp61 np61
      obtain ⟨X61, hSn61, hZ, hown⟩ := rebS hS0 hk61 X61 hS61 hgr61 hZ hown
      obtain ⟨b61, tb61, kb61, rfl, N61q, K61q, f61_0, f61_1, f61_2, f61_3⟩ := hQ61
      have N61 := Fr.app N0 N61q
      have sz62 : h0.size ≤ T61.heap.size := K61q.1
      have R63 : CHr Z own_EL s.vm h0 T61.vm T61.heap := R0.trans R61q
      have O64 : Old Z n0 T61.heap := O0.keep K61q all0
      have lt65_b61 : T61.heap.size > b61 := f61_0.lt
      have lt66_b61 : T61.heap.size > b61 := f61_1.lt
      have lt67_b61 : T61.heap.size > b61 := f61_2.lt
      have lt68_tb61 : T61.heap.size > tb61 := f61_3.lt
      refine own_tr (S' := T61.setTop (mkF m 40 #[.val (.int p0), .val (.int p1), .val (.int p2), .val (.int p3), .val (.int nn), .val (.int v0), .val (.int v1), .val (.int v2), .unset, .unset, .unset, .unset] [.ref b61])) st61 ?_
      refine ov T61 42 #[.val (.int p0), .val (.int p1), .val (.int p2), .val (.int p3), .val (.int nn), .val (.int v0), .val (.int v1), .val (.int v2), .val (.ref b61), .unset, .unset, .unset] [] (fun t k => XS.astore X61.here hx rfl (hb hby at_40) rfl rfl (l' := #[.val (.int p0), .val (.int p1), .val (.int p2), .val (.int p3), .val (.int nn), .val (.int v0), .val (.int v1), .val (.int v2), .val (.ref b61), .unset, .unset, .unset]) rfl k) ?_
      refine ov T61 44 #[.val (.int p0), .val (.int p1), .val (.int p2), .val (.int p3), .val (.int nn), .val (.int v0), .val (.int v1), .val (.int v2), .val (.ref b61), .unset, .unset, .unset] [.int nn] (fun t k => XS.iload X61.here hx rfl (hb hby at_42) rfl k) ?_
      refine ov T61 46 #[.val (.int p0), .val (.int p1), .val (.int p2), .val (.int p3), .val (.int nn), .val (.int v0), .val (.int v1), .val (.int v2), .val (.ref b61), .unset, .unset, .unset] [.int v0, .int nn] (fun t k => XS.iload X61.here hx rfl (hb hby at_44) rfl k) ?_
      refine ov T61 48 #[.val (.int p0), .val (.int p1), .val (.int p2), .val (.int p3), .val (.int nn), .val (.int v0), .val (.int v1), .val (.int v2), .val (.ref b61), .unset, .unset, .unset] [.int v1, .int v0, .int nn] (fun t k => XS.iload X61.here hx rfl (hb hby at_46) rfl k) ?_
      refine ov T61 50 #[.val (.int p0), .val (.int p1), .val (.int p2), .val (.int p3), .val (.int nn), .val (.int v0), .val (.int v1), .val (.int v2), .val (.ref b61), .unset, .unset, .unset] [.int v2, .int v1, .int v0, .int nn] (fun t k => XS.iload X61.here hx rfl (hb hby at_48) rfl k) ?_
      obtain ⟨_, _, ⟨T69, Lp69, kp69, np69⟩, -, X69, ⟨Lc69, hQ69, l69, y69, z69⟩, st69⟩ := Jvm.LawKit.callS X61 hx (y := mt31) hown (mvT hZ (wd26 hw)) (mvT hZ (wd27 hw)) (mvT hZ (wd2 hw)) (mvT hZ (wd28 hw)) (by decide) (backOf (W := 0) (own_exp1 l Z a0 hw [] nn v0 v1 v2 zc T61.heap n0 O64 zfC hzc rng_v0 rng_v1 rng_v2 hs29_1 hs29_60) hZ (wd28 hw) (wd2 hw) (by decide) (by decide)) (g := (mkF m 50 #[.val (.int p0), .val (.int p1), .val (.int p2), .val (.int p3), .val (.int nn), .val (.int v0), .val (.int v1), .val (.int v2), .val (.ref b61), .unset, .unset, .unset] [.int v2, .int v1, .int v0, .int nn])) rfl (by rw [hml]; rfl) (argsL := [.int nn, .int v0, .int v1, .int v2]) (rest := []) (lenOf pd__ICCC_Ljava_lang_String__2051 rfl) rfl (by show 2 * 0 + _ ≤ _; exact Nat.le_of_eq rfl) (hb hby at_50) (fun _ _ => ⟨rfl, rfl, (by decide : 3 + 3 ≤ _), (by decide : 6 + 44 ≤ _)⟩)
      dsimp only [Pt.U, Pt.locs, Pt.cells, Pt.slots] at X69 l69 y69 z69 st69 hQ69
      subst Lp69 kp69 np69
      obtain ⟨b69, tb69, kb69, rfl, N69q, K69q, f69_0, f69_1, f69_2, f69_3⟩ := hQ69
      have N69 := Fr.app N61 N69q
      have sf69 : ∀ x ∈ ([] : List Addr), Safe Z own_EL T61.vm T61.heap x := sf0
      have sz70 : T61.heap.size ≤ T69.heap.size := K69q.1
      have R71 : CHr Z own_EL s.vm h0 T61.vm T69.heap := R63.trans (CHr.keep K69q sf69 R63.1)
      have O72 : Old Z n0 T69.heap := O64.keep K69q all0
      have lt73_b69 : T69.heap.size > b69 := f69_0.lt
      have lt74_b69 : T69.heap.size > b69 := f69_1.lt
      have lt75_b69 : T69.heap.size > b69 := f69_2.lt
      have lt76_tb69 : T69.heap.size > tb69 := f69_3.lt
      refine ov T69 53 #[.val (.int p0), .val (.int p1), .val (.int p2), .val (.int p3), .val (.int nn), .val (.int v0), .val (.int v1), .val (.int v2), .val (.ref b61), .unset, .unset, .unset] [.ref b69] st69 ?_
      refine ov T69 55 #[.val (.int p0), .val (.int p1), .val (.int p2), .val (.int p3), .val (.int nn), .val (.int v0), .val (.int v1), .val (.int v2), .val (.ref b61), .val (.ref b69), .unset, .unset] [] (fun t k => XS.astore X69.here hx rfl (hb hby at_53) rfl rfl (l' := #[.val (.int p0), .val (.int p1), .val (.int p2), .val (.int p3), .val (.int nn), .val (.int v0), .val (.int v1), .val (.int v2), .val (.ref b61), .val (.ref b69), .unset, .unset]) rfl k) ?_
      obtain ⟨T77, h77, X77, e77, E77, A77, D77, -, st77⟩ := newO X69 hx hZ hown (wd40 hw) (wd41 hw) (wd42 hw) rfl (g := (mkF m 55 #[.val (.int p0), .val (.int p1), .val (.int p2), .val (.int p3), .val (.int nn), .val (.int v0), .val (.int v1), .val (.int v2), .val (.ref b61), .val (.ref b69), .unset, .unset] [])) rfl (hb hby at_55) (by decide) (by decide)
      obtain ⟨b77, g77⟩ : ∃ z, z = T69.heap.size := ⟨_, rfl⟩
      rw [← g77] at A77 D77 st77
      have lt_b77 : h77.size > b77 := A77.lt
      have sz78 : T69.heap.size ≤ h77.size := E77.1
      have O79 : Old Z n0 h77 := O72.ext E77
      have R80 : CHr Z own_EL s.vm h0 T61.vm h77 := R71.trans (CHr.ext E77 R71.1)
      have F77_out : Fld Z h77 b77 "com/example/regent/regent/Html" "out" "Ljava/lang/StringBuilder;" .null := D77 (Or.inr (wd119 hw)) (ty := (.object "java/lang/StringBuilder")) (by decide)
      refine ov T77 58 #[.val (.int p0), .val (.int p1), .val (.int p2), .val (.int p3), .val (.int nn), .val (.int v0), .val (.int v1), .val (.int v2), .val (.ref b61), .val (.ref b69), .unset, .unset] [.ref b77] st77 ?_
      refine ov T77 59 #[.val (.int p0), .val (.int p1), .val (.int p2), .val (.int p3), .val (.int nn), .val (.int v0), .val (.int v1), .val (.int v2), .val (.ref b61), .val (.ref b69), .unset, .unset] [.ref b77, .ref b77] (fun t k => XS.dup X77.here hx rfl (hb hby at_58) rfl rfl k) ?_
      have hk81 : T61.heap.size ≤ T77.heap.size := by rw [e77]; omega
      obtain ⟨_, _, ⟨T81, Lp81, kp81, np81⟩, -, X81, hS81, hgr81, ⟨Lc81, ⟨hQ81, R81q⟩, l81, y81, z81⟩, st81⟩ := X77.specialBackS hx (y := mt27) rfl hown (mvT hZ (wd43 hw)) (mvT hZ (wd44 hw)) (mvT hZ (wd45 hw)) (by decide) (own_backW (SL := []) (W := 1) (own_hti l Z a0 hw [] b77 zc h77 n0 O79 zfC A77 F77_out hzc (by first | assumption | exact Ne.symm (by assumption) | omega | exact Nat.ne_of_lt (by omega) | exact Nat.ne_of_gt (by omega) | decide | exact Nat.le_of_ble_eq_true rfl)) hZ (wd45 hw) (wd42 hw) (by decide) (by decide) hEL R80.1 all0) (g := (mkF m 59 #[.val (.int p0), .val (.int p1), .val (.int p2), .val (.int p3), .val (.int nn), .val (.int v0), .val (.int v1), .val (.int v2), .val (.ref b61), .val (.ref b69), .unset, .unset] [.ref b77, .ref b77])) rfl (by rw [hml]; rfl) (Steps.refl _) (a := b77) (argsL := []) (rest := [.ref b77]) (lenOf pd___V_167 rfl) rfl (by show 2 * 0 + _ ≤ _; exact Nat.le_of_eq rfl) (hb hby at_59) (fun _ _ => ⟨rfl, e77, (by decide : 7 + 4 ≤ _), (by decide : 51 + 104 ≤ _)⟩)
      dsimp only [Pt.U, Pt.locs, Pt.cells, Pt.slots] at X81 l81 y81 z81 st81 hQ81 hS81 hgr81 R81q
      subst Lp81 kp81 np81
      obtain ⟨X81, hSn81, hZ, hown⟩ := rebS hSn61 hk81 X81 hS81 hgr81 hZ hown
      obtain ⟨sb81, dd81, kd81, rfl, N81q, K81q, f81_0, f81_1, f81_2, f81_3, f81_4, f81_5, pp81_0, pp81_1, sfp81_0⟩ := hQ81
      have N81 := Fr.app N69 N81q
      have sz82 : h77.size ≤ T81.heap.size := K81q.1
      have R83 : CHr Z own_EL s.vm h0 T81.vm T81.heap := R80.trans R81q
      have O84 : Old Z n0 T81.heap := O79.keep K81q (allS (by omega : n0 ≤ b77) all0)
      have lt85_sb81 : T81.heap.size > sb81 := f81_1.lt
      have lt86_sb81 : T81.heap.size > sb81 := f81_2.lt
      have lt87_sb81 : T81.heap.size > sb81 := f81_3.lt
      have lt88_sb81 : T81.heap.size > sb81 := f81_4.lt
      have lt89_dd81 : T81.heap.size > dd81 := f81_5.lt
      refine own_tr (S' := T81.setTop (mkF m 62 #[.val (.int p0), .val (.int p1), .val (.int p2), .val (.int p3), .val (.int nn), .val (.int v0), .val (.int v1), .val (.int v2), .val (.ref b61), .val (.ref b69), .unset, .unset] [.ref b77])) st81 ?_
      refine ov T81 64 #[.val (.int p0), .val (.int p1), .val (.int p2), .val (.int p3), .val (.int nn), .val (.int v0), .val (.int v1), .val (.int v2), .val (.ref b61), .val (.ref b69), .val (.ref b77), .unset] [] (fun t k => XS.astore X81.here hx rfl (hb hby at_62) rfl rfl (l' := #[.val (.int p0), .val (.int p1), .val (.int p2), .val (.int p3), .val (.int nn), .val (.int v0), .val (.int v1), .val (.int v2), .val (.ref b61), .val (.ref b69), .val (.ref b77), .unset]) rfl k) ?_
      refine ov T81 66 #[.val (.int p0), .val (.int p1), .val (.int p2), .val (.int p3), .val (.int nn), .val (.int v0), .val (.int v1), .val (.int v2), .val (.ref b61), .val (.ref b69), .val (.ref b77), .unset] [.ref b77] (fun t k => XS.aload X81.here hx rfl (hb hby at_64) rfl rfl k) ?_
      refine ov T81 68 #[.val (.int p0), .val (.int p1), .val (.int p2), .val (.int p3), .val (.int nn), .val (.int v0), .val (.int v1), .val (.int v2), .val (.ref b61), .val (.ref b69), .val (.ref b77), .unset] [.ref b61, .ref b77] (fun t k => XS.aload X81.here hx rfl (hb hby at_66) rfl rfl k) ?_
      have cx91 : Exa Z T81.heap b61 "java/lang/String" := (((f61_0.keep K69q).ext E77).keep K81q)
      have cx92 : Exa Z T81.heap b77 "com/example/regent/regent/Html" := (A77.keep K81q)
      have ne_b61_b77 : b61 ≠ b77 := by first | exact Exa.ne cx91 cx92 (by decide) | exact Nat.ne_of_lt (by omega) | exact Nat.ne_of_gt (by omega)
      have cx93 : Fld Z T81.heap b61 "java/lang/String" "coder" "B" (.int 0) := (((f61_2.keep K69q nin0).ext E77).keep K81q (ninS ne_b61_b77 nin0))
      have cx94 : Fld Z T81.heap b61 "java/lang/String" "value" "[B" (.ref tb61) := (((f61_1.keep K69q nin0).ext E77).keep K81q (ninS ne_b61_b77 nin0))
      have ne_tb61_b77 : tb61 ≠ b77 := by first | exact Nat.ne_of_lt (by omega) | exact Nat.ne_of_gt (by omega)
      have cx95 : Arv Z T81.heap tb61 kb61 .byte (1 : Int32) [(.int (v0.toInt8.toInt32))] (.int 0) := (((f61_3.keep K69q nin0).ext E77).keep K81q (ninS ne_tb61_b77 nin0))
      have hk90 : T81.heap.size ≤ T81.heap.size := by omega
      obtain ⟨cq90, kq90, q90a, q90b, q90c⟩ := isOf hZ rfl cx92
      obtain ⟨_, _, ⟨T90, Lp90, kp90, np90⟩, -, X90, hS90, hgr90, ⟨Lc90, ⟨hQ90, R90q⟩, l90, y90, z90⟩, st90⟩ := X81.virtualBackS hx (y := mt28) (z := mt28) hown (mvT hZ (wd120 hw)) (mvT hZ (wd121 hw)) (notFace_of_selects (args := #[]) (mvT hZ (wd123 hw))) (mvT hZ (wd123 hw)) (mvT hZ (wd122 hw)) (by decide) (own_backW (SL := [dd81]) (W := 0) (own_cl l Z a0 hw [] b77 b61 tb61 kb61 (1 : Int32) [(.int (v0.toInt8.toInt32))] zc sb81 dd81 kd81 T81.heap n0 O84 zfC f81_0 f81_1 f81_2 f81_3 f81_4 f81_5 cx91 cx93 cx94 cx95 hzc (by decide) (by first | assumption | exact Ne.symm (by assumption) | omega | exact Nat.ne_of_lt (by omega) | exact Nat.ne_of_gt (by omega) | decide | exact Nat.le_of_ble_eq_true rfl) (by first | assumption | exact Ne.symm (by assumption) | omega | exact Nat.ne_of_lt (by omega) | exact Nat.ne_of_gt (by omega) | decide | exact Nat.le_of_ble_eq_true rfl) (by first | assumption | exact Ne.symm (by assumption) | omega | exact Nat.ne_of_lt (by omega) | exact Nat.ne_of_gt (by omega) | decide | exact Nat.le_of_ble_eq_true rfl)) hZ (wd124 hw) (wd42 hw) (by decide) (by decide) hEL R83.1 (allS (P := fun x => x < T81.heap.size ∧ Safe Z own_EL T81.vm T81.heap x) ⟨own_ltA (by omega), sfp81_0⟩ all0)) q90a q90c (g := (mkF m 68 #[.val (.int p0), .val (.int p1), .val (.int p2), .val (.int p3), .val (.int nn), .val (.int v0), .val (.int v1), .val (.int v2), .val (.ref b61), .val (.ref b69), .val (.ref b77), .unset] [.ref b61, .ref b77])) rfl (by rw [hml]; rfl) (Steps.refl _) (argsL := [.ref b61]) (rest := []) (lenOf pd__Ljava_lang_String__Lcom_example_regent_regent_Html__4862 rfl) rfl (by show 2 * 0 + _ ≤ _; exact Nat.le_of_eq rfl) (hb hby at_68) (fun _ _ => ⟨rfl, rfl, (by decide : 11 + 2 ≤ _), (by decide : 155 + 12 ≤ _)⟩)
      dsimp only [Pt.U, Pt.locs, Pt.cells, Pt.slots] at X90 l90 y90 z90 st90 hQ90 hS90 hgr90 R90q
      subst Lp90 kp90 np90
      obtain ⟨X90, hSn90, hZ, hown⟩ := rebS hSn81 hk90 X90 hS90 hgr90 hZ hown
      obtain ⟨rfl, N90q, K90q, f90_0, f90_1, f90_2, f90_3⟩ := hQ90
      have N90 := Fr.app N81 N90q
      have sz96 : T81.heap.size ≤ T90.heap.size := K90q.1
      have R97 : CHr Z own_EL s.vm h0 T90.vm T90.heap := R83.trans R90q
      have O98 : Old Z n0 T90.heap := O84.keep K90q (allS (by omega : n0 ≤ sb81) (allS (by omega : n0 ≤ dd81) all0))
      have f90_2c : Fld Z T90.heap sb81 "java/lang/AbstractStringBuilder" "count" "I" (.int 20) := f90_2
      have f90_3c : Arv Z T90.heap dd81 kd81 .byte (32 : Int32) (own_L5 v0) (.int 0) := f90_3
      refine own_tr (S' := T90.setTop (mkF m 71 #[.val (.int p0), .val (.int p1), .val (.int p2), .val (.int p3), .val (.int nn), .val (.int v0), .val (.int v1), .val (.int v2), .val (.ref b61), .val (.ref b69), .val (.ref b77), .unset] [.ref b77])) st90 ?_
      refine ov T90 73 #[.val (.int p0), .val (.int p1), .val (.int p2), .val (.int p3), .val (.int nn), .val (.int v0), .val (.int v1), .val (.int v2), .val (.ref b61), .val (.ref b69), .val (.ref b77), .val (.ref b77)] [] (fun t k => XS.astore X90.here hx rfl (hb hby at_71) rfl rfl (l' := #[.val (.int p0), .val (.int p1), .val (.int p2), .val (.int p3), .val (.int nn), .val (.int v0), .val (.int v1), .val (.int v2), .val (.ref b61), .val (.ref b69), .val (.ref b77), .val (.ref b77)]) rfl k) ?_
      refine ov T90 75 #[.val (.int p0), .val (.int p1), .val (.int p2), .val (.int p3), .val (.int nn), .val (.int v0), .val (.int v1), .val (.int v2), .val (.ref b61), .val (.ref b69), .val (.ref b77), .val (.ref b77)] [.ref b77] (fun t k => XS.aload X90.here hx rfl (hb hby at_73) rfl rfl k) ?_
      refine ov T90 77 #[.val (.int p0), .val (.int p1), .val (.int p2), .val (.int p3), .val (.int nn), .val (.int v0), .val (.int v1), .val (.int v2), .val (.ref b61), .val (.ref b69), .val (.ref b77), .val (.ref b77)] [.ref b77, .ref b77] (fun t k => XS.aload X90.here hx rfl (hb hby at_75) rfl rfl k) ?_
      refine ov T90 80 #[.val (.int p0), .val (.int p1), .val (.int p2), .val (.int p3), .val (.int nn), .val (.int v0), .val (.int v1), .val (.int v2), .val (.ref b61), .val (.ref b69), .val (.ref b77), .val (.ref b77)] [] (fun t k => Jvm.RoadKit.acmp (g := (mkF m 77 #[.val (.int p0), .val (.int p1), .val (.int p2), .val (.int p3), .val (.int nn), .val (.int v0), .val (.int v1), .val (.int v2), .val (.ref b61), .val (.ref b69), .val (.ref b77), .val (.ref b77)] [.ref b77, .ref b77])) X90 hx rfl rfl rfl (pc0 := 77) (pc' := 80) (same := true) rfl (hb hby at_77) rfl (decide_eq_true rfl) (by decide) (by decide) k) ?_
      refine ov T90 82 #[.val (.int p0), .val (.int p1), .val (.int p2), .val (.int p3), .val (.int nn), .val (.int v0), .val (.int v1), .val (.int v2), .val (.ref b61), .val (.ref b69), .val (.ref b77), .val (.ref b77)] [.ref b77] (fun t k => XS.aload X90.here hx rfl (hb hby at_80) rfl rfl k) ?_
      have ne_b77_dd81 : b77 ≠ dd81 := by first | exact (Exa.neArv (cx92.keep K90q) f90_3c (wd41 hw)) | exact Nat.ne_of_lt (by omega) | exact Nat.ne_of_gt (by omega)
      have cx100 : Exa Z T90.heap b77 "com/example/regent/regent/Html" := (cx92.keep K90q)
      have cx101 : Exa Z T90.heap sb81 "java/lang/StringBuilder" := (f81_1.keep K90q)
      have ne_b77_sb81 : b77 ≠ sb81 := by first | exact Exa.ne cx100 cx101 (by decide) | exact Nat.ne_of_lt (by omega) | exact Nat.ne_of_gt (by omega)
      have cx102 : Fld Z T90.heap b77 "com/example/regent/regent/Html" "out" "Ljava/lang/StringBuilder;" (.ref sb81) := (f81_0.keep K90q (ninS ne_b77_sb81 (ninS ne_b77_dd81 nin0)))
      obtain ⟨cq99, kq99, q99a, q99b, q99c⟩ := isOf hZ rfl cx100
      obtain ⟨_, _, ⟨T99, Lp99, kp99, np99⟩, -, X99, ⟨Lc99, hQ99, l99, y99, z99⟩, st99⟩ := X90.virtualBack hx (y := mt29) (z := mt29) hown (mvT hZ (wd145 hw)) (mvT hZ (wd146 hw)) (notFace_of_selects (args := #[]) (mvT hZ (wd148 hw))) (mvT hZ (wd148 hw)) (mvT hZ (wd147 hw)) (by decide) (backOf (W := 0) (own_hts l Z a0 hw [] b77 zc sb81 dd81 kd81 (own_L5 v0) (20 : Int32) T90.heap n0 O98 zfC cx102 cx101 f90_0 f90_1 f90_2c f90_3c hzc (by first | assumption | exact Ne.symm (by assumption) | omega | exact Nat.ne_of_lt (by omega) | exact Nat.ne_of_gt (by omega) | decide | exact Nat.le_of_ble_eq_true rfl) (by first | assumption | exact Ne.symm (by assumption) | omega | exact Nat.ne_of_lt (by omega) | exact Nat.ne_of_gt (by omega) | decide | exact Nat.le_of_ble_eq_true rfl) (by first | assumption | exact Ne.symm (by assumption) | omega | exact Nat.ne_of_lt (by omega) | exact Nat.ne_of_gt (by omega) | decide | exact Nat.le_of_ble_eq_true rfl) (by first | assumption | exact Ne.symm (by assumption) | omega | exact Nat.ne_of_lt (by omega) | exact Nat.ne_of_gt (by omega) | decide | exact Nat.le_of_ble_eq_true rfl) (by first | assumption | exact Ne.symm (by assumption) | omega | exact Nat.ne_of_lt (by omega) | exact Nat.ne_of_gt (by omega) | decide | exact Nat.le_of_ble_eq_true rfl)) hZ (wd149 hw) (wd42 hw) (by decide) (by decide)) q99a q99c (g := (mkF m 82 #[.val (.int p0), .val (.int p1), .val (.int p2), .val (.int p3), .val (.int nn), .val (.int v0), .val (.int v1), .val (.int v2), .val (.ref b61), .val (.ref b69), .val (.ref b77), .val (.ref b77)] [.ref b77])) rfl (by rw [hml]; rfl) (Steps.refl _) (argsL := []) (rest := []) (lenOf pd___Ljava_lang_String__1777 rfl) rfl (by show 2 * 0 + _ ≤ _; exact Nat.le_of_eq rfl) (hb hby at_82) (fun _ _ => ⟨rfl, rfl, (by decide : 13 + 2 ≤ _), (by decide : 167 + 36 ≤ _)⟩)
      dsimp only [Pt.U, Pt.locs, Pt.cells, Pt.slots] at X99 l99 y99 z99 st99 hQ99
      subst Lp99 kp99 np99
      obtain ⟨x199, b99, kb99, rfl, N99q, K99q, f99_0, f99_1, f99_2, f99_3⟩ := hQ99
      have N99 := Fr.app N90 N99q
      have sf99 : ∀ x ∈ ([] : List Addr), Safe Z own_EL T90.vm T90.heap x := sf0
      have sz103 : T90.heap.size ≤ T99.heap.size := K99q.1
      have R104 : CHr Z own_EL s.vm h0 T90.vm T99.heap := R97.trans (CHr.keep K99q sf99 R97.1)
      have O105 : Old Z n0 T99.heap := O98.keep K99q all0
      have lt106_x199 : T99.heap.size > x199 := f99_0.lt
      have lt107_x199 : T99.heap.size > x199 := f99_1.lt
      have lt108_x199 : T99.heap.size > x199 := f99_2.lt
      have f99_3c : Arv Z T99.heap b99 kb99 .byte (20 : Int32) (own_L6 v0) (.int 0) := f99_3
      have lt109_b99 : T99.heap.size > b99 := f99_3c.lt
      refine own_tr (S' := T99.setTop (mkF m 85 #[.val (.int p0), .val (.int p1), .val (.int p2), .val (.int p3), .val (.int nn), .val (.int v0), .val (.int v1), .val (.int v2), .val (.ref b61), .val (.ref b69), .val (.ref b77), .val (.ref b77)] [.ref x199])) st99 ?_
      refine ov T99 87 #[.val (.int p0), .val (.int p1), .val (.int p2), .val (.int p3), .val (.int nn), .val (.int v0), .val (.int v1), .val (.int v2), .val (.ref b61), .val (.ref b69), .val (.ref b77), .val (.ref b77)] [.ref b69, .ref x199] (fun t k => XS.aload X99.here hx rfl (hb hby at_85) rfl rfl k) ?_
      have hpE : ∀ c ∈ ([60, 33, 68, 79, 67, 84, 89, 80, 69, 32, 104, 116, 109, 108, 62, 10, 60, 47, v0, 62] : List Int32), ¬ c < 0 ∧ ¬ (255 : Int32) < c := by
        intro c hc
        simp only [List.mem_cons, List.not_mem_nil, or_false] at hc
        rcases hc with rfl | rfl | rfl | rfl | rfl | rfl | rfl | rfl | rfl | rfl | rfl | rfl | rfl | rfl | rfl | rfl | rfl | rfl | rfl | rfl
        · exact by decide
        · exact by decide
        · exact by decide
        · exact by decide
        · exact by decide
        · exact by decide
        · exact by decide
        · exact by decide
        · exact by decide
        · exact by decide
        · exact by decide
        · exact by decide
        · exact by decide
        · exact by decide
        · exact by decide
        · exact by decide
        · exact by decide
        · exact by decide
        · exact rng_v0
        · exact by decide
      have cx111 : Exa Z T99.heap b69 "java/lang/String" := ((((f69_0.ext E77).keep K81q).keep K90q).keep K99q)
      have cx112 : Exa Z T99.heap b77 "com/example/regent/regent/Html" := (cx100.keep K99q)
      have ne_b69_b77 : b69 ≠ b77 := by first | exact Exa.ne cx111 cx112 (by decide) | exact Nat.ne_of_lt (by omega) | exact Nat.ne_of_gt (by omega)
      have ne_b69_dd81 : b69 ≠ dd81 := by first | exact (Exa.neArv (((f69_0.ext E77).keep K81q).keep K90q) f90_3c (wd5 hw)) | exact Nat.ne_of_lt (by omega) | exact Nat.ne_of_gt (by omega)
      have cx113 : Exa Z T99.heap sb81 "java/lang/StringBuilder" := (cx101.keep K99q)
      have ne_b69_sb81 : b69 ≠ sb81 := by first | exact Exa.ne cx111 cx113 (by decide) | exact Nat.ne_of_lt (by omega) | exact Nat.ne_of_gt (by omega)
      have cx114 : Fld Z T99.heap b69 "java/lang/String" "value" "[B" (.ref tb69) := ((((f69_1.ext E77).keep K81q (ninS ne_b69_b77 nin0)).keep K90q (ninS ne_b69_sb81 (ninS ne_b69_dd81 nin0))).keep K99q nin0)
      have cx115 : Fld Z T99.heap b69 "java/lang/String" "coder" "B" (.int 0) := ((((f69_2.ext E77).keep K81q (ninS ne_b69_b77 nin0)).keep K90q (ninS ne_b69_sb81 (ninS ne_b69_dd81 nin0))).keep K99q nin0)
      have ne_tb69_b77 : tb69 ≠ b77 := by first | exact Nat.ne_of_lt (by omega) | exact Nat.ne_of_gt (by omega)
      have ne_tb69_dd81 : tb69 ≠ dd81 := by first | exact Nat.ne_of_lt (by omega) | exact Nat.ne_of_gt (by omega)
      have ne_tb69_sb81 : tb69 ≠ sb81 := by first | exact Nat.ne_of_lt (by omega) | exact Nat.ne_of_gt (by omega)
      have cx116 : Arv Z T99.heap tb69 kb69 .byte (20 : Int32) [(.int ((60 : Int32).toInt8.toInt32)), (.int ((33 : Int32).toInt8.toInt32)), (.int ((68 : Int32).toInt8.toInt32)), (.int ((79 : Int32).toInt8.toInt32)), (.int ((67 : Int32).toInt8.toInt32)), (.int ((84 : Int32).toInt8.toInt32)), (.int ((89 : Int32).toInt8.toInt32)), (.int ((80 : Int32).toInt8.toInt32)), (.int ((69 : Int32).toInt8.toInt32)), (.int ((32 : Int32).toInt8.toInt32)), (.int ((104 : Int32).toInt8.toInt32)), (.int ((116 : Int32).toInt8.toInt32)), (.int ((109 : Int32).toInt8.toInt32)), (.int ((108 : Int32).toInt8.toInt32)), (.int ((62 : Int32).toInt8.toInt32)), (.int ((10 : Int32).toInt8.toInt32)), (.int ((60 : Int32).toInt8.toInt32)), (.int ((47 : Int32).toInt8.toInt32)), (.int (v0.toInt8.toInt32)), (.int ((62 : Int32).toInt8.toInt32))] (.int 0) := ((((f69_3.ext E77).keep K81q (ninS ne_tb69_b77 nin0)).keep K90q (ninS ne_tb69_sb81 (ninS ne_tb69_dd81 nin0))).keep K99q nin0)
      have hwe110 := own_mwe hw
      have cx117 : Sta Z T99.heap "java/lang/String" "COMPACT_STRINGS" "Z" (.int zc) := zfC.ext O105.2
      obtain ⟨cq110, kq110, q110a, q110b, q110c⟩ := isOf hZ rfl f99_0
      obtain ⟨_, _, ⟨T110, Lp110, kp110, np110⟩, -, X110, ⟨Lc110, hQ110, l110, y110, z110⟩, st110⟩ := X99.virtualBack hx (y := mt32) (z := mt32) hown (mvT hZ (wd191 hw)) (mvT hZ (wd192 hw)) (notFace_of_selects (args := #[]) (mvT hZ (wd194 hw))) (mvT hZ (wd194 hw)) (mvT hZ (wd193 hw)) (by decide) (StrChars.Road.eqW (W := 0) hZ hwe110 (kI := 4) (wd5 hw) f99_0 f99_1 f99_2 f99_3c (StrChars.Road.codOf (cs := ([60, 33, 68, 79, 67, 84, 89, 80, 69, 32, 104, 116, 109, 108, 62, 10, 60, 47, v0, 62] : List Int32)) rfl (fun c hc => (hpE c hc).2)) (own_up ([60, 33, 68, 79, 67, 84, 89, 80, 69, 32, 104, 116, 109, 108, 62, 10, 60, 47, v0, 62] : List Int32) hpE) (by first | decide | exact Nat.le_of_ble_eq_true rfl) cx111 cx114 cx115 cx116 (StrChars.Road.codOf (cs := ([60, 33, 68, 79, 67, 84, 89, 80, 69, 32, 104, 116, 109, 108, 62, 10, 60, 47, v0, 62] : List Int32)) rfl (fun c hc => (hpE c hc).2)) (own_up ([60, 33, 68, 79, 67, 84, 89, 80, 69, 32, 104, 116, 109, 108, 62, 10, 60, 47, v0, 62] : List Int32) hpE) (by first | decide | exact Nat.le_of_ble_eq_true rfl) cx117 hzc (by decide) (by decide)) q110a q110c (g := (mkF m 87 #[.val (.int p0), .val (.int p1), .val (.int p2), .val (.int p3), .val (.int nn), .val (.int v0), .val (.int v1), .val (.int v2), .val (.ref b61), .val (.ref b69), .val (.ref b77), .val (.ref b77)] [.ref b69, .ref x199])) rfl (by rw [hml]; rfl) (Steps.refl _) (argsL := [.ref b69]) (rest := []) (lenOf pd__Ljava_lang_Object__Z_1835 rfl) rfl (by show 2 * 0 + _ ≤ _; exact Nat.le_of_eq rfl) (hb hby at_87) (fun _ _ => ⟨rfl, rfl, (by decide : 15 + 0 ≤ _), (by decide : 203 + 0 ≤ _)⟩)
      dsimp only [Pt.U, Pt.locs, Pt.cells, Pt.slots] at X110 l110 y110 z110 st110 hQ110
      subst Lp110 kp110 np110
      obtain ⟨hv110, rfl, e110⟩ := hQ110
      obtain ⟨zq110, hzq110, rfl⟩ : ∃ z : Int32, z = (if ([60, 33, 68, 79, 67, 84, 89, 80, 69, 32, 104, 116, 109, 108, 62, 10, 60, 47, v0, 62] : List Int32) = ([60, 33, 68, 79, 67, 84, 89, 80, 69, 32, 104, 116, 109, 108, 62, 10, 60, 47, v0, 62] : List Int32) then (1 : Int32) else (0 : Int32)) ∧ _ = some (Value.int z) := by rcases hv110 with ⟨q1, q2⟩ | ⟨q1, q2⟩; exact ⟨_, (if_pos q2).symm, q1⟩; exact ⟨_, (if_neg q2).symm, q1⟩
      try rw [List.append_nil] at X110
      refine own_tr (S' := T110.setTop (mkF m 90 #[.val (.int p0), .val (.int p1), .val (.int p2), .val (.int p3), .val (.int nn), .val (.int v0), .val (.int v1), .val (.int v2), .val (.ref b61), .val (.ref b69), .val (.ref b77), .val (.ref b77)] [.int zq110])) st110 ?_
      obtain rfl : zq110 = (1 : Int32) := hzq110.trans (if_pos rfl)
      refine ov T110 93 #[.val (.int p0), .val (.int p1), .val (.int p2), .val (.int p3), .val (.int nn), .val (.int v0), .val (.int v1), .val (.int v2), .val (.ref b61), .val (.ref b69), .val (.ref b77), .val (.ref b77)] [] (fun t k => XS.ifNo X110.here hx rfl (hb hby at_90) rfl ((if0 _ _).trans (feq (by decide : ¬ ((1 : Int32) = (0 : Int32)))).1) k) ?_
      refine ov T110 94 #[.val (.int p0), .val (.int p1), .val (.int p2), .val (.int p3), .val (.int nn), .val (.int v0), .val (.int v1), .val (.int v2), .val (.ref b61), .val (.ref b69), .val (.ref b77), .val (.ref b77)] [.int 1] (fun t k => XS.iconst X110.here hx rfl (hb hby at_93) k) ?_
      refine ov T110 98 #[.val (.int p0), .val (.int p1), .val (.int p2), .val (.int p3), .val (.int nn), .val (.int v0), .val (.int v1), .val (.int v2), .val (.ref b61), .val (.ref b69), .val (.ref b77), .val (.ref b77)] [.int 1] (fun t k => XS.goto X110.here hx rfl (pc0 := 94) (pc' := 98) rfl (hb hby at_94) (by decide) (by decide) k) ?_
      have RTR104 : CHr Z own_EL s.vm h0 T110.vm T99.heap := R104.trans (CHv.at X110 hZ hEL R104.1)
      have RXR104 : CHr Z own_EL s.vm s.heap T110.vm T110.heap := by rw [hh, e110]; exact RTR104
      refine own_retW (Q := Q_own_law Z p0 p1 p2 p3 zc h0 n0) (C := room_1.cells) (N := room_1.slots) X110 hSn90 (by rw [e110]; omega) (v := some (.int 1)) (fun h => by rw [Bd.returns] at h; cases h) Bd.notSynchronized ?_ RXR104 (by decide) (by decide) (fun fs hr => retN X110 hx (t := .boolean) Bd.returns (by simp) (hb hby at_98) hr)
      show Q_own_law Z p0 p1 p2 p3 zc h0 n0 _ T110.vm T110.heap _
      rw [e110]
      exact ⟨rfl, N99⟩
    · -- split
      by_cases hs29_119 : nn = (2 : Int32)
      · -- split
        refine ov s₁ 31 #[.val (.int p0), .val (.int p1), .val (.int p2), .val (.int p3), .val (.int nn), .val (.int v0), .val (.int v1), .val (.int v2), .unset, .unset, .unset, .unset] [.int nn] (fun t k => XS.iload X0.here hx rfl (hb hby at_29) rfl k) ?_
        refine ov s₁ 33 #[.val (.int p0), .val (.int p1), .val (.int p2), .val (.int p3), .val (.int nn), .val (.int v0), .val (.int v1), .val (.int v2), .unset, .unset, .unset, .unset] [.int v0, .int nn] (fun t k => XS.iload X0.here hx rfl (hb hby at_31) rfl k) ?_
        refine ov s₁ 35 #[.val (.int p0), .val (.int p1), .val (.int p2), .val (.int p3), .val (.int nn), .val (.int v0), .val (.int v1), .val (.int v2), .unset, .unset, .unset, .unset] [.int v1, .int v0, .int nn] (fun t k => XS.iload X0.here hx rfl (hb hby at_33) rfl k) ?_
        refine ov s₁ 37 #[.val (.int p0), .val (.int p1), .val (.int p2), .val (.int p3), .val (.int nn), .val (.int v0), .val (.int v1), .val (.int v2), .unset, .unset, .unset, .unset] [.int v2, .int v1, .int v0, .int nn] (fun t k => XS.iload X0.here hx rfl (hb hby at_35) rfl k) ?_
        have hk120 : h0.size ≤ s₁.heap.size := by rw [e0]; omega
        obtain ⟨_, _, ⟨T120, Lp120, kp120, np120⟩, -, X120, hS120, hgr120, ⟨Lc120, ⟨hQ120, R120q⟩, l120, y120, z120⟩, st120⟩ := callSS X0 hx (y := mt30) hown (mvT hZ (wd0 hw)) (mvT hZ (wd1 hw)) (mvT hZ (wd2 hw)) (mvT hZ (wd3 hw)) (by decide) (own_backW (SL := []) (W := 0) (own_tag2 l Z a0 hw [] nn v0 v1 v2 zc h0 n0 O0 zfC hzc rng_v0 rng_v1 rng_v2 hs29_1 hs29_60 hs29_119) hZ (wd3 hw) (wd2 hw) (by decide) (by decide) hEL R0.1 all0) (g := (mkF m 37 #[.val (.int p0), .val (.int p1), .val (.int p2), .val (.int p3), .val (.int nn), .val (.int v0), .val (.int v1), .val (.int v2), .unset, .unset, .unset, .unset] [.int v2, .int v1, .int v0, .int nn])) rfl (by rw [hml]; rfl) (argsL := [.int nn, .int v0, .int v1, .int v2]) (rest := []) (lenOf pd__ICCC_Ljava_lang_String__2051 rfl) rfl (by show 2 * 0 + _ ≤ _; exact Nat.le_of_eq rfl) (hb hby at_37) (fun _ _ => ⟨rfl, e0, (by decide : 0 + 3 ≤ _), (by decide : 0 + 8 ≤ _)⟩)
        dsimp only [Pt.U, Pt.locs, Pt.cells, Pt.slots] at X120 l120 y120 z120 st120 hQ120 hS120 hgr120 R120q
        subst Lp120 kp120 np120
        obtain ⟨X120, hSn120, hZ, hown⟩ := rebS hS0 hk120 X120 hS120 hgr120 hZ hown
        obtain ⟨b120, tb120, kb120, rfl, N120q, K120q, f120_0, f120_1, f120_2, f120_3⟩ := hQ120
        have N120 := Fr.app N0 N120q
        have sz121 : h0.size ≤ T120.heap.size := K120q.1
        have R122 : CHr Z own_EL s.vm h0 T120.vm T120.heap := R0.trans R120q
        have O123 : Old Z n0 T120.heap := O0.keep K120q all0
        have lt124_b120 : T120.heap.size > b120 := f120_0.lt
        have lt125_b120 : T120.heap.size > b120 := f120_1.lt
        have lt126_b120 : T120.heap.size > b120 := f120_2.lt
        have lt127_tb120 : T120.heap.size > tb120 := f120_3.lt
        refine own_tr (S' := T120.setTop (mkF m 40 #[.val (.int p0), .val (.int p1), .val (.int p2), .val (.int p3), .val (.int nn), .val (.int v0), .val (.int v1), .val (.int v2), .unset, .unset, .unset, .unset] [.ref b120])) st120 ?_
        refine ov T120 42 #[.val (.int p0), .val (.int p1), .val (.int p2), .val (.int p3), .val (.int nn), .val (.int v0), .val (.int v1), .val (.int v2), .val (.ref b120), .unset, .unset, .unset] [] (fun t k => XS.astore X120.here hx rfl (hb hby at_40) rfl rfl (l' := #[.val (.int p0), .val (.int p1), .val (.int p2), .val (.int p3), .val (.int nn), .val (.int v0), .val (.int v1), .val (.int v2), .val (.ref b120), .unset, .unset, .unset]) rfl k) ?_
        refine ov T120 44 #[.val (.int p0), .val (.int p1), .val (.int p2), .val (.int p3), .val (.int nn), .val (.int v0), .val (.int v1), .val (.int v2), .val (.ref b120), .unset, .unset, .unset] [.int nn] (fun t k => XS.iload X120.here hx rfl (hb hby at_42) rfl k) ?_
        refine ov T120 46 #[.val (.int p0), .val (.int p1), .val (.int p2), .val (.int p3), .val (.int nn), .val (.int v0), .val (.int v1), .val (.int v2), .val (.ref b120), .unset, .unset, .unset] [.int v0, .int nn] (fun t k => XS.iload X120.here hx rfl (hb hby at_44) rfl k) ?_
        refine ov T120 48 #[.val (.int p0), .val (.int p1), .val (.int p2), .val (.int p3), .val (.int nn), .val (.int v0), .val (.int v1), .val (.int v2), .val (.ref b120), .unset, .unset, .unset] [.int v1, .int v0, .int nn] (fun t k => XS.iload X120.here hx rfl (hb hby at_46) rfl k) ?_
        refine ov T120 50 #[.val (.int p0), .val (.int p1), .val (.int p2), .val (.int p3), .val (.int nn), .val (.int v0), .val (.int v1), .val (.int v2), .val (.ref b120), .unset, .unset, .unset] [.int v2, .int v1, .int v0, .int nn] (fun t k => XS.iload X120.here hx rfl (hb hby at_48) rfl k) ?_
        obtain ⟨_, _, ⟨T128, Lp128, kp128, np128⟩, -, X128, ⟨Lc128, hQ128, l128, y128, z128⟩, st128⟩ := Jvm.LawKit.callS X120 hx (y := mt31) hown (mvT hZ (wd26 hw)) (mvT hZ (wd27 hw)) (mvT hZ (wd2 hw)) (mvT hZ (wd28 hw)) (by decide) (backOf (W := 0) (own_exp2 l Z a0 hw [] nn v0 v1 v2 zc T120.heap n0 O123 zfC hzc rng_v0 rng_v1 rng_v2 hs29_1 hs29_60 hs29_119) hZ (wd28 hw) (wd2 hw) (by decide) (by decide)) (g := (mkF m 50 #[.val (.int p0), .val (.int p1), .val (.int p2), .val (.int p3), .val (.int nn), .val (.int v0), .val (.int v1), .val (.int v2), .val (.ref b120), .unset, .unset, .unset] [.int v2, .int v1, .int v0, .int nn])) rfl (by rw [hml]; rfl) (argsL := [.int nn, .int v0, .int v1, .int v2]) (rest := []) (lenOf pd__ICCC_Ljava_lang_String__2051 rfl) rfl (by show 2 * 0 + _ ≤ _; exact Nat.le_of_eq rfl) (hb hby at_50) (fun _ _ => ⟨rfl, rfl, (by decide : 3 + 3 ≤ _), (by decide : 8 + 46 ≤ _)⟩)
        dsimp only [Pt.U, Pt.locs, Pt.cells, Pt.slots] at X128 l128 y128 z128 st128 hQ128
        subst Lp128 kp128 np128
        obtain ⟨b128, tb128, kb128, rfl, N128q, K128q, f128_0, f128_1, f128_2, f128_3⟩ := hQ128
        have N128 := Fr.app N120 N128q
        have sf128 : ∀ x ∈ ([] : List Addr), Safe Z own_EL T120.vm T120.heap x := sf0
        have sz129 : T120.heap.size ≤ T128.heap.size := K128q.1
        have R130 : CHr Z own_EL s.vm h0 T120.vm T128.heap := R122.trans (CHr.keep K128q sf128 R122.1)
        have O131 : Old Z n0 T128.heap := O123.keep K128q all0
        have lt132_b128 : T128.heap.size > b128 := f128_0.lt
        have lt133_b128 : T128.heap.size > b128 := f128_1.lt
        have lt134_b128 : T128.heap.size > b128 := f128_2.lt
        have lt135_tb128 : T128.heap.size > tb128 := f128_3.lt
        refine ov T128 53 #[.val (.int p0), .val (.int p1), .val (.int p2), .val (.int p3), .val (.int nn), .val (.int v0), .val (.int v1), .val (.int v2), .val (.ref b120), .unset, .unset, .unset] [.ref b128] st128 ?_
        refine ov T128 55 #[.val (.int p0), .val (.int p1), .val (.int p2), .val (.int p3), .val (.int nn), .val (.int v0), .val (.int v1), .val (.int v2), .val (.ref b120), .val (.ref b128), .unset, .unset] [] (fun t k => XS.astore X128.here hx rfl (hb hby at_53) rfl rfl (l' := #[.val (.int p0), .val (.int p1), .val (.int p2), .val (.int p3), .val (.int nn), .val (.int v0), .val (.int v1), .val (.int v2), .val (.ref b120), .val (.ref b128), .unset, .unset]) rfl k) ?_
        obtain ⟨T136, h136, X136, e136, E136, A136, D136, -, st136⟩ := newO X128 hx hZ hown (wd40 hw) (wd41 hw) (wd42 hw) rfl (g := (mkF m 55 #[.val (.int p0), .val (.int p1), .val (.int p2), .val (.int p3), .val (.int nn), .val (.int v0), .val (.int v1), .val (.int v2), .val (.ref b120), .val (.ref b128), .unset, .unset] [])) rfl (hb hby at_55) (by decide) (by decide)
        obtain ⟨b136, g136⟩ : ∃ z, z = T128.heap.size := ⟨_, rfl⟩
        rw [← g136] at A136 D136 st136
        have lt_b136 : h136.size > b136 := A136.lt
        have sz137 : T128.heap.size ≤ h136.size := E136.1
        have O138 : Old Z n0 h136 := O131.ext E136
        have R139 : CHr Z own_EL s.vm h0 T120.vm h136 := R130.trans (CHr.ext E136 R130.1)
        have F136_out : Fld Z h136 b136 "com/example/regent/regent/Html" "out" "Ljava/lang/StringBuilder;" .null := D136 (Or.inr (wd119 hw)) (ty := (.object "java/lang/StringBuilder")) (by decide)
        refine ov T136 58 #[.val (.int p0), .val (.int p1), .val (.int p2), .val (.int p3), .val (.int nn), .val (.int v0), .val (.int v1), .val (.int v2), .val (.ref b120), .val (.ref b128), .unset, .unset] [.ref b136] st136 ?_
        refine ov T136 59 #[.val (.int p0), .val (.int p1), .val (.int p2), .val (.int p3), .val (.int nn), .val (.int v0), .val (.int v1), .val (.int v2), .val (.ref b120), .val (.ref b128), .unset, .unset] [.ref b136, .ref b136] (fun t k => XS.dup X136.here hx rfl (hb hby at_58) rfl rfl k) ?_
        have hk140 : T120.heap.size ≤ T136.heap.size := by rw [e136]; omega
        obtain ⟨_, _, ⟨T140, Lp140, kp140, np140⟩, -, X140, hS140, hgr140, ⟨Lc140, ⟨hQ140, R140q⟩, l140, y140, z140⟩, st140⟩ := X136.specialBackS hx (y := mt27) rfl hown (mvT hZ (wd43 hw)) (mvT hZ (wd44 hw)) (mvT hZ (wd45 hw)) (by decide) (own_backW (SL := []) (W := 1) (own_hti l Z a0 hw [] b136 zc h136 n0 O138 zfC A136 F136_out hzc (by first | assumption | exact Ne.symm (by assumption) | omega | exact Nat.ne_of_lt (by omega) | exact Nat.ne_of_gt (by omega) | decide | exact Nat.le_of_ble_eq_true rfl)) hZ (wd45 hw) (wd42 hw) (by decide) (by decide) hEL R139.1 all0) (g := (mkF m 59 #[.val (.int p0), .val (.int p1), .val (.int p2), .val (.int p3), .val (.int nn), .val (.int v0), .val (.int v1), .val (.int v2), .val (.ref b120), .val (.ref b128), .unset, .unset] [.ref b136, .ref b136])) rfl (by rw [hml]; rfl) (Steps.refl _) (a := b136) (argsL := []) (rest := [.ref b136]) (lenOf pd___V_167 rfl) rfl (by show 2 * 0 + _ ≤ _; exact Nat.le_of_eq rfl) (hb hby at_59) (fun _ _ => ⟨rfl, e136, (by decide : 7 + 4 ≤ _), (by decide : 55 + 104 ≤ _)⟩)
        dsimp only [Pt.U, Pt.locs, Pt.cells, Pt.slots] at X140 l140 y140 z140 st140 hQ140 hS140 hgr140 R140q
        subst Lp140 kp140 np140
        obtain ⟨X140, hSn140, hZ, hown⟩ := rebS hSn120 hk140 X140 hS140 hgr140 hZ hown
        obtain ⟨sb140, dd140, kd140, rfl, N140q, K140q, f140_0, f140_1, f140_2, f140_3, f140_4, f140_5, pp140_0, pp140_1, sfp140_0⟩ := hQ140
        have N140 := Fr.app N128 N140q
        have sz141 : h136.size ≤ T140.heap.size := K140q.1
        have R142 : CHr Z own_EL s.vm h0 T140.vm T140.heap := R139.trans R140q
        have O143 : Old Z n0 T140.heap := O138.keep K140q (allS (by omega : n0 ≤ b136) all0)
        have lt144_sb140 : T140.heap.size > sb140 := f140_1.lt
        have lt145_sb140 : T140.heap.size > sb140 := f140_2.lt
        have lt146_sb140 : T140.heap.size > sb140 := f140_3.lt
        have lt147_sb140 : T140.heap.size > sb140 := f140_4.lt
        have lt148_dd140 : T140.heap.size > dd140 := f140_5.lt
        refine own_tr (S' := T140.setTop (mkF m 62 #[.val (.int p0), .val (.int p1), .val (.int p2), .val (.int p3), .val (.int nn), .val (.int v0), .val (.int v1), .val (.int v2), .val (.ref b120), .val (.ref b128), .unset, .unset] [.ref b136])) st140 ?_
        refine ov T140 64 #[.val (.int p0), .val (.int p1), .val (.int p2), .val (.int p3), .val (.int nn), .val (.int v0), .val (.int v1), .val (.int v2), .val (.ref b120), .val (.ref b128), .val (.ref b136), .unset] [] (fun t k => XS.astore X140.here hx rfl (hb hby at_62) rfl rfl (l' := #[.val (.int p0), .val (.int p1), .val (.int p2), .val (.int p3), .val (.int nn), .val (.int v0), .val (.int v1), .val (.int v2), .val (.ref b120), .val (.ref b128), .val (.ref b136), .unset]) rfl k) ?_
        refine ov T140 66 #[.val (.int p0), .val (.int p1), .val (.int p2), .val (.int p3), .val (.int nn), .val (.int v0), .val (.int v1), .val (.int v2), .val (.ref b120), .val (.ref b128), .val (.ref b136), .unset] [.ref b136] (fun t k => XS.aload X140.here hx rfl (hb hby at_64) rfl rfl k) ?_
        refine ov T140 68 #[.val (.int p0), .val (.int p1), .val (.int p2), .val (.int p3), .val (.int nn), .val (.int v0), .val (.int v1), .val (.int v2), .val (.ref b120), .val (.ref b128), .val (.ref b136), .unset] [.ref b120, .ref b136] (fun t k => XS.aload X140.here hx rfl (hb hby at_66) rfl rfl k) ?_
        have cx150 : Exa Z T140.heap b120 "java/lang/String" := (((f120_0.keep K128q).ext E136).keep K140q)
        have cx151 : Exa Z T140.heap b136 "com/example/regent/regent/Html" := (A136.keep K140q)
        have ne_b120_b136 : b120 ≠ b136 := by first | exact Exa.ne cx150 cx151 (by decide) | exact Nat.ne_of_lt (by omega) | exact Nat.ne_of_gt (by omega)
        have cx152 : Fld Z T140.heap b120 "java/lang/String" "coder" "B" (.int 0) := (((f120_2.keep K128q nin0).ext E136).keep K140q (ninS ne_b120_b136 nin0))
        have cx153 : Fld Z T140.heap b120 "java/lang/String" "value" "[B" (.ref tb120) := (((f120_1.keep K128q nin0).ext E136).keep K140q (ninS ne_b120_b136 nin0))
        have ne_tb120_b136 : tb120 ≠ b136 := by first | exact Nat.ne_of_lt (by omega) | exact Nat.ne_of_gt (by omega)
        have cx154 : Arv Z T140.heap tb120 kb120 .byte (2 : Int32) [(.int (v0.toInt8.toInt32)), (.int (v1.toInt8.toInt32))] (.int 0) := (((f120_3.keep K128q nin0).ext E136).keep K140q (ninS ne_tb120_b136 nin0))
        have hk149 : T140.heap.size ≤ T140.heap.size := by omega
        obtain ⟨cq149, kq149, q149a, q149b, q149c⟩ := isOf hZ rfl cx151
        obtain ⟨_, _, ⟨T149, Lp149, kp149, np149⟩, -, X149, hS149, hgr149, ⟨Lc149, ⟨hQ149, R149q⟩, l149, y149, z149⟩, st149⟩ := X140.virtualBackS hx (y := mt28) (z := mt28) hown (mvT hZ (wd120 hw)) (mvT hZ (wd121 hw)) (notFace_of_selects (args := #[]) (mvT hZ (wd123 hw))) (mvT hZ (wd123 hw)) (mvT hZ (wd122 hw)) (by decide) (own_backW (SL := [dd140]) (W := 0) (own_cl l Z a0 hw [] b136 b120 tb120 kb120 (2 : Int32) [(.int (v0.toInt8.toInt32)), (.int (v1.toInt8.toInt32))] zc sb140 dd140 kd140 T140.heap n0 O143 zfC f140_0 f140_1 f140_2 f140_3 f140_4 f140_5 cx150 cx152 cx153 cx154 hzc (by decide) (by first | assumption | exact Ne.symm (by assumption) | omega | exact Nat.ne_of_lt (by omega) | exact Nat.ne_of_gt (by omega) | decide | exact Nat.le_of_ble_eq_true rfl) (by first | assumption | exact Ne.symm (by assumption) | omega | exact Nat.ne_of_lt (by omega) | exact Nat.ne_of_gt (by omega) | decide | exact Nat.le_of_ble_eq_true rfl) (by first | assumption | exact Ne.symm (by assumption) | omega | exact Nat.ne_of_lt (by omega) | exact Nat.ne_of_gt (by omega) | decide | exact Nat.le_of_ble_eq_true rfl)) hZ (wd124 hw) (wd42 hw) (by decide) (by decide) hEL R142.1 (allS (P := fun x => x < T140.heap.size ∧ Safe Z own_EL T140.vm T140.heap x) ⟨own_ltA (by omega), sfp140_0⟩ all0)) q149a q149c (g := (mkF m 68 #[.val (.int p0), .val (.int p1), .val (.int p2), .val (.int p3), .val (.int nn), .val (.int v0), .val (.int v1), .val (.int v2), .val (.ref b120), .val (.ref b128), .val (.ref b136), .unset] [.ref b120, .ref b136])) rfl (by rw [hml]; rfl) (Steps.refl _) (argsL := [.ref b120]) (rest := []) (lenOf pd__Ljava_lang_String__Lcom_example_regent_regent_Html__4862 rfl) rfl (by show 2 * 0 + _ ≤ _; exact Nat.le_of_eq rfl) (hb hby at_68) (fun _ _ => ⟨rfl, rfl, (by decide : 11 + 2 ≤ _), (by decide : 159 + 12 ≤ _)⟩)
        dsimp only [Pt.U, Pt.locs, Pt.cells, Pt.slots] at X149 l149 y149 z149 st149 hQ149 hS149 hgr149 R149q
        subst Lp149 kp149 np149
        obtain ⟨X149, hSn149, hZ, hown⟩ := rebS hSn140 hk149 X149 hS149 hgr149 hZ hown
        obtain ⟨rfl, N149q, K149q, f149_0, f149_1, f149_2, f149_3⟩ := hQ149
        have N149 := Fr.app N140 N149q
        have sz155 : T140.heap.size ≤ T149.heap.size := K149q.1
        have R156 : CHr Z own_EL s.vm h0 T149.vm T149.heap := R142.trans R149q
        have O157 : Old Z n0 T149.heap := O143.keep K149q (allS (by omega : n0 ≤ sb140) (allS (by omega : n0 ≤ dd140) all0))
        have f149_2c : Fld Z T149.heap sb140 "java/lang/AbstractStringBuilder" "count" "I" (.int 21) := f149_2
        have f149_3c : Arv Z T149.heap dd140 kd140 .byte (32 : Int32) (own_L7 v0 v1) (.int 0) := f149_3
        refine own_tr (S' := T149.setTop (mkF m 71 #[.val (.int p0), .val (.int p1), .val (.int p2), .val (.int p3), .val (.int nn), .val (.int v0), .val (.int v1), .val (.int v2), .val (.ref b120), .val (.ref b128), .val (.ref b136), .unset] [.ref b136])) st149 ?_
        refine ov T149 73 #[.val (.int p0), .val (.int p1), .val (.int p2), .val (.int p3), .val (.int nn), .val (.int v0), .val (.int v1), .val (.int v2), .val (.ref b120), .val (.ref b128), .val (.ref b136), .val (.ref b136)] [] (fun t k => XS.astore X149.here hx rfl (hb hby at_71) rfl rfl (l' := #[.val (.int p0), .val (.int p1), .val (.int p2), .val (.int p3), .val (.int nn), .val (.int v0), .val (.int v1), .val (.int v2), .val (.ref b120), .val (.ref b128), .val (.ref b136), .val (.ref b136)]) rfl k) ?_
        refine ov T149 75 #[.val (.int p0), .val (.int p1), .val (.int p2), .val (.int p3), .val (.int nn), .val (.int v0), .val (.int v1), .val (.int v2), .val (.ref b120), .val (.ref b128), .val (.ref b136), .val (.ref b136)] [.ref b136] (fun t k => XS.aload X149.here hx rfl (hb hby at_73) rfl rfl k) ?_
        refine ov T149 77 #[.val (.int p0), .val (.int p1), .val (.int p2), .val (.int p3), .val (.int nn), .val (.int v0), .val (.int v1), .val (.int v2), .val (.ref b120), .val (.ref b128), .val (.ref b136), .val (.ref b136)] [.ref b136, .ref b136] (fun t k => XS.aload X149.here hx rfl (hb hby at_75) rfl rfl k) ?_
        refine ov T149 80 #[.val (.int p0), .val (.int p1), .val (.int p2), .val (.int p3), .val (.int nn), .val (.int v0), .val (.int v1), .val (.int v2), .val (.ref b120), .val (.ref b128), .val (.ref b136), .val (.ref b136)] [] (fun t k => Jvm.RoadKit.acmp (g := (mkF m 77 #[.val (.int p0), .val (.int p1), .val (.int p2), .val (.int p3), .val (.int nn), .val (.int v0), .val (.int v1), .val (.int v2), .val (.ref b120), .val (.ref b128), .val (.ref b136), .val (.ref b136)] [.ref b136, .ref b136])) X149 hx rfl rfl rfl (pc0 := 77) (pc' := 80) (same := true) rfl (hb hby at_77) rfl (decide_eq_true rfl) (by decide) (by decide) k) ?_
        refine ov T149 82 #[.val (.int p0), .val (.int p1), .val (.int p2), .val (.int p3), .val (.int nn), .val (.int v0), .val (.int v1), .val (.int v2), .val (.ref b120), .val (.ref b128), .val (.ref b136), .val (.ref b136)] [.ref b136] (fun t k => XS.aload X149.here hx rfl (hb hby at_80) rfl rfl k) ?_
        have ne_b136_dd140 : b136 ≠ dd140 := by first | exact (Exa.neArv (cx151.keep K149q) f149_3c (wd41 hw)) | exact Nat.ne_of_lt (by omega) | exact Nat.ne_of_gt (by omega)
        have cx159 : Exa Z T149.heap b136 "com/example/regent/regent/Html" := (cx151.keep K149q)
        have cx160 : Exa Z T149.heap sb140 "java/lang/StringBuilder" := (f140_1.keep K149q)
        have ne_b136_sb140 : b136 ≠ sb140 := by first | exact Exa.ne cx159 cx160 (by decide) | exact Nat.ne_of_lt (by omega) | exact Nat.ne_of_gt (by omega)
        have cx161 : Fld Z T149.heap b136 "com/example/regent/regent/Html" "out" "Ljava/lang/StringBuilder;" (.ref sb140) := (f140_0.keep K149q (ninS ne_b136_sb140 (ninS ne_b136_dd140 nin0)))
        obtain ⟨cq158, kq158, q158a, q158b, q158c⟩ := isOf hZ rfl cx159
        obtain ⟨_, _, ⟨T158, Lp158, kp158, np158⟩, -, X158, ⟨Lc158, hQ158, l158, y158, z158⟩, st158⟩ := X149.virtualBack hx (y := mt29) (z := mt29) hown (mvT hZ (wd145 hw)) (mvT hZ (wd146 hw)) (notFace_of_selects (args := #[]) (mvT hZ (wd148 hw))) (mvT hZ (wd148 hw)) (mvT hZ (wd147 hw)) (by decide) (backOf (W := 0) (own_hts l Z a0 hw [] b136 zc sb140 dd140 kd140 (own_L7 v0 v1) (21 : Int32) T149.heap n0 O157 zfC cx161 cx160 f149_0 f149_1 f149_2c f149_3c hzc (by first | assumption | exact Ne.symm (by assumption) | omega | exact Nat.ne_of_lt (by omega) | exact Nat.ne_of_gt (by omega) | decide | exact Nat.le_of_ble_eq_true rfl) (by first | assumption | exact Ne.symm (by assumption) | omega | exact Nat.ne_of_lt (by omega) | exact Nat.ne_of_gt (by omega) | decide | exact Nat.le_of_ble_eq_true rfl) (by first | assumption | exact Ne.symm (by assumption) | omega | exact Nat.ne_of_lt (by omega) | exact Nat.ne_of_gt (by omega) | decide | exact Nat.le_of_ble_eq_true rfl) (by first | assumption | exact Ne.symm (by assumption) | omega | exact Nat.ne_of_lt (by omega) | exact Nat.ne_of_gt (by omega) | decide | exact Nat.le_of_ble_eq_true rfl) (by first | assumption | exact Ne.symm (by assumption) | omega | exact Nat.ne_of_lt (by omega) | exact Nat.ne_of_gt (by omega) | decide | exact Nat.le_of_ble_eq_true rfl)) hZ (wd149 hw) (wd42 hw) (by decide) (by decide)) q158a q158c (g := (mkF m 82 #[.val (.int p0), .val (.int p1), .val (.int p2), .val (.int p3), .val (.int nn), .val (.int v0), .val (.int v1), .val (.int v2), .val (.ref b120), .val (.ref b128), .val (.ref b136), .val (.ref b136)] [.ref b136])) rfl (by rw [hml]; rfl) (Steps.refl _) (argsL := []) (rest := []) (lenOf pd___Ljava_lang_String__1777 rfl) rfl (by show 2 * 0 + _ ≤ _; exact Nat.le_of_eq rfl) (hb hby at_82) (fun _ _ => ⟨rfl, rfl, (by decide : 13 + 2 ≤ _), (by decide : 171 + 36 ≤ _)⟩)
        dsimp only [Pt.U, Pt.locs, Pt.cells, Pt.slots] at X158 l158 y158 z158 st158 hQ158
        subst Lp158 kp158 np158
        obtain ⟨x1158, b158, kb158, rfl, N158q, K158q, f158_0, f158_1, f158_2, f158_3⟩ := hQ158
        have N158 := Fr.app N149 N158q
        have sf158 : ∀ x ∈ ([] : List Addr), Safe Z own_EL T149.vm T149.heap x := sf0
        have sz162 : T149.heap.size ≤ T158.heap.size := K158q.1
        have R163 : CHr Z own_EL s.vm h0 T149.vm T158.heap := R156.trans (CHr.keep K158q sf158 R156.1)
        have O164 : Old Z n0 T158.heap := O157.keep K158q all0
        have lt165_x1158 : T158.heap.size > x1158 := f158_0.lt
        have lt166_x1158 : T158.heap.size > x1158 := f158_1.lt
        have lt167_x1158 : T158.heap.size > x1158 := f158_2.lt
        have f158_3c : Arv Z T158.heap b158 kb158 .byte (21 : Int32) (own_L8 v0 v1) (.int 0) := f158_3
        have lt168_b158 : T158.heap.size > b158 := f158_3c.lt
        refine own_tr (S' := T158.setTop (mkF m 85 #[.val (.int p0), .val (.int p1), .val (.int p2), .val (.int p3), .val (.int nn), .val (.int v0), .val (.int v1), .val (.int v2), .val (.ref b120), .val (.ref b128), .val (.ref b136), .val (.ref b136)] [.ref x1158])) st158 ?_
        refine ov T158 87 #[.val (.int p0), .val (.int p1), .val (.int p2), .val (.int p3), .val (.int nn), .val (.int v0), .val (.int v1), .val (.int v2), .val (.ref b120), .val (.ref b128), .val (.ref b136), .val (.ref b136)] [.ref b128, .ref x1158] (fun t k => XS.aload X158.here hx rfl (hb hby at_85) rfl rfl k) ?_
        have hpE : ∀ c ∈ ([60, 33, 68, 79, 67, 84, 89, 80, 69, 32, 104, 116, 109, 108, 62, 10, 60, 47, v0, v1, 62] : List Int32), ¬ c < 0 ∧ ¬ (255 : Int32) < c := by
          intro c hc
          simp only [List.mem_cons, List.not_mem_nil, or_false] at hc
          rcases hc with rfl | rfl | rfl | rfl | rfl | rfl | rfl | rfl | rfl | rfl | rfl | rfl | rfl | rfl | rfl | rfl | rfl | rfl | rfl | rfl | rfl
          · exact by decide
          · exact by decide
          · exact by decide
          · exact by decide
          · exact by decide
          · exact by decide
          · exact by decide
          · exact by decide
          · exact by decide
          · exact by decide
          · exact by decide
          · exact by decide
          · exact by decide
          · exact by decide
          · exact by decide
          · exact by decide
          · exact by decide
          · exact by decide
          · exact rng_v0
          · exact rng_v1
          · exact by decide
        have cx170 : Exa Z T158.heap b128 "java/lang/String" := ((((f128_0.ext E136).keep K140q).keep K149q).keep K158q)
        have cx171 : Exa Z T158.heap b136 "com/example/regent/regent/Html" := (cx159.keep K158q)
        have ne_b128_b136 : b128 ≠ b136 := by first | exact Exa.ne cx170 cx171 (by decide) | exact Nat.ne_of_lt (by omega) | exact Nat.ne_of_gt (by omega)
        have ne_b128_dd140 : b128 ≠ dd140 := by first | exact (Exa.neArv (((f128_0.ext E136).keep K140q).keep K149q) f149_3c (wd5 hw)) | exact Nat.ne_of_lt (by omega) | exact Nat.ne_of_gt (by omega)
        have cx172 : Exa Z T158.heap sb140 "java/lang/StringBuilder" := (cx160.keep K158q)
        have ne_b128_sb140 : b128 ≠ sb140 := by first | exact Exa.ne cx170 cx172 (by decide) | exact Nat.ne_of_lt (by omega) | exact Nat.ne_of_gt (by omega)
        have cx173 : Fld Z T158.heap b128 "java/lang/String" "value" "[B" (.ref tb128) := ((((f128_1.ext E136).keep K140q (ninS ne_b128_b136 nin0)).keep K149q (ninS ne_b128_sb140 (ninS ne_b128_dd140 nin0))).keep K158q nin0)
        have cx174 : Fld Z T158.heap b128 "java/lang/String" "coder" "B" (.int 0) := ((((f128_2.ext E136).keep K140q (ninS ne_b128_b136 nin0)).keep K149q (ninS ne_b128_sb140 (ninS ne_b128_dd140 nin0))).keep K158q nin0)
        have ne_tb128_b136 : tb128 ≠ b136 := by first | exact Nat.ne_of_lt (by omega) | exact Nat.ne_of_gt (by omega)
        have ne_tb128_dd140 : tb128 ≠ dd140 := by first | exact Nat.ne_of_lt (by omega) | exact Nat.ne_of_gt (by omega)
        have ne_tb128_sb140 : tb128 ≠ sb140 := by first | exact Nat.ne_of_lt (by omega) | exact Nat.ne_of_gt (by omega)
        have cx175 : Arv Z T158.heap tb128 kb128 .byte (21 : Int32) [(.int ((60 : Int32).toInt8.toInt32)), (.int ((33 : Int32).toInt8.toInt32)), (.int ((68 : Int32).toInt8.toInt32)), (.int ((79 : Int32).toInt8.toInt32)), (.int ((67 : Int32).toInt8.toInt32)), (.int ((84 : Int32).toInt8.toInt32)), (.int ((89 : Int32).toInt8.toInt32)), (.int ((80 : Int32).toInt8.toInt32)), (.int ((69 : Int32).toInt8.toInt32)), (.int ((32 : Int32).toInt8.toInt32)), (.int ((104 : Int32).toInt8.toInt32)), (.int ((116 : Int32).toInt8.toInt32)), (.int ((109 : Int32).toInt8.toInt32)), (.int ((108 : Int32).toInt8.toInt32)), (.int ((62 : Int32).toInt8.toInt32)), (.int ((10 : Int32).toInt8.toInt32)), (.int ((60 : Int32).toInt8.toInt32)), (.int ((47 : Int32).toInt8.toInt32)), (.int (v0.toInt8.toInt32)), (.int (v1.toInt8.toInt32)), (.int ((62 : Int32).toInt8.toInt32))] (.int 0) := ((((f128_3.ext E136).keep K140q (ninS ne_tb128_b136 nin0)).keep K149q (ninS ne_tb128_sb140 (ninS ne_tb128_dd140 nin0))).keep K158q nin0)
        have hwe169 := own_mwe hw
        have cx176 : Sta Z T158.heap "java/lang/String" "COMPACT_STRINGS" "Z" (.int zc) := zfC.ext O164.2
        obtain ⟨cq169, kq169, q169a, q169b, q169c⟩ := isOf hZ rfl f158_0
        obtain ⟨_, _, ⟨T169, Lp169, kp169, np169⟩, -, X169, ⟨Lc169, hQ169, l169, y169, z169⟩, st169⟩ := X158.virtualBack hx (y := mt32) (z := mt32) hown (mvT hZ (wd191 hw)) (mvT hZ (wd192 hw)) (notFace_of_selects (args := #[]) (mvT hZ (wd194 hw))) (mvT hZ (wd194 hw)) (mvT hZ (wd193 hw)) (by decide) (StrChars.Road.eqW (W := 0) hZ hwe169 (kI := 4) (wd5 hw) f158_0 f158_1 f158_2 f158_3c (StrChars.Road.codOf (cs := ([60, 33, 68, 79, 67, 84, 89, 80, 69, 32, 104, 116, 109, 108, 62, 10, 60, 47, v0, v1, 62] : List Int32)) rfl (fun c hc => (hpE c hc).2)) (own_up ([60, 33, 68, 79, 67, 84, 89, 80, 69, 32, 104, 116, 109, 108, 62, 10, 60, 47, v0, v1, 62] : List Int32) hpE) (by first | decide | exact Nat.le_of_ble_eq_true rfl) cx170 cx173 cx174 cx175 (StrChars.Road.codOf (cs := ([60, 33, 68, 79, 67, 84, 89, 80, 69, 32, 104, 116, 109, 108, 62, 10, 60, 47, v0, v1, 62] : List Int32)) rfl (fun c hc => (hpE c hc).2)) (own_up ([60, 33, 68, 79, 67, 84, 89, 80, 69, 32, 104, 116, 109, 108, 62, 10, 60, 47, v0, v1, 62] : List Int32) hpE) (by first | decide | exact Nat.le_of_ble_eq_true rfl) cx176 hzc (by decide) (by decide)) q169a q169c (g := (mkF m 87 #[.val (.int p0), .val (.int p1), .val (.int p2), .val (.int p3), .val (.int nn), .val (.int v0), .val (.int v1), .val (.int v2), .val (.ref b120), .val (.ref b128), .val (.ref b136), .val (.ref b136)] [.ref b128, .ref x1158])) rfl (by rw [hml]; rfl) (Steps.refl _) (argsL := [.ref b128]) (rest := []) (lenOf pd__Ljava_lang_Object__Z_1835 rfl) rfl (by show 2 * 0 + _ ≤ _; exact Nat.le_of_eq rfl) (hb hby at_87) (fun _ _ => ⟨rfl, rfl, (by decide : 15 + 0 ≤ _), (by decide : 207 + 0 ≤ _)⟩)
        dsimp only [Pt.U, Pt.locs, Pt.cells, Pt.slots] at X169 l169 y169 z169 st169 hQ169
        subst Lp169 kp169 np169
        obtain ⟨hv169, rfl, e169⟩ := hQ169
        obtain ⟨zq169, hzq169, rfl⟩ : ∃ z : Int32, z = (if ([60, 33, 68, 79, 67, 84, 89, 80, 69, 32, 104, 116, 109, 108, 62, 10, 60, 47, v0, v1, 62] : List Int32) = ([60, 33, 68, 79, 67, 84, 89, 80, 69, 32, 104, 116, 109, 108, 62, 10, 60, 47, v0, v1, 62] : List Int32) then (1 : Int32) else (0 : Int32)) ∧ _ = some (Value.int z) := by rcases hv169 with ⟨q1, q2⟩ | ⟨q1, q2⟩; exact ⟨_, (if_pos q2).symm, q1⟩; exact ⟨_, (if_neg q2).symm, q1⟩
        try rw [List.append_nil] at X169
        refine own_tr (S' := T169.setTop (mkF m 90 #[.val (.int p0), .val (.int p1), .val (.int p2), .val (.int p3), .val (.int nn), .val (.int v0), .val (.int v1), .val (.int v2), .val (.ref b120), .val (.ref b128), .val (.ref b136), .val (.ref b136)] [.int zq169])) st169 ?_
        obtain rfl : zq169 = (1 : Int32) := hzq169.trans (if_pos rfl)
        refine ov T169 93 #[.val (.int p0), .val (.int p1), .val (.int p2), .val (.int p3), .val (.int nn), .val (.int v0), .val (.int v1), .val (.int v2), .val (.ref b120), .val (.ref b128), .val (.ref b136), .val (.ref b136)] [] (fun t k => XS.ifNo X169.here hx rfl (hb hby at_90) rfl ((if0 _ _).trans (feq (by decide : ¬ ((1 : Int32) = (0 : Int32)))).1) k) ?_
        refine ov T169 94 #[.val (.int p0), .val (.int p1), .val (.int p2), .val (.int p3), .val (.int nn), .val (.int v0), .val (.int v1), .val (.int v2), .val (.ref b120), .val (.ref b128), .val (.ref b136), .val (.ref b136)] [.int 1] (fun t k => XS.iconst X169.here hx rfl (hb hby at_93) k) ?_
        refine ov T169 98 #[.val (.int p0), .val (.int p1), .val (.int p2), .val (.int p3), .val (.int nn), .val (.int v0), .val (.int v1), .val (.int v2), .val (.ref b120), .val (.ref b128), .val (.ref b136), .val (.ref b136)] [.int 1] (fun t k => XS.goto X169.here hx rfl (pc0 := 94) (pc' := 98) rfl (hb hby at_94) (by decide) (by decide) k) ?_
        have RTR163 : CHr Z own_EL s.vm h0 T169.vm T158.heap := R163.trans (CHv.at X169 hZ hEL R163.1)
        have RXR163 : CHr Z own_EL s.vm s.heap T169.vm T169.heap := by rw [hh, e169]; exact RTR163
        refine own_retW (Q := Q_own_law Z p0 p1 p2 p3 zc h0 n0) (C := room_1.cells) (N := room_1.slots) X169 hSn149 (by rw [e169]; omega) (v := some (.int 1)) (fun h => by rw [Bd.returns] at h; cases h) Bd.notSynchronized ?_ RXR163 (by decide) (by decide) (fun fs hr => retN X169 hx (t := .boolean) Bd.returns (by simp) (hb hby at_98) hr)
        show Q_own_law Z p0 p1 p2 p3 zc h0 n0 _ T169.vm T169.heap _
        rw [e169]
        exact ⟨rfl, N158⟩
      · -- split
        refine ov s₁ 31 #[.val (.int p0), .val (.int p1), .val (.int p2), .val (.int p3), .val (.int nn), .val (.int v0), .val (.int v1), .val (.int v2), .unset, .unset, .unset, .unset] [.int nn] (fun t k => XS.iload X0.here hx rfl (hb hby at_29) rfl k) ?_
        refine ov s₁ 33 #[.val (.int p0), .val (.int p1), .val (.int p2), .val (.int p3), .val (.int nn), .val (.int v0), .val (.int v1), .val (.int v2), .unset, .unset, .unset, .unset] [.int v0, .int nn] (fun t k => XS.iload X0.here hx rfl (hb hby at_31) rfl k) ?_
        refine ov s₁ 35 #[.val (.int p0), .val (.int p1), .val (.int p2), .val (.int p3), .val (.int nn), .val (.int v0), .val (.int v1), .val (.int v2), .unset, .unset, .unset, .unset] [.int v1, .int v0, .int nn] (fun t k => XS.iload X0.here hx rfl (hb hby at_33) rfl k) ?_
        refine ov s₁ 37 #[.val (.int p0), .val (.int p1), .val (.int p2), .val (.int p3), .val (.int nn), .val (.int v0), .val (.int v1), .val (.int v2), .unset, .unset, .unset, .unset] [.int v2, .int v1, .int v0, .int nn] (fun t k => XS.iload X0.here hx rfl (hb hby at_35) rfl k) ?_
        have hk178 : h0.size ≤ s₁.heap.size := by rw [e0]; omega
        obtain ⟨_, _, ⟨T178, Lp178, kp178, np178⟩, -, X178, hS178, hgr178, ⟨Lc178, ⟨hQ178, R178q⟩, l178, y178, z178⟩, st178⟩ := callSS X0 hx (y := mt30) hown (mvT hZ (wd0 hw)) (mvT hZ (wd1 hw)) (mvT hZ (wd2 hw)) (mvT hZ (wd3 hw)) (by decide) (own_backW (SL := []) (W := 0) (own_tag3 l Z a0 hw [] nn v0 v1 v2 zc h0 n0 O0 zfC hzc rng_v0 rng_v1 rng_v2 hs29_1 hs29_60 hs29_119) hZ (wd3 hw) (wd2 hw) (by decide) (by decide) hEL R0.1 all0) (g := (mkF m 37 #[.val (.int p0), .val (.int p1), .val (.int p2), .val (.int p3), .val (.int nn), .val (.int v0), .val (.int v1), .val (.int v2), .unset, .unset, .unset, .unset] [.int v2, .int v1, .int v0, .int nn])) rfl (by rw [hml]; rfl) (argsL := [.int nn, .int v0, .int v1, .int v2]) (rest := []) (lenOf pd__ICCC_Ljava_lang_String__2051 rfl) rfl (by show 2 * 0 + _ ≤ _; exact Nat.le_of_eq rfl) (hb hby at_37) (fun _ _ => ⟨rfl, e0, (by decide : 0 + 3 ≤ _), (by decide : 0 + 10 ≤ _)⟩)
        dsimp only [Pt.U, Pt.locs, Pt.cells, Pt.slots] at X178 l178 y178 z178 st178 hQ178 hS178 hgr178 R178q
        subst Lp178 kp178 np178
        obtain ⟨X178, hSn178, hZ, hown⟩ := rebS hS0 hk178 X178 hS178 hgr178 hZ hown
        obtain ⟨b178, tb178, kb178, rfl, N178q, K178q, f178_0, f178_1, f178_2, f178_3⟩ := hQ178
        have N178 := Fr.app N0 N178q
        have sz179 : h0.size ≤ T178.heap.size := K178q.1
        have R180 : CHr Z own_EL s.vm h0 T178.vm T178.heap := R0.trans R178q
        have O181 : Old Z n0 T178.heap := O0.keep K178q all0
        have lt182_b178 : T178.heap.size > b178 := f178_0.lt
        have lt183_b178 : T178.heap.size > b178 := f178_1.lt
        have lt184_b178 : T178.heap.size > b178 := f178_2.lt
        have lt185_tb178 : T178.heap.size > tb178 := f178_3.lt
        refine own_tr (S' := T178.setTop (mkF m 40 #[.val (.int p0), .val (.int p1), .val (.int p2), .val (.int p3), .val (.int nn), .val (.int v0), .val (.int v1), .val (.int v2), .unset, .unset, .unset, .unset] [.ref b178])) st178 ?_
        refine ov T178 42 #[.val (.int p0), .val (.int p1), .val (.int p2), .val (.int p3), .val (.int nn), .val (.int v0), .val (.int v1), .val (.int v2), .val (.ref b178), .unset, .unset, .unset] [] (fun t k => XS.astore X178.here hx rfl (hb hby at_40) rfl rfl (l' := #[.val (.int p0), .val (.int p1), .val (.int p2), .val (.int p3), .val (.int nn), .val (.int v0), .val (.int v1), .val (.int v2), .val (.ref b178), .unset, .unset, .unset]) rfl k) ?_
        refine ov T178 44 #[.val (.int p0), .val (.int p1), .val (.int p2), .val (.int p3), .val (.int nn), .val (.int v0), .val (.int v1), .val (.int v2), .val (.ref b178), .unset, .unset, .unset] [.int nn] (fun t k => XS.iload X178.here hx rfl (hb hby at_42) rfl k) ?_
        refine ov T178 46 #[.val (.int p0), .val (.int p1), .val (.int p2), .val (.int p3), .val (.int nn), .val (.int v0), .val (.int v1), .val (.int v2), .val (.ref b178), .unset, .unset, .unset] [.int v0, .int nn] (fun t k => XS.iload X178.here hx rfl (hb hby at_44) rfl k) ?_
        refine ov T178 48 #[.val (.int p0), .val (.int p1), .val (.int p2), .val (.int p3), .val (.int nn), .val (.int v0), .val (.int v1), .val (.int v2), .val (.ref b178), .unset, .unset, .unset] [.int v1, .int v0, .int nn] (fun t k => XS.iload X178.here hx rfl (hb hby at_46) rfl k) ?_
        refine ov T178 50 #[.val (.int p0), .val (.int p1), .val (.int p2), .val (.int p3), .val (.int nn), .val (.int v0), .val (.int v1), .val (.int v2), .val (.ref b178), .unset, .unset, .unset] [.int v2, .int v1, .int v0, .int nn] (fun t k => XS.iload X178.here hx rfl (hb hby at_48) rfl k) ?_
        obtain ⟨_, _, ⟨T186, Lp186, kp186, np186⟩, -, X186, ⟨Lc186, hQ186, l186, y186, z186⟩, st186⟩ := Jvm.LawKit.callS X178 hx (y := mt31) hown (mvT hZ (wd26 hw)) (mvT hZ (wd27 hw)) (mvT hZ (wd2 hw)) (mvT hZ (wd28 hw)) (by decide) (backOf (W := 0) (own_exp3 l Z a0 hw [] nn v0 v1 v2 zc T178.heap n0 O181 zfC hzc rng_v0 rng_v1 rng_v2 hs29_1 hs29_60 hs29_119) hZ (wd28 hw) (wd2 hw) (by decide) (by decide)) (g := (mkF m 50 #[.val (.int p0), .val (.int p1), .val (.int p2), .val (.int p3), .val (.int nn), .val (.int v0), .val (.int v1), .val (.int v2), .val (.ref b178), .unset, .unset, .unset] [.int v2, .int v1, .int v0, .int nn])) rfl (by rw [hml]; rfl) (argsL := [.int nn, .int v0, .int v1, .int v2]) (rest := []) (lenOf pd__ICCC_Ljava_lang_String__2051 rfl) rfl (by show 2 * 0 + _ ≤ _; exact Nat.le_of_eq rfl) (hb hby at_50) (fun _ _ => ⟨rfl, rfl, (by decide : 3 + 3 ≤ _), (by decide : 10 + 48 ≤ _)⟩)
        dsimp only [Pt.U, Pt.locs, Pt.cells, Pt.slots] at X186 l186 y186 z186 st186 hQ186
        subst Lp186 kp186 np186
        obtain ⟨b186, tb186, kb186, rfl, N186q, K186q, f186_0, f186_1, f186_2, f186_3⟩ := hQ186
        have N186 := Fr.app N178 N186q
        have sf186 : ∀ x ∈ ([] : List Addr), Safe Z own_EL T178.vm T178.heap x := sf0
        have sz187 : T178.heap.size ≤ T186.heap.size := K186q.1
        have R188 : CHr Z own_EL s.vm h0 T178.vm T186.heap := R180.trans (CHr.keep K186q sf186 R180.1)
        have O189 : Old Z n0 T186.heap := O181.keep K186q all0
        have lt190_b186 : T186.heap.size > b186 := f186_0.lt
        have lt191_b186 : T186.heap.size > b186 := f186_1.lt
        have lt192_b186 : T186.heap.size > b186 := f186_2.lt
        have lt193_tb186 : T186.heap.size > tb186 := f186_3.lt
        refine ov T186 53 #[.val (.int p0), .val (.int p1), .val (.int p2), .val (.int p3), .val (.int nn), .val (.int v0), .val (.int v1), .val (.int v2), .val (.ref b178), .unset, .unset, .unset] [.ref b186] st186 ?_
        refine ov T186 55 #[.val (.int p0), .val (.int p1), .val (.int p2), .val (.int p3), .val (.int nn), .val (.int v0), .val (.int v1), .val (.int v2), .val (.ref b178), .val (.ref b186), .unset, .unset] [] (fun t k => XS.astore X186.here hx rfl (hb hby at_53) rfl rfl (l' := #[.val (.int p0), .val (.int p1), .val (.int p2), .val (.int p3), .val (.int nn), .val (.int v0), .val (.int v1), .val (.int v2), .val (.ref b178), .val (.ref b186), .unset, .unset]) rfl k) ?_
        obtain ⟨T194, h194, X194, e194, E194, A194, D194, -, st194⟩ := newO X186 hx hZ hown (wd40 hw) (wd41 hw) (wd42 hw) rfl (g := (mkF m 55 #[.val (.int p0), .val (.int p1), .val (.int p2), .val (.int p3), .val (.int nn), .val (.int v0), .val (.int v1), .val (.int v2), .val (.ref b178), .val (.ref b186), .unset, .unset] [])) rfl (hb hby at_55) (by decide) (by decide)
        obtain ⟨b194, g194⟩ : ∃ z, z = T186.heap.size := ⟨_, rfl⟩
        rw [← g194] at A194 D194 st194
        have lt_b194 : h194.size > b194 := A194.lt
        have sz195 : T186.heap.size ≤ h194.size := E194.1
        have O196 : Old Z n0 h194 := O189.ext E194
        have R197 : CHr Z own_EL s.vm h0 T178.vm h194 := R188.trans (CHr.ext E194 R188.1)
        have F194_out : Fld Z h194 b194 "com/example/regent/regent/Html" "out" "Ljava/lang/StringBuilder;" .null := D194 (Or.inr (wd119 hw)) (ty := (.object "java/lang/StringBuilder")) (by decide)
        refine ov T194 58 #[.val (.int p0), .val (.int p1), .val (.int p2), .val (.int p3), .val (.int nn), .val (.int v0), .val (.int v1), .val (.int v2), .val (.ref b178), .val (.ref b186), .unset, .unset] [.ref b194] st194 ?_
        refine ov T194 59 #[.val (.int p0), .val (.int p1), .val (.int p2), .val (.int p3), .val (.int nn), .val (.int v0), .val (.int v1), .val (.int v2), .val (.ref b178), .val (.ref b186), .unset, .unset] [.ref b194, .ref b194] (fun t k => XS.dup X194.here hx rfl (hb hby at_58) rfl rfl k) ?_
        have hk198 : T178.heap.size ≤ T194.heap.size := by rw [e194]; omega
        obtain ⟨_, _, ⟨T198, Lp198, kp198, np198⟩, -, X198, hS198, hgr198, ⟨Lc198, ⟨hQ198, R198q⟩, l198, y198, z198⟩, st198⟩ := X194.specialBackS hx (y := mt27) rfl hown (mvT hZ (wd43 hw)) (mvT hZ (wd44 hw)) (mvT hZ (wd45 hw)) (by decide) (own_backW (SL := []) (W := 1) (own_hti l Z a0 hw [] b194 zc h194 n0 O196 zfC A194 F194_out hzc (by first | assumption | exact Ne.symm (by assumption) | omega | exact Nat.ne_of_lt (by omega) | exact Nat.ne_of_gt (by omega) | decide | exact Nat.le_of_ble_eq_true rfl)) hZ (wd45 hw) (wd42 hw) (by decide) (by decide) hEL R197.1 all0) (g := (mkF m 59 #[.val (.int p0), .val (.int p1), .val (.int p2), .val (.int p3), .val (.int nn), .val (.int v0), .val (.int v1), .val (.int v2), .val (.ref b178), .val (.ref b186), .unset, .unset] [.ref b194, .ref b194])) rfl (by rw [hml]; rfl) (Steps.refl _) (a := b194) (argsL := []) (rest := [.ref b194]) (lenOf pd___V_167 rfl) rfl (by show 2 * 0 + _ ≤ _; exact Nat.le_of_eq rfl) (hb hby at_59) (fun _ _ => ⟨rfl, e194, (by decide : 7 + 4 ≤ _), (by decide : 59 + 104 ≤ _)⟩)
        dsimp only [Pt.U, Pt.locs, Pt.cells, Pt.slots] at X198 l198 y198 z198 st198 hQ198 hS198 hgr198 R198q
        subst Lp198 kp198 np198
        obtain ⟨X198, hSn198, hZ, hown⟩ := rebS hSn178 hk198 X198 hS198 hgr198 hZ hown
        obtain ⟨sb198, dd198, kd198, rfl, N198q, K198q, f198_0, f198_1, f198_2, f198_3, f198_4, f198_5, pp198_0, pp198_1, sfp198_0⟩ := hQ198
        have N198 := Fr.app N186 N198q
        have sz199 : h194.size ≤ T198.heap.size := K198q.1
        have R200 : CHr Z own_EL s.vm h0 T198.vm T198.heap := R197.trans R198q
        have O201 : Old Z n0 T198.heap := O196.keep K198q (allS (by omega : n0 ≤ b194) all0)
        have lt202_sb198 : T198.heap.size > sb198 := f198_1.lt
        have lt203_sb198 : T198.heap.size > sb198 := f198_2.lt
        have lt204_sb198 : T198.heap.size > sb198 := f198_3.lt
        have lt205_sb198 : T198.heap.size > sb198 := f198_4.lt
        have lt206_dd198 : T198.heap.size > dd198 := f198_5.lt
        refine own_tr (S' := T198.setTop (mkF m 62 #[.val (.int p0), .val (.int p1), .val (.int p2), .val (.int p3), .val (.int nn), .val (.int v0), .val (.int v1), .val (.int v2), .val (.ref b178), .val (.ref b186), .unset, .unset] [.ref b194])) st198 ?_
        refine ov T198 64 #[.val (.int p0), .val (.int p1), .val (.int p2), .val (.int p3), .val (.int nn), .val (.int v0), .val (.int v1), .val (.int v2), .val (.ref b178), .val (.ref b186), .val (.ref b194), .unset] [] (fun t k => XS.astore X198.here hx rfl (hb hby at_62) rfl rfl (l' := #[.val (.int p0), .val (.int p1), .val (.int p2), .val (.int p3), .val (.int nn), .val (.int v0), .val (.int v1), .val (.int v2), .val (.ref b178), .val (.ref b186), .val (.ref b194), .unset]) rfl k) ?_
        refine ov T198 66 #[.val (.int p0), .val (.int p1), .val (.int p2), .val (.int p3), .val (.int nn), .val (.int v0), .val (.int v1), .val (.int v2), .val (.ref b178), .val (.ref b186), .val (.ref b194), .unset] [.ref b194] (fun t k => XS.aload X198.here hx rfl (hb hby at_64) rfl rfl k) ?_
        refine ov T198 68 #[.val (.int p0), .val (.int p1), .val (.int p2), .val (.int p3), .val (.int nn), .val (.int v0), .val (.int v1), .val (.int v2), .val (.ref b178), .val (.ref b186), .val (.ref b194), .unset] [.ref b178, .ref b194] (fun t k => XS.aload X198.here hx rfl (hb hby at_66) rfl rfl k) ?_
        have cx208 : Exa Z T198.heap b178 "java/lang/String" := (((f178_0.keep K186q).ext E194).keep K198q)
        have cx209 : Exa Z T198.heap b194 "com/example/regent/regent/Html" := (A194.keep K198q)
        have ne_b178_b194 : b178 ≠ b194 := by first | exact Exa.ne cx208 cx209 (by decide) | exact Nat.ne_of_lt (by omega) | exact Nat.ne_of_gt (by omega)
        have cx210 : Fld Z T198.heap b178 "java/lang/String" "coder" "B" (.int 0) := (((f178_2.keep K186q nin0).ext E194).keep K198q (ninS ne_b178_b194 nin0))
        have cx211 : Fld Z T198.heap b178 "java/lang/String" "value" "[B" (.ref tb178) := (((f178_1.keep K186q nin0).ext E194).keep K198q (ninS ne_b178_b194 nin0))
        have ne_tb178_b194 : tb178 ≠ b194 := by first | exact Nat.ne_of_lt (by omega) | exact Nat.ne_of_gt (by omega)
        have cx212 : Arv Z T198.heap tb178 kb178 .byte (3 : Int32) [(.int (v0.toInt8.toInt32)), (.int (v1.toInt8.toInt32)), (.int (v2.toInt8.toInt32))] (.int 0) := (((f178_3.keep K186q nin0).ext E194).keep K198q (ninS ne_tb178_b194 nin0))
        have hk207 : T198.heap.size ≤ T198.heap.size := by omega
        obtain ⟨cq207, kq207, q207a, q207b, q207c⟩ := isOf hZ rfl cx209
        obtain ⟨_, _, ⟨T207, Lp207, kp207, np207⟩, -, X207, hS207, hgr207, ⟨Lc207, ⟨hQ207, R207q⟩, l207, y207, z207⟩, st207⟩ := X198.virtualBackS hx (y := mt28) (z := mt28) hown (mvT hZ (wd120 hw)) (mvT hZ (wd121 hw)) (notFace_of_selects (args := #[]) (mvT hZ (wd123 hw))) (mvT hZ (wd123 hw)) (mvT hZ (wd122 hw)) (by decide) (own_backW (SL := [dd198]) (W := 0) (own_cl l Z a0 hw [] b194 b178 tb178 kb178 (3 : Int32) [(.int (v0.toInt8.toInt32)), (.int (v1.toInt8.toInt32)), (.int (v2.toInt8.toInt32))] zc sb198 dd198 kd198 T198.heap n0 O201 zfC f198_0 f198_1 f198_2 f198_3 f198_4 f198_5 cx208 cx210 cx211 cx212 hzc (by decide) (by first | assumption | exact Ne.symm (by assumption) | omega | exact Nat.ne_of_lt (by omega) | exact Nat.ne_of_gt (by omega) | decide | exact Nat.le_of_ble_eq_true rfl) (by first | assumption | exact Ne.symm (by assumption) | omega | exact Nat.ne_of_lt (by omega) | exact Nat.ne_of_gt (by omega) | decide | exact Nat.le_of_ble_eq_true rfl) (by first | assumption | exact Ne.symm (by assumption) | omega | exact Nat.ne_of_lt (by omega) | exact Nat.ne_of_gt (by omega) | decide | exact Nat.le_of_ble_eq_true rfl)) hZ (wd124 hw) (wd42 hw) (by decide) (by decide) hEL R200.1 (allS (P := fun x => x < T198.heap.size ∧ Safe Z own_EL T198.vm T198.heap x) ⟨own_ltA (by omega), sfp198_0⟩ all0)) q207a q207c (g := (mkF m 68 #[.val (.int p0), .val (.int p1), .val (.int p2), .val (.int p3), .val (.int nn), .val (.int v0), .val (.int v1), .val (.int v2), .val (.ref b178), .val (.ref b186), .val (.ref b194), .unset] [.ref b178, .ref b194])) rfl (by rw [hml]; rfl) (Steps.refl _) (argsL := [.ref b178]) (rest := []) (lenOf pd__Ljava_lang_String__Lcom_example_regent_regent_Html__4862 rfl) rfl (by show 2 * 0 + _ ≤ _; exact Nat.le_of_eq rfl) (hb hby at_68) (fun _ _ => ⟨rfl, rfl, (by decide : 11 + 2 ≤ _), (by decide : 163 + 12 ≤ _)⟩)
        dsimp only [Pt.U, Pt.locs, Pt.cells, Pt.slots] at X207 l207 y207 z207 st207 hQ207 hS207 hgr207 R207q
        subst Lp207 kp207 np207
        obtain ⟨X207, hSn207, hZ, hown⟩ := rebS hSn198 hk207 X207 hS207 hgr207 hZ hown
        obtain ⟨rfl, N207q, K207q, f207_0, f207_1, f207_2, f207_3⟩ := hQ207
        have N207 := Fr.app N198 N207q
        have sz213 : T198.heap.size ≤ T207.heap.size := K207q.1
        have R214 : CHr Z own_EL s.vm h0 T207.vm T207.heap := R200.trans R207q
        have O215 : Old Z n0 T207.heap := O201.keep K207q (allS (by omega : n0 ≤ sb198) (allS (by omega : n0 ≤ dd198) all0))
        have f207_2c : Fld Z T207.heap sb198 "java/lang/AbstractStringBuilder" "count" "I" (.int 22) := f207_2
        have f207_3c : Arv Z T207.heap dd198 kd198 .byte (32 : Int32) (own_L9 v0 v1 v2) (.int 0) := f207_3
        refine own_tr (S' := T207.setTop (mkF m 71 #[.val (.int p0), .val (.int p1), .val (.int p2), .val (.int p3), .val (.int nn), .val (.int v0), .val (.int v1), .val (.int v2), .val (.ref b178), .val (.ref b186), .val (.ref b194), .unset] [.ref b194])) st207 ?_
        refine ov T207 73 #[.val (.int p0), .val (.int p1), .val (.int p2), .val (.int p3), .val (.int nn), .val (.int v0), .val (.int v1), .val (.int v2), .val (.ref b178), .val (.ref b186), .val (.ref b194), .val (.ref b194)] [] (fun t k => XS.astore X207.here hx rfl (hb hby at_71) rfl rfl (l' := #[.val (.int p0), .val (.int p1), .val (.int p2), .val (.int p3), .val (.int nn), .val (.int v0), .val (.int v1), .val (.int v2), .val (.ref b178), .val (.ref b186), .val (.ref b194), .val (.ref b194)]) rfl k) ?_
        refine ov T207 75 #[.val (.int p0), .val (.int p1), .val (.int p2), .val (.int p3), .val (.int nn), .val (.int v0), .val (.int v1), .val (.int v2), .val (.ref b178), .val (.ref b186), .val (.ref b194), .val (.ref b194)] [.ref b194] (fun t k => XS.aload X207.here hx rfl (hb hby at_73) rfl rfl k) ?_
        refine ov T207 77 #[.val (.int p0), .val (.int p1), .val (.int p2), .val (.int p3), .val (.int nn), .val (.int v0), .val (.int v1), .val (.int v2), .val (.ref b178), .val (.ref b186), .val (.ref b194), .val (.ref b194)] [.ref b194, .ref b194] (fun t k => XS.aload X207.here hx rfl (hb hby at_75) rfl rfl k) ?_
        refine ov T207 80 #[.val (.int p0), .val (.int p1), .val (.int p2), .val (.int p3), .val (.int nn), .val (.int v0), .val (.int v1), .val (.int v2), .val (.ref b178), .val (.ref b186), .val (.ref b194), .val (.ref b194)] [] (fun t k => Jvm.RoadKit.acmp (g := (mkF m 77 #[.val (.int p0), .val (.int p1), .val (.int p2), .val (.int p3), .val (.int nn), .val (.int v0), .val (.int v1), .val (.int v2), .val (.ref b178), .val (.ref b186), .val (.ref b194), .val (.ref b194)] [.ref b194, .ref b194])) X207 hx rfl rfl rfl (pc0 := 77) (pc' := 80) (same := true) rfl (hb hby at_77) rfl (decide_eq_true rfl) (by decide) (by decide) k) ?_
        refine ov T207 82 #[.val (.int p0), .val (.int p1), .val (.int p2), .val (.int p3), .val (.int nn), .val (.int v0), .val (.int v1), .val (.int v2), .val (.ref b178), .val (.ref b186), .val (.ref b194), .val (.ref b194)] [.ref b194] (fun t k => XS.aload X207.here hx rfl (hb hby at_80) rfl rfl k) ?_
        have ne_b194_dd198 : b194 ≠ dd198 := by first | exact (Exa.neArv (cx209.keep K207q) f207_3c (wd41 hw)) | exact Nat.ne_of_lt (by omega) | exact Nat.ne_of_gt (by omega)
        have cx217 : Exa Z T207.heap b194 "com/example/regent/regent/Html" := (cx209.keep K207q)
        have cx218 : Exa Z T207.heap sb198 "java/lang/StringBuilder" := (f198_1.keep K207q)
        have ne_b194_sb198 : b194 ≠ sb198 := by first | exact Exa.ne cx217 cx218 (by decide) | exact Nat.ne_of_lt (by omega) | exact Nat.ne_of_gt (by omega)
        have cx219 : Fld Z T207.heap b194 "com/example/regent/regent/Html" "out" "Ljava/lang/StringBuilder;" (.ref sb198) := (f198_0.keep K207q (ninS ne_b194_sb198 (ninS ne_b194_dd198 nin0)))
        obtain ⟨cq216, kq216, q216a, q216b, q216c⟩ := isOf hZ rfl cx217
        obtain ⟨_, _, ⟨T216, Lp216, kp216, np216⟩, -, X216, ⟨Lc216, hQ216, l216, y216, z216⟩, st216⟩ := X207.virtualBack hx (y := mt29) (z := mt29) hown (mvT hZ (wd145 hw)) (mvT hZ (wd146 hw)) (notFace_of_selects (args := #[]) (mvT hZ (wd148 hw))) (mvT hZ (wd148 hw)) (mvT hZ (wd147 hw)) (by decide) (backOf (W := 0) (own_hts l Z a0 hw [] b194 zc sb198 dd198 kd198 (own_L9 v0 v1 v2) (22 : Int32) T207.heap n0 O215 zfC cx219 cx218 f207_0 f207_1 f207_2c f207_3c hzc (by first | assumption | exact Ne.symm (by assumption) | omega | exact Nat.ne_of_lt (by omega) | exact Nat.ne_of_gt (by omega) | decide | exact Nat.le_of_ble_eq_true rfl) (by first | assumption | exact Ne.symm (by assumption) | omega | exact Nat.ne_of_lt (by omega) | exact Nat.ne_of_gt (by omega) | decide | exact Nat.le_of_ble_eq_true rfl) (by first | assumption | exact Ne.symm (by assumption) | omega | exact Nat.ne_of_lt (by omega) | exact Nat.ne_of_gt (by omega) | decide | exact Nat.le_of_ble_eq_true rfl) (by first | assumption | exact Ne.symm (by assumption) | omega | exact Nat.ne_of_lt (by omega) | exact Nat.ne_of_gt (by omega) | decide | exact Nat.le_of_ble_eq_true rfl) (by first | assumption | exact Ne.symm (by assumption) | omega | exact Nat.ne_of_lt (by omega) | exact Nat.ne_of_gt (by omega) | decide | exact Nat.le_of_ble_eq_true rfl)) hZ (wd149 hw) (wd42 hw) (by decide) (by decide)) q216a q216c (g := (mkF m 82 #[.val (.int p0), .val (.int p1), .val (.int p2), .val (.int p3), .val (.int nn), .val (.int v0), .val (.int v1), .val (.int v2), .val (.ref b178), .val (.ref b186), .val (.ref b194), .val (.ref b194)] [.ref b194])) rfl (by rw [hml]; rfl) (Steps.refl _) (argsL := []) (rest := []) (lenOf pd___Ljava_lang_String__1777 rfl) rfl (by show 2 * 0 + _ ≤ _; exact Nat.le_of_eq rfl) (hb hby at_82) (fun _ _ => ⟨rfl, rfl, (by decide : 13 + 2 ≤ _), (by decide : 175 + 36 ≤ _)⟩)
        dsimp only [Pt.U, Pt.locs, Pt.cells, Pt.slots] at X216 l216 y216 z216 st216 hQ216
        subst Lp216 kp216 np216
        obtain ⟨x1216, b216, kb216, rfl, N216q, K216q, f216_0, f216_1, f216_2, f216_3⟩ := hQ216
        have N216 := Fr.app N207 N216q
        have sf216 : ∀ x ∈ ([] : List Addr), Safe Z own_EL T207.vm T207.heap x := sf0
        have sz220 : T207.heap.size ≤ T216.heap.size := K216q.1
        have R221 : CHr Z own_EL s.vm h0 T207.vm T216.heap := R214.trans (CHr.keep K216q sf216 R214.1)
        have O222 : Old Z n0 T216.heap := O215.keep K216q all0
        have lt223_x1216 : T216.heap.size > x1216 := f216_0.lt
        have lt224_x1216 : T216.heap.size > x1216 := f216_1.lt
        have lt225_x1216 : T216.heap.size > x1216 := f216_2.lt
        have f216_3c : Arv Z T216.heap b216 kb216 .byte (22 : Int32) (own_L10 v0 v1 v2) (.int 0) := f216_3
        have lt226_b216 : T216.heap.size > b216 := f216_3c.lt
        refine own_tr (S' := T216.setTop (mkF m 85 #[.val (.int p0), .val (.int p1), .val (.int p2), .val (.int p3), .val (.int nn), .val (.int v0), .val (.int v1), .val (.int v2), .val (.ref b178), .val (.ref b186), .val (.ref b194), .val (.ref b194)] [.ref x1216])) st216 ?_
        refine ov T216 87 #[.val (.int p0), .val (.int p1), .val (.int p2), .val (.int p3), .val (.int nn), .val (.int v0), .val (.int v1), .val (.int v2), .val (.ref b178), .val (.ref b186), .val (.ref b194), .val (.ref b194)] [.ref b186, .ref x1216] (fun t k => XS.aload X216.here hx rfl (hb hby at_85) rfl rfl k) ?_
        have hpE : ∀ c ∈ ([60, 33, 68, 79, 67, 84, 89, 80, 69, 32, 104, 116, 109, 108, 62, 10, 60, 47, v0, v1, v2, 62] : List Int32), ¬ c < 0 ∧ ¬ (255 : Int32) < c := by
          intro c hc
          simp only [List.mem_cons, List.not_mem_nil, or_false] at hc
          rcases hc with rfl | rfl | rfl | rfl | rfl | rfl | rfl | rfl | rfl | rfl | rfl | rfl | rfl | rfl | rfl | rfl | rfl | rfl | rfl | rfl | rfl | rfl
          · exact by decide
          · exact by decide
          · exact by decide
          · exact by decide
          · exact by decide
          · exact by decide
          · exact by decide
          · exact by decide
          · exact by decide
          · exact by decide
          · exact by decide
          · exact by decide
          · exact by decide
          · exact by decide
          · exact by decide
          · exact by decide
          · exact by decide
          · exact by decide
          · exact rng_v0
          · exact rng_v1
          · exact rng_v2
          · exact by decide
        have cx228 : Exa Z T216.heap b186 "java/lang/String" := ((((f186_0.ext E194).keep K198q).keep K207q).keep K216q)
        have cx229 : Exa Z T216.heap b194 "com/example/regent/regent/Html" := (cx217.keep K216q)
        have ne_b186_b194 : b186 ≠ b194 := by first | exact Exa.ne cx228 cx229 (by decide) | exact Nat.ne_of_lt (by omega) | exact Nat.ne_of_gt (by omega)
        have ne_b186_dd198 : b186 ≠ dd198 := by first | exact (Exa.neArv (((f186_0.ext E194).keep K198q).keep K207q) f207_3c (wd5 hw)) | exact Nat.ne_of_lt (by omega) | exact Nat.ne_of_gt (by omega)
        have cx230 : Exa Z T216.heap sb198 "java/lang/StringBuilder" := (cx218.keep K216q)
        have ne_b186_sb198 : b186 ≠ sb198 := by first | exact Exa.ne cx228 cx230 (by decide) | exact Nat.ne_of_lt (by omega) | exact Nat.ne_of_gt (by omega)
        have cx231 : Fld Z T216.heap b186 "java/lang/String" "value" "[B" (.ref tb186) := ((((f186_1.ext E194).keep K198q (ninS ne_b186_b194 nin0)).keep K207q (ninS ne_b186_sb198 (ninS ne_b186_dd198 nin0))).keep K216q nin0)
        have cx232 : Fld Z T216.heap b186 "java/lang/String" "coder" "B" (.int 0) := ((((f186_2.ext E194).keep K198q (ninS ne_b186_b194 nin0)).keep K207q (ninS ne_b186_sb198 (ninS ne_b186_dd198 nin0))).keep K216q nin0)
        have ne_tb186_b194 : tb186 ≠ b194 := by first | exact Nat.ne_of_lt (by omega) | exact Nat.ne_of_gt (by omega)
        have ne_tb186_dd198 : tb186 ≠ dd198 := by first | exact Nat.ne_of_lt (by omega) | exact Nat.ne_of_gt (by omega)
        have ne_tb186_sb198 : tb186 ≠ sb198 := by first | exact Nat.ne_of_lt (by omega) | exact Nat.ne_of_gt (by omega)
        have cx233 : Arv Z T216.heap tb186 kb186 .byte (22 : Int32) [(.int ((60 : Int32).toInt8.toInt32)), (.int ((33 : Int32).toInt8.toInt32)), (.int ((68 : Int32).toInt8.toInt32)), (.int ((79 : Int32).toInt8.toInt32)), (.int ((67 : Int32).toInt8.toInt32)), (.int ((84 : Int32).toInt8.toInt32)), (.int ((89 : Int32).toInt8.toInt32)), (.int ((80 : Int32).toInt8.toInt32)), (.int ((69 : Int32).toInt8.toInt32)), (.int ((32 : Int32).toInt8.toInt32)), (.int ((104 : Int32).toInt8.toInt32)), (.int ((116 : Int32).toInt8.toInt32)), (.int ((109 : Int32).toInt8.toInt32)), (.int ((108 : Int32).toInt8.toInt32)), (.int ((62 : Int32).toInt8.toInt32)), (.int ((10 : Int32).toInt8.toInt32)), (.int ((60 : Int32).toInt8.toInt32)), (.int ((47 : Int32).toInt8.toInt32)), (.int (v0.toInt8.toInt32)), (.int (v1.toInt8.toInt32)), (.int (v2.toInt8.toInt32)), (.int ((62 : Int32).toInt8.toInt32))] (.int 0) := ((((f186_3.ext E194).keep K198q (ninS ne_tb186_b194 nin0)).keep K207q (ninS ne_tb186_sb198 (ninS ne_tb186_dd198 nin0))).keep K216q nin0)
        have hwe227 := own_mwe hw
        have cx234 : Sta Z T216.heap "java/lang/String" "COMPACT_STRINGS" "Z" (.int zc) := zfC.ext O222.2
        obtain ⟨cq227, kq227, q227a, q227b, q227c⟩ := isOf hZ rfl f216_0
        obtain ⟨_, _, ⟨T227, Lp227, kp227, np227⟩, -, X227, ⟨Lc227, hQ227, l227, y227, z227⟩, st227⟩ := X216.virtualBack hx (y := mt32) (z := mt32) hown (mvT hZ (wd191 hw)) (mvT hZ (wd192 hw)) (notFace_of_selects (args := #[]) (mvT hZ (wd194 hw))) (mvT hZ (wd194 hw)) (mvT hZ (wd193 hw)) (by decide) (StrChars.Road.eqW (W := 0) hZ hwe227 (kI := 4) (wd5 hw) f216_0 f216_1 f216_2 f216_3c (StrChars.Road.codOf (cs := ([60, 33, 68, 79, 67, 84, 89, 80, 69, 32, 104, 116, 109, 108, 62, 10, 60, 47, v0, v1, v2, 62] : List Int32)) rfl (fun c hc => (hpE c hc).2)) (own_up ([60, 33, 68, 79, 67, 84, 89, 80, 69, 32, 104, 116, 109, 108, 62, 10, 60, 47, v0, v1, v2, 62] : List Int32) hpE) (by first | decide | exact Nat.le_of_ble_eq_true rfl) cx228 cx231 cx232 cx233 (StrChars.Road.codOf (cs := ([60, 33, 68, 79, 67, 84, 89, 80, 69, 32, 104, 116, 109, 108, 62, 10, 60, 47, v0, v1, v2, 62] : List Int32)) rfl (fun c hc => (hpE c hc).2)) (own_up ([60, 33, 68, 79, 67, 84, 89, 80, 69, 32, 104, 116, 109, 108, 62, 10, 60, 47, v0, v1, v2, 62] : List Int32) hpE) (by first | decide | exact Nat.le_of_ble_eq_true rfl) cx234 hzc (by decide) (by decide)) q227a q227c (g := (mkF m 87 #[.val (.int p0), .val (.int p1), .val (.int p2), .val (.int p3), .val (.int nn), .val (.int v0), .val (.int v1), .val (.int v2), .val (.ref b178), .val (.ref b186), .val (.ref b194), .val (.ref b194)] [.ref b186, .ref x1216])) rfl (by rw [hml]; rfl) (Steps.refl _) (argsL := [.ref b186]) (rest := []) (lenOf pd__Ljava_lang_Object__Z_1835 rfl) rfl (by show 2 * 0 + _ ≤ _; exact Nat.le_of_eq rfl) (hb hby at_87) (fun _ _ => ⟨rfl, rfl, (by decide : 15 + 0 ≤ _), (by decide : 211 + 0 ≤ _)⟩)
        dsimp only [Pt.U, Pt.locs, Pt.cells, Pt.slots] at X227 l227 y227 z227 st227 hQ227
        subst Lp227 kp227 np227
        obtain ⟨hv227, rfl, e227⟩ := hQ227
        obtain ⟨zq227, hzq227, rfl⟩ : ∃ z : Int32, z = (if ([60, 33, 68, 79, 67, 84, 89, 80, 69, 32, 104, 116, 109, 108, 62, 10, 60, 47, v0, v1, v2, 62] : List Int32) = ([60, 33, 68, 79, 67, 84, 89, 80, 69, 32, 104, 116, 109, 108, 62, 10, 60, 47, v0, v1, v2, 62] : List Int32) then (1 : Int32) else (0 : Int32)) ∧ _ = some (Value.int z) := by rcases hv227 with ⟨q1, q2⟩ | ⟨q1, q2⟩; exact ⟨_, (if_pos q2).symm, q1⟩; exact ⟨_, (if_neg q2).symm, q1⟩
        try rw [List.append_nil] at X227
        refine own_tr (S' := T227.setTop (mkF m 90 #[.val (.int p0), .val (.int p1), .val (.int p2), .val (.int p3), .val (.int nn), .val (.int v0), .val (.int v1), .val (.int v2), .val (.ref b178), .val (.ref b186), .val (.ref b194), .val (.ref b194)] [.int zq227])) st227 ?_
        obtain rfl : zq227 = (1 : Int32) := hzq227.trans (if_pos rfl)
        refine ov T227 93 #[.val (.int p0), .val (.int p1), .val (.int p2), .val (.int p3), .val (.int nn), .val (.int v0), .val (.int v1), .val (.int v2), .val (.ref b178), .val (.ref b186), .val (.ref b194), .val (.ref b194)] [] (fun t k => XS.ifNo X227.here hx rfl (hb hby at_90) rfl ((if0 _ _).trans (feq (by decide : ¬ ((1 : Int32) = (0 : Int32)))).1) k) ?_
        refine ov T227 94 #[.val (.int p0), .val (.int p1), .val (.int p2), .val (.int p3), .val (.int nn), .val (.int v0), .val (.int v1), .val (.int v2), .val (.ref b178), .val (.ref b186), .val (.ref b194), .val (.ref b194)] [.int 1] (fun t k => XS.iconst X227.here hx rfl (hb hby at_93) k) ?_
        refine ov T227 98 #[.val (.int p0), .val (.int p1), .val (.int p2), .val (.int p3), .val (.int nn), .val (.int v0), .val (.int v1), .val (.int v2), .val (.ref b178), .val (.ref b186), .val (.ref b194), .val (.ref b194)] [.int 1] (fun t k => XS.goto X227.here hx rfl (pc0 := 94) (pc' := 98) rfl (hb hby at_94) (by decide) (by decide) k) ?_
        have RTR221 : CHr Z own_EL s.vm h0 T227.vm T216.heap := R221.trans (CHv.at X227 hZ hEL R221.1)
        have RXR221 : CHr Z own_EL s.vm s.heap T227.vm T227.heap := by rw [hh, e227]; exact RTR221
        refine own_retW (Q := Q_own_law Z p0 p1 p2 p3 zc h0 n0) (C := room_1.cells) (N := room_1.slots) X227 hSn207 (by rw [e227]; omega) (v := some (.int 1)) (fun h => by rw [Bd.returns] at h; cases h) Bd.notSynchronized ?_ RXR221 (by decide) (by decide) (fun fs hr => retN X227 hx (t := .boolean) Bd.returns (by simp) (hb hby at_98) hr)
        show Q_own_law Z p0 p1 p2 p3 zc h0 n0 _ T227.vm T227.heap _
        rw [e227]
        exact ⟨rfl, N216⟩
set_option maxRecDepth 65536 in
set_option maxHeartbeats 40000000 in
theorem comes_1 {Post : Tables → Env → Array Value → State → Outcome → State → Prop} (hpost : ∀ tb e args s v u, (limb_1_1.after args s (.returned v) u = true ∧ limb_1_2.after args s (.returned v) u = true ∧ True) → ReturnedEndW s (.returned v) u (Jvm.fieldLocs frame_1_writes args s ++ Jvm.arrayLocs frame_1_arrays args s ++ Jvm.staticLocs frame_1_statics s) 40 3392 → Post tb e args s (.returned v) u) :
    ArmFor flags0 classFile x code maxLocals ret World_1 tables_1 room_1 Calls_1 rest_1 Pre_1 Post := by
  intro l hfl _ _ p e ha hc hk s m args below hf hA hF happ hP
  obtain ⟨hcalls, hrest, hpre⟩ := hP
  obtain ⟨-, -, -, hnamed, -, -, -, hat⟩ := (Spec.applies_iff hf).mp happ
  obtain ⟨hg, hn⟩ := and_e (Cond.before_iff.mp (show (Jvm.Cond.and given_1 narrow_1).before args s = true from hpre))
  obtain ⟨hcount, hg⟩ := and_e hg
  obtain ⟨hg0, hg⟩ := and_e hg
  obtain ⟨hg1, hg⟩ := and_e hg
  obtain ⟨hg2, hg⟩ := and_e hg
  have hg3 := hg
  obtain ⟨w0, w1, w2, w3, rfl⟩ : ∃ w0 w1 w2 w3 : Value, args = #[w0, w1, w2, w3] := by
    have hs : args.size = 4 := by simpa [Cond.value, given_1] using hcount
    obtain ⟨L⟩ := args
    match L, hs with
    | [w0, w1, w2, w3], _ => exact ⟨w0, w1, w2, w3, rfl⟩
  have hw := fun d (hd : d ∈ tables_1) => atoms_spec (ws := Jvm.Cond.code x code maxLocals ret :: tables_1) hat d (List.mem_cons_of_mem _ hd)
  have hfit : Fit s := fun {y c} hc i hi => by
    obtain ⟨ha, rfl⟩ := Array.getElem?_eq_some_iff.mp hc
    have q := List.all_eq_true.mp ((Array.all_eq_true_iff_forall_mem.mp hF) _ (Array.getElem_mem ha)) i (List.mem_range.mpr hi)
    simpa [Array.getElem?_eq_getElem hi] using q
  obtain ⟨hsets, hown0⟩ := atoms_of _ (rest_1_c_eq ▸ (show rest_1_c.before _ s = true from hrest))
  have hr0 := Cond.before_iff.mp hown0
  obtain ⟨i0, ei0⟩ := is_v hg0
  obtain rfl : w0 = (.int i0) := Option.some.inj ei0
  obtain ⟨i1, ei1⟩ := is_v hg1
  obtain rfl : w1 = (.int i1) := Option.some.inj ei1
  obtain ⟨i2, ei2⟩ := is_v hg2
  obtain rfl : w2 = (.int i2) := Option.some.inj ei2
  obtain ⟨i3, ei3⟩ := is_v hg3
  obtain rfl : w3 = (.int i3) := Option.some.inj ei3
  obtain ⟨zc, ez⟩ := is_v (Cond.before_iff.mp (hsets _ (List.mem_of_getElem? (i := 1) rfl)))
  have S_zc : Sta s s.heap "java/lang/String" "COMPACT_STRINGS" "Z" (.int zc) := Sta.start ez (Or.inl (hsets _ (List.mem_of_getElem? (i := 0) rfl)))
  have hzc : ¬ (zc = (0 : Int32)) := gotF (Cond.eq_ints ez (Term.int_eval (0))) (not_v (Cond.before_iff.mp (hsets _ (List.mem_of_getElem? (i := 2) rfl))))
  have hEL := own_EW hw
  have hCH : CHv s own_EL s.vm s.heap := CHv.start hEL hcalls.1 (hsets _ (List.mem_of_getElem? (i := 2) rfl)) (wd19 hw) (wd5 hw)
  obtain ⟨n, o, h1, h2, h3, _, L, rfl, ⟨rfl, N⟩, -, hq⟩ := own_law l s _ hw tables_1 i0 i1 i2 i3 zc s.heap s.heap.size (Old.start s) S_zc hzc p e ha hc hk s m _ below hf ((Spec.applies_iff_loose hf).mp happ).1 ⟨rfl, State.Warmed39.refl s, rfl, hCH, fun _ q => nomatch q⟩ trivial
  refine ⟨n, _, h1, h2, h3, hpost _ _ _ _ _ _ ⟨Cond.after_iff.mpr rfl, Cond.after_iff.mpr (eq_i res_at (Term.int_eval (1)) rfl), trivial⟩ ⟨hq.1, hq.2.1, hq.2.2.1, (hq.2.2.2.sift fun y hy => Or.inr (N y hy)).mono (by decide) (by decide)⟩⟩
theorem main_1_1 : Claimed_1_1 := comes_1 fun _ _ _ _ _ _ h hF => ⟨h.1, hF⟩
theorem main_1_2 : Claimed_1_2 := comes_1 fun _ _ _ _ _ _ h hF => ⟨h.2.1, hF⟩
end Jvm.Pilot.@@N@@
namespace Jvm.Pilot.@@N@@
open Jvm Jvm.ClassFile Sem Op Lib Jvm.Free Jvm.Stand Jvm.Pilot.@@N@@.Jvm.D
/-! MADE BY PROGRAM (witnessworld.py) out of the Statement's table words and the real class files: 26 classes; the members and pool entries that the words name. The judged class is class 1, her method 1. -/
namespace start1
open Jvm.ClassFile
def u (s : String) : CpInfo := .utf8 (stringToUtf16 s)
/-- a pool by its gaps: so many unusable entries, then the entry; so many at the end -/
def gap : Nat → List CpInfo → List CpInfo
  | 0, r => r
  | n + 1, r => .unusable :: gap n r
def poolList (es : List (Nat × CpInfo)) (last : Nat) : List CpInfo := es.foldr (fun e r => gap e.1 (e.2 :: r)) (gap last [])
def pool (es : List (Nat × CpInfo)) (last : Nat) : Array CpInfo := ⟨poolList es last⟩
def fileOf (pool : Array CpInfo) (this : Nat) (attrs : Array Attribute := #[]) (ms : Array MethodInfo := #[]) (fl : Nat := 33) (sup : Nat := 0) (ifs : Array Nat := #[]) (fds : Array FieldInfo := #[]) : ClassFile where
  minorVersion := 0
  majorVersion := 65
  constantPool := pool
  accessFlags := fl
  thisClass := this
  superClass := sup
  interfaces := ifs
  fields := fds
  methods := ms
  attributes := attrs
def plain (name : String) (sup : Option ClassId) : Class where
  name := name
  kind := .ordinary
  loader := none
  accessFlags := 33
  super := sup
  interfaces := #[]
  cf := none
  fields := #[]
  methods := #[]
  instanceTypes := #[]
  staticTypes := #[]
  resolved := #[]
  callSites := []
  init := .initialized
  statics := none
  mirror := none

def pool0 : Array CpInfo := pool [(5, u "<init>"), (0, u "()V"), (1, .class_ 10), (1, u "java/lang/Object")] 113

def k0c0 : Code := { maxStack := 0, maxLocals := 1, code := object_method_1_code, exceptionTable := #[], attributes := #[] }
def k0m0 : Method := { name := "<init>", desc := "()V", sig := { parameters := [], returnType := none }, accessFlags := 1, code := some k0c0 }
/-- java/lang/Object -/
def k0 : Class := { plain "java/lang/Object" none with
  accessFlags := 33
  interfaces := #[]
  cf := some (fileOf pool0 8 #[] #[{ accessFlags := 1, nameIndex := 5, descriptorIndex := 6, attributes := #[] }] 33 0 #[] #[])
  fields := #[]
  methods := #[k0m0]
  instanceTypes := #[]
  staticTypes := #[]
  resolved := Array.replicate 124 none
  statics := none }

def pool1 : Array CpInfo := pool [(2, .class_ 4), (0, .nameAndType 5 6), (0, u "java/lang/Object"), (0, u "<init>"), (0, u "()V"), (0, .methodref 8 9), (0, .class_ 10), (0, .nameAndType 11 12), (0, u "com/example/regent/regent/HtmlClosePinLaw"), (0, u "tag"), (0, u "(ICCC)Ljava/lang/String;"), (0, .methodref 8 14), (0, .nameAndType 15 12), (0, u "expected"), (0, .class_ 17), (0, u "com/example/regent/regent/Html"), (0, .methodref 16 3), (0, .methodref 16 20), (0, .nameAndType 21 22), (0, u "close"), (0, u "(Ljava/lang/String;)Lcom/example/regent/regent/Html;"), (0, .methodref 16 24), (0, .nameAndType 25 26), (0, u "toString"), (0, u "()Ljava/lang/String;"), (0, .methodref 28 29), (0, .class_ 30), (0, .nameAndType 31 32), (0, u "java/lang/String"), (0, u "equals"), (0, u "(Ljava/lang/Object;)Z"), (0, .methodref 28 34), (0, .nameAndType 5 35), (0, u "([C)V"), (2, u "law"), (0, u "(IIII)Z")] 3

def k1m0 : Method := { name := "<init>", desc := "()V", sig := { parameters := [], returnType := none }, accessFlags := 2, code := none }
def k1c1 : Code := { maxStack := 4, maxLocals := 12, code := code, exceptionTable := #[], attributes := #[] }
def k1m1 : Method := { name := "law", desc := "(IIII)Z", sig := { parameters := [.int, .int, .int, .int], returnType := some .boolean }, accessFlags := 9, code := some k1c1 }
def k1c2 : Code := { maxStack := 6, maxLocals := 4, code := method_3_code, exceptionTable := #[], attributes := #[] }
def k1m2 : Method := { name := "tag", desc := "(ICCC)Ljava/lang/String;", sig := { parameters := [.int, .char, .char, .char], returnType := some (.object "java/lang/String") }, accessFlags := 10, code := some k1c2 }
def k1c3 : Code := { maxStack := 6, maxLocals := 4, code := method_4_code, exceptionTable := #[], attributes := #[] }
def k1m3 : Method := { name := "expected", desc := "(ICCC)Ljava/lang/String;", sig := { parameters := [.int, .char, .char, .char], returnType := some (.object "java/lang/String") }, accessFlags := 10, code := some k1c3 }
/-- com/example/regent/regent/HtmlClosePinLaw -/
def k1 : Class := { plain "com/example/regent/regent/HtmlClosePinLaw" (some 0) with
  accessFlags := 49
  interfaces := #[]
  cf := some (fileOf pool1 8 #[] #[{ accessFlags := 2, nameIndex := 5, descriptorIndex := 6, attributes := #[] }, { accessFlags := 9, nameIndex := 38, descriptorIndex := 39, attributes := #[] }, { accessFlags := 10, nameIndex := 11, descriptorIndex := 12, attributes := #[] }, { accessFlags := 10, nameIndex := 15, descriptorIndex := 12, attributes := #[] }] 49 2 #[] #[])
  fields := #[]
  methods := #[k1m0, k1m1, k1m2, k1m3]
  instanceTypes := #[]
  staticTypes := #[]
  resolved := Array.replicate 43 none
  statics := none }

def pool2 : Array CpInfo := pool [(1, .class_ 2), (0, u "java/io/Serializable"), (0, .class_ 4), (0, u "java/lang/Object")] 2

/-- java/io/Serializable -/
def k2 : Class := { plain "java/io/Serializable" (some 0) with
  accessFlags := 1537
  interfaces := #[]
  cf := some (fileOf pool2 1 #[] #[] 1537 3 #[] #[])
  fields := #[]
  methods := #[]
  instanceTypes := #[]
  staticTypes := #[]
  resolved := Array.replicate 7 none
  statics := none }

def pool3 : Array CpInfo := pool [(1, .class_ 2), (0, u "java/lang/Comparable"), (0, .class_ 4), (0, u "java/lang/Object")] 7

/-- java/lang/Comparable -/
def k3 : Class := { plain "java/lang/Comparable" (some 0) with
  accessFlags := 1537
  interfaces := #[]
  cf := some (fileOf pool3 1 #[] #[] 1537 3 #[] #[])
  fields := #[]
  methods := #[]
  instanceTypes := #[]
  staticTypes := #[]
  resolved := Array.replicate 12 none
  statics := none }

def pool4 : Array CpInfo := pool [(2, .class_ 4), (1, u "java/lang/CharSequence"), (42, .class_ 48), (0, u "java/lang/CharSequence$1CodePointIterator"), (10, .class_ 60), (0, u "java/lang/CharSequence$1CharIterator"), (5, .class_ 67), (0, u "java/lang/Object")] 63

/-- java/lang/CharSequence -/
def k4 : Class := { plain "java/lang/CharSequence" (some 0) with
  accessFlags := 1537
  interfaces := #[]
  cf := some (fileOf pool4 2 #[.nestMembers #[47, 59]] #[] 1537 66 #[] #[])
  fields := #[]
  methods := #[]
  instanceTypes := #[]
  staticTypes := #[]
  resolved := Array.replicate 131 none
  statics := none }

def pool5 : Array CpInfo := pool [(1, .class_ 2), (0, u "java/lang/constant/Constable"), (0, .class_ 4), (0, u "java/lang/Object")] 6

/-- java/lang/constant/Constable -/
def k5 : Class := { plain "java/lang/constant/Constable" (some 0) with
  accessFlags := 1537
  interfaces := #[]
  cf := some (fileOf pool5 1 #[] #[] 1537 3 #[] #[])
  fields := #[]
  methods := #[]
  instanceTypes := #[]
  staticTypes := #[]
  resolved := Array.replicate 11 none
  statics := none }

def pool6 : Array CpInfo := pool [(1, .class_ 2), (0, u "java/lang/constant/ConstantDesc"), (0, .class_ 4), (0, u "java/lang/Object")] 32

/-- java/lang/constant/ConstantDesc -/
def k6 : Class := { plain "java/lang/constant/ConstantDesc" (some 0) with
  accessFlags := 1537
  interfaces := #[]
  cf := some (fileOf pool6 1 #[] #[] 1537 3 #[] #[])
  fields := #[]
  methods := #[]
  instanceTypes := #[]
  staticTypes := #[]
  resolved := Array.replicate 37 none
  statics := none }

def pool7 : Array CpInfo := pool [(1, .methodref 2 3), (0, .class_ 4), (0, .nameAndType 5 6), (0, u "java/lang/Object"), (0, u "<init>"), (0, u "()V"), (0, .string 8), (0, u ""), (0, .fieldref 10 11), (0, .class_ 12), (0, .nameAndType 13 14), (0, u "java/lang/String"), (0, u "value"), (0, u "[B"), (0, .fieldref 10 16), (0, .nameAndType 17 18), (0, u "coder"), (0, u "B"), (2, u "hash"), (0, u "I"), (2, u "hashIsZero"), (0, u "Z"), (0, .methodref 10 28), (0, .nameAndType 5 29), (0, u "([CIILjava/lang/Void;)V"), (8, .fieldref 10 39), (0, .nameAndType 40 26), (0, u "COMPACT_STRINGS"), (1, .class_ 44), (1, u "java/lang/StringUTF16"), (0, u "compress"), (1, .methodref 42 48), (0, .nameAndType 49 50), (0, u "coderFromArrayLen"), (0, u "([BI)B"), (3, .methodref 55 56), (0, .class_ 57), (0, .nameAndType 58 59), (0, u "java/util/Arrays"), (0, u "copyOfRange"), (0, u "([BII)[B"), (47, .class_ 109), (1, u "java/lang/StringLatin1"), (32, u "()Z"), (34, .methodref 42 178), (0, .nameAndType 45 179), (0, u "([CII)[B"), (13, .class_ 195), (1, u "java/lang/System"), (16, .methodref 193 213), (0, .nameAndType 214 215), (0, u "arraycopy"), (0, u "(Ljava/lang/Object;ILjava/lang/Object;II)V"), (118, u "()I"), (0, .methodref 10 336), (0, .nameAndType 17 337), (0, u "()B"), (2, u "()[B"), (148, .methodref 10 490), (0, .nameAndType 5 491), (0, u "(Ljava/lang/AbstractStringBuilder;Ljava/lang/Void;)V"), (1, .nameAndType 494 142), (0, u "isLatin1"), (11, .nameAndType 507 334), (0, u "length"), (24, u "getBytes"), (8, .methodref 107 542), (0, .nameAndType 543 544), (0, u "equals"), (0, u "([B[B)Z"), (4, .methodref 550 506), (0, .class_ 551), (0, u "java/lang/AbstractStringBuilder"), (0, .methodref 550 553), (0, .nameAndType 554 340), (0, u "getValue"), (18, u "(Ljava/lang/Object;)Z"), (1, .class_ 576), (0, u "java/lang/CharSequence"), (22, u "CASE_INSENSITIVE_ORDER"), (0, u "Ljava/util/Comparator;"), (220, u "([BIB)V"), (188, u "([C)V"), (36, .methodref 550 493), (53, u "serialPersistentFields"), (0, u "[Ljava/io/ObjectStreamField;"), (0, .class_ 1104), (0, u "java/lang/String$CaseInsensitiveComparator"), (1, .class_ 1107), (0, u "java/io/Serializable"), (0, .class_ 1109), (0, u "java/lang/Comparable"), (0, .class_ 1111), (0, u "java/lang/constant/Constable"), (0, .class_ 1113), (0, u "java/lang/constant/ConstantDesc"), (2, u "serialVersionUID"), (0, u "J"), (3, u "REPL"), (0, u "C"), (2, u "LATIN1"), (1, u "UTF16"), (105, u "(Ljava/lang/StringBuilder;)V")] 217

def k7m0 : Method := { name := "<init>", desc := "()V", sig := { parameters := [], returnType := none }, accessFlags := 1, code := none }
def k7c1 : Code := { maxStack := 5, maxLocals := 2, code := jdk_42_method_3_code, exceptionTable := #[], attributes := #[] }
def k7m1 : Method := { name := "<init>", desc := "([C)V", sig := { parameters := [(.array .char)], returnType := none }, accessFlags := 1, code := some k7c1 }
def k7c2 : Code := { maxStack := 3, maxLocals := 2, code := jdk_42_method_53_code, exceptionTable := #[], attributes := #[] }
def k7m2 : Method := { name := "<init>", desc := "(Ljava/lang/StringBuilder;)V", sig := { parameters := [(.object "java/lang/StringBuilder")], returnType := none }, accessFlags := 1, code := some k7c2 }
def k7c3 : Code := { maxStack := 2, maxLocals := 1, code := jdk_42_method_54_code, exceptionTable := #[], attributes := #[] }
def k7m3 : Method := { name := "length", desc := "()I", sig := { parameters := [], returnType := some .int }, accessFlags := 1, code := some k7c3 }
def k7c4 : Code := { maxStack := 2, maxLocals := 3, code := jdk_42_method_66_code, exceptionTable := #[], attributes := #[] }
def k7m4 : Method := { name := "equals", desc := "(Ljava/lang/Object;)Z", sig := { parameters := [(.object "java/lang/Object")], returnType := some .boolean }, accessFlags := 1, code := some k7c4 }
def k7c5 : Code := { maxStack := 5, maxLocals := 4, code := jdk_42_method_147_code, exceptionTable := #[], attributes := #[] }
def k7m5 : Method := { name := "getBytes", desc := "([BIB)V", sig := { parameters := [(.array .byte), .int, .byte], returnType := none }, accessFlags := 0, code := some k7c5 }
def k7c6 : Code := { maxStack := 4, maxLocals := 6, code := jdk_42_method_149_code, exceptionTable := #[], attributes := #[] }
def k7m6 : Method := { name := "<init>", desc := "([CIILjava/lang/Void;)V", sig := { parameters := [(.array .char), .int, .int, (.object "java/lang/Void")], returnType := none }, accessFlags := 2, code := some k7c6 }
def k7c7 : Code := { maxStack := 5, maxLocals := 5, code := jdk_42_method_150_code, exceptionTable := #[], attributes := #[] }
def k7m7 : Method := { name := "<init>", desc := "(Ljava/lang/AbstractStringBuilder;Ljava/lang/Void;)V", sig := { parameters := [(.object "java/lang/AbstractStringBuilder"), (.object "java/lang/Void")], returnType := none }, accessFlags := 0, code := some k7c7 }
def k7c8 : Code := { maxStack := 1, maxLocals := 1, code := jdk_42_method_152_code, exceptionTable := #[], attributes := #[] }
def k7m8 : Method := { name := "coder", desc := "()B", sig := { parameters := [], returnType := some .byte }, accessFlags := 0, code := some k7c8 }
/-- java/lang/String -/
def k7 : Class := { plain "java/lang/String" (some 0) with
  accessFlags := 49
  interfaces := #[2, 3, 4, 5, 6]
  cf := some (fileOf pool7 10 #[.nestMembers #[1103]] #[{ accessFlags := 1, nameIndex := 5, descriptorIndex := 6, attributes := #[] }, { accessFlags := 1, nameIndex := 5, descriptorIndex := 1010, attributes := #[] }, { accessFlags := 1, nameIndex := 5, descriptorIndex := 1233, attributes := #[] }, { accessFlags := 1, nameIndex := 507, descriptorIndex := 334, attributes := #[] }, { accessFlags := 1, nameIndex := 543, descriptorIndex := 573, attributes := #[] }, { accessFlags := 0, nameIndex := 532, descriptorIndex := 821, attributes := #[] }, { accessFlags := 2, nameIndex := 5, descriptorIndex := 29, attributes := #[] }, { accessFlags := 0, nameIndex := 5, descriptorIndex := 491, attributes := #[] }, { accessFlags := 0, nameIndex := 17, descriptorIndex := 337, attributes := #[] }] 49 2 #[1106, 1108, 575, 1110, 1112] #[{ accessFlags := 18, nameIndex := 13, descriptorIndex := 14, attributes := #[] }, { accessFlags := 18, nameIndex := 17, descriptorIndex := 18, attributes := #[] }, { accessFlags := 2, nameIndex := 21, descriptorIndex := 22, attributes := #[] }, { accessFlags := 2, nameIndex := 25, descriptorIndex := 26, attributes := #[] }, { accessFlags := 26, nameIndex := 1116, descriptorIndex := 1117, attributes := #[] }, { accessFlags := 24, nameIndex := 40, descriptorIndex := 26, attributes := #[] }, { accessFlags := 26, nameIndex := 1101, descriptorIndex := 1102, attributes := #[] }, { accessFlags := 26, nameIndex := 1121, descriptorIndex := 1122, attributes := #[] }, { accessFlags := 25, nameIndex := 599, descriptorIndex := 600, attributes := #[] }, { accessFlags := 24, nameIndex := 1125, descriptorIndex := 18, attributes := #[] }, { accessFlags := 24, nameIndex := 1127, descriptorIndex := 18, attributes := #[] }])
  fields := #[{ name := "value", type := (.array .byte), accessFlags := 18, slot := 0, constantValue := 0 }, { name := "coder", type := .byte, accessFlags := 18, slot := 1, constantValue := 0 }, { name := "hash", type := .int, accessFlags := 2, slot := 2, constantValue := 0 }, { name := "hashIsZero", type := .boolean, accessFlags := 2, slot := 3, constantValue := 0 }, { name := "serialVersionUID", type := .long, accessFlags := 26, slot := 0, constantValue := 0 }, { name := "COMPACT_STRINGS", type := .boolean, accessFlags := 24, slot := 1, constantValue := 0 }, { name := "serialPersistentFields", type := (.array (.object "java/io/ObjectStreamField")), accessFlags := 26, slot := 2, constantValue := 0 }, { name := "REPL", type := .char, accessFlags := 26, slot := 3, constantValue := 0 }, { name := "CASE_INSENSITIVE_ORDER", type := (.object "java/util/Comparator"), accessFlags := 25, slot := 4, constantValue := 0 }, { name := "LATIN1", type := .byte, accessFlags := 24, slot := 5, constantValue := 0 }, { name := "UTF16", type := .byte, accessFlags := 24, slot := 6, constantValue := 0 }]
  methods := #[k7m0, k7m1, k7m2, k7m3, k7m4, k7m5, k7m6, k7m7, k7m8]
  instanceTypes := #[(.array .byte), .byte, .int, .boolean]
  staticTypes := #[.long, .boolean, (.array (.object "java/io/ObjectStreamField")), .char, (.object "java/util/Comparator"), .byte, .byte]
  resolved := Array.replicate 1451 none
  statics := some 0 }

def pool8 : Array CpInfo := pool [(6, .class_ 8), (1, u "java/lang/Object"), (0, u "<init>"), (0, u "()V"), (1, .class_ 14), (1, u "java/lang/StringUTF16"), (31, u "$assertionsDisabled"), (0, u "Z"), (13, u "HI_BYTE_SHIFT"), (0, u "I"), (2, u "LO_BYTE_SHIFT"), (49, .methodref 12 116), (0, .nameAndType 117 118), (0, u "compress"), (0, u "([CI[BII)I"), (3, u "([CII)[B"), (138, u "coderFromArrayLen"), (0, u "([BI)B"), (106, .class_ 371), (1, u "java/lang/StringUTF16$LinesSpliterator"), (58, u "MAX_LENGTH"), (196, .class_ 628), (0, u "java/lang/StringUTF16$CodePointsSpliterator"), (0, .class_ 630), (0, u "java/lang/StringUTF16$CharsSpliterator")] 4

def k8m0 : Method := { name := "<init>", desc := "()V", sig := { parameters := [], returnType := none }, accessFlags := 0, code := none }
def k8c1 : Code := { maxStack := 2, maxLocals := 2, code := jdk_52_method_15_code, exceptionTable := #[], attributes := #[] }
def k8m1 : Method := { name := "coderFromArrayLen", desc := "([BI)B", sig := { parameters := [(.array .byte), .int], returnType := some .byte }, accessFlags := 8, code := some k8c1 }
def k8c2 : Code := { maxStack := 5, maxLocals := 6, code := jdk_52_method_16_code, exceptionTable := #[], attributes := #[] }
def k8m2 : Method := { name := "compress", desc := "([CII)[B", sig := { parameters := [(.array .char), .int, .int], returnType := some (.array .byte) }, accessFlags := 9, code := some k8c2 }
def k8c3 : Code := { maxStack := 3, maxLocals := 7, code := jdk_52_method_21_code, exceptionTable := #[], attributes := #[] }
def k8m3 : Method := { name := "compress", desc := "([CI[BII)I", sig := { parameters := [(.array .char), .int, (.array .byte), .int, .int], returnType := some .int }, accessFlags := 9, code := some k8c3 }
/-- java/lang/StringUTF16 -/
def k8 : Class := { plain "java/lang/StringUTF16" (some 0) with
  accessFlags := 48
  interfaces := #[]
  cf := some (fileOf pool8 12 #[.nestMembers #[627, 629, 369]] #[{ accessFlags := 0, nameIndex := 9, descriptorIndex := 10, attributes := #[] }, { accessFlags := 8, nameIndex := 261, descriptorIndex := 262, attributes := #[] }, { accessFlags := 9, nameIndex := 117, descriptorIndex := 122, attributes := #[] }, { accessFlags := 9, nameIndex := 117, descriptorIndex := 118, attributes := #[] }] 48 6 #[] #[{ accessFlags := 26, nameIndex := 61, descriptorIndex := 62, attributes := #[] }, { accessFlags := 26, nameIndex := 65, descriptorIndex := 62, attributes := #[] }, { accessFlags := 24, nameIndex := 430, descriptorIndex := 62, attributes := #[] }, { accessFlags := 4120, nameIndex := 46, descriptorIndex := 47, attributes := #[] }])
  fields := #[{ name := "HI_BYTE_SHIFT", type := .int, accessFlags := 26, slot := 0, constantValue := 0 }, { name := "LO_BYTE_SHIFT", type := .int, accessFlags := 26, slot := 1, constantValue := 0 }, { name := "MAX_LENGTH", type := .int, accessFlags := 24, slot := 2, constantValue := 0 }, { name := "$assertionsDisabled", type := .boolean, accessFlags := 4120, slot := 3, constantValue := 0 }]
  methods := #[k8m0, k8m1, k8m2, k8m3]
  instanceTypes := #[]
  staticTypes := #[.int, .int, .int, .boolean]
  resolved := Array.replicate 635 none
  statics := none }

def pool9 : Array CpInfo := pool [(1, .methodref 2 3), (0, .class_ 4), (0, .nameAndType 5 6), (0, u "java/lang/Object"), (0, u "<init>"), (0, u "()V"), (0, .class_ 8), (0, u "java/lang/StringBuilder"), (0, .string 10), (0, u "<!DOCTYPE html>\n"), (0, .methodref 7 12), (0, .nameAndType 5 13), (0, u "(Ljava/lang/String;)V"), (0, .fieldref 15 16), (0, .class_ 17), (0, .nameAndType 18 19), (0, u "com/example/regent/regent/Html"), (0, u "out"), (0, u "Ljava/lang/StringBuilder;"), (0, .methodref 7 21), (0, .nameAndType 22 23), (0, u "append"), (0, u "(C)Ljava/lang/StringBuilder;"), (0, .methodref 7 25), (0, .nameAndType 22 26), (0, u "(Ljava/lang/String;)Ljava/lang/StringBuilder;"), (6, .string 34), (0, u "</"), (7, u "(Ljava/lang/String;)Lcom/example/regent/regent/Html;"), (2, u "close"), (0, .methodref 7 47), (0, .nameAndType 48 49), (0, u "toString"), (0, u "()Ljava/lang/String;")] 30

def k9c0 : Code := { maxStack := 4, maxLocals := 1, code := prog_9_method_1_code, exceptionTable := #[], attributes := #[] }
def k9m0 : Method := { name := "<init>", desc := "()V", sig := { parameters := [], returnType := none }, accessFlags := 0, code := some k9c0 }
def k9c1 : Code := { maxStack := 2, maxLocals := 2, code := prog_9_method_3_code, exceptionTable := #[], attributes := #[] }
def k9m1 : Method := { name := "close", desc := "(Ljava/lang/String;)Lcom/example/regent/regent/Html;", sig := { parameters := [(.object "java/lang/String")], returnType := some (.object "com/example/regent/regent/Html") }, accessFlags := 0, code := some k9c1 }
def k9c2 : Code := { maxStack := 1, maxLocals := 1, code := prog_9_method_6_code, exceptionTable := #[], attributes := #[] }
def k9m2 : Method := { name := "toString", desc := "()Ljava/lang/String;", sig := { parameters := [], returnType := some (.object "java/lang/String") }, accessFlags := 1, code := some k9c2 }
/-- com/example/regent/regent/Html -/
def k9 : Class := { plain "com/example/regent/regent/Html" (some 0) with
  accessFlags := 32
  interfaces := #[]
  cf := some (fileOf pool9 15 #[] #[{ accessFlags := 0, nameIndex := 5, descriptorIndex := 6, attributes := #[] }, { accessFlags := 0, nameIndex := 45, descriptorIndex := 42, attributes := #[] }, { accessFlags := 1, nameIndex := 48, descriptorIndex := 49, attributes := #[] }] 32 2 #[] #[{ accessFlags := 18, nameIndex := 18, descriptorIndex := 19, attributes := #[] }])
  fields := #[{ name := "out", type := (.object "java/lang/StringBuilder"), accessFlags := 18, slot := 0, constantValue := 0 }]
  methods := #[k9m0, k9m1, k9m2]
  instanceTypes := #[(.object "java/lang/StringBuilder")]
  staticTypes := #[]
  resolved := Array.replicate 80 none
  statics := none }

def pool10 : Array CpInfo := pool [(1, .class_ 2), (0, u "java/lang/Appendable"), (0, .class_ 4), (0, u "java/lang/Object")] 9

/-- java/lang/Appendable -/
def k10 : Class := { plain "java/lang/Appendable" (some 0) with
  accessFlags := 1537
  interfaces := #[]
  cf := some (fileOf pool10 1 #[] #[] 1537 3 #[] #[])
  fields := #[]
  methods := #[]
  instanceTypes := #[]
  staticTypes := #[]
  resolved := Array.replicate 14 none
  statics := none }

def pool11 : Array CpInfo := pool [(1, .class_ 2), (0, u "java/lang/String"), (0, .methodref 4 5), (0, .class_ 6), (0, .nameAndType 7 8), (0, u "java/lang/Object"), (0, u "<init>"), (0, u "()V"), (1, .class_ 12), (1, u "java/lang/AbstractStringBuilder"), (0, u "EMPTYVALUE"), (0, u "[B"), (0, .fieldref 10 16), (0, .nameAndType 17 14), (0, u "value"), (0, .fieldref 1 19), (0, .nameAndType 20 21), (0, u "COMPACT_STRINGS"), (0, u "Z"), (0, .fieldref 10 23), (0, .nameAndType 24 25), (0, u "coder"), (0, u "B"), (6, .methodref 1 33), (0, .nameAndType 34 35), (0, u "length"), (0, u "()I"), (2, .integer 2147483631), (1, .methodref 1 41), (0, .nameAndType 24 42), (0, u "()B"), (0, .methodref 10 44), (0, .nameAndType 45 46), (0, u "append"), (0, u "(Ljava/lang/String;)Ljava/lang/AbstractStringBuilder;"), (1, .class_ 49), (0, u "java/lang/CharSequence"), (19, u "(Ljava/lang/String;)V"), (5, u "maybeLatin1"), (3, .fieldref 10 80), (0, .nameAndType 81 82), (0, u "count"), (0, u "I"), (0, .methodref 10 84), (0, .nameAndType 85 86), (0, u "isLatin1"), (0, u "()Z"), (1, .class_ 90), (1, u "java/lang/StringLatin1"), (9, .methodref 10 101), (0, .nameAndType 102 103), (0, u "ensureCapacityInternal"), (0, u "(I)V"), (87, .methodref 88 192), (0, .nameAndType 193 194), (0, u "canEncode"), (0, u "(C)Z"), (13, .methodref 10 209), (0, .nameAndType 210 211), (0, u "putStringAt"), (0, u "(ILjava/lang/String;)V"), (5, u "inflateIfNeededFor"), (2, .nameAndType 221 222), (0, u "getBytes"), (0, u "([BIB)V"), (69, u "(C)Ljava/lang/AbstractStringBuilder;"), (104, .methodref 10 398), (0, .nameAndType 217 69), (0, .methodref 1 220), (3, u "()[B"), (40, .class_ 445), (0, u "java/lang/Appendable"), (106, u "getValue")] 56

def k11m0 : Method := { name := "<init>", desc := "()V", sig := { parameters := [], returnType := none }, accessFlags := 0, code := none }
def k11c1 : Code := { maxStack := 2, maxLocals := 5, code := jdk_68_method_3_code, exceptionTable := #[], attributes := #[] }
def k11m1 : Method := { name := "<init>", desc := "(Ljava/lang/String;)V", sig := { parameters := [(.object "java/lang/String")], returnType := none }, accessFlags := 0, code := some k11c1 }
def k11c2 : Code := { maxStack := 1, maxLocals := 1, code := jdk_68_method_6_code, exceptionTable := #[], attributes := #[] }
def k11m2 : Method := { name := "length", desc := "()I", sig := { parameters := [], returnType := some .int }, accessFlags := 1, code := some k11c2 }
def k11c3 : Code := { maxStack := 4, maxLocals := 3, code := jdk_68_method_9_code, exceptionTable := #[], attributes := #[] }
def k11m3 : Method := { name := "ensureCapacityInternal", desc := "(I)V", sig := { parameters := [.int], returnType := none }, accessFlags := 2, code := some k11c3 }
def k11c4 : Code := { maxStack := 3, maxLocals := 3, code := jdk_68_method_22_code, exceptionTable := #[], attributes := #[] }
def k11m4 : Method := { name := "append", desc := "(Ljava/lang/String;)Ljava/lang/AbstractStringBuilder;", sig := { parameters := [(.object "java/lang/String")], returnType := some (.object "java/lang/AbstractStringBuilder") }, accessFlags := 1, code := some k11c4 }
def k11c5 : Code := { maxStack := 5, maxLocals := 2, code := jdk_68_method_31_code, exceptionTable := #[], attributes := #[] }
def k11m5 : Method := { name := "append", desc := "(C)Ljava/lang/AbstractStringBuilder;", sig := { parameters := [.char], returnType := some (.object "java/lang/AbstractStringBuilder") }, accessFlags := 1, code := some k11c5 }
def k11c6 : Code := { maxStack := 1, maxLocals := 1, code := jdk_68_method_64_code, exceptionTable := #[], attributes := #[] }
def k11m6 : Method := { name := "getValue", desc := "()[B", sig := { parameters := [], returnType := some (.array .byte) }, accessFlags := 16, code := some k11c6 }
def k11c7 : Code := { maxStack := 1, maxLocals := 1, code := jdk_68_method_68_code, exceptionTable := #[], attributes := #[] }
def k11m7 : Method := { name := "isLatin1", desc := "()Z", sig := { parameters := [], returnType := some .boolean }, accessFlags := 16, code := some k11c7 }
def k11c8 : Code := { maxStack := 2, maxLocals := 2, code := jdk_68_method_71_code, exceptionTable := #[], attributes := #[] }
def k11m8 : Method := { name := "inflateIfNeededFor", desc := "(Ljava/lang/String;)V", sig := { parameters := [(.object "java/lang/String")], returnType := none }, accessFlags := 2, code := some k11c8 }
def k11c9 : Code := { maxStack := 4, maxLocals := 3, code := jdk_68_method_73_code, exceptionTable := #[], attributes := #[] }
def k11m9 : Method := { name := "putStringAt", desc := "(ILjava/lang/String;)V", sig := { parameters := [.int, (.object "java/lang/String")], returnType := none }, accessFlags := 2, code := some k11c9 }
/-- java/lang/AbstractStringBuilder -/
def k11 : Class := { plain "java/lang/AbstractStringBuilder" (some 0) with
  accessFlags := 1056
  interfaces := #[10, 4]
  cf := some (fileOf pool11 10 #[] #[{ accessFlags := 0, nameIndex := 7, descriptorIndex := 8, attributes := #[] }, { accessFlags := 0, nameIndex := 7, descriptorIndex := 69, attributes := #[] }, { accessFlags := 1, nameIndex := 34, descriptorIndex := 35, attributes := #[] }, { accessFlags := 2, nameIndex := 102, descriptorIndex := 103, attributes := #[] }, { accessFlags := 1, nameIndex := 45, descriptorIndex := 46, attributes := #[] }, { accessFlags := 1, nameIndex := 45, descriptorIndex := 292, attributes := #[] }, { accessFlags := 16, nameIndex := 552, descriptorIndex := 403, attributes := #[] }, { accessFlags := 16, nameIndex := 85, descriptorIndex := 86, attributes := #[] }, { accessFlags := 2, nameIndex := 217, descriptorIndex := 69, attributes := #[] }, { accessFlags := 2, nameIndex := 210, descriptorIndex := 211, attributes := #[] }] 1056 4 #[444, 48] #[{ accessFlags := 0, nameIndex := 17, descriptorIndex := 14, attributes := #[] }, { accessFlags := 0, nameIndex := 24, descriptorIndex := 25, attributes := #[] }, { accessFlags := 0, nameIndex := 75, descriptorIndex := 21, attributes := #[] }, { accessFlags := 0, nameIndex := 81, descriptorIndex := 82, attributes := #[] }, { accessFlags := 26, nameIndex := 13, descriptorIndex := 14, attributes := #[] }])
  fields := #[{ name := "value", type := (.array .byte), accessFlags := 0, slot := 0, constantValue := 0 }, { name := "coder", type := .byte, accessFlags := 0, slot := 1, constantValue := 0 }, { name := "maybeLatin1", type := .boolean, accessFlags := 0, slot := 2, constantValue := 0 }, { name := "count", type := .int, accessFlags := 0, slot := 3, constantValue := 0 }, { name := "EMPTYVALUE", type := (.array .byte), accessFlags := 26, slot := 0, constantValue := 0 }]
  methods := #[k11m0, k11m1, k11m2, k11m3, k11m4, k11m5, k11m6, k11m7, k11m8, k11m9]
  instanceTypes := #[(.array .byte), .byte, .boolean, .int]
  staticTypes := #[(.array .byte)]
  resolved := Array.replicate 609 none
  statics := none }

def pool12 : Array CpInfo := pool [(2, .class_ 4), (1, u "java/lang/AbstractStringBuilder"), (0, u "<init>"), (1, .methodref 2 8), (0, .nameAndType 5 9), (0, u "(Ljava/lang/String;)V"), (8, .class_ 20), (1, u "java/lang/String"), (2, .methodref 24 25), (0, .class_ 26), (0, .nameAndType 27 28), (0, u "java/lang/StringBuilder"), (0, u "append"), (0, u "(Ljava/lang/String;)Ljava/lang/StringBuilder;"), (0, .methodref 2 30), (0, .nameAndType 27 31), (0, u "(Ljava/lang/String;)Ljava/lang/AbstractStringBuilder;"), (18, .methodref 2 51), (0, .nameAndType 27 52), (0, u "(C)Ljava/lang/AbstractStringBuilder;"), (84, .methodref 18 138), (0, .nameAndType 5 139), (0, u "(Ljava/lang/StringBuilder;)V"), (5, u "()V"), (10, u "()I"), (129, u "(C)Ljava/lang/StringBuilder;"), (56, .methodref 2 344), (0, .nameAndType 345 156), (0, u "length"), (3, .class_ 350), (0, u "java/lang/Appendable"), (0, .class_ 352), (0, u "java/io/Serializable"), (0, .class_ 354), (0, u "java/lang/Comparable"), (0, .class_ 356), (0, u "java/lang/CharSequence"), (0, u "serialVersionUID"), (0, u "J"), (40, u "toString"), (0, u "()Ljava/lang/String;")] 21

def k12m0 : Method := { name := "<init>", desc := "()V", sig := { parameters := [], returnType := none }, accessFlags := 1, code := none }
def k12c1 : Code := { maxStack := 2, maxLocals := 2, code := jdk_67_method_3_code, exceptionTable := #[], attributes := #[] }
def k12m1 : Method := { name := "<init>", desc := "(Ljava/lang/String;)V", sig := { parameters := [(.object "java/lang/String")], returnType := none }, accessFlags := 1, code := some k12c1 }
def k12c2 : Code := { maxStack := 2, maxLocals := 2, code := jdk_67_method_7_code, exceptionTable := #[], attributes := #[] }
def k12m2 : Method := { name := "append", desc := "(Ljava/lang/String;)Ljava/lang/StringBuilder;", sig := { parameters := [(.object "java/lang/String")], returnType := some (.object "java/lang/StringBuilder") }, accessFlags := 1, code := some k12c2 }
def k12c3 : Code := { maxStack := 2, maxLocals := 2, code := jdk_67_method_14_code, exceptionTable := #[], attributes := #[] }
def k12m3 : Method := { name := "append", desc := "(C)Ljava/lang/StringBuilder;", sig := { parameters := [.char], returnType := some (.object "java/lang/StringBuilder") }, accessFlags := 1, code := some k12c3 }
def k12c4 : Code := { maxStack := 3, maxLocals := 1, code := jdk_67_method_42_code, exceptionTable := #[], attributes := #[] }
def k12m4 : Method := { name := "toString", desc := "()Ljava/lang/String;", sig := { parameters := [], returnType := some (.object "java/lang/String") }, accessFlags := 1, code := some k12c4 }
def k12c5 : Code := { maxStack := 2, maxLocals := 2, code := jdk_67_method_80_code, exceptionTable := #[], attributes := #[] }
def k12m5 : Method := { name := "append", desc := "(Ljava/lang/String;)Ljava/lang/AbstractStringBuilder;", sig := { parameters := [(.object "java/lang/String")], returnType := some (.object "java/lang/AbstractStringBuilder") }, accessFlags := 4161, code := some k12c5 }
def k12c6 : Code := { maxStack := 1, maxLocals := 1, code := jdk_67_method_93_code, exceptionTable := #[], attributes := #[] }
def k12m6 : Method := { name := "length", desc := "()I", sig := { parameters := [], returnType := some .int }, accessFlags := 4161, code := some k12c6 }
/-- java/lang/StringBuilder -/
def k12 : Class := { plain "java/lang/StringBuilder" (some 11) with
  accessFlags := 49
  interfaces := #[10, 2, 3, 4]
  cf := some (fileOf pool12 24 #[] #[{ accessFlags := 1, nameIndex := 5, descriptorIndex := 145, attributes := #[] }, { accessFlags := 1, nameIndex := 5, descriptorIndex := 9, attributes := #[] }, { accessFlags := 1, nameIndex := 27, descriptorIndex := 28, attributes := #[] }, { accessFlags := 1, nameIndex := 27, descriptorIndex := 286, attributes := #[] }, { accessFlags := 1, nameIndex := 399, descriptorIndex := 400, attributes := #[] }, { accessFlags := 4161, nameIndex := 27, descriptorIndex := 31, attributes := #[] }, { accessFlags := 4161, nameIndex := 345, descriptorIndex := 156, attributes := #[] }] 49 2 #[349, 351, 353, 355] #[{ accessFlags := 24, nameIndex := 357, descriptorIndex := 358, attributes := #[] }])
  fields := #[{ name := "serialVersionUID", type := .long, accessFlags := 24, slot := 0, constantValue := 0 }]
  methods := #[k12m0, k12m1, k12m2, k12m3, k12m4, k12m5, k12m6]
  instanceTypes := #[(.array .byte), .byte, .boolean, .int]
  staticTypes := #[.long]
  resolved := Array.replicate 422 none
  statics := none }

def pool13 : Array CpInfo := pool [(2, .class_ 4), (1, u "java/lang/Object"), (0, u "<init>"), (0, u "()V"), (1, .class_ 10), (1, u "java/lang/System"), (0, u "allowSecurityManager"), (0, u "I"), (16, u "cons"), (0, u "Ljava/io/Console;"), (77, .class_ 110), (1, u "java/lang/System$CallersHolder"), (43, u "initialErrStream"), (0, u "Ljava/io/PrintStream;"), (19, u "security"), (0, u "Ljava/lang/SecurityManager;"), (31, .class_ 209), (0, u "java/lang/System$1"), (7, u "props"), (0, u "Ljava/util/Properties;"), (2, u "lineSeparator"), (0, u "Ljava/lang/String;"), (96, .class_ 321), (1, u "java/lang/System$LoggerFinder"), (5, .class_ 328), (0, u "java/lang/System$Logger"), (67, u "err"), (2, u "out"), (91, u "notSupportedJnuEncoding"), (15, u "in"), (17, u "initialIn"), (0, u "Ljava/io/InputStream;"), (35, u "bootLayer"), (0, u "Ljava/lang/ModuleLayer;"), (99, .class_ 664), (0, u "java/lang/System$2"), (9, u "NEVER"), (2, u "MAYBE"), (49, u "arraycopy"), (0, u "(Ljava/lang/Object;ILjava/lang/Object;II)V"), (72, .class_ 802), (0, u "java/lang/System$Logger$Level")] 31

def k13m0 : Method := { name := "<init>", desc := "()V", sig := { parameters := [], returnType := none }, accessFlags := 2, code := none }
def k13m1 : Method := { name := "arraycopy", desc := "(Ljava/lang/Object;ILjava/lang/Object;II)V", sig := { parameters := [(.object "java/lang/Object"), .int, (.object "java/lang/Object"), .int, .int], returnType := none }, accessFlags := 265, code := none }
/-- java/lang/System -/
def k13 : Class := { plain "java/lang/System" (some 0) with
  accessFlags := 49
  interfaces := #[]
  cf := some (fileOf pool13 8 #[.nestMembers #[319, 327, 801, 108, 663, 208]] #[{ accessFlags := 2, nameIndex := 5, descriptorIndex := 6, attributes := #[] }, { accessFlags := 265, nameIndex := 727, descriptorIndex := 728, attributes := #[] }] 49 2 #[] #[{ accessFlags := 25, nameIndex := 507, descriptorIndex := 526, attributes := #[] }, { accessFlags := 25, nameIndex := 399, descriptorIndex := 155, attributes := #[] }, { accessFlags := 25, nameIndex := 396, descriptorIndex := 155, attributes := #[] }, { accessFlags := 10, nameIndex := 525, descriptorIndex := 526, attributes := #[] }, { accessFlags := 26, nameIndex := 674, descriptorIndex := 12, attributes := #[] }, { accessFlags := 26, nameIndex := 677, descriptorIndex := 12, attributes := #[] }, { accessFlags := 10, nameIndex := 11, descriptorIndex := 12, attributes := #[] }, { accessFlags := 74, nameIndex := 175, descriptorIndex := 176, attributes := #[] }, { accessFlags := 10, nameIndex := 491, descriptorIndex := 222, attributes := #[] }, { accessFlags := 74, nameIndex := 29, descriptorIndex := 30, attributes := #[] }, { accessFlags := 74, nameIndex := 154, descriptorIndex := 155, attributes := #[] }, { accessFlags := 10, nameIndex := 217, descriptorIndex := 218, attributes := #[] }, { accessFlags := 10, nameIndex := 221, descriptorIndex := 222, attributes := #[] }, { accessFlags := 8, nameIndex := 562, descriptorIndex := 563, attributes := #[] }])
  fields := #[{ name := "in", type := (.object "java/io/InputStream"), accessFlags := 25, slot := 0, constantValue := 0 }, { name := "out", type := (.object "java/io/PrintStream"), accessFlags := 25, slot := 1, constantValue := 0 }, { name := "err", type := (.object "java/io/PrintStream"), accessFlags := 25, slot := 2, constantValue := 0 }, { name := "initialIn", type := (.object "java/io/InputStream"), accessFlags := 10, slot := 3, constantValue := 0 }, { name := "NEVER", type := .int, accessFlags := 26, slot := 4, constantValue := 0 }, { name := "MAYBE", type := .int, accessFlags := 26, slot := 5, constantValue := 0 }, { name := "allowSecurityManager", type := .int, accessFlags := 10, slot := 6, constantValue := 0 }, { name := "security", type := (.object "java/lang/SecurityManager"), accessFlags := 74, slot := 7, constantValue := 0 }, { name := "notSupportedJnuEncoding", type := (.object "java/lang/String"), accessFlags := 10, slot := 8, constantValue := 0 }, { name := "cons", type := (.object "java/io/Console"), accessFlags := 74, slot := 9, constantValue := 0 }, { name := "initialErrStream", type := (.object "java/io/PrintStream"), accessFlags := 74, slot := 10, constantValue := 0 }, { name := "props", type := (.object "java/util/Properties"), accessFlags := 10, slot := 11, constantValue := 0 }, { name := "lineSeparator", type := (.object "java/lang/String"), accessFlags := 10, slot := 12, constantValue := 0 }, { name := "bootLayer", type := (.object "java/lang/ModuleLayer"), accessFlags := 8, slot := 13, constantValue := 0 }]
  methods := #[k13m0, k13m1]
  instanceTypes := #[]
  staticTypes := #[(.object "java/io/InputStream"), (.object "java/io/PrintStream"), (.object "java/io/PrintStream"), (.object "java/io/InputStream"), .int, .int, .int, (.object "java/lang/SecurityManager"), (.object "java/lang/String"), (.object "java/io/Console"), (.object "java/io/PrintStream"), (.object "java/util/Properties"), (.object "java/lang/String"), (.object "java/lang/ModuleLayer")]
  resolved := Array.replicate 834 none
  statics := none }

def pool14 : Array CpInfo := pool [(4, .class_ 6), (1, u "java/lang/Object"), (0, u "<init>"), (0, u "()V"), (5, .class_ 16), (1, u "java/lang/StringLatin1"), (73, u "canEncode"), (14, u "(C)Z"), (15, u "$assertionsDisabled"), (0, u "Z"), (98, .class_ 223), (1, u "java/lang/StringLatin1$LinesSpliterator"), (57, u "equals"), (0, u "([B[B)Z"), (107, .class_ 391), (0, u "java/lang/StringLatin1$CharsSpliterator")] 3

def k14m0 : Method := { name := "<init>", desc := "()V", sig := { parameters := [], returnType := none }, accessFlags := 0, code := none }
def k14c1 : Code := { maxStack := 2, maxLocals := 1, code := jdk_43_method_3_code, exceptionTable := #[], attributes := #[] }
def k14m1 : Method := { name := "canEncode", desc := "(C)Z", sig := { parameters := [.char], returnType := some .boolean }, accessFlags := 9, code := some k14c1 }
def k14c2 : Code := { maxStack := 3, maxLocals := 3, code := jdk_43_method_13_code, exceptionTable := #[], attributes := #[] }
def k14m2 : Method := { name := "equals", desc := "([B[B)Z", sig := { parameters := [(.array .byte), (.array .byte)], returnType := some .boolean }, accessFlags := 9, code := some k14c2 }
/-- java/lang/StringLatin1 -/
def k14 : Class := { plain "java/lang/StringLatin1" (some 0) with
  accessFlags := 48
  interfaces := #[]
  cf := some (fileOf pool14 14 #[.nestMembers #[390, 221]] #[{ accessFlags := 0, nameIndex := 7, descriptorIndex := 8, attributes := #[] }, { accessFlags := 9, nameIndex := 90, descriptorIndex := 105, attributes := #[] }, { accessFlags := 9, nameIndex := 281, descriptorIndex := 282, attributes := #[] }] 48 4 #[] #[{ accessFlags := 4120, nameIndex := 121, descriptorIndex := 122, attributes := #[] }])
  fields := #[{ name := "$assertionsDisabled", type := .boolean, accessFlags := 4120, slot := 0, constantValue := 0 }]
  methods := #[k14m0, k14m1, k14m2]
  instanceTypes := #[]
  staticTypes := #[.boolean]
  resolved := Array.replicate 395 none
  statics := none }

def pool15 : Array CpInfo := pool [(2, .class_ 4), (1, u "java/lang/Object"), (0, u "<init>"), (0, u "()V"), (7, .class_ 16), (1, u "java/util/Arrays"), (57, .class_ 76), (1, u "java/util/Arrays$NaturalOrder"), (36, .class_ 115), (1, u "java/util/Arrays$LegacyMergeSort"), (1, u "Z"), (21, u "copyOfRange"), (10, .methodref 151 152), (0, .class_ 153), (0, .nameAndType 154 155), (0, u "java/lang/System"), (0, u "arraycopy"), (0, u "(Ljava/lang/Object;ILjava/lang/Object;II)V"), (148, .methodref 305 306), (0, .class_ 307), (0, .nameAndType 308 309), (0, u "java/lang/Math"), (0, u "min"), (0, u "(II)I"), (29, .methodref 14 340), (0, .nameAndType 341 342), (0, u "copyOfRangeByte"), (0, u "([BII)[B"), (0, .methodref 14 344), (0, .nameAndType 345 346), (0, u "checkLength"), (0, u "(II)V"), (28, .class_ 376), (0, u "java/util/Arrays$ArrayList"), (68, u "$assertionsDisabled"), (269, u "MIN_ARRAY_SORT_GRAN"), (0, u "I"), (2, u "INSERTIONSORT_THRESHOLD"), (255, .class_ 976), (0, u "java/util/Arrays$ArrayItr")] 52

def k15m0 : Method := { name := "<init>", desc := "()V", sig := { parameters := [], returnType := none }, accessFlags := 2, code := none }
def k15c1 : Code := { maxStack := 4, maxLocals := 2, code := jdk_65_method_131_code, exceptionTable := #[], attributes := #[] }
def k15m1 : Method := { name := "checkLength", desc := "(II)V", sig := { parameters := [.int, .int], returnType := none }, accessFlags := 10, code := some k15c1 }
def k15c2 : Code := { maxStack := 3, maxLocals := 3, code := jdk_65_method_132_code, exceptionTable := #[], attributes := #[] }
def k15m2 : Method := { name := "copyOfRange", desc := "([BII)[B", sig := { parameters := [(.array .byte), .int, .int], returnType := some (.array .byte) }, accessFlags := 9, code := some k15c2 }
def k15c3 : Code := { maxStack := 6, maxLocals := 5, code := jdk_65_method_133_code, exceptionTable := #[], attributes := #[] }
def k15m3 : Method := { name := "copyOfRangeByte", desc := "([BII)[B", sig := { parameters := [(.array .byte), .int, .int], returnType := some (.array .byte) }, accessFlags := 10, code := some k15c3 }
/-- java/util/Arrays -/
def k15 : Class := { plain "java/util/Arrays" (some 0) with
  accessFlags := 49
  interfaces := #[]
  cf := some (fileOf pool15 14 #[.nestMembers #[975, 375, 113, 74]] #[{ accessFlags := 2, nameIndex := 5, descriptorIndex := 6, attributes := #[] }, { accessFlags := 10, nameIndex := 345, descriptorIndex := 346, attributes := #[] }, { accessFlags := 9, nameIndex := 139, descriptorIndex := 342, attributes := #[] }, { accessFlags := 10, nameIndex := 341, descriptorIndex := 342, attributes := #[] }] 49 2 #[] #[{ accessFlags := 26, nameIndex := 715, descriptorIndex := 716, attributes := #[] }, { accessFlags := 26, nameIndex := 719, descriptorIndex := 716, attributes := #[] }, { accessFlags := 4120, nameIndex := 445, descriptorIndex := 117, attributes := #[] }])
  fields := #[{ name := "MIN_ARRAY_SORT_GRAN", type := .int, accessFlags := 26, slot := 0, constantValue := 0 }, { name := "INSERTIONSORT_THRESHOLD", type := .int, accessFlags := 26, slot := 1, constantValue := 0 }, { name := "$assertionsDisabled", type := .boolean, accessFlags := 4120, slot := 2, constantValue := 0 }]
  methods := #[k15m0, k15m1, k15m2, k15m3]
  instanceTypes := #[]
  staticTypes := #[.int, .int, .boolean]
  resolved := Array.replicate 1029 none
  statics := none }

def pool16 : Array CpInfo := pool [(1, .class_ 2), (0, u "java/lang/Math"), (1, .class_ 6), (1, u "java/lang/Object"), (0, u "<init>"), (0, u "()V"), (89, .class_ 100), (1, u "java/lang/Math$RandomNumberGeneratorHolder"), (71, u "negativeZeroFloatBits"), (0, u "J"), (2, u "negativeZeroDoubleBits"), (24, u "min"), (43, u "$assertionsDisabled"), (0, u "Z"), (88, u "(II)I"), (2, u "twoToTheDoubleScaleDown"), (0, u "D"), (4, u "twoToTheDoubleScaleUp"), (9, u "E"), (3, u "PI"), (2, u "TAU"), (2, u "DEGREES_TO_RADIANS"), (0, u "RADIANS_TO_DEGREES")] 94

def k16m0 : Method := { name := "<init>", desc := "()V", sig := { parameters := [], returnType := none }, accessFlags := 2, code := none }
def k16c1 : Code := { maxStack := 2, maxLocals := 2, code := jdk_29_method_69_code, exceptionTable := #[], attributes := #[] }
def k16m1 : Method := { name := "min", desc := "(II)I", sig := { parameters := [.int, .int], returnType := some .int }, accessFlags := 9, code := some k16c1 }
/-- java/lang/Math -/
def k16 : Class := { plain "java/lang/Math" (some 0) with
  accessFlags := 49
  interfaces := #[]
  cf := some (fileOf pool16 1 #[.nestMembers #[98]] #[{ accessFlags := 2, nameIndex := 7, descriptorIndex := 8, attributes := #[] }, { accessFlags := 9, nameIndex := 201, descriptorIndex := 335, attributes := #[] }] 49 4 #[] #[{ accessFlags := 25, nameIndex := 354, descriptorIndex := 339, attributes := #[] }, { accessFlags := 25, nameIndex := 358, descriptorIndex := 339, attributes := #[] }, { accessFlags := 25, nameIndex := 361, descriptorIndex := 339, attributes := #[] }, { accessFlags := 26, nameIndex := 364, descriptorIndex := 339, attributes := #[] }, { accessFlags := 26, nameIndex := 365, descriptorIndex := 339, attributes := #[] }, { accessFlags := 26, nameIndex := 172, descriptorIndex := 173, attributes := #[] }, { accessFlags := 26, nameIndex := 176, descriptorIndex := 173, attributes := #[] }, { accessFlags := 8, nameIndex := 344, descriptorIndex := 339, attributes := #[] }, { accessFlags := 8, nameIndex := 338, descriptorIndex := 339, attributes := #[] }, { accessFlags := 4120, nameIndex := 245, descriptorIndex := 246, attributes := #[] }])
  fields := #[{ name := "E", type := .double, accessFlags := 25, slot := 0, constantValue := 0 }, { name := "PI", type := .double, accessFlags := 25, slot := 1, constantValue := 0 }, { name := "TAU", type := .double, accessFlags := 25, slot := 2, constantValue := 0 }, { name := "DEGREES_TO_RADIANS", type := .double, accessFlags := 26, slot := 3, constantValue := 0 }, { name := "RADIANS_TO_DEGREES", type := .double, accessFlags := 26, slot := 4, constantValue := 0 }, { name := "negativeZeroFloatBits", type := .long, accessFlags := 26, slot := 5, constantValue := 0 }, { name := "negativeZeroDoubleBits", type := .long, accessFlags := 26, slot := 6, constantValue := 0 }, { name := "twoToTheDoubleScaleUp", type := .double, accessFlags := 8, slot := 7, constantValue := 0 }, { name := "twoToTheDoubleScaleDown", type := .double, accessFlags := 8, slot := 8, constantValue := 0 }, { name := "$assertionsDisabled", type := .boolean, accessFlags := 4120, slot := 9, constantValue := 0 }]
  methods := #[k16m0, k16m1]
  instanceTypes := #[]
  staticTypes := #[.double, .double, .double, .double, .double, .long, .long, .double, .double, .boolean]
  resolved := Array.replicate 460 none
  statics := none }

def pool17 : Array CpInfo := pool [(2, .class_ 4), (1, u "java/lang/Object"), (0, u "<init>"), (0, u "()V"), (17, .class_ 26), (1, u "jdk/internal/util/Preconditions"), (28, .class_ 56), (0, u "jdk/internal/util/Preconditions$4"), (57, .class_ 115), (0, u "jdk/internal/util/Preconditions$1"), (7, u "SIOOBE_FORMATTER"), (0, u "Ljava/util/function/BiFunction;"), (0, .class_ 126), (0, u "jdk/internal/util/Preconditions$2"), (3, u "AIOOBE_FORMATTER"), (0, .class_ 132), (0, u "jdk/internal/util/Preconditions$3"), (3, u "IOOBE_FORMATTER")] 57

def k17m0 : Method := { name := "<init>", desc := "()V", sig := { parameters := [], returnType := none }, accessFlags := 1, code := none }
/-- jdk/internal/util/Preconditions -/
def k17 : Class := { plain "jdk/internal/util/Preconditions" (some 0) with
  accessFlags := 33
  interfaces := #[]
  cf := some (fileOf pool17 24 #[.nestMembers #[55, 131, 125, 114]] #[{ accessFlags := 1, nameIndex := 5, descriptorIndex := 6, attributes := #[] }] 33 2 #[] #[{ accessFlags := 25, nameIndex := 123, descriptorIndex := 124, attributes := #[] }, { accessFlags := 25, nameIndex := 130, descriptorIndex := 124, attributes := #[] }, { accessFlags := 25, nameIndex := 136, descriptorIndex := 124, attributes := #[] }])
  fields := #[{ name := "SIOOBE_FORMATTER", type := (.object "java/util/function/BiFunction"), accessFlags := 25, slot := 0, constantValue := 0 }, { name := "AIOOBE_FORMATTER", type := (.object "java/util/function/BiFunction"), accessFlags := 25, slot := 1, constantValue := 0 }, { name := "IOOBE_FORMATTER", type := (.object "java/util/function/BiFunction"), accessFlags := 25, slot := 2, constantValue := 0 }]
  methods := #[k17m0]
  instanceTypes := #[]
  staticTypes := #[(.object "java/util/function/BiFunction"), (.object "java/util/function/BiFunction"), (.object "java/util/function/BiFunction")]
  resolved := Array.replicate 194 none
  statics := some 1 }

def pool18 : Array CpInfo := pool [(9, u "<init>"), (6, .class_ 18), (1, u "java/lang/Object"), (0, u "()V"), (1, .class_ 23), (1, u "jdk/internal/util/ArraysSupport"), (0, u "LOG2_ARRAY_LONG_INDEX_SCALE"), (0, u "I"), (2, u "U"), (0, u "Ljdk/internal/misc/Unsafe;"), (8, u "BIG_ENDIAN"), (0, u "Z"), (8, u "LOG2_BYTE_BIT_SIZE"), (4, u "LOG2_ARRAY_INT_INDEX_SCALE"), (54, u "JLA"), (0, u "Ljdk/internal/access/JavaLangAccess;"), (11, u "LOG2_ARRAY_BOOLEAN_INDEX_SCALE"), (9, u "LOG2_ARRAY_BYTE_INDEX_SCALE"), (5, u "LOG2_ARRAY_CHAR_INDEX_SCALE"), (5, u "LOG2_ARRAY_SHORT_INDEX_SCALE"), (18, u "LOG2_ARRAY_FLOAT_INDEX_SCALE"), (24, u "LOG2_ARRAY_DOUBLE_INDEX_SCALE"), (89, u "T_BOOLEAN"), (2, u "T_CHAR"), (1, u "T_FLOAT"), (1, u "T_DOUBLE"), (1, u "T_BYTE"), (1, u "T_SHORT"), (1, u "T_INT"), (1, u "T_LONG"), (1, u "SOFT_MAX_ARRAY_LENGTH")] 83

def k18m0 : Method := { name := "<init>", desc := "()V", sig := { parameters := [], returnType := none }, accessFlags := 2, code := none }
/-- jdk/internal/util/ArraysSupport -/
def k18 : Class := { plain "jdk/internal/util/ArraysSupport" (some 0) with
  accessFlags := 33
  interfaces := #[]
  cf := some (fileOf pool18 21 #[] #[{ accessFlags := 2, nameIndex := 9, descriptorIndex := 19, attributes := #[] }] 33 16 #[] #[{ accessFlags := 24, nameIndex := 28, descriptorIndex := 29, attributes := #[] }, { accessFlags := 26, nameIndex := 38, descriptorIndex := 39, attributes := #[] }, { accessFlags := 25, nameIndex := 121, descriptorIndex := 25, attributes := #[] }, { accessFlags := 25, nameIndex := 131, descriptorIndex := 25, attributes := #[] }, { accessFlags := 25, nameIndex := 137, descriptorIndex := 25, attributes := #[] }, { accessFlags := 25, nameIndex := 143, descriptorIndex := 25, attributes := #[] }, { accessFlags := 25, nameIndex := 53, descriptorIndex := 25, attributes := #[] }, { accessFlags := 25, nameIndex := 24, descriptorIndex := 25, attributes := #[] }, { accessFlags := 25, nameIndex := 162, descriptorIndex := 25, attributes := #[] }, { accessFlags := 25, nameIndex := 187, descriptorIndex := 25, attributes := #[] }, { accessFlags := 26, nameIndex := 48, descriptorIndex := 25, attributes := #[] }, { accessFlags := 25, nameIndex := 277, descriptorIndex := 25, attributes := #[] }, { accessFlags := 25, nameIndex := 280, descriptorIndex := 25, attributes := #[] }, { accessFlags := 25, nameIndex := 282, descriptorIndex := 25, attributes := #[] }, { accessFlags := 25, nameIndex := 284, descriptorIndex := 25, attributes := #[] }, { accessFlags := 25, nameIndex := 286, descriptorIndex := 25, attributes := #[] }, { accessFlags := 25, nameIndex := 288, descriptorIndex := 25, attributes := #[] }, { accessFlags := 25, nameIndex := 290, descriptorIndex := 25, attributes := #[] }, { accessFlags := 25, nameIndex := 292, descriptorIndex := 25, attributes := #[] }, { accessFlags := 26, nameIndex := 108, descriptorIndex := 109, attributes := #[] }, { accessFlags := 25, nameIndex := 294, descriptorIndex := 25, attributes := #[] }])
  fields := #[{ name := "U", type := (.object "jdk/internal/misc/Unsafe"), accessFlags := 24, slot := 0, constantValue := 0 }, { name := "BIG_ENDIAN", type := .boolean, accessFlags := 26, slot := 1, constantValue := 0 }, { name := "LOG2_ARRAY_BOOLEAN_INDEX_SCALE", type := .int, accessFlags := 25, slot := 2, constantValue := 0 }, { name := "LOG2_ARRAY_BYTE_INDEX_SCALE", type := .int, accessFlags := 25, slot := 3, constantValue := 0 }, { name := "LOG2_ARRAY_CHAR_INDEX_SCALE", type := .int, accessFlags := 25, slot := 4, constantValue := 0 }, { name := "LOG2_ARRAY_SHORT_INDEX_SCALE", type := .int, accessFlags := 25, slot := 5, constantValue := 0 }, { name := "LOG2_ARRAY_INT_INDEX_SCALE", type := .int, accessFlags := 25, slot := 6, constantValue := 0 }, { name := "LOG2_ARRAY_LONG_INDEX_SCALE", type := .int, accessFlags := 25, slot := 7, constantValue := 0 }, { name := "LOG2_ARRAY_FLOAT_INDEX_SCALE", type := .int, accessFlags := 25, slot := 8, constantValue := 0 }, { name := "LOG2_ARRAY_DOUBLE_INDEX_SCALE", type := .int, accessFlags := 25, slot := 9, constantValue := 0 }, { name := "LOG2_BYTE_BIT_SIZE", type := .int, accessFlags := 26, slot := 10, constantValue := 0 }, { name := "T_BOOLEAN", type := .int, accessFlags := 25, slot := 11, constantValue := 0 }, { name := "T_CHAR", type := .int, accessFlags := 25, slot := 12, constantValue := 0 }, { name := "T_FLOAT", type := .int, accessFlags := 25, slot := 13, constantValue := 0 }, { name := "T_DOUBLE", type := .int, accessFlags := 25, slot := 14, constantValue := 0 }, { name := "T_BYTE", type := .int, accessFlags := 25, slot := 15, constantValue := 0 }, { name := "T_SHORT", type := .int, accessFlags := 25, slot := 16, constantValue := 0 }, { name := "T_INT", type := .int, accessFlags := 25, slot := 17, constantValue := 0 }, { name := "T_LONG", type := .int, accessFlags := 25, slot := 18, constantValue := 0 }, { name := "JLA", type := (.object "jdk/internal/access/JavaLangAccess"), accessFlags := 26, slot := 19, constantValue := 0 }, { name := "SOFT_MAX_ARRAY_LENGTH", type := .int, accessFlags := 25, slot := 20, constantValue := 0 }]
  methods := #[k18m0]
  instanceTypes := #[]
  staticTypes := #[(.object "jdk/internal/misc/Unsafe"), .boolean, .int, .int, .int, .int, .int, .int, .int, .int, .int, .int, .int, .int, .int, .int, .int, .int, .int, (.object "jdk/internal/access/JavaLangAccess"), .int]
  resolved := Array.replicate 378 none
  statics := none }

def pool19 : Array CpInfo := pool [(1, u "java/lang/Cloneable"), (0, .class_ 1), (0, u "java/lang/Object"), (0, .class_ 3)] 3

/-- java/lang/Cloneable -/
def k19 : Class := { plain "java/lang/Cloneable" (some 0) with
  accessFlags := 1537
  interfaces := #[]
  cf := some (fileOf pool19 2 #[] #[] 1537 4 #[] #[])
  fields := #[]
  methods := #[]
  instanceTypes := #[]
  staticTypes := #[]
  resolved := Array.replicate 8 none
  statics := none }

/-- the primitive byte -/
def k20 : Class := { plain "byte" none with kind := .primitive 'B', accessFlags := 0x411 }
/-- [B -/
def k21 : Class := { plain "[B" (some 0) with kind := .array 20 .byte, interfaces := #[19, 2], accessFlags := 1041 }

/-- the primitive char -/
def k22 : Class := { plain "char" none with kind := .primitive 'C', accessFlags := 0x411 }
/-- [C -/
def k23 : Class := { plain "[C" (some 0) with kind := .array 22 .char, interfaces := #[19, 2], accessFlags := 1041 }

/-- the primitive int -/
def k24 : Class := { plain "int" none with kind := .primitive 'I', accessFlags := 0x411 }
/-- [I -/
def k25 : Class := { plain "[I" (some 0) with kind := .array 24 .int, interfaces := #[19, 2], accessFlags := 1041 }

def heap : Heap := #[{ cls := 7, slots := #[.long 0, .int 1, .null, .int 0, .null, .int 0, .int 0], vm := .statics 7 },
  { cls := 17, slots := #[.null, .null, .null], vm := .statics 17 }]
def classes : Array Class := #[k0, k1, k2, k3, k4, k5, k6, k7, k8, k9, k10, k11, k12, k13, k14, k15, k16, k17, k18, k19, k20, k21, k22, k23, k24, k25]
def interned : List (Array UInt16 × Addr) := []
def slotsUsed : Nat := 10
def theMethod : MethodId := ⟨1, 1⟩
def args0 : Array Value := #[.int 2, .int 3, .int 4, .int 5]
def aboutOver (below : List Frame) : State where
  vm := { classes := classes, interned := interned.toArray }
  heap := heap
  slotsUsed := slotsUsed
  threads := #[{ frames := .invoking theMethod args0 :: below }]
def below0 : List Frame := [.native { method := ⟨0, 0⟩, args := #[] }]
def about1 : State := aboutOver below0
def p0 : Program := .bare "" "" ""
def e0 : Env := launch0.env 0 0 0
theorem w_frames : about1.frames = Frame.invoking theMethod args0 :: below0 := rfl
set_option maxRecDepth 65536 in
theorem w_args : argsFit about1.vm theMethod args0 = true := by decide +kernel
set_option maxRecDepth 65536 in
theorem w_heap : heapFits about1 = true := by decide +kernel
set_option maxRecDepth 65536 in
theorem w_runnable : about1.curStatus? = some .runnable := by decide +kernel
set_option maxRecDepth 65536 in
theorem w_alone : about1.alone = true := by decide +kernel
set_option maxRecDepth 65536 in
theorem w_named : about1.methodNamed? x = some theMethod := by decide +kernel
set_option maxRecDepth 65536 in
theorem w_hears : about1.hears theMethod below0 = true := by decide +kernel
set_option maxRecDepth 65536 in
theorem w_ripe : about1.ripe theMethod args0 below0 = true := by decide +kernel
theorem w_running : about1.status = .running := rfl
set_option maxRecDepth 65536 in
theorem w_room : about1.hasRoom e0.platform room_1 = true :=
  launch0.hasRoom_least _ room_1 (by decide +kernel) (by decide +kernel) (by decide +kernel) (by decide +kernel) (by decide +kernel) (by decide +kernel)
theorem allAtoms_all (ts : List Jvm.Cond) (a : Array Jvm.Value) (st : Jvm.State) : (allAtoms ts).before a st = ts.all (fun c => c.before a st) := by
  induction ts with
  | nil => rfl
  | cons c t ih =>
    show (Jvm.Cond.and c (allAtoms t)).before a st = _
    rw [Jvm.Cond.before_and, ih, List.all_cons]
def words1 : List Jvm.Cond := Jvm.Cond.code x code maxLocals ret :: tables_1
/-- a 'code' word, met by the world's own term for the bytes: nothing is compared byte by byte -/
theorem code_word {y : MethodName} {bytes : ByteArray} {mx : Nat} {rt : Option FieldType} {a : Array Value} {s : State} {m : MethodId} {meth : Method} {c : Code} (h1 : s.methodNamed? y = some m) (h2 : s.vm.method? m = some meth) (h3 : meth.code = some c) (h4 : c.code = bytes)
    (h5 : (c.maxLocals == mx && c.exceptionTable.isEmpty && decide (c.maxStack ≤ mostOperands) && decide (meth.sig.returnType = rt) && !meth.locks && decide (parseMethodDescriptor y.desc = some meth.sig)) = true) : (Jvm.Cond.code y bytes mx rt).before a s = true := by
  simp only [Bool.and_eq_true, beq_iff_eq, Bool.not_eq_true', decide_eq_true_eq] at h5
  obtain ⟨⟨⟨⟨⟨g1, g2⟩, g3⟩, g4⟩, g5⟩, g6⟩ := h5
  simp [Cond.before, Cond.holds, Cond.value, h1, h2, h3, h4, g1, g2, g3, g4, g5, g6]
def isCode : Jvm.Cond → Bool
  | .code _ _ _ _ => true
  | _ => false
theorem all_split {L : List Jvm.Cond} {P : Jvm.Cond → Bool} (h1 : L.all (fun c => isCode c || P c) = true) (h2 : ∀ c ∈ L.filter isCode, P c = true) : L.all P = true := by
  refine List.all_eq_true.mpr fun c hc => ?_
  have h := List.all_eq_true.mp h1 c hc
  rcases Bool.eq_false_or_eq_true (isCode c) with hi | hi
  · exact h2 c (List.mem_filter.mpr ⟨hc, hi⟩)
  · simpa [hi] using h
set_option maxRecDepth 65536 in
theorem w_c0 : (Jvm.Cond.code x code maxLocals ret).before args0 about1 = true := code_word (m := ⟨1, 1⟩) (meth := k1m1) (c := k1c1) (by decide +kernel) rfl rfl rfl (by decide +kernel)
set_option maxRecDepth 65536 in
theorem w_c1 : (Jvm.Cond.code ({ cls := "com/example/regent/regent/HtmlClosePinLaw", name := "tag", desc := "(ICCC)Ljava/lang/String;" } : Jvm.MethodName) method_3_code (4 : Nat) (Option.some (Jvm.ClassFile.FieldType.object "java/lang/String"))).before args0 about1 = true := code_word (m := ⟨1, 2⟩) (meth := k1m2) (c := k1c2) (by decide +kernel) rfl rfl rfl (by decide +kernel)
set_option maxRecDepth 65536 in
theorem w_c2 : (Jvm.Cond.code ({ cls := "java/lang/String", name := "<init>", desc := "([C)V" } : Jvm.MethodName) jdk_42_method_3_code (2 : Nat) (Option.none : Option Jvm.ClassFile.FieldType)).before args0 about1 = true := code_word (m := ⟨7, 1⟩) (meth := k7m1) (c := k7c1) (by decide +kernel) rfl rfl rfl (by decide +kernel)
set_option maxRecDepth 65536 in
theorem w_c3 : (Jvm.Cond.code ({ cls := "java/lang/String", name := "<init>", desc := "([CIILjava/lang/Void;)V" } : Jvm.MethodName) jdk_42_method_149_code (6 : Nat) (Option.none : Option Jvm.ClassFile.FieldType)).before args0 about1 = true := code_word (m := ⟨7, 6⟩) (meth := k7m6) (c := k7c6) (by decide +kernel) rfl rfl rfl (by decide +kernel)
set_option maxRecDepth 65536 in
theorem w_c4 : (Jvm.Cond.code ({ cls := "java/lang/Object", name := "<init>", desc := "()V" } : Jvm.MethodName) object_method_1_code (1 : Nat) (Option.none : Option Jvm.ClassFile.FieldType)).before args0 about1 = true := code_word (m := ⟨0, 0⟩) (meth := k0m0) (c := k0c0) (by decide +kernel) rfl rfl rfl (by decide +kernel)
set_option maxRecDepth 65536 in
theorem w_c5 : (Jvm.Cond.code ({ cls := "com/example/regent/regent/HtmlClosePinLaw", name := "expected", desc := "(ICCC)Ljava/lang/String;" } : Jvm.MethodName) method_4_code (4 : Nat) (Option.some (Jvm.ClassFile.FieldType.object "java/lang/String"))).before args0 about1 = true := code_word (m := ⟨1, 3⟩) (meth := k1m3) (c := k1c3) (by decide +kernel) rfl rfl rfl (by decide +kernel)
set_option maxRecDepth 65536 in
theorem w_c6 : (Jvm.Cond.code ({ cls := "java/lang/StringUTF16", name := "compress", desc := "([CII)[B" } : Jvm.MethodName) jdk_52_method_16_code (6 : Nat) (Option.some (Jvm.ClassFile.FieldType.array Jvm.ClassFile.FieldType.byte))).before args0 about1 = true := code_word (m := ⟨8, 2⟩) (meth := k8m2) (c := k8c2) (by decide +kernel) rfl rfl rfl (by decide +kernel)
set_option maxRecDepth 65536 in
theorem w_c7 : (Jvm.Cond.code ({ cls := "java/lang/StringUTF16", name := "compress", desc := "([CI[BII)I" } : Jvm.MethodName) jdk_52_method_21_code (7 : Nat) (Option.some Jvm.ClassFile.FieldType.int)).before args0 about1 = true := code_word (m := ⟨8, 3⟩) (meth := k8m3) (c := k8c3) (by decide +kernel) rfl rfl rfl (by decide +kernel)
set_option maxRecDepth 65536 in
theorem w_c8 : (Jvm.Cond.code ({ cls := "java/lang/StringUTF16", name := "coderFromArrayLen", desc := "([BI)B" } : Jvm.MethodName) jdk_52_method_15_code (2 : Nat) (Option.some Jvm.ClassFile.FieldType.byte)).before args0 about1 = true := code_word (m := ⟨8, 1⟩) (meth := k8m1) (c := k8c1) (by decide +kernel) rfl rfl rfl (by decide +kernel)
set_option maxRecDepth 65536 in
theorem w_c9 : (Jvm.Cond.code ({ cls := "com/example/regent/regent/Html", name := "<init>", desc := "()V" } : Jvm.MethodName) prog_9_method_1_code (1 : Nat) (Option.none : Option Jvm.ClassFile.FieldType)).before args0 about1 = true := code_word (m := ⟨9, 0⟩) (meth := k9m0) (c := k9c0) (by decide +kernel) rfl rfl rfl (by decide +kernel)
set_option maxRecDepth 65536 in
theorem w_c10 : (Jvm.Cond.code ({ cls := "java/lang/StringBuilder", name := "<init>", desc := "(Ljava/lang/String;)V" } : Jvm.MethodName) jdk_67_method_3_code (2 : Nat) (Option.none : Option Jvm.ClassFile.FieldType)).before args0 about1 = true := code_word (m := ⟨12, 1⟩) (meth := k12m1) (c := k12c1) (by decide +kernel) rfl rfl rfl (by decide +kernel)
set_option maxRecDepth 65536 in
theorem w_c11 : (Jvm.Cond.code ({ cls := "java/lang/AbstractStringBuilder", name := "<init>", desc := "(Ljava/lang/String;)V" } : Jvm.MethodName) jdk_68_method_3_code (5 : Nat) (Option.none : Option Jvm.ClassFile.FieldType)).before args0 about1 = true := code_word (m := ⟨11, 1⟩) (meth := k11m1) (c := k11c1) (by decide +kernel) rfl rfl rfl (by decide +kernel)
set_option maxRecDepth 65536 in
theorem w_c12 : (Jvm.Cond.code ({ cls := "java/lang/String", name := "length", desc := "()I" } : Jvm.MethodName) jdk_42_method_54_code (1 : Nat) (Option.some Jvm.ClassFile.FieldType.int)).before args0 about1 = true := code_word (m := ⟨7, 3⟩) (meth := k7m3) (c := k7c3) (by decide +kernel) rfl rfl rfl (by decide +kernel)
set_option maxRecDepth 65536 in
theorem w_c13 : (Jvm.Cond.code ({ cls := "java/lang/String", name := "coder", desc := "()B" } : Jvm.MethodName) jdk_42_method_152_code (1 : Nat) (Option.some Jvm.ClassFile.FieldType.byte)).before args0 about1 = true := code_word (m := ⟨7, 8⟩) (meth := k7m8) (c := k7c8) (by decide +kernel) rfl rfl rfl (by decide +kernel)
set_option maxRecDepth 65536 in
theorem w_c14 : (Jvm.Cond.code ({ cls := "java/lang/StringBuilder", name := "append", desc := "(Ljava/lang/String;)Ljava/lang/AbstractStringBuilder;" } : Jvm.MethodName) jdk_67_method_80_code (2 : Nat) (Option.some (Jvm.ClassFile.FieldType.object "java/lang/AbstractStringBuilder"))).before args0 about1 = true := code_word (m := ⟨12, 5⟩) (meth := k12m5) (c := k12c5) (by decide +kernel) rfl rfl rfl (by decide +kernel)
set_option maxRecDepth 65536 in
theorem w_c15 : (Jvm.Cond.code ({ cls := "java/lang/StringBuilder", name := "append", desc := "(Ljava/lang/String;)Ljava/lang/StringBuilder;" } : Jvm.MethodName) jdk_67_method_7_code (2 : Nat) (Option.some (Jvm.ClassFile.FieldType.object "java/lang/StringBuilder"))).before args0 about1 = true := code_word (m := ⟨12, 2⟩) (meth := k12m2) (c := k12c2) (by decide +kernel) rfl rfl rfl (by decide +kernel)
set_option maxRecDepth 65536 in
theorem w_c16 : (Jvm.Cond.code ({ cls := "java/lang/AbstractStringBuilder", name := "append", desc := "(Ljava/lang/String;)Ljava/lang/AbstractStringBuilder;" } : Jvm.MethodName) jdk_68_method_22_code (3 : Nat) (Option.some (Jvm.ClassFile.FieldType.object "java/lang/AbstractStringBuilder"))).before args0 about1 = true := code_word (m := ⟨11, 4⟩) (meth := k11m4) (c := k11c4) (by decide +kernel) rfl rfl rfl (by decide +kernel)
set_option maxRecDepth 65536 in
theorem w_c17 : (Jvm.Cond.code ({ cls := "java/lang/AbstractStringBuilder", name := "ensureCapacityInternal", desc := "(I)V" } : Jvm.MethodName) jdk_68_method_9_code (3 : Nat) (Option.none : Option Jvm.ClassFile.FieldType)).before args0 about1 = true := code_word (m := ⟨11, 3⟩) (meth := k11m3) (c := k11c3) (by decide +kernel) rfl rfl rfl (by decide +kernel)
set_option maxRecDepth 65536 in
theorem w_c18 : (Jvm.Cond.code ({ cls := "java/lang/AbstractStringBuilder", name := "putStringAt", desc := "(ILjava/lang/String;)V" } : Jvm.MethodName) jdk_68_method_73_code (3 : Nat) (Option.none : Option Jvm.ClassFile.FieldType)).before args0 about1 = true := code_word (m := ⟨11, 9⟩) (meth := k11m9) (c := k11c9) (by decide +kernel) rfl rfl rfl (by decide +kernel)
set_option maxRecDepth 65536 in
theorem w_c19 : (Jvm.Cond.code ({ cls := "java/lang/AbstractStringBuilder", name := "inflateIfNeededFor", desc := "(Ljava/lang/String;)V" } : Jvm.MethodName) jdk_68_method_71_code (2 : Nat) (Option.none : Option Jvm.ClassFile.FieldType)).before args0 about1 = true := code_word (m := ⟨11, 8⟩) (meth := k11m8) (c := k11c8) (by decide +kernel) rfl rfl rfl (by decide +kernel)
set_option maxRecDepth 65536 in
theorem w_c20 : (Jvm.Cond.code ({ cls := "java/lang/String", name := "getBytes", desc := "([BIB)V" } : Jvm.MethodName) jdk_42_method_147_code (4 : Nat) (Option.none : Option Jvm.ClassFile.FieldType)).before args0 about1 = true := code_word (m := ⟨7, 5⟩) (meth := k7m5) (c := k7c5) (by decide +kernel) rfl rfl rfl (by decide +kernel)
set_option maxRecDepth 65536 in
theorem w_c21 : (Jvm.Cond.code ({ cls := "com/example/regent/regent/Html", name := "close", desc := "(Ljava/lang/String;)Lcom/example/regent/regent/Html;" } : Jvm.MethodName) prog_9_method_3_code (2 : Nat) (Option.some (Jvm.ClassFile.FieldType.object "com/example/regent/regent/Html"))).before args0 about1 = true := code_word (m := ⟨9, 1⟩) (meth := k9m1) (c := k9c1) (by decide +kernel) rfl rfl rfl (by decide +kernel)
set_option maxRecDepth 65536 in
theorem w_c22 : (Jvm.Cond.code ({ cls := "java/lang/StringBuilder", name := "append", desc := "(C)Ljava/lang/StringBuilder;" } : Jvm.MethodName) jdk_67_method_14_code (2 : Nat) (Option.some (Jvm.ClassFile.FieldType.object "java/lang/StringBuilder"))).before args0 about1 = true := code_word (m := ⟨12, 3⟩) (meth := k12m3) (c := k12c3) (by decide +kernel) rfl rfl rfl (by decide +kernel)
set_option maxRecDepth 65536 in
theorem w_c23 : (Jvm.Cond.code ({ cls := "java/lang/AbstractStringBuilder", name := "append", desc := "(C)Ljava/lang/AbstractStringBuilder;" } : Jvm.MethodName) jdk_68_method_31_code (2 : Nat) (Option.some (Jvm.ClassFile.FieldType.object "java/lang/AbstractStringBuilder"))).before args0 about1 = true := code_word (m := ⟨11, 5⟩) (meth := k11m5) (c := k11c5) (by decide +kernel) rfl rfl rfl (by decide +kernel)
set_option maxRecDepth 65536 in
theorem w_c24 : (Jvm.Cond.code ({ cls := "java/lang/AbstractStringBuilder", name := "isLatin1", desc := "()Z" } : Jvm.MethodName) jdk_68_method_68_code (1 : Nat) (Option.some Jvm.ClassFile.FieldType.boolean)).before args0 about1 = true := code_word (m := ⟨11, 7⟩) (meth := k11m7) (c := k11c7) (by decide +kernel) rfl rfl rfl (by decide +kernel)
set_option maxRecDepth 65536 in
theorem w_c25 : (Jvm.Cond.code ({ cls := "java/lang/StringLatin1", name := "canEncode", desc := "(C)Z" } : Jvm.MethodName) jdk_43_method_3_code (1 : Nat) (Option.some Jvm.ClassFile.FieldType.boolean)).before args0 about1 = true := code_word (m := ⟨14, 1⟩) (meth := k14m1) (c := k14c1) (by decide +kernel) rfl rfl rfl (by decide +kernel)
set_option maxRecDepth 65536 in
theorem w_c26 : (Jvm.Cond.code ({ cls := "com/example/regent/regent/Html", name := "toString", desc := "()Ljava/lang/String;" } : Jvm.MethodName) prog_9_method_6_code (1 : Nat) (Option.some (Jvm.ClassFile.FieldType.object "java/lang/String"))).before args0 about1 = true := code_word (m := ⟨9, 2⟩) (meth := k9m2) (c := k9c2) (by decide +kernel) rfl rfl rfl (by decide +kernel)
set_option maxRecDepth 65536 in
theorem w_c27 : (Jvm.Cond.code ({ cls := "java/lang/StringBuilder", name := "toString", desc := "()Ljava/lang/String;" } : Jvm.MethodName) jdk_67_method_42_code (1 : Nat) (Option.some (Jvm.ClassFile.FieldType.object "java/lang/String"))).before args0 about1 = true := code_word (m := ⟨12, 4⟩) (meth := k12m4) (c := k12c4) (by decide +kernel) rfl rfl rfl (by decide +kernel)
set_option maxRecDepth 65536 in
theorem w_c28 : (Jvm.Cond.code ({ cls := "java/lang/String", name := "<init>", desc := "(Ljava/lang/StringBuilder;)V" } : Jvm.MethodName) jdk_42_method_53_code (2 : Nat) (Option.none : Option Jvm.ClassFile.FieldType)).before args0 about1 = true := code_word (m := ⟨7, 2⟩) (meth := k7m2) (c := k7c2) (by decide +kernel) rfl rfl rfl (by decide +kernel)
set_option maxRecDepth 65536 in
theorem w_c29 : (Jvm.Cond.code ({ cls := "java/lang/String", name := "<init>", desc := "(Ljava/lang/AbstractStringBuilder;Ljava/lang/Void;)V" } : Jvm.MethodName) jdk_42_method_150_code (5 : Nat) (Option.none : Option Jvm.ClassFile.FieldType)).before args0 about1 = true := code_word (m := ⟨7, 7⟩) (meth := k7m7) (c := k7c7) (by decide +kernel) rfl rfl rfl (by decide +kernel)
set_option maxRecDepth 65536 in
theorem w_c30 : (Jvm.Cond.code ({ cls := "java/lang/AbstractStringBuilder", name := "getValue", desc := "()[B" } : Jvm.MethodName) jdk_68_method_64_code (1 : Nat) (Option.some (Jvm.ClassFile.FieldType.array Jvm.ClassFile.FieldType.byte))).before args0 about1 = true := code_word (m := ⟨11, 6⟩) (meth := k11m6) (c := k11c6) (by decide +kernel) rfl rfl rfl (by decide +kernel)
set_option maxRecDepth 65536 in
theorem w_c31 : (Jvm.Cond.code ({ cls := "java/lang/StringBuilder", name := "length", desc := "()I" } : Jvm.MethodName) jdk_67_method_93_code (1 : Nat) (Option.some Jvm.ClassFile.FieldType.int)).before args0 about1 = true := code_word (m := ⟨12, 6⟩) (meth := k12m6) (c := k12c6) (by decide +kernel) rfl rfl rfl (by decide +kernel)
set_option maxRecDepth 65536 in
theorem w_c32 : (Jvm.Cond.code ({ cls := "java/lang/AbstractStringBuilder", name := "length", desc := "()I" } : Jvm.MethodName) jdk_68_method_6_code (1 : Nat) (Option.some Jvm.ClassFile.FieldType.int)).before args0 about1 = true := code_word (m := ⟨11, 2⟩) (meth := k11m2) (c := k11c2) (by decide +kernel) rfl rfl rfl (by decide +kernel)
set_option maxRecDepth 65536 in
theorem w_c33 : (Jvm.Cond.code ({ cls := "java/util/Arrays", name := "copyOfRange", desc := "([BII)[B" } : Jvm.MethodName) jdk_65_method_132_code (3 : Nat) (Option.some (Jvm.ClassFile.FieldType.array Jvm.ClassFile.FieldType.byte))).before args0 about1 = true := code_word (m := ⟨15, 2⟩) (meth := k15m2) (c := k15c2) (by decide +kernel) rfl rfl rfl (by decide +kernel)
set_option maxRecDepth 65536 in
theorem w_c34 : (Jvm.Cond.code ({ cls := "java/util/Arrays", name := "copyOfRangeByte", desc := "([BII)[B" } : Jvm.MethodName) jdk_65_method_133_code (5 : Nat) (Option.some (Jvm.ClassFile.FieldType.array Jvm.ClassFile.FieldType.byte))).before args0 about1 = true := code_word (m := ⟨15, 3⟩) (meth := k15m3) (c := k15c3) (by decide +kernel) rfl rfl rfl (by decide +kernel)
set_option maxRecDepth 65536 in
theorem w_c35 : (Jvm.Cond.code ({ cls := "java/util/Arrays", name := "checkLength", desc := "(II)V" } : Jvm.MethodName) jdk_65_method_131_code (2 : Nat) (Option.none : Option Jvm.ClassFile.FieldType)).before args0 about1 = true := code_word (m := ⟨15, 1⟩) (meth := k15m1) (c := k15c1) (by decide +kernel) rfl rfl rfl (by decide +kernel)
set_option maxRecDepth 65536 in
theorem w_c36 : (Jvm.Cond.code ({ cls := "java/lang/Math", name := "min", desc := "(II)I" } : Jvm.MethodName) jdk_29_method_69_code (2 : Nat) (Option.some Jvm.ClassFile.FieldType.int)).before args0 about1 = true := code_word (m := ⟨16, 1⟩) (meth := k16m1) (c := k16c1) (by decide +kernel) rfl rfl rfl (by decide +kernel)
set_option maxRecDepth 65536 in
theorem w_c37 : (Jvm.Cond.code ({ cls := "java/lang/String", name := "equals", desc := "(Ljava/lang/Object;)Z" } : Jvm.MethodName) jdk_42_method_66_code (3 : Nat) (Option.some Jvm.ClassFile.FieldType.boolean)).before args0 about1 = true := code_word (m := ⟨7, 4⟩) (meth := k7m4) (c := k7c4) (by decide +kernel) rfl rfl rfl (by decide +kernel)
set_option maxRecDepth 65536 in
theorem w_c38 : (Jvm.Cond.code ({ cls := "java/lang/StringLatin1", name := "equals", desc := "([B[B)Z" } : Jvm.MethodName) jdk_43_method_13_code (3 : Nat) (Option.some Jvm.ClassFile.FieldType.boolean)).before args0 about1 = true := code_word (m := ⟨14, 2⟩) (meth := k14m2) (c := k14c2) (by decide +kernel) rfl rfl rfl (by decide +kernel)
def codes1 : List Jvm.Cond := [Jvm.Cond.code x code maxLocals ret, Jvm.Cond.code ({ cls := "com/example/regent/regent/HtmlClosePinLaw", name := "tag", desc := "(ICCC)Ljava/lang/String;" } : Jvm.MethodName) method_3_code (4 : Nat) (Option.some (Jvm.ClassFile.FieldType.object "java/lang/String")), Jvm.Cond.code ({ cls := "java/lang/String", name := "<init>", desc := "([C)V" } : Jvm.MethodName) jdk_42_method_3_code (2 : Nat) (Option.none : Option Jvm.ClassFile.FieldType), Jvm.Cond.code ({ cls := "java/lang/String", name := "<init>", desc := "([CIILjava/lang/Void;)V" } : Jvm.MethodName) jdk_42_method_149_code (6 : Nat) (Option.none : Option Jvm.ClassFile.FieldType), Jvm.Cond.code ({ cls := "java/lang/Object", name := "<init>", desc := "()V" } : Jvm.MethodName) object_method_1_code (1 : Nat) (Option.none : Option Jvm.ClassFile.FieldType), Jvm.Cond.code ({ cls := "com/example/regent/regent/HtmlClosePinLaw", name := "expected", desc := "(ICCC)Ljava/lang/String;" } : Jvm.MethodName) method_4_code (4 : Nat) (Option.some (Jvm.ClassFile.FieldType.object "java/lang/String")), Jvm.Cond.code ({ cls := "java/lang/StringUTF16", name := "compress", desc := "([CII)[B" } : Jvm.MethodName) jdk_52_method_16_code (6 : Nat) (Option.some (Jvm.ClassFile.FieldType.array Jvm.ClassFile.FieldType.byte)), Jvm.Cond.code ({ cls := "java/lang/StringUTF16", name := "compress", desc := "([CI[BII)I" } : Jvm.MethodName) jdk_52_method_21_code (7 : Nat) (Option.some Jvm.ClassFile.FieldType.int), Jvm.Cond.code ({ cls := "java/lang/StringUTF16", name := "coderFromArrayLen", desc := "([BI)B" } : Jvm.MethodName) jdk_52_method_15_code (2 : Nat) (Option.some Jvm.ClassFile.FieldType.byte), Jvm.Cond.code ({ cls := "com/example/regent/regent/Html", name := "<init>", desc := "()V" } : Jvm.MethodName) prog_9_method_1_code (1 : Nat) (Option.none : Option Jvm.ClassFile.FieldType), Jvm.Cond.code ({ cls := "java/lang/StringBuilder", name := "<init>", desc := "(Ljava/lang/String;)V" } : Jvm.MethodName) jdk_67_method_3_code (2 : Nat) (Option.none : Option Jvm.ClassFile.FieldType), Jvm.Cond.code ({ cls := "java/lang/AbstractStringBuilder", name := "<init>", desc := "(Ljava/lang/String;)V" } : Jvm.MethodName) jdk_68_method_3_code (5 : Nat) (Option.none : Option Jvm.ClassFile.FieldType), Jvm.Cond.code ({ cls := "java/lang/String", name := "length", desc := "()I" } : Jvm.MethodName) jdk_42_method_54_code (1 : Nat) (Option.some Jvm.ClassFile.FieldType.int), Jvm.Cond.code ({ cls := "java/lang/String", name := "coder", desc := "()B" } : Jvm.MethodName) jdk_42_method_152_code (1 : Nat) (Option.some Jvm.ClassFile.FieldType.byte), Jvm.Cond.code ({ cls := "java/lang/StringBuilder", name := "append", desc := "(Ljava/lang/String;)Ljava/lang/AbstractStringBuilder;" } : Jvm.MethodName) jdk_67_method_80_code (2 : Nat) (Option.some (Jvm.ClassFile.FieldType.object "java/lang/AbstractStringBuilder")), Jvm.Cond.code ({ cls := "java/lang/StringBuilder", name := "append", desc := "(Ljava/lang/String;)Ljava/lang/StringBuilder;" } : Jvm.MethodName) jdk_67_method_7_code (2 : Nat) (Option.some (Jvm.ClassFile.FieldType.object "java/lang/StringBuilder")), Jvm.Cond.code ({ cls := "java/lang/AbstractStringBuilder", name := "append", desc := "(Ljava/lang/String;)Ljava/lang/AbstractStringBuilder;" } : Jvm.MethodName) jdk_68_method_22_code (3 : Nat) (Option.some (Jvm.ClassFile.FieldType.object "java/lang/AbstractStringBuilder")), Jvm.Cond.code ({ cls := "java/lang/AbstractStringBuilder", name := "ensureCapacityInternal", desc := "(I)V" } : Jvm.MethodName) jdk_68_method_9_code (3 : Nat) (Option.none : Option Jvm.ClassFile.FieldType), Jvm.Cond.code ({ cls := "java/lang/AbstractStringBuilder", name := "putStringAt", desc := "(ILjava/lang/String;)V" } : Jvm.MethodName) jdk_68_method_73_code (3 : Nat) (Option.none : Option Jvm.ClassFile.FieldType), Jvm.Cond.code ({ cls := "java/lang/AbstractStringBuilder", name := "inflateIfNeededFor", desc := "(Ljava/lang/String;)V" } : Jvm.MethodName) jdk_68_method_71_code (2 : Nat) (Option.none : Option Jvm.ClassFile.FieldType), Jvm.Cond.code ({ cls := "java/lang/String", name := "getBytes", desc := "([BIB)V" } : Jvm.MethodName) jdk_42_method_147_code (4 : Nat) (Option.none : Option Jvm.ClassFile.FieldType), Jvm.Cond.code ({ cls := "com/example/regent/regent/Html", name := "close", desc := "(Ljava/lang/String;)Lcom/example/regent/regent/Html;" } : Jvm.MethodName) prog_9_method_3_code (2 : Nat) (Option.some (Jvm.ClassFile.FieldType.object "com/example/regent/regent/Html")), Jvm.Cond.code ({ cls := "java/lang/StringBuilder", name := "append", desc := "(C)Ljava/lang/StringBuilder;" } : Jvm.MethodName) jdk_67_method_14_code (2 : Nat) (Option.some (Jvm.ClassFile.FieldType.object "java/lang/StringBuilder")), Jvm.Cond.code ({ cls := "java/lang/AbstractStringBuilder", name := "append", desc := "(C)Ljava/lang/AbstractStringBuilder;" } : Jvm.MethodName) jdk_68_method_31_code (2 : Nat) (Option.some (Jvm.ClassFile.FieldType.object "java/lang/AbstractStringBuilder")), Jvm.Cond.code ({ cls := "java/lang/AbstractStringBuilder", name := "isLatin1", desc := "()Z" } : Jvm.MethodName) jdk_68_method_68_code (1 : Nat) (Option.some Jvm.ClassFile.FieldType.boolean), Jvm.Cond.code ({ cls := "java/lang/StringLatin1", name := "canEncode", desc := "(C)Z" } : Jvm.MethodName) jdk_43_method_3_code (1 : Nat) (Option.some Jvm.ClassFile.FieldType.boolean), Jvm.Cond.code ({ cls := "com/example/regent/regent/Html", name := "toString", desc := "()Ljava/lang/String;" } : Jvm.MethodName) prog_9_method_6_code (1 : Nat) (Option.some (Jvm.ClassFile.FieldType.object "java/lang/String")), Jvm.Cond.code ({ cls := "java/lang/StringBuilder", name := "toString", desc := "()Ljava/lang/String;" } : Jvm.MethodName) jdk_67_method_42_code (1 : Nat) (Option.some (Jvm.ClassFile.FieldType.object "java/lang/String")), Jvm.Cond.code ({ cls := "java/lang/String", name := "<init>", desc := "(Ljava/lang/StringBuilder;)V" } : Jvm.MethodName) jdk_42_method_53_code (2 : Nat) (Option.none : Option Jvm.ClassFile.FieldType), Jvm.Cond.code ({ cls := "java/lang/String", name := "<init>", desc := "(Ljava/lang/AbstractStringBuilder;Ljava/lang/Void;)V" } : Jvm.MethodName) jdk_42_method_150_code (5 : Nat) (Option.none : Option Jvm.ClassFile.FieldType), Jvm.Cond.code ({ cls := "java/lang/AbstractStringBuilder", name := "getValue", desc := "()[B" } : Jvm.MethodName) jdk_68_method_64_code (1 : Nat) (Option.some (Jvm.ClassFile.FieldType.array Jvm.ClassFile.FieldType.byte)), Jvm.Cond.code ({ cls := "java/lang/StringBuilder", name := "length", desc := "()I" } : Jvm.MethodName) jdk_67_method_93_code (1 : Nat) (Option.some Jvm.ClassFile.FieldType.int), Jvm.Cond.code ({ cls := "java/lang/AbstractStringBuilder", name := "length", desc := "()I" } : Jvm.MethodName) jdk_68_method_6_code (1 : Nat) (Option.some Jvm.ClassFile.FieldType.int), Jvm.Cond.code ({ cls := "java/util/Arrays", name := "copyOfRange", desc := "([BII)[B" } : Jvm.MethodName) jdk_65_method_132_code (3 : Nat) (Option.some (Jvm.ClassFile.FieldType.array Jvm.ClassFile.FieldType.byte)), Jvm.Cond.code ({ cls := "java/util/Arrays", name := "copyOfRangeByte", desc := "([BII)[B" } : Jvm.MethodName) jdk_65_method_133_code (5 : Nat) (Option.some (Jvm.ClassFile.FieldType.array Jvm.ClassFile.FieldType.byte)), Jvm.Cond.code ({ cls := "java/util/Arrays", name := "checkLength", desc := "(II)V" } : Jvm.MethodName) jdk_65_method_131_code (2 : Nat) (Option.none : Option Jvm.ClassFile.FieldType), Jvm.Cond.code ({ cls := "java/lang/Math", name := "min", desc := "(II)I" } : Jvm.MethodName) jdk_29_method_69_code (2 : Nat) (Option.some Jvm.ClassFile.FieldType.int), Jvm.Cond.code ({ cls := "java/lang/String", name := "equals", desc := "(Ljava/lang/Object;)Z" } : Jvm.MethodName) jdk_42_method_66_code (3 : Nat) (Option.some Jvm.ClassFile.FieldType.boolean), Jvm.Cond.code ({ cls := "java/lang/StringLatin1", name := "equals", desc := "([B[B)Z" } : Jvm.MethodName) jdk_43_method_13_code (3 : Nat) (Option.some Jvm.ClassFile.FieldType.boolean)]
set_option maxRecDepth 65536 in
theorem codes_eq : words1.filter isCode = codes1 := rfl
theorem w_codes : ∀ c ∈ words1.filter isCode, c.before args0 about1 = true := by
  rw [codes_eq]
  intro c hc
  simp only [codes1, List.mem_cons, List.not_mem_nil, or_false] at hc
  rcases hc with rfl | rfl | rfl | rfl | rfl | rfl | rfl | rfl | rfl | rfl | rfl | rfl | rfl | rfl | rfl | rfl | rfl | rfl | rfl | rfl | rfl | rfl | rfl | rfl | rfl | rfl | rfl | rfl | rfl | rfl | rfl | rfl | rfl | rfl | rfl | rfl | rfl | rfl | rfl
  · exact w_c0
  · exact w_c1
  · exact w_c2
  · exact w_c3
  · exact w_c4
  · exact w_c5
  · exact w_c6
  · exact w_c7
  · exact w_c8
  · exact w_c9
  · exact w_c10
  · exact w_c11
  · exact w_c12
  · exact w_c13
  · exact w_c14
  · exact w_c15
  · exact w_c16
  · exact w_c17
  · exact w_c18
  · exact w_c19
  · exact w_c20
  · exact w_c21
  · exact w_c22
  · exact w_c23
  · exact w_c24
  · exact w_c25
  · exact w_c26
  · exact w_c27
  · exact w_c28
  · exact w_c29
  · exact w_c30
  · exact w_c31
  · exact w_c32
  · exact w_c33
  · exact w_c34
  · exact w_c35
  · exact w_c36
  · exact w_c37
  · exact w_c38
set_option maxRecDepth 65536 in
theorem w_t1 : (words1.take 24).all (fun c => isCode c || c.before args0 about1) = true := by decide +kernel
set_option maxRecDepth 65536 in
theorem w_t2 : ((words1.drop 24).take 24).all (fun c => isCode c || c.before args0 about1) = true := by decide +kernel
set_option maxRecDepth 65536 in
theorem w_t3 : (((words1.drop 24).drop 24).take 24).all (fun c => isCode c || c.before args0 about1) = true := by decide +kernel
set_option maxRecDepth 65536 in
theorem w_t4 : ((((words1.drop 24).drop 24).drop 24).take 24).all (fun c => isCode c || c.before args0 about1) = true := by decide +kernel
set_option maxRecDepth 65536 in
theorem w_t5 : (((((words1.drop 24).drop 24).drop 24).drop 24).take 24).all (fun c => isCode c || c.before args0 about1) = true := by decide +kernel
set_option maxRecDepth 65536 in
theorem w_t6 : ((((((words1.drop 24).drop 24).drop 24).drop 24).drop 24).take 24).all (fun c => isCode c || c.before args0 about1) = true := by decide +kernel
set_option maxRecDepth 65536 in
theorem w_t7 : (((((((words1.drop 24).drop 24).drop 24).drop 24).drop 24).drop 24).take 24).all (fun c => isCode c || c.before args0 about1) = true := by decide +kernel
set_option maxRecDepth 65536 in
theorem w_t8 : ((((((((words1.drop 24).drop 24).drop 24).drop 24).drop 24).drop 24).drop 24).take 24).all (fun c => isCode c || c.before args0 about1) = true := by decide +kernel
set_option maxRecDepth 65536 in
theorem w_t9 : ((((((((words1.drop 24).drop 24).drop 24).drop 24).drop 24).drop 24).drop 24).drop 24).all (fun c => isCode c || c.before args0 about1) = true := by decide +kernel
theorem w_tables : (allAtoms (Jvm.Cond.code x code maxLocals ret :: tables_1)).before args0 about1 = true := by
  rw [allAtoms_all]
  show words1.all (fun c => c.before args0 about1) = true
  refine all_split ?_ w_codes
  rw [← List.take_append_drop 24 words1, List.all_append, w_t1, ← List.take_append_drop 24 (words1.drop 24), List.all_append, w_t2, ← List.take_append_drop 24 ((words1.drop 24).drop 24), List.all_append, w_t3, ← List.take_append_drop 24 (((words1.drop 24).drop 24).drop 24), List.all_append, w_t4, ← List.take_append_drop 24 ((((words1.drop 24).drop 24).drop 24).drop 24), List.all_append, w_t5, ← List.take_append_drop 24 (((((words1.drop 24).drop 24).drop 24).drop 24).drop 24), List.all_append, w_t6, ← List.take_append_drop 24 ((((((words1.drop 24).drop 24).drop 24).drop 24).drop 24).drop 24), List.all_append, w_t7, ← List.take_append_drop 24 (((((((words1.drop 24).drop 24).drop 24).drop 24).drop 24).drop 24).drop 24), List.all_append, w_t8, w_t9]
  rfl
set_option maxRecDepth 65536 in
theorem w_rest : rest_1_c.before args0 about1 = true := by decide +kernel
set_option maxRecDepth 65536 in
theorem w_case : (Jvm.Cond.and given_1 narrow_1).before args0 about1 = true := by decide +kernel
set_option maxRecDepth 65536 in
theorem w_consts : constsHeld consts_1 about1 := Jvm.Lit.constsHeldB_iff.mp (by decide +kernel)
theorem w_applies : (headSpec (Jvm.Cond.code x code maxLocals ret :: tables_1) room_1).applies x e0.platform about1 = true :=
  (Spec.applies_iff w_frames).mpr ⟨w_running, w_runnable, w_alone, w_named, w_hears, w_ripe, w_room, w_tables⟩
theorem atStart : AtStart classFile x code maxLocals ret World_1 tables_1 room_1 Calls_1 rest_1 Pre_1 launch0 p0 e0 about1 theMethod args0 below0 :=
  ⟨lists_1, trivial, launch0.admits_env _ _ _, launch0.least_env, fairChoices_fair.cas, fairChoices_fair.clock, w_frames, w_args, w_heap, w_applies, ⟨w_consts, trivial⟩, w_rest, w_case⟩
end start1
theorem witness_1 : WitnessClaimed_1 := ⟨start1.p0, start1.e0, start1.about1, start1.theMethod, start1.args0, start1.below0, start1.atStart⟩
end Jvm.Pilot.@@N@@
