import JvmDerived
import JvmDerived.Pilot.@@N@@Statement
import JvmDerived.Pilot.@@N@@Code
set_option linter.unusedVariables false
set_option linter.unusedSimpArgs false
/- laws to paste: Road.backV, Road.eqW, Road.codOf (cut by pick.py; bodies as the Statement names them) -/
namespace Jvm.Pilot.@@N@@
namespace StrChars
open Jvm Sem ClassFile Op Lib Jvm.Stand Jvm.Free.XT Jvm.Free.ALB Jvm.Free.JM Jvm.Free
open Jvm.Lib.Cold (StaticIs)
/-- a char array whose places are chars -/
def Ch (a : Addr) (A : Cell) (U : State) : Prop := Arr .char a A U ∧ Typed .char A
theorem Ch.mv {a : Addr} {A : Cell} {U U' : State} (h : Ch a A U) (hal : U.vm.Alike U'.vm) (hh : U'.heap = U.heap) : Ch a A U' := ⟨h.1.mv hal hh, h.2⟩
theorem Ch.keep {a : Addr} {A : Cell} {U U' : State} (h : Ch a A U) (hal : U.vm.Alike U'.vm) (hk : U'.heap[a]? = some A) : Ch a A U' := ⟨h.1.keep hal hk, h.2⟩
/-- what place i of a char[]'s cell holds -/
def cv (A : Cell) (i : Nat) : Int32 := match A.slots[i]? with | some (.int x) => x | _ => 0
theorem Ch.get {a : Addr} {A : Cell} {U : State} (h : Ch a A U) {i : Nat} (hi : i < A.slots.size) : A.slots[i]? = some (.int (cv A i)) := by
  have e := Array.getElem?_eq_getElem hi
  have f := h.2 i _ e
  unfold cv; rw [e]
  generalize A.slots[i] = v at f
  cases v <;> simp [fits] at f ⊢
/-- the byte that i2b leaves of a char -/
def lo8 (x : Int32) : Int32 := x.toInt8.toInt32
theorem fits_lo8 (y : Int32) : fits .byte (.int (lo8 y)) = true := by
  have h1 := y.toInt8.le_toInt
  have h2 := y.toInt8.toInt_lt
  simp only [lo8, fits, Bool.and_eq_true, decide_eq_true_eq, Int32.le_iff_toInt_le, Int8.toInt_toInt32, show (-128 : Int32).toInt = -128 from by decide, show (127 : Int32).toInt = 127 from by decide]
  omega
/-- A' is A but that each place j of lo .. hi - 1 holds f j -/
def Laid (A A' : Cell) (lo hi : Nat) (f : Nat → Value) : Prop := A'.cls = A.cls ∧ A'.vm = A.vm ∧ A'.slots.size = A.slots.size ∧ ∀ i, A'.slots[i]? = if lo ≤ i ∧ i < hi then some (f i) else A.slots[i]?
theorem Laid.zero (A : Cell) (lo : Nat) (f : Nat → Value) : Laid A A lo (lo + 0) f := ⟨rfl, rfl, rfl, fun i => by rw [if_neg (by omega)]⟩
theorem Laid.step {A Ak : Cell} {lo k : Nat} {f : Nat → Value} {v : Value} (h : Laid A Ak lo k f) (hlo : lo ≤ k) (hk : k < Ak.slots.size) (hv : v = f k) : Laid A (Ak.setSlot k v) lo (k + 1) f := by
  refine ⟨h.1, h.2.1, by simpa [Cell.setSlot] using h.2.2.1, fun i => ?_⟩
  by_cases e : k = i
  · subst e; rw [Cell.slots_setSlot_self v hk, if_pos (by omega), hv]
  · rw [Cell.slots_setSlot_ne v e, h.2.2.2 i]
    by_cases q : lo ≤ i ∧ i < k
    · rw [if_pos q, if_pos (by omega)]
    · rw [if_neg q, if_neg (by omega)]
def U16 : String := "java/lang/StringUTF16"
namespace Cmp5
def yN : MethodName := ⟨"java/lang/StringUTF16", "compress", "([CI[BII)I"⟩
abbrev yB : ByteArray := jdk_52_method_21_code
theorem d0 : decode yB 0 = .ok (.iconst 0, 1) := by decide +kernel
theorem d1 : decode yB 1 = .ok (.istore 5, 2) := by decide +kernel
theorem d3 : decode yB 3 = .ok (.iload 5, 2) := by decide +kernel
theorem d5 : decode yB 5 = .ok (.iload 4, 2) := by decide +kernel
theorem d7 : decode yB 7 = .ok (.if_icmp (.ge) 37, 3) := by decide +kernel
theorem d10 : decode yB 10 = .ok (.aload_n 0, 1) := by decide +kernel
theorem d11 : decode yB 11 = .ok (.iload_n 1, 1) := by decide +kernel
theorem d12 : decode yB 12 = .ok (.caload, 1) := by decide +kernel
theorem d13 : decode yB 13 = .ok (.istore 6, 2) := by decide +kernel
theorem d15 : decode yB 15 = .ok (.iload 6, 2) := by decide +kernel
theorem d17 : decode yB 17 = .ok (.sipush 255, 3) := by decide +kernel
theorem d20 : decode yB 20 = .ok (.if_icmp (.le) 6, 3) := by decide +kernel
theorem d26 : decode yB 26 = .ok (.aload_n 2, 1) := by decide +kernel
theorem d27 : decode yB 27 = .ok (.iload_n 3, 1) := by decide +kernel
theorem d28 : decode yB 28 = .ok (.iload 6, 2) := by decide +kernel
theorem d30 : decode yB 30 = .ok (.i2b, 1) := by decide +kernel
theorem d31 : decode yB 31 = .ok (.bastore, 1) := by decide +kernel
theorem d32 : decode yB 32 = .ok (.iinc 1 1, 3) := by decide +kernel
theorem d35 : decode yB 35 = .ok (.iinc 3 1, 3) := by decide +kernel
theorem d38 : decode yB 38 = .ok (.iinc 5 1, 3) := by decide +kernel
theorem d41 : decode yB 41 = .ok (.goto (-38), 3) := by decide +kernel
theorem d44 : decode yB 44 = .ok (.iload 4, 2) := by decide +kernel
theorem d46 : decode yB 46 = .ok (.ireturn, 1) := by decide +kernel
def site : List Cond := []
def tab : Cond := tabOf yN yB 7 (some .int) site
def P (b : Addr) (A : Cell) (d : Addr) (B : Cell) (o q len : Nat) (args : Array Value) (s : State) : Prop := args = #[.ref b, .int (Int32.ofNat o), .ref d, .int (Int32.ofNat q), .int (Int32.ofNat len)] ∧ Ch b A s ∧ Arr .byte d B s ∧ b ≠ d ∧ o + len ≤ A.slots.size ∧ q + len ≤ B.slots.size ∧ ∀ i, i < len → ¬ 255 < cv A (o + i)
def E (b : Addr) (A : Cell) (d : Addr) (B : Cell) (o q len : Nat) (r : Option Value) (s u : State) : Prop := r = some (.int (Int32.ofNat len)) ∧ ∃ B', Put d B' s u ∧ Laid B B' q (q + len) (fun j => Value.int (lo8 (cv A (o + (j - q)))))
/-- no char of the range above 255: len; the places written hold each char's low byte -/
theorem law (l : Launch) (b : Addr) (A : Cell) (d : Addr) (B : Cell) (o q len : Nat) : Law l yN 5 5 0 0 yB 7 (some .int) site (P b A d B o q len) (E b A d B o q len) (copyLocs d q len) 0 0 := by
  refine Law.of_walk (plainFor_of_name (by decide +kernel)) (by decide +kernel) (by decide +kernel) (by decide) (fun _ _ h => by rw [h.1]; rfl) (fun _ U U' hal hh h => ⟨h.1, h.2.1.mv hal hh, h.2.2.1.mv hal hh, h.2.2.2⟩) (fun r U U' V V' h1 hal h2 h => ⟨h.1, h.2.elim fun B' q => ⟨B', q.1.mv h1 h2, q.2⟩⟩) ?_
  intro p e s m args below meth c s₁ X0 hexec hbytes hml hret hlk hnm hown hh0 W hP
  obtain ⟨rfl, hA, hB, hne, l1, l2, hp⟩ := hP
  have c1 : Steps p.tables e below (s₁.setTop (entryFrame m #[.ref b, .int (Int32.ofNat o), .ref d, .int (Int32.ofNat q), .int (Int32.ofNat len)] 7)) (s₁.setTop (mkF m 0 #[.val (.ref b), .val (.int (Int32.ofNat o)), .val (.ref d), .val (.int (Int32.ofNat q)), .val (.int (Int32.ofNat len)), .unset, .unset] [])) := entry rfl
  have hA0 := hA.1.mv X0.warmed.alike hh0
  have hB0 := hB.mv X0.warmed.alike hh0
  have a31 := hA.1.2.2.2
  have c2 : Steps p.tables e below (s₁.setTop (entryFrame m #[.ref b, .int (Int32.ofNat o), .ref d, .int (Int32.ofNat q), .int (Int32.ofNat len)] 7)) (s₁.setTop (mkF m 3 #[.val (.ref b), .val (.int (Int32.ofNat o)), .val (.ref d), .val (.int (Int32.ofNat q)), .val (.int (Int32.ofNat len)), .val (.int 0), .unset] [])) := c1.trans (by
    refine iconstV X0.here hexec rfl 0 (hb hbytes d0) (by decide) ?_
    refine XS.istore X0.here hexec rfl (hb hbytes d1) rfl rfl ?_
    exact Steps.refl _)
  have loop : ∀ (r i : Nat), i + r = len → ∀ (z : Slot), (z = .unset ∨ ∃ w, z = .val w ∧ w.category = 1) → ∀ (Tl : State) (Bk : Cell), Stand p l e { frames := 0, locals := 0, cells := 0, slots := 0 } s m #[.ref b, .int (Int32.ofNat o), .ref d, .int (Int32.ofNat q), .int (Int32.ofNat len)] below meth c Tl ([] ++ copyLocs d q i) 0 0 → Put d Bk s₁ Tl → Laid B Bk q (q + i) (fun j => Value.int (lo8 (cv A (o + (j - q))))) →
      Steps p.tables e below (s₁.setTop (entryFrame m #[.ref b, .int (Int32.ofNat o), .ref d, .int (Int32.ofNat q), .int (Int32.ofNat len)] 7)) (Tl.setTop (mkF m 3 #[.val (.ref b), .val (.int (Int32.ofNat (o + i))), .val (.ref d), .val (.int (Int32.ofNat (q + i))), .val (.int (Int32.ofNat len)), .val (.int (Int32.ofNat i)), z] [])) → ∃ (T' : State) (B' : Cell) (z' : Slot), Stand p l e { frames := 0, locals := 0, cells := 0, slots := 0 } s m #[.ref b, .int (Int32.ofNat o), .ref d, .int (Int32.ofNat q), .int (Int32.ofNat len)] below meth c T' ([] ++ copyLocs d q len) 0 0 ∧ Put d B' s₁ T' ∧ Laid B B' q (q + len) (fun j => Value.int (lo8 (cv A (o + (j - q))))) ∧
      Steps p.tables e below (s₁.setTop (entryFrame m #[.ref b, .int (Int32.ofNat o), .ref d, .int (Int32.ofNat q), .int (Int32.ofNat len)] 7)) (T'.setTop (mkF m 3 #[.val (.ref b), .val (.int (Int32.ofNat (o + len))), .val (.ref d), .val (.int (Int32.ofNat (q + len))), .val (.int (Int32.ofNat len)), .val (.int (Int32.ofNat len)), z'] [])) := by
    intro r
    induction r with
    | zero =>
      intro i hi z hz Tl Bk Xl pl fl cl
      have hil : i = len := by omega
      rw [hil] at Xl fl cl
      exact ⟨Tl, Bk, z, Xl, pl, fl, cl⟩
    | succ r ih =>
      intro i hi z hz Tl Bk Xl pl fl cl
      have all := X0.warmed.alike.symm.trans Xl.warmed.alike
      have hAl := hA0.keep all (pl.other hne hA0.1)
      have hBk := hB0.like all pl.1 fl.1 fl.2.1 fl.2.2.1
      have hlt : q + i < Bk.slots.size := by rw [fl.2.2.1]; omega
      have c3 : Steps p.tables e below (s₁.setTop (entryFrame m #[.ref b, .int (Int32.ofNat o), .ref d, .int (Int32.ofNat q), .int (Int32.ofNat len)] 7)) (Tl.setTop (mkF m 12 #[.val (.ref b), .val (.int (Int32.ofNat (o + i))), .val (.ref d), .val (.int (Int32.ofNat (q + i))), .val (.int (Int32.ofNat len)), .val (.int (Int32.ofNat i)), z] [.int (Int32.ofNat (o + i)), .ref b])) := cl.trans (by
        refine XS.iload Xl.here hexec rfl (hb hbytes d3) rfl ?_
        refine XS.iload Xl.here hexec rfl (hb hbytes d5) rfl ?_
        refine XS.icmpNo Xl.here hexec rfl (hb hbytes d7) rfl (ii_ge_f (lt32 (by omega) (by omega))) ?_
        refine XS.aloadN Xl.here hexec rfl (hb hbytes d10) rfl rfl ?_
        refine XS.iloadN Xl.here hexec rfl (hb hbytes d11) rfl ?_
        exact Steps.refl _)
      have c4 : Steps p.tables e below (s₁.setTop (entryFrame m #[.ref b, .int (Int32.ofNat o), .ref d, .int (Int32.ofNat q), .int (Int32.ofNat len)] 7)) (Tl.setTop (mkF m 13 #[.val (.ref b), .val (.int (Int32.ofNat (o + i))), .val (.ref d), .val (.int (Int32.ofNat (q + i))), .val (.int (Int32.ofNat len)), .val (.int (Int32.ofNat i)), z] [.int (cv A (o + i))])) := c3.trans (by
        refine Xl.aget hexec hAl rfl (hA.get (i := o + i) (by omega)) rfl rfl (hb hbytes d12) ?_
        exact Steps.refl _)
      have c5 : Steps p.tables e below (s₁.setTop (entryFrame m #[.ref b, .int (Int32.ofNat o), .ref d, .int (Int32.ofNat q), .int (Int32.ofNat len)] 7)) (Tl.setTop (mkF m 15 #[.val (.ref b), .val (.int (Int32.ofNat (o + i))), .val (.ref d), .val (.int (Int32.ofNat (q + i))), .val (.int (Int32.ofNat len)), .val (.int (Int32.ofNat i)), .val (.int (cv A (o + i)))] [])) := c4.trans (by
        refine XS.istoreS Xl.here hexec rfl (hb hbytes d13) rfl rfl hz ?_
        exact Steps.refl _)
      have c6 : Steps p.tables e below (s₁.setTop (entryFrame m #[.ref b, .int (Int32.ofNat o), .ref d, .int (Int32.ofNat q), .int (Int32.ofNat len)] 7)) (Tl.setTop (mkF m 31 #[.val (.ref b), .val (.int (Int32.ofNat (o + i))), .val (.ref d), .val (.int (Int32.ofNat (q + i))), .val (.int (Int32.ofNat len)), .val (.int (Int32.ofNat i)), .val (.int (cv A (o + i)))] [.int (lo8 (cv A (o + i))), .int (Int32.ofNat (q + i)), .ref d])) := c5.trans (by
        refine XS.iload Xl.here hexec rfl (hb hbytes d15) rfl ?_
        refine sipushV Xl.here hexec rfl 255 (hb hbytes d17) (by decide) ?_
        refine XS.icmpYes Xl.here hexec rfl (pc0 := 20) rfl (hb hbytes d20) rfl (ii_le_t (hp i (by omega))) (by decide) rfl ?_
        refine XS.aloadN Xl.here hexec rfl (hb hbytes d26) rfl rfl ?_
        refine XS.iloadN Xl.here hexec rfl (hb hbytes d27) rfl ?_
        refine XS.iload Xl.here hexec rfl (hb hbytes d28) rfl ?_
        refine i2b Xl.here hexec rfl (hb hbytes d30) rfl ?_
        exact Steps.refl _)
      obtain ⟨T7, X7, p7, st7⟩ := Xl.aput hexec hBk rfl hlt rfl (fits_lo8 (cv A (o + i))) (g := (mkF m 31 #[.val (.ref b), .val (.int (Int32.ofNat (o + i))), .val (.ref d), .val (.int (Int32.ofNat (q + i))), .val (.int (Int32.ofNat len)), .val (.int (Int32.ofNat i)), .val (.int (cv A (o + i)))] [.int (lo8 (cv A (o + i))), .int (Int32.ofNat (q + i)), .ref d])) rfl (rest := []) rfl (hb hbytes d31)
      have c8 : Steps p.tables e below (s₁.setTop (entryFrame m #[.ref b, .int (Int32.ofNat o), .ref d, .int (Int32.ofNat q), .int (Int32.ofNat len)] 7)) (T7.setTop (mkF m 32 #[.val (.ref b), .val (.int (Int32.ofNat (o + i))), .val (.ref d), .val (.int (Int32.ofNat (q + i))), .val (.int (Int32.ofNat len)), .val (.int (Int32.ofNat i)), .val (.int (cv A (o + i)))] [])) := c6.trans (st7 _ (Steps.refl _))
      have c9 : Steps p.tables e below (s₁.setTop (entryFrame m #[.ref b, .int (Int32.ofNat o), .ref d, .int (Int32.ofNat q), .int (Int32.ofNat len)] 7)) (T7.setTop (mkF m 3 #[.val (.ref b), .val (.int (Int32.ofNat (o + i) + 1)), .val (.ref d), .val (.int (Int32.ofNat (q + i) + 1)), .val (.int (Int32.ofNat len)), .val (.int (Int32.ofNat i + 1)), .val (.int (cv A (o + i)))] [])) := c8.trans (by
        refine iincV X7.here hexec rfl 1 (hb hbytes d32) (by decide) rfl rfl ?_
        refine iincV X7.here hexec rfl 1 (hb hbytes d35) (by decide) rfl rfl ?_
        refine iincV X7.here hexec rfl 1 (hb hbytes d38) (by decide) rfl rfl ?_
        refine XS.goto X7.here hexec rfl (pc0 := 41) rfl (hb hbytes d41) (by decide) rfl ?_
        exact Steps.refl _)
      have c10 : Steps p.tables e below (s₁.setTop (entryFrame m #[.ref b, .int (Int32.ofNat o), .ref d, .int (Int32.ofNat q), .int (Int32.ofNat len)] 7)) (T7.setTop (mkF m 3 #[.val (.ref b), .val (.int (Int32.ofNat (o + (i + 1)))), .val (.ref d), .val (.int (Int32.ofNat (q + (i + 1)))), .val (.int (Int32.ofNat len)), .val (.int (Int32.ofNat (i + 1))), .val (.int (cv A (o + i)))] [])) := by
        have := c9
        rw [succ32, succ32, succ32] at this
        exact this
      exact ih (i + 1) (by omega) _ (Or.inr ⟨_, rfl, rfl⟩) T7 _ (by rw [copyLocs_step, ← List.append_assoc]; exact X7) (pl.trans p7) (fl.step (by omega) hlt (by simp)) c10
  obtain ⟨T9, B9, z9, X9, p9, f9, g9⟩ := loop len 0 (by omega) .unset (Or.inl rfl) s₁ B (by simpa [copyLocs] using X0) ⟨hB0.1, fun _ _ => rfl, rfl⟩ (Laid.zero _ _ _) c2
  have c11 : Steps p.tables e below (s₁.setTop (entryFrame m #[.ref b, .int (Int32.ofNat o), .ref d, .int (Int32.ofNat q), .int (Int32.ofNat len)] 7)) (T9.setTop (mkF m 46 #[.val (.ref b), .val (.int (Int32.ofNat (o + len))), .val (.ref d), .val (.int (Int32.ofNat (q + len))), .val (.int (Int32.ofNat len)), .val (.int (Int32.ofNat len)), z9] [.int (Int32.ofNat len)])) := g9.trans (by
    refine XS.iload X9.here hexec rfl (hb hbytes d3) rfl ?_
    refine XS.iload X9.here hexec rfl (hb hbytes d5) rfl ?_
    refine XS.icmpYes X9.here hexec rfl (pc0 := 7) rfl (hb hbytes d7) rfl (ii_ge_t (nlt32 (by omega) (Nat.le_refl _))) (by decide) rfl ?_
    refine XS.iload X9.here hexec rfl (hb hbytes d44) rfl ?_
    exact Steps.refl _)
  exact ⟨T9, some (.int (Int32.ofNat len)), _, _, _, X9, by simp, rfl, rfl, (fun h => by cases h), ⟨rfl, B9, p9.from hh0, f9⟩, fun fs hl => c11.trans (X9.ireturnOut hexec hret rfl (Or.inl rfl) (hb hbytes d46) hl)⟩
end Cmp5
namespace Cmp3
def yN : MethodName := ⟨"java/lang/StringUTF16", "compress", "([CII)[B"⟩
abbrev yB : ByteArray := jdk_52_method_16_code
theorem d0 : decode yB 0 = .ok (.iload_n 2, 1) := by decide +kernel
theorem d1 : decode yB 1 = .ok (.newarray .byte, 2) := by decide +kernel
theorem d3 : decode yB 3 = .ok (.astore_n 3, 1) := by decide +kernel
theorem d4 : decode yB 4 = .ok (.aload_n 0, 1) := by decide +kernel
theorem d5 : decode yB 5 = .ok (.iload_n 1, 1) := by decide +kernel
theorem d6 : decode yB 6 = .ok (.aload_n 3, 1) := by decide +kernel
theorem d7 : decode yB 7 = .ok (.iconst 0, 1) := by decide +kernel
theorem d8 : decode yB 8 = .ok (.iload_n 2, 1) := by decide +kernel
theorem d9 : decode yB 9 = .ok (.invokestatic 115, 3) := by decide +kernel
theorem d12 : decode yB 12 = .ok (.istore 4, 2) := by decide +kernel
theorem d14 : decode yB 14 = .ok (.iload 4, 2) := by decide +kernel
theorem d16 : decode yB 16 = .ok (.iload_n 2, 1) := by decide +kernel
theorem d17 : decode yB 17 = .ok (.if_icmp (.eq) 40, 3) := by decide +kernel
theorem d57 : decode yB 57 = .ok (.aload_n 3, 1) := by decide +kernel
theorem d58 : decode yB 58 = .ok (.areturn, 1) := by decide +kernel
def site : List Cond := [.arrayClass .byte, Cmp5.tab] ++ staticW U16 115 Cmp5.yN
def tab : Cond := tabOf yN yB 6 (some (.array .byte)) site
def P (b : Addr) (A : Cell) (o len : Nat) (args : Array Value) (s : State) : Prop := args = #[.ref b, .int (Int32.ofNat o), .int (Int32.ofNat len)] ∧ Ch b A s ∧ o + len ≤ A.slots.size ∧ len ≤ 536870912 ∧ ∀ i, i < len → ¬ 255 < cv A (o + i)
def E (b : Addr) (A : Cell) (o len : Nat) (r : Option Value) (s u : State) : Prop := NewArr .byte "[B" len (fun j => .int (lo8 (cv A (o + j)))) r s u ∧ u.heap.size = s.heap.size + 1
/-- no char of the range above 255: a new byte[] of their low bytes -/
theorem law (l : Launch) (b : Addr) (A : Cell) (o len : Nat) : Law l yN 3 3 1 18 yB 6 (some (.array .byte)) site (P b A o len) (E b A o len) [] 1 len := by
  refine Law.of_walk (plainFor_of_name (by decide +kernel)) (by decide +kernel) (by decide +kernel) (by decide) (fun _ _ h => by rw [h.1]; rfl) (fun _ U U' hal hh h => ⟨h.1, h.2.1.mv hal hh, h.2.2⟩) (fun r U U' V V' h1 hal h2 h => ⟨NewArr.mv r U U' V V' h1 hal h2 h.1, by rw [h1, h2]; exact h.2⟩) ?_
  intro p e s m args below meth c s₁ X0 hexec hbytes hml hret hlk hnm hown hh0 W hP
  obtain ⟨rfl, hA, l1, l2, hp⟩ := hP
  have a31 := hA.1.2.2.2
  have c1 : Steps p.tables e below (s₁.setTop (entryFrame m #[.ref b, .int (Int32.ofNat o), .int (Int32.ofNat len)] 6)) (s₁.setTop (mkF m 0 #[.val (.ref b), .val (.int (Int32.ofNat o)), .val (.int (Int32.ofNat len)), .unset, .unset, .unset] [])) := entry rfl
  have c2 : Steps p.tables e below (s₁.setTop (entryFrame m #[.ref b, .int (Int32.ofNat o), .int (Int32.ofNat len)] 6)) (s₁.setTop (mkF m 1 #[.val (.ref b), .val (.int (Int32.ofNat o)), .val (.int (Int32.ofNat len)), .unset, .unset, .unset] [.int (Int32.ofNat len)])) := c1.trans (by
    refine XS.iloadN X0.here hexec rfl (hb hbytes d0) rfl ?_
    exact Steps.refl _)
  obtain ⟨T3, B3, X3, ba3, bs3, bv3, bh3, bf3, st3⟩ := X0.anew hexec (atype := .byte) (wk W (.arrayClass .byte)) rfl (by show len * 1 ≤ _; omega) (by omega) (g := (mkF m 1 #[.val (.ref b), .val (.int (Int32.ofNat o)), .val (.int (Int32.ofNat len)), .unset, .unset, .unset] [.int (Int32.ofNat len)])) rfl (hb hbytes d1) (rest := []) rfl (Nat.le_refl _) (by show 0 + len ≤ len; omega)
  rw [hh0] at ba3 st3
  have kp3 : XT.Kept s T3 := (XT.Kept.of_eq hh0).push bh3
  have hA3 := hA.keep X3.warmed.alike (kp3 _ _ hA.1.1)
  have hne : b ≠ s.heap.size := hA.1.ne
  have c4 : Steps p.tables e below (s₁.setTop (entryFrame m #[.ref b, .int (Int32.ofNat o), .int (Int32.ofNat len)] 6)) (T3.setTop (mkF m 3 #[.val (.ref b), .val (.int (Int32.ofNat o)), .val (.int (Int32.ofNat len)), .unset, .unset, .unset] [.ref s.heap.size])) := c2.trans (st3 _ (Steps.refl _))
  have c5 : Steps p.tables e below (s₁.setTop (entryFrame m #[.ref b, .int (Int32.ofNat o), .int (Int32.ofNat len)] 6)) (T3.setTop (mkF m 9 #[.val (.ref b), .val (.int (Int32.ofNat o)), .val (.int (Int32.ofNat len)), .val (.ref s.heap.size), .unset, .unset] [.int (Int32.ofNat len), .int 0, .ref s.heap.size, .int (Int32.ofNat o), .ref b])) := c4.trans (by
    refine XS.astoreN X3.here hexec rfl (hb hbytes d3) rfl rfl rfl ?_
    refine XS.aloadN X3.here hexec rfl (hb hbytes d4) rfl rfl ?_
    refine XS.iloadN X3.here hexec rfl (hb hbytes d5) rfl ?_
    refine XS.aloadN X3.here hexec rfl (hb hbytes d6) rfl rfl ?_
    refine iconstV X3.here hexec rfl 0 (hb hbytes d7) (by decide) ?_
    refine XS.iloadN X3.here hexec rfl (hb hbytes d8) rfl ?_
    exact Steps.refl _)
  obtain ⟨v6, T6, X6, E6, g6⟩ := X3.callS hexec (Cmp5.law l b A s.heap.size B3 o 0 len) hown (wks W (staticW U16 115 Cmp5.yN)) (wk W Cmp5.tab) (W := 0) (Nat.le_of_ble_eq_true rfl) (Nat.le_of_ble_eq_true rfl) (Nat.le_refl _) (by show 0 + len + 0 ≤ len; omega) (g := (mkF m 9 #[.val (.ref b), .val (.int (Int32.ofNat o)), .val (.int (Int32.ofNat len)), .val (.ref s.heap.size), .unset, .unset] [.int (Int32.ofNat len), .int (Int32.ofNat 0), .ref s.heap.size, .int (Int32.ofNat o), .ref b])) rfl (by rw [hml]; rfl) c5 (argsL := [.ref b, .int (Int32.ofNat o), .ref s.heap.size, .int (Int32.ofNat 0), .int (Int32.ofNat len)]) (rest := []) rfl rfl (by show 2 * 0 + 0 ≤ _; decide) (hb hbytes d9) (⟨rfl, hA3, ba3, hne, l1, by rw [bs3]; simp, hp⟩)
  obtain ⟨rfl, B6, p6, f6⟩ := E6
  have c7 : Steps p.tables e below (s₁.setTop (entryFrame m #[.ref b, .int (Int32.ofNat o), .int (Int32.ofNat len)] 6)) (T6.setTop (mkF m 12 #[.val (.ref b), .val (.int (Int32.ofNat o)), .val (.int (Int32.ofNat len)), .val (.ref s.heap.size), .unset, .unset] [.int (Int32.ofNat len)])) := g6
  have c8 : Steps p.tables e below (s₁.setTop (entryFrame m #[.ref b, .int (Int32.ofNat o), .int (Int32.ofNat len)] 6)) (T6.setTop (mkF m 58 #[.val (.ref b), .val (.int (Int32.ofNat o)), .val (.int (Int32.ofNat len)), .val (.ref s.heap.size), .val (.int (Int32.ofNat len)), .unset] [.ref s.heap.size])) := c7.trans (by
    refine XS.istore X6.here hexec rfl (hb hbytes d12) rfl rfl ?_
    refine XS.iload X6.here hexec rfl (hb hbytes d14) rfl ?_
    refine XS.iloadN X6.here hexec rfl (hb hbytes d16) rfl ?_
    refine XS.icmpYes X6.here hexec rfl (pc0 := 17) rfl (hb hbytes d17) rfl (ii_eq_t rfl) (by decide) rfl ?_
    refine XS.aloadN X6.here hexec rfl (hb hbytes d57) rfl rfl ?_
    exact Steps.refl _)
  have X8 := X6.wide (L' := []) (cells' := 1) (slots' := len) (fun x hx hlt => by
    simp only [List.nil_append, copyLocs, List.mem_map, List.mem_range] at hx
    obtain ⟨i, -, rfl⟩ := hx
    exact absurd hlt (Nat.lt_irrefl _)) (Nat.le_refl _) (by omega)
  exact ⟨T6, some (.ref s.heap.size), _, _, _, X8, rfl, rfl, rfl, (fun h => by cases h), ⟨⟨rfl, B6, ba3.like (X3.warmed.alike.symm.trans X6.warmed.alike) p6.1 f6.1 f6.2.1 f6.2.2.1, f6.2.1.trans bv3, by rw [X6.warmed.alike.findClass, f6.1]; exact bf3, by rw [f6.2.2.1, bs3]; simp, fun j hj => by rw [f6.2.2.2 j, if_pos (by omega)]; rfl, kp3.put p6 (Nat.le_refl _)⟩, by rw [p6.2.2, bh3, hh0]; simp⟩, fun fs hl => c8.trans (X8.areturnOut hexec rfl hret rfl (hb hbytes d58) hl)⟩
end Cmp3
namespace CodL
def yN : MethodName := ⟨"java/lang/StringUTF16", "coderFromArrayLen", "([BI)B"⟩
abbrev yB : ByteArray := jdk_52_method_15_code
theorem d0 : decode yB 0 = .ok (.iload_n 1, 1) := by decide +kernel
theorem d1 : decode yB 1 = .ok (.aload_n 0, 1) := by decide +kernel
theorem d2 : decode yB 2 = .ok (.arraylength, 1) := by decide +kernel
theorem d3 : decode yB 3 = .ok (.isub, 1) := by decide +kernel
theorem d4 : decode yB 4 = .ok (.bipush 31, 2) := by decide +kernel
theorem d6 : decode yB 6 = .ok (.iushr, 1) := by decide +kernel
theorem d7 : decode yB 7 = .ok (.i2b, 1) := by decide +kernel
theorem d8 : decode yB 8 = .ok (.ireturn, 1) := by decide +kernel
def site : List Cond := []
def tab : Cond := tabOf yN yB 2 (some .byte) site
def P (d : Addr) (B : Cell) (args : Array Value) (s : State) : Prop := args = #[.ref d, .int (Int32.ofNat B.slots.size)] ∧ Arr .byte d B s
def E (r : Option Value) (s u : State) : Prop := XT.PureE (some (.int 0)) r s u
/-- an array as long as the number of chars: LATIN1 -/
theorem law (l : Launch) (d : Addr) (B : Cell) : Law l yN 2 2 0 0 yB 2 (some .byte) site (P d B) E [] 0 0 := by
  refine Law.of_walk (plainFor_of_name (by decide +kernel)) (by decide +kernel) (by decide +kernel) (by decide) (fun _ _ h => by rw [h.1]; rfl) (fun _ U U' hal hh h => ⟨h.1, h.2.mv hal hh⟩) (fun r U U' V V' h1 hal h2 h => XT.PureE.mv r U U' V V' h1 hal h2 h) ?_
  intro p e s m args below meth c s₁ X0 hexec hbytes hml hret hlk hnm hown hh0 W hP
  obtain ⟨rfl, hB⟩ := hP
  have hB0 := hB.mv X0.warmed.alike hh0
  have c1 : Steps p.tables e below (s₁.setTop (entryFrame m #[.ref d, .int (Int32.ofNat B.slots.size)] 2)) (s₁.setTop (mkF m 0 #[.val (.ref d), .val (.int (Int32.ofNat B.slots.size))] [])) := entry rfl
  have c2 : Steps p.tables e below (s₁.setTop (entryFrame m #[.ref d, .int (Int32.ofNat B.slots.size)] 2)) (s₁.setTop (mkF m 2 #[.val (.ref d), .val (.int (Int32.ofNat B.slots.size))] [.ref d, .int (Int32.ofNat B.slots.size)])) := c1.trans (by
    refine XS.iloadN X0.here hexec rfl (hb hbytes d0) rfl ?_
    refine XS.aloadN X0.here hexec rfl (hb hbytes d1) rfl rfl ?_
    exact Steps.refl _)
  have c3 : Steps p.tables e below (s₁.setTop (entryFrame m #[.ref d, .int (Int32.ofNat B.slots.size)] 2)) (s₁.setTop (mkF m 8 #[.val (.ref d), .val (.int (Int32.ofNat B.slots.size))] [.int (lo8 (ushr (Int32.ofNat B.slots.size - Int32.ofNat B.slots.size) 31))])) := c2.trans (by
    refine X0.alen hexec hB0 rfl rfl (hb hbytes d2) ?_
    refine XS.isub X0.here hexec rfl (hb hbytes d3) rfl ?_
    refine bipushV X0.here hexec rfl 31 (hb hbytes d4) (by decide) ?_
    refine iushr X0.here hexec rfl (hb hbytes d6) rfl ?_
    refine i2b X0.here hexec rfl (hb hbytes d7) rfl ?_
    exact Steps.refl _)
  have e0 : lo8 (ushr (Int32.ofNat B.slots.size - Int32.ofNat B.slots.size) 31) = 0 := by rw [Int32.sub_self]; decide
  rw [e0] at c3
  exact ⟨s₁, some (.int 0), _, _, _, X0, rfl, rfl, rfl, (fun h => by cases h), ⟨rfl, hh0⟩, fun fs hl => c3.trans (X0.ireturnOut hexec hret rfl (Or.inr (Or.inr (Or.inl rfl))) (hb hbytes d8) hl)⟩
end CodL
/-- the String at a is Latin-1 over a new byte[] (the heap's one new cell): the low bytes of the len chars of A from o on; every cell but a is kept -/
def Got (a : Addr) (D : Cell) (fV fC : Field) (A : Cell) (o len : Nat) (r : Option Value) (s u : State) : Prop := r = none ∧ ∃ D' V : Cell, Blank "java/lang/String" a D' u ∧ Same D D' [fV.slot, fC.slot] ∧ D'.slots[fV.slot]? = some (.ref s.heap.size) ∧ D'.slots[fC.slot]? = some (.int 0) ∧ Arr .byte s.heap.size V u ∧ V.vm = .none ∧ u.vm.findClass "[B" = some V.cls ∧ V.slots.size = len ∧ (∀ j, j < len → V.slots[j]? = some (.int (lo8 (cv A (o + j))))) ∧ (∀ (y : Addr) (c : Cell), y ≠ a → s.heap[y]? = some c → u.heap[y]? = some c) ∧ u.heap.size = s.heap.size + 1
theorem Got.mv {a : Addr} {D A : Cell} {fV fC : Field} {o len : Nat} : ∀ r (U U' V V' : State), U'.heap = U.heap → V.vm.Alike V'.vm → V'.heap = V.heap → Got a D fV fC A o len r U V → Got a D fV fC A o len r U' V' :=
  fun r U U' V V' h1 hal h2 ⟨e0, D', X, a1, a2, a3, a4, a5, a6, a7, a8, a9, a10, a11⟩ => ⟨e0, D', X, a1.mv hal h2, a2, by rw [h1]; exact a3, a4, by rw [h1]; exact a5.mv hal h2, a6, by rw [hal.findClass]; exact a7, a8, a9, by rw [h1, h2]; exact a10, by rw [h1, h2]; exact a11⟩
namespace New4
def yN : MethodName := ⟨"java/lang/String", "<init>", "([CIILjava/lang/Void;)V"⟩
abbrev yB : ByteArray := jdk_42_method_149_code
theorem d0 : decode yB 0 = .ok (.aload_n 0, 1) := by decide +kernel
theorem d1 : decode yB 1 = .ok (.invokespecial 1, 3) := by decide +kernel
theorem d4 : decode yB 4 = .ok (.iload_n 3, 1) := by decide +kernel
theorem d5 : decode yB 5 = .ok (.ifCond (.ne) 22, 3) := by decide +kernel
theorem d27 : decode yB 27 = .ok (.getstatic 38, 3) := by decide +kernel
theorem d30 : decode yB 30 = .ok (.ifCond (.eq) 28, 3) := by decide +kernel
theorem d33 : decode yB 33 = .ok (.aload_n 1, 1) := by decide +kernel
theorem d34 : decode yB 34 = .ok (.iload_n 2, 1) := by decide +kernel
theorem d35 : decode yB 35 = .ok (.iload_n 3, 1) := by decide +kernel
theorem d36 : decode yB 36 = .ok (.invokestatic 177, 3) := by decide +kernel
theorem d39 : decode yB 39 = .ok (.astore 5, 2) := by decide +kernel
theorem d41 : decode yB 41 = .ok (.aload_n 0, 1) := by decide +kernel
theorem d42 : decode yB 42 = .ok (.aload 5, 2) := by decide +kernel
theorem d44 : decode yB 44 = .ok (.iload_n 3, 1) := by decide +kernel
theorem d45 : decode yB 45 = .ok (.invokestatic 47, 3) := by decide +kernel
theorem d48 : decode yB 48 = .ok (.putfield 15, 3) := by decide +kernel
theorem d51 : decode yB 51 = .ok (.aload_n 0, 1) := by decide +kernel
theorem d52 : decode yB 52 = .ok (.aload 5, 2) := by decide +kernel
theorem d54 : decode yB 54 = .ok (.putfield 9, 3) := by decide +kernel
theorem d57 : decode yB 57 = .ok (.return_, 1) := by decide +kernel
def site : List Cond := [.fieldLink "java/lang/String" 38 "java/lang/String" "COMPACT_STRINGS" "Z", Cmp3.tab, CodL.tab, .laysFinal "java/lang/String" "java/lang/String" "value" "[B", .fieldLink "java/lang/String" 9 "java/lang/String" "value" "[B", .laysFinal "java/lang/String" "java/lang/String" "coder" "B", .fieldLink "java/lang/String" 15 "java/lang/String" "coder" "B"] ++ objW "java/lang/String" 1 ++ staticW "java/lang/String" 177 Cmp3.yN ++ staticW "java/lang/String" 47 CodL.yN
def tab : Cond := tabOf yN yB 6 none site
def P (a : Addr) (D : Cell) (fV fC : Field) (b : Addr) (A : Cell) (z : Int32) (o len : Nat) (args : Array Value) (s : State) : Prop := args = #[.ref a, .ref b, .int (Int32.ofNat o), .int (Int32.ofNat len), .null] ∧ Blank "java/lang/String" a D s ∧ Found "java/lang/String" "value" "[B" fV s ∧ Found "java/lang/String" "coder" "B" fC s ∧ Ch b A s ∧ StaticIs s "java/lang/String" "COMPACT_STRINGS" "Z" (.int z) ∧ ¬ z = 0 ∧ 0 < len ∧ o + len ≤ A.slots.size ∧ len ≤ 536870912 ∧ ∀ i, i < len → ¬ 255 < cv A (o + i)
def E (a : Addr) (D : Cell) (fV fC : Field) (A : Cell) (o len : Nat) (r : Option Value) (s u : State) : Prop := Got a D fV fC A o len r s u
/-- len > 0, no char of the range above 255: a Latin-1 String of their low bytes -/
theorem law (l : Launch) (a : Addr) (D : Cell) (fV fC : Field) (b : Addr) (A : Cell) (z : Int32) (o len : Nat) : Law l yN 5 4 2 35 yB 6 none site (P a D fV fC b A z o len) (E a D fV fC A o len) [⟨a, fC.slot⟩, ⟨a, fV.slot⟩] 1 len := by
  refine Law.of_walk (plainFor_of_name (by decide +kernel)) (by decide +kernel) (by decide +kernel) (by decide) (fun _ _ h => by rw [h.1]; rfl) (fun _ U U' hal hh h => ⟨h.1, h.2.1.mv hal hh, h.2.2.1.al hal, h.2.2.2.1.al hal, h.2.2.2.2.1.mv hal hh, h.2.2.2.2.2.1.there hal hh, h.2.2.2.2.2.2⟩) (fun r U U' V V' h1 hal h2 h => Got.mv r U U' V V' h1 hal h2 h) ?_
  intro p e s m args below meth c s₁ X0 hexec hbytes hml hret hlk hnm hown hh0 W hP
  obtain ⟨rfl, hB, f1, f2, hA, s1, hz, l0, l1, l2, hp⟩ := hP
  have a31 := hA.1.2.2.2
  have c1 : Steps p.tables e below (s₁.setTop (entryFrame m #[.ref a, .ref b, .int (Int32.ofNat o), .int (Int32.ofNat len), .null] 6)) (s₁.setTop (mkF m 0 #[.val (.ref a), .val (.ref b), .val (.int (Int32.ofNat o)), .val (.int (Int32.ofNat len)), .val .null, .unset] [])) := entry rfl
  have c2 : Steps p.tables e below (s₁.setTop (entryFrame m #[.ref a, .ref b, .int (Int32.ofNat o), .int (Int32.ofNat len), .null] 6)) (s₁.setTop (mkF m 1 #[.val (.ref a), .val (.ref b), .val (.int (Int32.ofNat o)), .val (.int (Int32.ofNat len)), .val .null, .unset] [.ref a])) := c1.trans (by
    refine XS.aloadN X0.here hexec rfl (hb hbytes d0) rfl rfl ?_
    exact Steps.refl _)
  obtain ⟨T3, X3, q3, st3⟩ := X0.oinit hexec hown (wks W (objW "java/lang/String" 1)) (g := (mkF m 1 #[.val (.ref a), .val (.ref b), .val (.int (Int32.ofNat o)), .val (.int (Int32.ofNat len)), .val .null, .unset] [.ref a])) rfl (by rw [hml]; rfl) (rest := []) rfl (hb hbytes d1) (W := 0) (by show 2 * 0 + 0 ≤ _; decide) (Nat.le_of_ble_eq_true rfl) (Nat.le_of_ble_eq_true rfl)
  have hh3 := q3.trans hh0
  have c4 : Steps p.tables e below (s₁.setTop (entryFrame m #[.ref a, .ref b, .int (Int32.ofNat o), .int (Int32.ofNat len), .null] 6)) (T3.setTop (mkF m 27 #[.val (.ref a), .val (.ref b), .val (.int (Int32.ofNat o)), .val (.int (Int32.ofNat len)), .val .null, .unset] [])) := (c2.trans (st3 _ (Steps.refl _))).trans (by
    refine XS.iloadN X3.here hexec rfl (hb hbytes d4) rfl ?_
    refine XS.ifYes X3.here hexec rfl (pc0 := 5) rfl (hb hbytes d5) rfl (i0_ne_t (nz32 (by omega) l0)) (by decide) rfl ?_
    exact Steps.refl _)
  obtain ⟨T5, X5, q5, st5⟩ := X3.sget hexec hown (wk W (.fieldLink "java/lang/String" 38 "java/lang/String" "COMPACT_STRINGS" "Z")) s1 (fun _ _ h => by rw [hh3]; exact h) (g := (mkF m 27 #[.val (.ref a), .val (.ref b), .val (.int (Int32.ofNat o)), .val (.int (Int32.ofNat len)), .val .null, .unset] [])) rfl (hb hbytes d27)
  have hh5 := q5.trans hh3
  have c6 : Steps p.tables e below (s₁.setTop (entryFrame m #[.ref a, .ref b, .int (Int32.ofNat o), .int (Int32.ofNat len), .null] 6)) (T5.setTop (mkF m 30 #[.val (.ref a), .val (.ref b), .val (.int (Int32.ofNat o)), .val (.int (Int32.ofNat len)), .val .null, .unset] [.int z])) := c4.trans (st5 _ (Steps.refl _))
  have c7 : Steps p.tables e below (s₁.setTop (entryFrame m #[.ref a, .ref b, .int (Int32.ofNat o), .int (Int32.ofNat len), .null] 6)) (T5.setTop (mkF m 36 #[.val (.ref a), .val (.ref b), .val (.int (Int32.ofNat o)), .val (.int (Int32.ofNat len)), .val .null, .unset] [.int (Int32.ofNat len), .int (Int32.ofNat o), .ref b])) := c6.trans (by
    refine XS.ifNo X5.here hexec rfl (hb hbytes d30) rfl (i0_eq_f hz) ?_
    refine XS.aloadN X5.here hexec rfl (hb hbytes d33) rfl rfl ?_
    refine XS.iloadN X5.here hexec rfl (hb hbytes d34) rfl ?_
    refine XS.iloadN X5.here hexec rfl (hb hbytes d35) rfl ?_
    exact Steps.refl _)
  obtain ⟨v8, T8, X8, E8, g8⟩ := X5.callS hexec (Cmp3.law l b A o len) hown (wks W (staticW "java/lang/String" 177 Cmp3.yN)) (wk W Cmp3.tab) (W := 0) (Nat.le_of_ble_eq_true rfl) (Nat.le_of_ble_eq_true rfl) (Nat.le_refl _) (by show 0 + len ≤ len; omega) (g := (mkF m 36 #[.val (.ref a), .val (.ref b), .val (.int (Int32.ofNat o)), .val (.int (Int32.ofNat len)), .val .null, .unset] [.int (Int32.ofNat len), .int (Int32.ofNat o), .ref b])) rfl (by rw [hml]; rfl) c7 (argsL := [.ref b, .int (Int32.ofNat o), .int (Int32.ofNat len)]) (rest := []) rfl rfl (by show 2 * 0 + 0 ≤ _; decide) (hb hbytes d36) (⟨rfl, hA.mv X5.warmed.alike hh5, l1, l2, hp⟩)
  obtain ⟨e8, z8⟩ := E8
  obtain ⟨rfl, N, n1, n2, n3, n4, n5, n6⟩ := NewArr.mv _ T5 s _ _ hh5.symm (Vm.Alike.refl _) rfl e8
  rw [hh5] at z8
  have hB1 := hB.keep X8.warmed.alike (n6 _ _ hB.1)
  have hne : s.heap.size ≠ a := (Nat.ne_of_lt (Array.getElem?_eq_some_iff.mp hB.1).1).symm
  have c9 : Steps p.tables e below (s₁.setTop (entryFrame m #[.ref a, .ref b, .int (Int32.ofNat o), .int (Int32.ofNat len), .null] 6)) (T8.setTop (mkF m 39 #[.val (.ref a), .val (.ref b), .val (.int (Int32.ofNat o)), .val (.int (Int32.ofNat len)), .val .null, .unset] [.ref s.heap.size])) := g8
  have c10 : Steps p.tables e below (s₁.setTop (entryFrame m #[.ref a, .ref b, .int (Int32.ofNat o), .int (Int32.ofNat len), .null] 6)) (T8.setTop (mkF m 45 #[.val (.ref a), .val (.ref b), .val (.int (Int32.ofNat o)), .val (.int (Int32.ofNat len)), .val .null, .val (.ref s.heap.size)] [.int (Int32.ofNat N.slots.size), .ref s.heap.size, .ref a])) := by
    have hc : Steps p.tables e below (s₁.setTop (entryFrame m #[.ref a, .ref b, .int (Int32.ofNat o), .int (Int32.ofNat len), .null] 6)) (T8.setTop (mkF m 45 #[.val (.ref a), .val (.ref b), .val (.int (Int32.ofNat o)), .val (.int (Int32.ofNat len)), .val .null, .val (.ref s.heap.size)] [.int (Int32.ofNat len), .ref s.heap.size, .ref a])) := c9.trans (by
      refine XS.astore X8.here hexec rfl (hb hbytes d39) rfl rfl rfl ?_
      refine XS.aloadN X8.here hexec rfl (hb hbytes d41) rfl rfl ?_
      refine XS.aload X8.here hexec rfl (hb hbytes d42) rfl rfl ?_
      refine XS.iloadN X8.here hexec rfl (hb hbytes d44) rfl ?_
      exact Steps.refl _)
    rw [n4]; exact hc
  obtain ⟨v11, T11, X11, E11, g11⟩ := X8.callS hexec (CodL.law l s.heap.size N) hown (wks W (staticW "java/lang/String" 47 CodL.yN)) (wk W CodL.tab) (W := 1) (Nat.le_of_ble_eq_true rfl) (Nat.le_of_ble_eq_true rfl) (Nat.le_refl _) (by show 0 + len + 0 ≤ len; omega) (g := (mkF m 45 #[.val (.ref a), .val (.ref b), .val (.int (Int32.ofNat o)), .val (.int (Int32.ofNat len)), .val .null, .val (.ref s.heap.size)] [.int (Int32.ofNat N.slots.size), .ref s.heap.size, .ref a])) rfl (by rw [hml]; rfl) c10 (argsL := [.ref s.heap.size, .int (Int32.ofNat N.slots.size)]) (rest := [.ref a]) rfl rfl (by show 2 * 0 + (1 + 0) ≤ _; decide) (hb hbytes d45) (⟨rfl, n1⟩)
  obtain ⟨rfl, q11⟩ := E11
  have hB11 := hB1.mv (X8.warmed.alike.symm.trans X11.warmed.alike) q11
  have c12 : Steps p.tables e below (s₁.setTop (entryFrame m #[.ref a, .ref b, .int (Int32.ofNat o), .int (Int32.ofNat len), .null] 6)) (T11.setTop (mkF m 48 #[.val (.ref a), .val (.ref b), .val (.int (Int32.ofNat o)), .val (.int (Int32.ofNat len)), .val .null, .val (.ref s.heap.size)] [.int 0, .ref a])) := g11
  obtain ⟨T13, X13, p13, bl13, sl13, st13⟩ := X11.finit hexec hown (wk W (.fieldLink "java/lang/String" 15 "java/lang/String" "coder" "B")) (Or.inr ⟨_, (wk W (.laysFinal "java/lang/String" "java/lang/String" "coder" "B"))⟩) (Or.inl ⟨rfl, hnm⟩) f2 (Or.inl rfl) hB11 (t := .byte) (by decide +kernel) rfl (g := (mkF m 48 #[.val (.ref a), .val (.ref b), .val (.int (Int32.ofNat o)), .val (.int (Int32.ofNat len)), .val .null, .val (.ref s.heap.size)] [.int 0, .ref a])) rfl (rest := []) rfl (hb hbytes d48)
  have c14 : Steps p.tables e below (s₁.setTop (entryFrame m #[.ref a, .ref b, .int (Int32.ofNat o), .int (Int32.ofNat len), .null] 6)) (T13.setTop (mkF m 54 #[.val (.ref a), .val (.ref b), .val (.int (Int32.ofNat o)), .val (.int (Int32.ofNat len)), .val .null, .val (.ref s.heap.size)] [.ref s.heap.size, .ref a])) := (c12.trans (st13 _ (Steps.refl _))).trans (by
    refine XS.aloadN X13.here hexec rfl (hb hbytes d51) rfl rfl ?_
    refine XS.aload X13.here hexec rfl (hb hbytes d52) rfl rfl ?_
    exact Steps.refl _)
  obtain ⟨T15, X15, p15, bl15, sl15, st15⟩ := X13.finit hexec hown (wk W (.fieldLink "java/lang/String" 9 "java/lang/String" "value" "[B")) (Or.inr ⟨_, (wk W (.laysFinal "java/lang/String" "java/lang/String" "value" "[B"))⟩) (Or.inl ⟨rfl, hnm⟩) f1 (Or.inl rfl) bl13 (t := (.array .byte)) (by decide +kernel) rfl (g := (mkF m 54 #[.val (.ref a), .val (.ref b), .val (.int (Int32.ofNat o)), .val (.int (Int32.ofNat len)), .val .null, .val (.ref s.heap.size)] [.ref s.heap.size, .ref a])) rfl (rest := []) rfl (hb hbytes d54)
  have c16 : Steps p.tables e below (s₁.setTop (entryFrame m #[.ref a, .ref b, .int (Int32.ofNat o), .int (Int32.ofNat len), .null] 6)) (T15.setTop (mkF m 57 #[.val (.ref a), .val (.ref b), .val (.int (Int32.ofNat o)), .val (.int (Int32.ofNat len)), .val .null, .val (.ref s.heap.size)] [])) := c14.trans (st15 _ (Steps.refl _))
  have ap := apart (Or.inr ⟨_, (wk W (.laysFinal "java/lang/String" "java/lang/String" "value" "[B"))⟩) (Or.inr ⟨_, (wk W (.laysFinal "java/lang/String" "java/lang/String" "coder" "B"))⟩) f1 f2 (t₁ := .array .byte) (t₂ := .byte) (by decide +kernel) (by decide +kernel) (by decide)
  have al := X8.warmed.alike.symm.trans X15.warmed.alike
  have n7 : T11.heap[s.heap.size]? = some N := by rw [q11]; exact n1.1
  exact ⟨T15, none, _, _, _, X15, by simp, rfl, by omega, (fun _ => rfl), ⟨rfl, _, N, bl15, ((Same.refl D _).set _ (by simp)).set _ (by simp), sl15, (Cell.slots_setSlot_ne _ ap).trans sl13, n1.keep al (p15.other hne (p13.other hne n7)), n2, by rw [al.findClass]; exact n3, n4, n5, fun y c h1 h2 => p15.other h1 (p13.other h1 (by rw [q11]; exact n6 y c h2)), by rw [p15.2.2, p13.2.2, q11]; exact z8⟩, fun fs hl => c16.trans (X15.returnOut hexec hret (hb hbytes d57) hl)⟩
end New4
namespace New1
def yN : MethodName := ⟨"java/lang/String", "<init>", "([C)V"⟩
abbrev yB : ByteArray := jdk_42_method_3_code
theorem d0 : decode yB 0 = .ok (.aload_n 0, 1) := by decide +kernel
theorem d1 : decode yB 1 = .ok (.aload_n 1, 1) := by decide +kernel
theorem d2 : decode yB 2 = .ok (.iconst 0, 1) := by decide +kernel
theorem d3 : decode yB 3 = .ok (.aload_n 1, 1) := by decide +kernel
theorem d4 : decode yB 4 = .ok (.arraylength, 1) := by decide +kernel
theorem d5 : decode yB 5 = .ok (.aconst_null, 1) := by decide +kernel
theorem d6 : decode yB 6 = .ok (.invokespecial 27, 3) := by decide +kernel
theorem d9 : decode yB 9 = .ok (.return_, 1) := by decide +kernel
def site : List Cond := [New4.tab] ++ initW "java/lang/String" 27 New4.yN
def tab : Cond := tabOf yN yB 2 none site
def P (a : Addr) (D : Cell) (fV fC : Field) (b : Addr) (A : Cell) (z : Int32) (args : Array Value) (s : State) : Prop := args = #[.ref a, .ref b] ∧ Blank "java/lang/String" a D s ∧ Found "java/lang/String" "value" "[B" fV s ∧ Found "java/lang/String" "coder" "B" fC s ∧ Ch b A s ∧ StaticIs s "java/lang/String" "COMPACT_STRINGS" "Z" (.int z) ∧ ¬ z = 0 ∧ 0 < A.slots.size ∧ A.slots.size ≤ 536870912 ∧ ∀ i, i < A.slots.size → ¬ 255 < cv A i
def E (a : Addr) (D : Cell) (fV fC : Field) (A : Cell) (r : Option Value) (s u : State) : Prop := Got a D fV fC A 0 A.slots.size r s u
/-- new String(chars), not empty, no char above 255: a Latin-1 String of their low bytes -/
theorem law (l : Launch) (a : Addr) (D : Cell) (fV fC : Field) (b : Addr) (A : Cell) (z : Int32) : Law l yN 2 1 3 52 yB 2 none site (P a D fV fC b A z) (E a D fV fC A) [⟨a, fC.slot⟩, ⟨a, fV.slot⟩] 1 A.slots.size := by
  refine Law.of_walk (plainFor_of_name (by decide +kernel)) (by decide +kernel) (by decide +kernel) (by decide) (fun _ _ h => by rw [h.1]; rfl) (fun _ U U' hal hh h => ⟨h.1, h.2.1.mv hal hh, h.2.2.1.al hal, h.2.2.2.1.al hal, h.2.2.2.2.1.mv hal hh, h.2.2.2.2.2.1.there hal hh, h.2.2.2.2.2.2⟩) (fun r U U' V V' h1 hal h2 h => Got.mv r U U' V V' h1 hal h2 h) ?_
  intro p e s m args below meth c s₁ X0 hexec hbytes hml hret hlk hnm hown hh0 W hP
  obtain ⟨rfl, hB, f1, f2, hA, s1, hz, l0, l2, hp⟩ := hP
  have c1 : Steps p.tables e below (s₁.setTop (entryFrame m #[.ref a, .ref b] 2)) (s₁.setTop (mkF m 0 #[.val (.ref a), .val (.ref b)] [])) := entry rfl
  have c2 : Steps p.tables e below (s₁.setTop (entryFrame m #[.ref a, .ref b] 2)) (s₁.setTop (mkF m 6 #[.val (.ref a), .val (.ref b)] [.null, .int (Int32.ofNat A.slots.size), .int 0, .ref b, .ref a])) := c1.trans (by
    refine XS.aloadN X0.here hexec rfl (hb hbytes d0) rfl rfl ?_
    refine XS.aloadN X0.here hexec rfl (hb hbytes d1) rfl rfl ?_
    refine iconstV X0.here hexec rfl 0 (hb hbytes d2) (by decide) ?_
    refine XS.aloadN X0.here hexec rfl (hb hbytes d3) rfl rfl ?_
    refine X0.alen hexec (hA.1.mv X0.warmed.alike hh0) rfl rfl (hb hbytes d4) ?_
    refine XS.aconstNull X0.here hexec rfl (hb hbytes d5) ?_
    exact Steps.refl _)
  obtain ⟨v3, T3, X3, E3, g3⟩ := X0.callN hexec (New4.law l a D fV fC b A z 0 A.slots.size) rfl hown (wks W (initW "java/lang/String" 27 New4.yN)) (W New4.tab (by simp only [site, List.mem_cons, List.mem_append, true_or, or_true])) (W := 0) (Nat.le_of_ble_eq_true rfl) (Nat.le_of_ble_eq_true rfl) (Nat.le_refl _) (by show 0 + A.slots.size ≤ A.slots.size; omega) (g := (mkF m 6 #[.val (.ref a), .val (.ref b)] [.null, .int (Int32.ofNat A.slots.size), .int (Int32.ofNat 0), .ref b, .ref a])) rfl (by rw [hml]; rfl) c2 (argsL := [.ref b, .int (Int32.ofNat 0), .int (Int32.ofNat A.slots.size), .null]) (rest := []) rfl rfl (by show 2 * 0 + 0 ≤ _; decide) (hb hbytes d6) (⟨rfl, hB.mv X0.warmed.alike hh0, f1.al X0.warmed.alike, f2.al X0.warmed.alike, hA.mv X0.warmed.alike hh0, s1.there X0.warmed.alike hh0, hz, l0, by omega, l2, fun i hi => by rw [Nat.zero_add]; exact hp i hi⟩)
  have e0 := Got.mv _ s₁ s _ _ hh0.symm (Vm.Alike.refl _) rfl E3
  obtain rfl := e0.1
  have c4 : Steps p.tables e below (s₁.setTop (entryFrame m #[.ref a, .ref b] 2)) (T3.setTop (mkF m 9 #[.val (.ref a), .val (.ref b)] [])) := g3
  exact ⟨T3, none, _, _, _, X3, by simp, rfl, by omega, (fun _ => rfl), e0, fun fs hl => c4.trans (X3.returnOut hexec hret (hb hbytes d9) hl)⟩
theorem pays {l : Launch} {R : Room} {p : Program} {e : Env} {below : List Frame} {s : State} {sargs : Array Value} {len W : Nat} (a : Addr) (D : Cell) (fV fC : Field) (b : Addr) (A : Cell) (z : Int32) (htab : tab.before sargs s = true) (hfr : 4 ≤ R.frames) (hlo : W + 65 ≤ R.locals) :
    Back l R p e below s sargs yN len W (fun A₁ a₁ => A₁.cells + 1 ≤ R.cells ∧ A₁.slots + A.slots.size ≤ R.slots ∧ P a D fV fC b A z a₁ A₁.U) (fun A₁ _ v₁ B₁ => E a D fV fC A v₁ A₁.U B₁.U ∧ B₁.locs = A₁.locs ++ [⟨a, fC.slot⟩, ⟨a, fV.slot⟩] ∧ B₁.cells = A₁.cells + 1 ∧ B₁.slots = A₁.slots + A.slots.size) :=
  (law l a D fV fC b A z).pays htab hfr (by omega)
end New1
/-- the byte, read back as charAt reads it, is the char -/
theorem lo8_mask {x : Int32} (h0 : ¬ x < 0) (h1 : ¬ 255 < x) : lo8 x &&& 255 = x := by
  have t : ∀ k : Fin 256, lo8 (Int32.ofNat k.val) &&& 255 = Int32.ofNat k.val := by decide +kernel
  rw [Int32.lt_iff_toInt_lt] at h0 h1
  have e0 : (0 : Int32).toInt = 0 := rfl
  have e1 : (255 : Int32).toInt = 255 := rfl
  obtain ⟨k, hk⟩ : ∃ k : Nat, x.toInt = k := ⟨x.toInt.toNat, by omega⟩
  have hx : x = Int32.ofNat k := Int32.toInt_inj.mp (by rw [hk, Int32.toInt_ofNat_small (by omega)])
  rw [hx]
  exact t ⟨k, by omega⟩
end StrChars
namespace StrChars.Road
open Jvm Sem ClassFile Op Lib Jvm.Stand Jvm.Free Jvm.Free.XT
open Jvm.Lib.Cold (StaticIs)
abbrev ST : String := "java/lang/String"
/-- every table word that New1's law asks, flat -/
abbrev words : List Jvm.Cond := [.code New1.yN New1.yB 2 none, .initialized ST, .methodLink ST 27 New4.yN, .instanceMethod New4.yN,
  .code New4.yN New4.yB 6 none, .fieldLink ST 38 ST "COMPACT_STRINGS" "Z", .laysFinal ST ST "value" "[B", .fieldLink ST 9 ST "value" "[B", .laysFinal ST ST "coder" "B", .fieldLink ST 15 ST "coder" "B",
  .methodLink ST 1 Lib.objectInit, .instanceMethod Lib.objectInit, .code Lib.objectInit ⟨#[0xb1]⟩ 1 none, .methodLink ST 177 Cmp3.yN, .static Cmp3.yN, .methodLink ST 47 CodL.yN, .static CodL.yN,
  .code Cmp3.yN Cmp3.yB 6 (some (.array .byte)), .initialized U16, .arrayClass .byte, .methodLink U16 115 Cmp5.yN, .static Cmp5.yN, .code Cmp5.yN Cmp5.yB 7 (some .int), .code CodL.yN CodL.yB 2 (some .byte)]
theorem tab_of {a : Array Value} {s : State} (h : ∀ w ∈ words, w.before a s = true) : New1.tab.before a s = true := by
  have h5 : Cmp5.tab.before a s = true := unparts (wk h (.code Cmp5.yN Cmp5.yB 7 (some .int))) (wks h (.initialized Cmp5.yN.cls :: Cmp5.site))
  have hc : CodL.tab.before a s = true := unparts (wk h (.code CodL.yN CodL.yB 2 (some .byte))) (wks h (.initialized CodL.yN.cls :: CodL.site))
  have q5 : ∀ w ∈ Cmp5.tab :: words, w.before a s = true := fun w hw => (List.mem_cons.mp hw).elim (fun e => e ▸ h5) (h w)
  have h3 : Cmp3.tab.before a s = true := unparts (wk q5 (.code Cmp3.yN Cmp3.yB 6 (some (.array .byte)))) (wks q5 (.initialized Cmp3.yN.cls :: Cmp3.site))
  have q3 : ∀ w ∈ Cmp3.tab :: CodL.tab :: words, w.before a s = true := fun w hw => (List.mem_cons.mp hw).elim (fun e => e ▸ h3) fun hw => (List.mem_cons.mp hw).elim (fun e => e ▸ hc) (h w)
  have h4 : New4.tab.before a s = true := unparts (wk q3 (.code New4.yN New4.yB 6 none)) (wks q3 (.initialized New4.yN.cls :: New4.site))
  have q4 : ∀ w ∈ New4.tab :: words, w.before a s = true := fun w hw => (List.mem_cons.mp hw).elim (fun e => e ▸ h4) (h w)
  exact unparts (wk q4 (.code New1.yN New1.yB 2 none)) (wks q4 (.initialized New1.yN.cls :: New1.site))
/-- the words ride from the start Z to the walk's own state -/
theorem moved {Z s : State} {a0 args : Array Value} (hZ : Z.Warmed39 s.vm) (hw : ∀ d ∈ words, d.before a0 Z = true) : ∀ d ∈ words, d.before args s = true := fun d hd => by
  have q := hw d hd
  have t : ∀ d ∈ words, d = .arrayClass .byte ∨ (d.onTables && d.keepsFace) = true := by decide +kernel
  rcases t d hd with rfl | t
  · exact RoadKit.mvA hZ q
  · exact RoadKit.mv hZ q t
/-- WHAT COMES BACK, over the tables of the start Z: h the heap at the call, h' behind it -/
def Q (Z : State) (x : Addr) (A : Cell) (h : Heap) (v : Option Value) (h' : Heap) (L : List Loc) : Prop := v = none ∧ (∀ y ∈ L, y.base = x) ∧ RoadKit.Keep h h' [x] ∧ h'.size = h.size + 1 ∧ RoadKit.Exa Z h' x ST ∧ RoadKit.Fld Z h' x ST "value" "[B" (.ref h.size) ∧ RoadKit.Fld Z h' x ST "coder" "B" (.int 0) ∧
  (∃ V : Cell, RoadKit.Arr Z h' h.size V .byte ∧ V.vm = .none ∧ Z.vm.findClass "[B" = some V.cls ∧ V.slots.size = A.slots.size ∧ ∀ j, j < A.slots.size → V.slots[j]? = some (.int (lo8 (cv A j)))) ∧
  ∀ (O n d : String) (w : Value), RoadKit.Fld Z h x O n d w → RoadKit.slotOf Z O n d ≠ RoadKit.slotOf Z ST "value" "[B" → RoadKit.slotOf Z O n d ≠ RoadKit.slotOf Z ST "coder" "B" → RoadKit.Fld Z h' x O n d w
/-- **new String(chars) AT A CALL, IN THE ROAD'S FORM**: for specialBack behind newO: x the fresh String, b the char[] with the cell A -/
theorem back {p : Program} {l : Launch} {e : Env} {R : Room} {s : State} {args : Array Value} {below : List Frame} {len W : Nat} {Z : State} {a0 : Array Value} {h : Heap} (hZ : Z.Warmed39 s.vm) (hw : ∀ d ∈ words, d.before a0 Z = true) {kI : Nat} (wi : (Jvm.Cond.instantiable ST kI).before a0 Z = true)
    {x b : Addr} {A : Cell} {z : Int32} {v0 c0 : Value} (E : RoadKit.Exa Z h x ST) (V : RoadKit.Fld Z h x ST "value" "[B" v0) (C : RoadKit.Fld Z h x ST "coder" "B" c0) (K : RoadKit.Arr Z h b A .char) (hty : Typed .char A) (S : RoadKit.Sta Z h ST "COMPACT_STRINGS" "Z" (.int z)) (hz : ¬ z = 0)
    (l0 : 0 < A.slots.size) (l2 : A.slots.size ≤ 536870912) (hp : ∀ i, i < A.slots.size → ¬ 255 < cv A i) (hfr : 4 ≤ R.frames) (hlo : W + 65 ≤ R.locals) :
    Back l R p e below s args New1.yN len W (fun P a => a = #[.ref x, .ref b] ∧ P.U.heap = h ∧ P.cells + 1 ≤ R.cells ∧ P.slots + A.slots.size ≤ R.slots)
      (fun P _ v B => ∃ L, Q Z x A h v B.U.heap L ∧ B.locs = P.locs ++ L ∧ B.cells = P.cells + 1 ∧ B.slots = P.slots + A.slots.size) := by
  intro m meth c P g ig mk a X hg hsize hdg hW hn hp'
  obtain ⟨rfl, rfl, r1, r2⟩ := hp'
  have al : Z.vm.Alike P.U.vm := hZ.alike.trans X.warmed.alike
  obtain ⟨D, cfV, kV, iV, fV, hD, gV, stV, knV, obV, asV, slV⟩ := id V
  obtain ⟨D', cfC, kC, iC, fC, hD', gC, stC, -, -, asC, slC⟩ := id C
  cases hD.symm.trans hD'
  obtain ⟨D2, kD, e1, e2, e3, e4, e5⟩ := id E
  cases hD.symm.trans e1
  obtain ⟨c2, k2, i1, i2, i3, -⟩ := Cond.instantiable_spec wi
  cases e2.symm.trans i1
  cases e3.symm.trans i2
  obtain ⟨kU, u1, u2⟩ := al.2.2 _ _ e3
  have hB : Blank ST x D P.U := ⟨hD, ⟨knV, fun q hq => by rw [hq] at obV; cases obV⟩, by rw [al.findClass]; exact e2, kU, u1, by rw [u2]; exact i3, by rw [u2]; exact e5 i3⟩
  have F1 : Found ST "value" "[B" fV P.U := ⟨SBG.found_only al ⟨cfV, kV, iV, gV⟩, stV⟩
  have F2 : Found ST "coder" "B" fC P.U := ⟨SBG.found_only al ⟨cfC, kC, iC, gC⟩, stC⟩
  have hA : Ch b A P.U := ⟨⟨K.1, State.isArrayOf_alike al K.2.1, K.2.2, by omega⟩, hty⟩
  have hS : StaticIs P.U ST "COMPACT_STRINGS" "Z" (.int z) := by
    obtain ⟨cfS, iS, kS, fS, st, cS, t1, t2, t3, t4, t5, t6, t7⟩ := S
    exact StaticIs.there (s := { Z with heap := P.U.heap }) ⟨cfS, iS, kS, fS, st, cS, t1, t2, t3, t4, t5, (fun q => by rw [q] at t6; cases t6), t7⟩ al rfl
  obtain ⟨v, B, X', ⟨⟨hv, E', V', q1, q2, q3, q4, q5, q6, q7, q8, q9, q10, q11⟩, hl, hc, hs⟩, st⟩ := New1.pays x D fV fC b A z (tab_of (moved hZ hw)) hfr hlo m meth c P g ig mk _ X hg hsize hdg hW hn ⟨r1, r2, rfl, hB, F1, F2, hA, hS, hz, l0, l2, hp⟩
  have al' : Z.vm.Alike B.U.vm := hZ.alike.trans X'.warmed.alike
  have hsz : E'.slots.size = D.slots.size := by
    obtain ⟨-, -, -, kB, w1, w2, w3⟩ := q1
    obtain ⟨kB', y1, y2⟩ := al'.2.2 _ _ e3
    rw [q2.2.1] at w1
    cases w1.symm.trans y1
    rw [w3, e5 i3, y2]
  refine ⟨v, B, X', ⟨_, ⟨hv, ?_, ⟨by omega, fun y cy hy hn' => q10 y cy (by simpa using hn') hy, fun y cy hy => ?_⟩, q11, ⟨E', _, q1.1, by rw [q2.2.1]; exact e2, by rw [q2.2.1]; exact e3, by rw [q2.1]; exact obV, fun _ => by rw [hsz]; exact e5 i3⟩,
    ⟨E', cfV, kV, iV, fV, q1.1, gV, stV, by rw [q2.1]; exact knV, by rw [q2.1]; exact obV, by rw [q2.2.1]; exact asV, q3⟩, ⟨E', cfC, kC, iC, fC, q1.1, gC, stC, by rw [q2.1]; exact knV, by rw [q2.1]; exact obV, by rw [q2.2.1]; exact asC, q4⟩,
    ⟨V', ⟨q5.1, State.isArrayOf_alike al'.symm q5.2.1, q5.2.2.1⟩, q6, by rw [← al'.findClass]; exact q7, q8, fun j hj => by have := q9 j hj; rwa [Nat.zero_add] at this⟩, fun O n d w F n1 n2 => ?_⟩, hl, hc, hs⟩, st⟩
  · intro y hy
    simp only [List.mem_cons, List.not_mem_nil, or_false] at hy
    rcases hy with rfl | rfl <;> rfl
  · by_cases q : y = x
    · subst q
      cases hD.symm.trans hy
      exact ⟨E', q1.1, q2.2.1, q2.1, hsz⟩
    · exact ⟨cy, q10 y cy q hy, rfl, rfl, rfl⟩
  · obtain ⟨D3, cf, k, i, f, g1, g2, g3, g4, g5, g6, g7⟩ := F
    cases hD.symm.trans g1
    simp only [RoadKit.slotOf, g2, gV, gC, Option.map_some, Option.getD_some] at n1 n2
    exact ⟨E', cf, k, i, f, q1.1, g2, g3, by rw [q2.1]; exact g4, by rw [q2.1]; exact g5, by rw [q2.2.1]; exact g6, by rw [q2.2.2 f.slot (by simp [n1, n2])]; exact g7⟩
end StrChars.Road
namespace StrChars.Road
open Jvm Sem ClassFile Op Lib Jvm.Stand Jvm.Free Jvm.Free.XT
/-- WHAT COMES BACK, the byte[] as a list of values -/
def QA (Z : State) (x : Addr) (zn : Int32) (cs : List Int32) (h : Heap) (v : Option Value) (h' : Heap) (L : List Loc) : Prop := v = none ∧ (∀ y ∈ L, y.base = x) ∧ RoadKit.Keep h h' [x] ∧ h'.size = h.size + 1 ∧ RoadKit.Exa Z h' x ST ∧ RoadKit.Fld Z h' x ST "value" "[B" (.ref h.size) ∧ RoadKit.Fld Z h' x ST "coder" "B" (.int 0) ∧
  (∃ kb, Z.vm.findClass "[B" = some kb ∧ RoadKit.Arv Z h' h.size kb .byte zn (cs.map fun c => .int (lo8 c)) (.int 0)) ∧
  ∀ (O n d : String) (w : Value), RoadKit.Fld Z h x O n d w → RoadKit.slotOf Z O n d ≠ RoadKit.slotOf Z ST "value" "[B" → RoadKit.slotOf Z O n d ≠ RoadKit.slotOf Z ST "coder" "B" → RoadKit.Fld Z h' x O n d w
/-- **new String(chars) AT A CALL, THE ARRAYS AS LISTS**: the char[] at b holds cs, not empty, no char above 255 -/
theorem backArv {p : Program} {l : Launch} {e : Env} {R : Room} {s : State} {args : Array Value} {below : List Frame} {len W : Nat} {Z : State} {a0 : Array Value} {h : Heap} (hZ : Z.Warmed39 s.vm) (hw : ∀ d ∈ words, d.before a0 Z = true) {kI : Nat} (wi : (Jvm.Cond.instantiable ST kI).before a0 Z = true)
    {x b : Addr} {k : ClassId} {zn z : Int32} {cs : List Int32} {dv v0 c0 : Value} (E : RoadKit.Exa Z h x ST) (V : RoadKit.Fld Z h x ST "value" "[B" v0) (C : RoadKit.Fld Z h x ST "coder" "B" c0) (K : RoadKit.Arv Z h b k .char zn (cs.map Value.int) dv) (S : RoadKit.Sta Z h ST "COMPACT_STRINGS" "Z" (.int z)) (hz : ¬ z = 0)
    (hlen : zn.toNatClampNeg = cs.length) (h0 : 0 < cs.length) (hbig : cs.length ≤ 536870912) (hall : ∀ c ∈ cs, ¬ 255 < c) (hfr : 4 ≤ R.frames) (hlo : W + 65 ≤ R.locals) :
    Back l R p e below s args New1.yN len W (fun P a => a = #[.ref x, .ref b] ∧ P.U.heap = h ∧ P.cells + 1 ≤ R.cells ∧ P.slots + cs.length ≤ R.slots)
      (fun P _ v B => ∃ L, QA Z x zn cs h v B.U.heap L ∧ B.locs = P.locs ++ L ∧ B.cells = P.cells + 1 ∧ B.slots = P.slots + cs.length) := by
  obtain ⟨A, K1, K2, K3, K4, K5, K6⟩ := K
  have e : A.slots.size = cs.length := K3.trans hlen
  have hat : ∀ (i : Nat) (hi : i < cs.length), A.slots[i]? = some (.int cs[i]) := fun i hi => by rw [K5 i (by omega)]; simp [List.getD_eq_getElem?_getD, hi]
  have hcv : ∀ (i : Nat) (hi : i < cs.length), cv A i = cs[i] := fun i hi => by unfold cv; rw [hat i hi]
  have hty : Typed .char A := fun i v hv => by
    have hi : i < A.slots.size := (Array.getElem?_eq_some_iff.mp hv).1
    have q := K5 i hi
    rw [hv] at q
    rw [Option.some.inj q]
    exact K6 i hi
  refine Back.mono (back hZ hw wi E V C K1 hty S hz (by omega) (by omega) (fun i hi => by rw [hcv i (by omega)]; exact hall _ (List.getElem_mem _)) hfr hlo) (fun P a hp => ⟨hp.1, hp.2.1, hp.2.2.1, by rw [e]; exact hp.2.2.2⟩) (fun P a v B hp hq => ?_)
  obtain ⟨L, ⟨q1, q2, q3, q4, q5, q6, q7, ⟨V', v1, v2, v3, v4, v5⟩, q9⟩, hl, hc, hs⟩ := hq
  refine ⟨L, ⟨q1, q2, q3, q4, q5, q6, q7, ⟨V'.cls, v3, V', v1, rfl, by rw [v4, e, hlen], K4, fun i hi => ?_, fun i hi => ?_⟩, q9⟩, hl, hc, by rw [hs, e]⟩
  · have hi' : i < cs.length := by omega
    rw [v5 i (by omega), hcv i hi']; simp [List.getD_eq_getElem?_getD, hi']
  · have hi' : i < cs.length := by omega
    simp only [List.getD_eq_getElem?_getD, List.getElem?_map, List.getElem?_eq_getElem hi', Option.map_some, Option.getD_some]
    exact fits_lo8 _
end StrChars.Road
namespace StrChars.Road
open Jvm Sem ClassFile Op Lib Jvm.Stand Jvm.Free Jvm.Free.XT
/-- WHAT COMES BACK, in the writer's own shape -/
def QV (Z : State) (x : Addr) (N : Int32) (bs : List Int32) (h : Heap) (n0 : Nat) (v : Option Value) (h' : Heap) (L : List Loc) : Prop := v = none ∧ RoadKit.Fr n0 L ∧ RoadKit.Keep h h' [x] ∧ RoadKit.Exa Z h' x ST ∧ RoadKit.Fld Z h' x ST "coder" "B" (.int 0) ∧
  ∃ (t : Addr) (kb : ClassId), n0 ≤ t ∧ h.size ≤ t ∧ ¬ t = x ∧ RoadKit.Fld Z h' x ST "value" "[B" (.ref t) ∧ RoadKit.Arv Z h' t kb .byte N (bs.map Value.int) (.int 0)
/-- **new String(chars) AT A CALL, FOR THE WRITER**: a char[] of n known ints, each 0 to 255 -/
theorem backV {p : Program} {l : Launch} {e : Env} {R : Room} {s : State} {args : Array Value} {below : List Frame} {len W : Nat} {Z : State} {a0 : Array Value} {h : Heap} (hZ : Z.Warmed39 s.vm) (hw : ∀ d ∈ words, d.before a0 Z = true) {kI : Nat} (wi : (Jvm.Cond.instantiable ST kI).before a0 Z = true)
    {x b : Addr} {kC : ClassId} {cs bs : List Int32} {d v0 c0 : Value} {z N : Int32} {n n0 : Nat} (hx0 : n0 ≤ x) (hh0 : n0 ≤ h.size) (E : RoadKit.Exa Z h x ST) (V : RoadKit.Fld Z h x ST "value" "[B" v0) (C : RoadKit.Fld Z h x ST "coder" "B" c0) (K : RoadKit.Arv Z h b kC .char N (cs.map Value.int) d) (S : RoadKit.Sta Z h ST "COMPACT_STRINGS" "Z" (.int z)) (hz : ¬ z = 0)
    (hn : cs.length = n) (hN : N = Int32.ofNat n) (l0 : 0 < n) (l2 : n ≤ 4000) (hp : ∀ c ∈ cs, ¬ c < 0 ∧ ¬ (255 : Int32) < c) (hb : bs = cs.map (fun c => c.toInt8.toInt32)) (hfr : 4 ≤ R.frames) (hlo : W + 65 ≤ R.locals) :
    Back l R p e below s args (⟨"java/lang/String", "<init>", "([C)V"⟩ : MethodName) len W (fun P a => a = #[.ref x, .ref b] ∧ P.U.heap = h ∧ P.cells + 1 ≤ R.cells ∧ P.slots + n ≤ R.slots)
      (fun P _ v B => ∃ L, QV Z x N bs h n0 v B.U.heap L ∧ B.locs = P.locs ++ L ∧ B.cells = P.cells + 1 ∧ B.slots = P.slots + n) := by
  subst hn hN hb
  refine Back.mono (backArv hZ hw wi E V C K S hz (n32 (by omega)) l0 (by omega) (fun c hc => (hp c hc).2) hfr hlo) (fun P a hp => hp) (fun P a v B hp hq => ?_)
  obtain ⟨L, ⟨q1, q2, q3, q4, q5, q6, q7, ⟨kb, v1, v2⟩, q9⟩, hl, hc, hs⟩ := hq
  exact ⟨L, ⟨q1, fun y hy => by rw [q2 y hy]; exact hx0, q3, q5, q7, h.size, kb, hh0, Nat.le_refl _, Nat.ne_of_gt E.lt, q6, by rw [List.map_map]; exact v2⟩, hl, hc, hs⟩
end StrChars.Road
namespace StrChars
open Jvm Sem ClassFile Op Lib Jvm.Stand Jvm.Free.XT Jvm.Free.ALB Jvm.Free.JM Jvm.Free
open Jvm.Lib.Cold (StaticIs)
def hi8 (x : Int32) : Int32 := lo8 (x >>> ((8 : Int32) &&& 31))
/-- what StringUTF16.getChar makes of two bytes -/
def pairCh (u v : Int32) : Int32 := (((u &&& 255) <<< ((0 : Int32) &&& 31)) ||| ((v &&& 255) <<< ((8 : Int32) &&& 31))).toUInt32.toUInt16.toUInt32.toInt32
theorem lo8_and (x : Int32) : (lo8 x &&& 255).toBitVec.toNat = x.toBitVec.toNat % 256 := by
  have h : (lo8 x).toBitVec = (x.toBitVec.signExtend 8).signExtend 32 := by rw [lo8, Int8.toBitVec_toInt32, Int32.toBitVec_toInt8]
  rw [Int32.toBitVec_and, BitVec.toNat_and, h]
  have e : ((x.toBitVec.signExtend 8).signExtend 32).toNat % 256 = x.toBitVec.toNat % 256 := by
    rw [BitVec.toNat_signExtend]
    have hlt := x.toBitVec.isLt
    simp only [BitVec.toNat_setWidth, BitVec.toNat_signExtend]
    split <;> split <;> omega
  rw [← e]
  exact Nat.and_two_pow_sub_one_eq_mod _ 8
theorem pair_says {c : Int32} (h0 : ¬ c < 0) (h1 : ¬ 65535 < c) : pairCh (lo8 c) (hi8 c) = c := by
  rw [Int32.lt_iff_toInt_lt] at h0 h1
  have e0 : (0 : Int32).toInt = 0 := rfl
  have e1 : (65535 : Int32).toInt = 65535 := rfl
  have hc : c.toInt = c.toBitVec.toNat := by
    have := c.toBitVec.isLt
    have e : c.toInt = c.toBitVec.toInt := rfl
    rw [e] at h0 h1
    rw [e]
    rw [BitVec.toInt_eq_toNat_cond] at h0 h1 ⊢
    split at h0 <;> split <;> omega
  have hn : c.toBitVec.toNat < 65536 := by omega
  have a1 := lo8_and c
  have a2 : (hi8 c &&& 255).toBitVec.toNat = c.toBitVec.toNat / 256 := by
    rw [hi8, lo8_and]
    have e : ((8 : Int32) &&& 31) = 8 := by decide
    rw [e, Int32.toBitVec_shiftRight]
    have e2 : ((8 : Int32).toBitVec.smod 32) = 8#32 := by decide
    rw [e2, BitVec.sshiftRight_eq', BitVec.toNat_sshiftRight_of_msb_false (by rw [BitVec.msb_eq_false_iff_two_mul_lt]; omega)]
    show c.toBitVec.toNat >>> 8 % 256 = _
    rw [Nat.shiftRight_eq_div_pow]
    omega
  unfold pairCh
  apply Int32.toBitVec_inj.mp
  apply BitVec.eq_of_toNat_eq
  have f0 : ((0 : Int32) &&& 31) = 0 := by decide
  have f8 : ((8 : Int32) &&& 31) = 8 := by decide
  rw [f0, f8]
  have g : (((lo8 c &&& 255) <<< (0 : Int32)) ||| ((hi8 c &&& 255) <<< (8 : Int32))).toBitVec.toNat = c.toBitVec.toNat := by
    rw [Int32.toBitVec_or, Int32.toBitVec_shiftLeft, Int32.toBitVec_shiftLeft]
    have s0 : ((0 : Int32).toBitVec.smod 32) = 0#32 := by decide
    have s8 : ((8 : Int32).toBitVec.smod 32) = 8#32 := by decide
    rw [s0, s8, BitVec.toNat_or]
    simp only [BitVec.shiftLeft_eq', BitVec.toNat_shiftLeft, a1, a2]
    show (c.toBitVec.toNat % 256) <<< 0 % 2 ^ 32 ||| (c.toBitVec.toNat / 256) <<< 8 % 2 ^ 32 = _
    rw [Nat.shiftLeft_zero, Nat.mod_eq_of_lt (show c.toBitVec.toNat % 256 < 2 ^ 32 by omega), Nat.mod_eq_of_lt (show (c.toBitVec.toNat / 256) <<< 8 < 2 ^ 32 by rw [Nat.shiftLeft_eq]; omega), Nat.or_comm, ← Nat.shiftLeft_add_eq_or_of_lt (by omega), Nat.shiftLeft_eq]
    omega
  show BitVec.toNat (((((lo8 c &&& 255) <<< (0 : Int32)) ||| ((hi8 c &&& 255) <<< (8 : Int32))).toBitVec.setWidth 16).setWidth 32) = _
  rw [BitVec.toNat_setWidth, BitVec.toNat_setWidth, g]
  omega
end StrChars
namespace StrChars
open Jvm Sem ClassFile Op Lib Jvm.Stand Jvm.Free.XT Jvm.Free.ALB Jvm.Free.JM Jvm.Free
open Jvm.Lib.Cold (StaticIs)
/-- the array's cell V codes the n chars f 0 .. f (n - 1) by the coder cd, as the JDK does: coder 1 just where some char is above 255 -/
def Cod (cd : Int32) (n : Nat) (f : Nat → Int32) (V : Cell) : Prop := (cd = 0 ∧ V.slots.size = n ∧ ∀ j, j < n → V.slots[j]? = some (.int (lo8 (f j))) ∧ ¬ 255 < f j) ∨ (cd = 1 ∧ V.slots.size = 2 * n ∧ (∀ j, j < n → V.slots[2 * j]? = some (.int (lo8 (f j))) ∧ V.slots[2 * j + 1]? = some (.int (hi8 (f j)))) ∧ ∃ j, j < n ∧ 255 < f j)
/-- **x is a String of the n chars f 0 .. f (n - 1)**, Latin-1 or UTF-16; its array at t has the cell V -/
def Txt (x t : Addr) (V : Cell) (cd : Int32) (n : Nat) (f : Nat → Int32) (U : State) : Prop := Exact "java/lang/String" x U ∧ Has x "java/lang/String" "value" "[B" (.ref t) U ∧ Has x "java/lang/String" "coder" "B" (.int cd) U ∧ XT.Arr .byte t V U ∧ Cod cd n f V ∧ ∀ j, j < n → ¬ f j < 0 ∧ ¬ 65535 < f j
theorem Txt.mv {x t : Addr} {V : Cell} {cd : Int32} {n : Nat} {f : Nat → Int32} {U U' : State} (h : Txt x t V cd n f U) (hal : U.vm.Alike U'.vm) (hh : U'.heap = U.heap) : Txt x t V cd n f U' := ⟨h.1.mv hal hh, h.2.1.mv hal hh, h.2.2.1.mv hal hh, h.2.2.2.1.mv hal hh, h.2.2.2.2⟩
end StrChars
namespace StrChars.Road
open Jvm Sem ClassFile Op Lib Jvm.Stand Jvm.Free Jvm.Free.XT
open Jvm.Lib.Cold (StaticIs)
theorem consq {a : Array Value} {s : State} {c : Jvm.Cond} {L : List Jvm.Cond} (h0 : c.before a s = true) (h : ∀ w ∈ L, w.before a s = true) : ∀ w ∈ c :: L, w.before a s = true := fun w hw => (List.mem_cons.mp hw).elim (fun e => e ▸ h0) (h w)
/-- the bytes of the chars cs, low before high -/
def wideBytes : List Int32 → List Value
  | [] => []
  | c :: cs => .int (lo8 c) :: .int (hi8 c) :: wideBytes cs
theorem wide_lo (d : Value) : ∀ (cs : List Int32) (j : Nat), j < cs.length → (wideBytes cs).getD (2 * j) d = .int (lo8 (cs.getD j 0))
  | [], j, h => absurd h (Nat.not_lt_zero j)
  | c :: cs, 0, _ => rfl
  | c :: cs, j + 1, h => by
    have q := wide_lo d cs j (by simpa using h)
    rw [show 2 * (j + 1) = 2 * j + 1 + 1 from by omega]
    simpa [wideBytes] using q
theorem wide_hi (d : Value) : ∀ (cs : List Int32) (j : Nat), j < cs.length → (wideBytes cs).getD (2 * j + 1) d = .int (hi8 (cs.getD j 0))
  | [], j, h => absurd h (Nat.not_lt_zero j)
  | c :: cs, 0, _ => rfl
  | c :: cs, j + 1, h => by
    have q := wide_hi d cs j (by simpa using h)
    rw [show 2 * (j + 1) + 1 = 2 * j + 1 + 1 + 1 from by omega]
    simpa [wideBytes] using q
theorem low_at (d : Value) (cs : List Int32) (j : Nat) (h : j < cs.length) : (cs.map fun c => Value.int (lo8 c)).getD j d = .int (lo8 (cs.getD j 0)) := by
  simp [List.getD_eq_getElem?_getD, h]
/-- an array of N2 bytes vs codes the chars cs by the coder cd -/
def CodA (cs : List Int32) (cd N2 : Int32) (vs : List Value) : Prop := (cd = 0 ∧ N2 = Int32.ofNat cs.length ∧ vs = (cs.map fun c => Value.int (lo8 c)) ∧ ∀ c ∈ cs, ¬ 255 < c) ∨ (cd = 1 ∧ N2 = Int32.ofNat (2 * cs.length) ∧ vs = wideBytes cs ∧ ∃ c ∈ cs, 255 < c)
theorem CodA.cod {cs : List Int32} {cd N2 : Int32} {vs : List Value} {V : Cell} (h : CodA cs cd N2 vs) (hn : 2 * cs.length < 2 ^ 31) (hs : V.slots.size = N2.toNatClampNeg) (hv : RoadKit.Has V vs (.int 0)) : Cod cd cs.length (fun j => cs.getD j 0) V := by
  rcases h with ⟨rfl, rfl, rfl, h⟩ | ⟨rfl, rfl, rfl, c, hc, hw⟩
  · rw [n32 (by omega)] at hs
    exact Or.inl ⟨rfl, hs, fun j hj => ⟨by rw [hv j (by omega), low_at _ _ _ hj], by
      have e : cs.getD j 0 = cs[j] := by simp [List.getD_eq_getElem?_getD, hj]
      show ¬ 255 < cs.getD j 0
      rw [e]; exact h _ (List.getElem_mem _)⟩⟩
  · rw [n32 (by omega)] at hs
    obtain ⟨j, hj, rfl⟩ := List.getElem_of_mem hc
    exact Or.inr ⟨rfl, hs, fun j hj => ⟨by rw [hv _ (by omega), wide_lo _ _ _ hj], by rw [hv _ (by omega), wide_hi _ _ _ hj]⟩, j, hj, by
      have e : cs.getD j 0 = cs[j] := by simp [List.getD_eq_getElem?_getD, hj]
      show 255 < cs.getD j 0
      rw [e]; exact hw⟩
/-- an object of exactly java/lang/String, its two fields found: as the laws ask it -/
theorem strObj {Z U : State} {a0 : Array Value} {kI : Nat} (wi : (Jvm.Cond.instantiable ST kI).before a0 Z = true) (al : Z.vm.Alike U.vm) {x : Addr} {v0 c0 : Value} (E : RoadKit.Exa Z U.heap x ST) (V : RoadKit.Fld Z U.heap x ST "value" "[B" v0) (C : RoadKit.Fld Z U.heap x ST "coder" "B" c0) :
    ∃ (D : Cell) (fV fC : Field), Blank ST x D U ∧ Found ST "value" "[B" fV U ∧ Found ST "coder" "B" fC U ∧ D.slots[fV.slot]? = some v0 ∧ D.slots[fC.slot]? = some c0 ∧ RoadKit.slotOf Z ST "value" "[B" = fV.slot ∧ RoadKit.slotOf Z ST "coder" "B" = fC.slot := by
  obtain ⟨D, cfV, kV, iV, fV, hD, gV, stV, knV, obV, asV, slV⟩ := V
  obtain ⟨D', cfC, kC, iC, fC, hD', gC, stC, -, -, asC, slC⟩ := C
  cases hD.symm.trans hD'
  obtain ⟨D2, kD, e1, e2, e3, e4, e5⟩ := E
  cases hD.symm.trans e1
  obtain ⟨c2, k2, i1, i2, i3, -⟩ := Cond.instantiable_spec wi
  cases e2.symm.trans i1
  cases e3.symm.trans i2
  obtain ⟨kU, u1, u2⟩ := al.2.2 _ _ e3
  exact ⟨D, fV, fC, ⟨hD, ⟨knV, fun q hq => by rw [hq] at obV; cases obV⟩, by rw [al.findClass]; exact e2, kU, u1, by rw [u2]; exact i3, by rw [u2]; exact e5 i3⟩, ⟨SBG.found_only al ⟨cfV, kV, iV, gV⟩, stV⟩, ⟨SBG.found_only al ⟨cfC, kC, iC, gC⟩, stC⟩, slV, slC, by simp [RoadKit.slotOf, gV], by simp [RoadKit.slotOf, gC]⟩
theorem sta_is {Z U : State} (al : Z.vm.Alike U.vm) {C n d : String} {v : Value} (S : RoadKit.Sta Z U.heap C n d v) : StaticIs U C n d v := by
  obtain ⟨cfS, iS, kS, fS, st, cS, t1, t2, t3, t4, t5, t6, t7⟩ := S
  exact StaticIs.there (s := { Z with heap := U.heap }) ⟨cfS, iS, kS, fS, st, cS, t1, t2, t3, t4, t5, (fun q => by rw [q] at t6; cases t6), t7⟩ al rfl
end StrChars.Road
namespace StrChars
open Jvm Sem ClassFile Op Lib Jvm.Stand Jvm.Free.XT Jvm.Free.ALB Jvm.Free.JM Jvm.Free
open Jvm.Lib.Cold (StaticIs)
/-- what place i of a byte[]'s cell holds -/
def yv (A : Cell) (i : Nat) : Int32 := match A.slots[i]? with | some (.int x) => x | _ => 0
theorem yv_get {a : Addr} {A : Cell} {U : State} (h : XT.Arr .byte a A U) (ht : Typed .byte A) {i : Nat} (hi : i < A.slots.size) : A.slots[i]? = some (.int (yv A i)) := by
  have e := Array.getElem?_eq_getElem hi
  have f := ht i _ e
  unfold yv; rw [e]
  generalize A.slots[i] = v at f
  cases v <;> simp [fits] at f ⊢
/-- the two arrays are equal, place for place -/
def EqC (A B : Cell) : Prop := A.slots.size = B.slots.size ∧ ∀ i, i < A.slots.size → yv A i = yv B i
/-- a boolean that says whether p -/
def Says01 (q : Prop) (r : Option Value) (s u : State) : Prop := ∃ v : Int32, r = some (.int v) ∧ u.heap = s.heap ∧ ((v = 1 ∧ q) ∨ (v = 0 ∧ ¬ q))
theorem Says01.mv {q : Prop} : ∀ r (U U' V V' : State), U'.heap = U.heap → V.vm.Alike V'.vm → V'.heap = V.heap → Says01 q r U V → Says01 q r U' V' :=
  fun r U U' V V' h1 _ h2 ⟨v, a, b, c⟩ => ⟨v, a, by rw [h1, h2]; exact b, c⟩
namespace LEq
def yN : MethodName := ⟨"java/lang/StringLatin1", "equals", "([B[B)Z"⟩
abbrev yB : ByteArray := jdk_43_method_13_code
theorem d0 : decode yB 0 = .ok (.aload_n 0, 1) := by decide +kernel
theorem d1 : decode yB 1 = .ok (.arraylength, 1) := by decide +kernel
theorem d2 : decode yB 2 = .ok (.aload_n 1, 1) := by decide +kernel
theorem d3 : decode yB 3 = .ok (.arraylength, 1) := by decide +kernel
theorem d4 : decode yB 4 = .ok (.if_icmp (.ne) 30, 3) := by decide +kernel
theorem d7 : decode yB 7 = .ok (.iconst 0, 1) := by decide +kernel
theorem d8 : decode yB 8 = .ok (.istore_n 2, 1) := by decide +kernel
theorem d9 : decode yB 9 = .ok (.iload_n 2, 1) := by decide +kernel
theorem d10 : decode yB 10 = .ok (.aload_n 0, 1) := by decide +kernel
theorem d11 : decode yB 11 = .ok (.arraylength, 1) := by decide +kernel
theorem d12 : decode yB 12 = .ok (.if_icmp (.ge) 20, 3) := by decide +kernel
theorem d15 : decode yB 15 = .ok (.aload_n 0, 1) := by decide +kernel
theorem d16 : decode yB 16 = .ok (.iload_n 2, 1) := by decide +kernel
theorem d17 : decode yB 17 = .ok (.baload, 1) := by decide +kernel
theorem d18 : decode yB 18 = .ok (.aload_n 1, 1) := by decide +kernel
theorem d19 : decode yB 19 = .ok (.iload_n 2, 1) := by decide +kernel
theorem d20 : decode yB 20 = .ok (.baload, 1) := by decide +kernel
theorem d21 : decode yB 21 = .ok (.if_icmp (.eq) 5, 3) := by decide +kernel
theorem d24 : decode yB 24 = .ok (.iconst 0, 1) := by decide +kernel
theorem d25 : decode yB 25 = .ok (.ireturn, 1) := by decide +kernel
theorem d26 : decode yB 26 = .ok (.iinc 2 1, 3) := by decide +kernel
theorem d29 : decode yB 29 = .ok (.goto (-20), 3) := by decide +kernel
theorem d32 : decode yB 32 = .ok (.iconst 1, 1) := by decide +kernel
theorem d33 : decode yB 33 = .ok (.ireturn, 1) := by decide +kernel
theorem d34 : decode yB 34 = .ok (.iconst 0, 1) := by decide +kernel
theorem d35 : decode yB 35 = .ok (.ireturn, 1) := by decide +kernel
def site : List Cond := []
def tab : Cond := tabOf yN yB 3 (some .boolean) site
def P (a : Addr) (A : Cell) (b : Addr) (B : Cell) (args : Array Value) (s : State) : Prop := args = #[.ref a, .ref b] ∧ XT.Arr .byte a A s ∧ Typed .byte A ∧ XT.Arr .byte b B s ∧ Typed .byte B
/-- whether two byte[] are equal, place for place -/
theorem law (l : Launch) (a : Addr) (A : Cell) (b : Addr) (B : Cell) : Law l yN 2 2 0 0 yB 3 (some .boolean) site (P a A b B) (Says01 (EqC A B)) [] 0 0 := by
  refine Law.of_walk (plainFor_of_name (by decide +kernel)) (by decide +kernel) (by decide +kernel) (by decide) (fun _ _ h => by rw [h.1]; rfl) (fun _ U U' hal hh h => ⟨h.1, h.2.1.mv hal hh, h.2.2.1, h.2.2.2.1.mv hal hh, h.2.2.2.2⟩) (fun r U U' V V' h1 hal h2 h => Says01.mv r U U' V V' h1 hal h2 h) ?_
  intro p e s m args below meth c s₁ X0 hexec hbytes hml hret hlk hnm hown hh0 W hP
  obtain ⟨rfl, hA, tA, hB, tB⟩ := hP
  have a31 := hA.2.2.2
  have b31 := hB.2.2.2
  have hA0 := hA.mv X0.warmed.alike hh0
  have hB0 := hB.mv X0.warmed.alike hh0
  have c1 : Steps p.tables e below (s₁.setTop (entryFrame m #[.ref a, .ref b] 3)) (s₁.setTop (mkF m 0 #[.val (.ref a), .val (.ref b), .unset] [])) := entry rfl
  have c2 : Steps p.tables e below (s₁.setTop (entryFrame m #[.ref a, .ref b] 3)) (s₁.setTop (mkF m 4 #[.val (.ref a), .val (.ref b), .unset] [.int (Int32.ofNat B.slots.size), .int (Int32.ofNat A.slots.size)])) := c1.trans (by
    refine XS.aloadN X0.here hexec rfl (hb hbytes d0) rfl rfl ?_
    refine X0.alen hexec hA0 rfl rfl (hb hbytes d1) ?_
    refine XS.aloadN X0.here hexec rfl (hb hbytes d2) rfl rfl ?_
    refine X0.alen hexec hB0 rfl rfl (hb hbytes d3) ?_
    exact Steps.refl _)
  by_cases hs : A.slots.size = B.slots.size
  · have c3 : Steps p.tables e below (s₁.setTop (entryFrame m #[.ref a, .ref b] 3)) (s₁.setTop (mkF m 9 #[.val (.ref a), .val (.ref b), .val (.int 0)] [])) := c2.trans (by
      refine XS.icmpNo X0.here hexec rfl (hb hbytes d4) rfl (ii_ne_f (by rw [hs])) ?_
      refine iconstV X0.here hexec rfl 0 (hb hbytes d7) (by decide) ?_
      refine XS.istoreN X0.here hexec rfl (hb hbytes d8) rfl rfl ?_
      exact Steps.refl _)
    have loop : ∀ (r i : Nat), i + r = A.slots.size → (∀ j, j < i → yv A j = yv B j) → Steps p.tables e below (s₁.setTop (entryFrame m #[.ref a, .ref b] 3)) (s₁.setTop (mkF m 9 #[.val (.ref a), .val (.ref b), .val (.int (Int32.ofNat i))] [])) → ∃ (pc : Nat) (Ls : Array Slot) (v : Int32), (pc = 25 ∨ pc = 33) ∧ ((v = 1 ∧ EqC A B) ∨ (v = 0 ∧ ¬ EqC A B)) ∧ Steps p.tables e below (s₁.setTop (entryFrame m #[.ref a, .ref b] 3)) (s₁.setTop (mkF m pc Ls [.int v])) := by
      intro r
      induction r with
      | zero =>
        intro i hi he cl
        exact ⟨33, _, 1, Or.inr rfl, Or.inl ⟨rfl, hs, fun j hj => he j (by omega)⟩, cl.trans (by
          refine XS.iloadN X0.here hexec rfl (hb hbytes d9) rfl ?_
          refine XS.aloadN X0.here hexec rfl (hb hbytes d10) rfl rfl ?_
          refine X0.alen hexec hA0 rfl rfl (hb hbytes d11) ?_
          refine XS.icmpYes X0.here hexec rfl (pc0 := 12) rfl (hb hbytes d12) rfl (ii_ge_t (nlt32 (by omega) (by omega))) (by decide) rfl ?_
          refine iconstV X0.here hexec rfl 1 (hb hbytes d32) (by decide) ?_
          exact Steps.refl _)⟩
      | succ r ih =>
        intro i hi he cl
        have c4 : Steps p.tables e below (s₁.setTop (entryFrame m #[.ref a, .ref b] 3)) (s₁.setTop (mkF m 21 #[.val (.ref a), .val (.ref b), .val (.int (Int32.ofNat i))] [.int (yv B i), .int (yv A i)])) := cl.trans (by
          refine XS.iloadN X0.here hexec rfl (hb hbytes d9) rfl ?_
          refine XS.aloadN X0.here hexec rfl (hb hbytes d10) rfl rfl ?_
          refine X0.alen hexec hA0 rfl rfl (hb hbytes d11) ?_
          refine XS.icmpNo X0.here hexec rfl (hb hbytes d12) rfl (ii_ge_f (lt32 (by omega) (by omega))) ?_
          refine XS.aloadN X0.here hexec rfl (hb hbytes d15) rfl rfl ?_
          refine XS.iloadN X0.here hexec rfl (hb hbytes d16) rfl ?_
          refine X0.aget hexec hA0 rfl (yv_get hA tA (i := i) (by omega)) rfl rfl (hb hbytes d17) ?_
          refine XS.aloadN X0.here hexec rfl (hb hbytes d18) rfl rfl ?_
          refine XS.iloadN X0.here hexec rfl (hb hbytes d19) rfl ?_
          refine X0.aget hexec hB0 rfl (yv_get hB tB (i := i) (by omega)) rfl rfl (hb hbytes d20) ?_
          exact Steps.refl _)
        by_cases hv : yv A i = yv B i
        · have c5 : Steps p.tables e below (s₁.setTop (entryFrame m #[.ref a, .ref b] 3)) (s₁.setTop (mkF m 9 #[.val (.ref a), .val (.ref b), .val (.int (Int32.ofNat i + 1))] [])) := c4.trans (by
            refine XS.icmpYes X0.here hexec rfl (pc0 := 21) rfl (hb hbytes d21) rfl (ii_eq_t hv) (by decide) rfl ?_
            refine iincV X0.here hexec rfl 1 (hb hbytes d26) (by decide) rfl rfl ?_
            refine XS.goto X0.here hexec rfl (pc0 := 29) rfl (hb hbytes d29) (by decide) rfl ?_
            exact Steps.refl _)
          rw [succ32] at c5
          exact ih (i + 1) (by omega) (fun j hj => by
            by_cases e : j = i
            · rw [e]; exact hv
            · exact he j (by omega)) c5
        · exact ⟨25, _, 0, Or.inl rfl, Or.inr ⟨rfl, fun q => hv (q.2 i (by omega))⟩, c4.trans (by
            refine XS.icmpNo X0.here hexec rfl (hb hbytes d21) rfl (ii_eq_f hv) ?_
            refine iconstV X0.here hexec rfl 0 (hb hbytes d24) (by decide) ?_
            exact Steps.refl _)⟩
    obtain ⟨pc, Ls, v, hpc, hv, cz⟩ := loop A.slots.size 0 (by omega) (fun j hj => absurd hj (Nat.not_lt_zero j)) c3
    have nv : narrow .boolean (.int v) = .int v := by rcases hv with ⟨rfl, -⟩ | ⟨rfl, -⟩ <;> rfl
    rcases hpc with rfl | rfl
    · exact ⟨s₁, some (.int v), _, _, _, X0, rfl, rfl, rfl, (fun h => by cases h), ⟨v, rfl, hh0, hv⟩, fun fs hl => cz.trans (X0.ireturnOut hexec hret nv (Or.inr (Or.inl rfl)) (hb hbytes d25) hl)⟩
    · exact ⟨s₁, some (.int v), _, _, _, X0, rfl, rfl, rfl, (fun h => by cases h), ⟨v, rfl, hh0, hv⟩, fun fs hl => cz.trans (X0.ireturnOut hexec hret nv (Or.inr (Or.inl rfl)) (hb hbytes d33) hl)⟩
  · have c3 : Steps p.tables e below (s₁.setTop (entryFrame m #[.ref a, .ref b] 3)) (s₁.setTop (mkF m 35 #[.val (.ref a), .val (.ref b), .unset] [.int 0])) := c2.trans (by
      refine XS.icmpYes X0.here hexec rfl (pc0 := 4) rfl (hb hbytes d4) rfl (ii_ne_t (ne32 a31 b31 hs)) (by decide) rfl ?_
      refine iconstV X0.here hexec rfl 0 (hb hbytes d34) (by decide) ?_
      exact Steps.refl _)
    exact ⟨s₁, some (.int 0), _, _, _, X0, rfl, rfl, rfl, (fun h => by cases h), ⟨0, rfl, hh0, Or.inr ⟨rfl, fun q => hs q.1⟩⟩, fun fs hl => c3.trans (X0.ireturnOut hexec hret rfl (Or.inr (Or.inl rfl)) (hb hbytes d35) hl)⟩
end LEq
theorem Cod.ty {cd : Int32} {n : Nat} {f : Nat → Int32} {V : Cell} (h : Cod cd n f V) : Typed .byte V := fun i v hv => by
  have hi : i < V.slots.size := (Array.getElem?_eq_some_iff.mp hv).1
  rcases h with ⟨-, k1, k2⟩ | ⟨-, k1, k2, -⟩
  · rw [(k2 i (by omega)).1] at hv; cases hv; exact fits_lo8 _
  · rcases Nat.mod_two_eq_zero_or_one i with e | e
    · obtain ⟨j, rfl⟩ : ∃ j, i = 2 * j := ⟨i / 2, by omega⟩
      rw [(k2 j (by omega)).1] at hv; cases hv; exact fits_lo8 _
    · obtain ⟨j, rfl⟩ : ∃ j, i = 2 * j + 1 := ⟨i / 2, by omega⟩
      rw [(k2 j (by omega)).2] at hv; cases hv; exact fits_lo8 _
/-- the same text -/
def SameT (n : Nat) (f : Nat → Int32) (k : Nat) (g : Nat → Int32) : Prop := n = k ∧ ∀ j, j < n → f j = g j
theorem lo8_inj {x y : Int32} (h0 : ¬ x < 0) (h1 : ¬ 255 < x) (k0 : ¬ y < 0) (k1 : ¬ 255 < y) (h : lo8 x = lo8 y) : x = y := by
  rw [← lo8_mask h0 h1, ← lo8_mask k0 k1, h]
/-- arrays coded by one coder are equal just where the texts are -/
theorem Cod.eqv {cd : Int32} {n k : Nat} {f g : Nat → Int32} {V V' : Cell} (h : Cod cd n f V) (h' : Cod cd k g V') (hf : ∀ j, j < n → ¬ f j < 0 ∧ ¬ 65535 < f j) (hg : ∀ j, j < k → ¬ g j < 0 ∧ ¬ 65535 < g j) : EqC V V' ↔ SameT n f k g := by
  have yvv : ∀ {W : Cell} {i : Nat} {x : Int32}, W.slots[i]? = some (.int x) → yv W i = x := fun q => by unfold yv; rw [q]
  rcases h with ⟨rfl, k1, k2⟩ | ⟨rfl, k1, k2, -⟩
  · rcases h' with ⟨-, m1, m2⟩ | ⟨e, -⟩
    · constructor
      · rintro ⟨e1, e2⟩
        refine ⟨by omega, fun j hj => ?_⟩
        have q := e2 j (by omega)
        rw [yvv (k2 j hj).1, yvv (m2 j (by omega)).1] at q
        exact lo8_inj (hf j hj).1 (k2 j hj).2 (hg j (by omega)).1 (m2 j (by omega)).2 q
      · rintro ⟨rfl, e2⟩
        refine ⟨by omega, fun j hj => ?_⟩
        rw [yvv (k2 j (by omega)).1, yvv (m2 j (by omega)).1, e2 j (by omega)]
    · exact absurd e (by decide)
  · rcases h' with ⟨e, -⟩ | ⟨-, m1, m2, -⟩
    · exact absurd e (by decide)
    · constructor
      · rintro ⟨e1, e2⟩
        refine ⟨by omega, fun j hj => ?_⟩
        have q1 := e2 (2 * j) (by omega)
        have q2 := e2 (2 * j + 1) (by omega)
        rw [yvv (k2 j hj).1, yvv (m2 j (by omega)).1] at q1
        rw [yvv (k2 j hj).2, yvv (m2 j (by omega)).2] at q2
        rw [← pair_says (hf j hj).1 (hf j hj).2, ← pair_says (hg j (by omega)).1 (hg j (by omega)).2, q1, q2]
      · rintro ⟨rfl, e2⟩
        refine ⟨by omega, fun i hi => ?_⟩
        rcases Nat.mod_two_eq_zero_or_one i with e | e
        · obtain ⟨j, rfl⟩ : ∃ j, i = 2 * j := ⟨i / 2, by omega⟩
          rw [yvv (k2 j (by omega)).1, yvv (m2 j (by omega)).1, e2 j (by omega)]
        · obtain ⟨j, rfl⟩ : ∃ j, i = 2 * j + 1 := ⟨i / 2, by omega⟩
          rw [yvv (k2 j (by omega)).2, yvv (m2 j (by omega)).2, e2 j (by omega)]
/-- two codings differ: so do the texts -/
theorem Cod.dif {cd cd' : Int32} {n k : Nat} {f g : Nat → Int32} {V V' : Cell} (h : Cod cd n f V) (h' : Cod cd' k g V') (hne : ¬ cd = cd') : ¬ SameT n f k g := by
  rintro ⟨rfl, e⟩
  rcases h with ⟨rfl, -, k2⟩ | ⟨rfl, -, -, j, hj, hw⟩
  · rcases h' with ⟨rfl, -⟩ | ⟨-, -, -, j, hj, hw⟩
    · exact hne rfl
    · exact (k2 j hj).2 (by rw [e j hj]; exact hw)
  · rcases h' with ⟨-, -, m2⟩ | ⟨rfl, -⟩
    · exact (m2 j hj).2 (by rw [← e j hj]; exact hw)
    · exact hne rfl
/-- an object of exactly C is an instance of C -/
theorem cinst {p : Program} {l : Launch} {e : Env} {R : Room} {s : State} {m : MethodId} {args : Array Value} {below : List Frame} {meth : Method} {c : Code} {T : State} {locs : List Loc} {cells slots : Nat} (X : Stand p l e R s m args below meth c T locs cells slots) (hexec : p.tables.exec = Jvm.exec) {own C : String} {index : Nat} (hown : s.vm.findClass own = some m.cls) (hlink : (Cond.classLink own index C).before args s = true) {a : Addr} (hE : Exact C a T)
    {g : JFrame} (hg : g.method = m) {rest : List Value} (hstack : g.stack = .ref a :: rest) (hdg : decode c.code g.pc = .ok (.instanceof index, 3)) :
    ∃ T', Stand p l e R s m args below meth c T' locs cells slots ∧ T'.heap = T.heap ∧ ∀ target, Steps p.tables e below (T'.setTop { g with pc := g.pc + 3, stack := .int 1 :: rest }) target → Steps p.tables e below (T.setTop g) target := by
  obtain ⟨cB, h1, D, h2, h3, h4⟩ := hE
  have h1' : s.vm.findClass C = some cB := by rw [← X.warmed.alike.findClass]; exact h1
  obtain ⟨vm', X', st⟩ := X.instanceofYes hexec hown hlink h2 h4 h1' (by rw [h3]; exact Jvm.Free.SB.assignable_self _ _) hg hstack hdg
  exact ⟨_, X', rfl, st⟩
theorem cself {p : Program} {l : Launch} {e : Env} {R : Room} {s : State} {m : MethodId} {args : Array Value} {below : List Frame} {meth : Method} {c : Code} {T : State} {locs : List Loc} {cells slots : Nat} (X : Stand p l e R s m args below meth c T locs cells slots) (hexec : p.tables.exec = Jvm.exec) {own C : String} {index : Nat} (hown : s.vm.findClass own = some m.cls) (hlink : (Cond.classLink own index C).before args s = true) {a : Addr} (hE : Exact C a T)
    {g : JFrame} (hg : g.method = m) {rest : List Value} (hstack : g.stack = .ref a :: rest) (hdg : decode c.code g.pc = .ok (.checkcast index, 3)) :
    ∃ T', Stand p l e R s m args below meth c T' locs cells slots ∧ T'.heap = T.heap ∧ ∀ target, Steps p.tables e below (T'.setTop { g with pc := g.pc + 3, stack := .ref a :: rest }) target → Steps p.tables e below (T.setTop g) target := by
  obtain ⟨cB, h1, D, h2, h3, h4⟩ := hE
  have h1' : s.vm.findClass C = some cB := by rw [← X.warmed.alike.findClass]; exact h1
  obtain ⟨vm', X', st⟩ := X.checkcastYes hexec hown hlink h2 h4 h1' (by rw [h3]; exact Jvm.Free.SB.assignable_self _ _) hg hstack hdg
  exact ⟨_, X', rfl, fun t h => st t (by rw [← hstack] at h; exact h)⟩
namespace SEq
def yN : MethodName := ⟨"java/lang/String", "equals", "(Ljava/lang/Object;)Z"⟩
abbrev yB : ByteArray := jdk_42_method_66_code
theorem d0 : decode yB 0 = .ok (.aload_n 0, 1) := by decide +kernel
theorem d1 : decode yB 1 = .ok (.aload_n 1, 1) := by decide +kernel
theorem d2 : decode yB 2 = .ok (.if_acmp (.ne) 5, 3) := by decide +kernel
theorem d5 : decode yB 5 = .ok (.iconst 1, 1) := by decide +kernel
theorem d6 : decode yB 6 = .ok (.ireturn, 1) := by decide +kernel
theorem d7 : decode yB 7 = .ok (.aload_n 1, 1) := by decide +kernel
theorem d8 : decode yB 8 = .ok (.instanceof 10, 3) := by decide +kernel
theorem d11 : decode yB 11 = .ok (.ifCond (.eq) 43, 3) := by decide +kernel
theorem d14 : decode yB 14 = .ok (.aload_n 1, 1) := by decide +kernel
theorem d15 : decode yB 15 = .ok (.checkcast 10, 3) := by decide +kernel
theorem d18 : decode yB 18 = .ok (.astore_n 2, 1) := by decide +kernel
theorem d19 : decode yB 19 = .ok (.getstatic 38, 3) := by decide +kernel
theorem d22 : decode yB 22 = .ok (.ifCond (.eq) 14, 3) := by decide +kernel
theorem d25 : decode yB 25 = .ok (.aload_n 0, 1) := by decide +kernel
theorem d26 : decode yB 26 = .ok (.getfield 15, 3) := by decide +kernel
theorem d29 : decode yB 29 = .ok (.aload_n 2, 1) := by decide +kernel
theorem d30 : decode yB 30 = .ok (.getfield 15, 3) := by decide +kernel
theorem d33 : decode yB 33 = .ok (.if_icmp (.ne) 21, 3) := by decide +kernel
theorem d36 : decode yB 36 = .ok (.aload_n 0, 1) := by decide +kernel
theorem d37 : decode yB 37 = .ok (.getfield 9, 3) := by decide +kernel
theorem d40 : decode yB 40 = .ok (.aload_n 2, 1) := by decide +kernel
theorem d41 : decode yB 41 = .ok (.getfield 9, 3) := by decide +kernel
theorem d44 : decode yB 44 = .ok (.invokestatic 541, 3) := by decide +kernel
theorem d47 : decode yB 47 = .ok (.ifCond (.eq) 7, 3) := by decide +kernel
theorem d50 : decode yB 50 = .ok (.iconst 1, 1) := by decide +kernel
theorem d51 : decode yB 51 = .ok (.goto 4, 3) := by decide +kernel
theorem d54 : decode yB 54 = .ok (.iconst 0, 1) := by decide +kernel
theorem d55 : decode yB 55 = .ok (.ireturn, 1) := by decide +kernel
def site : List Cond := [.classLink "java/lang/String" 10 "java/lang/String", .fieldLink "java/lang/String" 38 "java/lang/String" "COMPACT_STRINGS" "Z", .fieldLink "java/lang/String" 15 "java/lang/String" "coder" "B", .fieldLink "java/lang/String" 9 "java/lang/String" "value" "[B", LEq.tab] ++ staticW "java/lang/String" 541 LEq.yN
def tab : Cond := tabOf yN yB 3 (some .boolean) site
def P (x t : Addr) (V : Cell) (cd : Int32) (n : Nat) (f : Nat → Int32) (y t' : Addr) (V' : Cell) (cd' : Int32) (k : Nat) (g : Nat → Int32) (z : Int32) (args : Array Value) (s : State) : Prop := args = #[.ref x, .ref y] ∧ Txt x t V cd n f s ∧ Txt y t' V' cd' k g s ∧ StaticIs s "java/lang/String" "COMPACT_STRINGS" "Z" (.int z) ∧ ¬ z = 0
/-- equals(Object) of two Strings: whether the texts are the same -/
theorem law (l : Launch) (x t : Addr) (V : Cell) (cd : Int32) (n : Nat) (f : Nat → Int32) (y t' : Addr) (V' : Cell) (cd' : Int32) (k : Nat) (g : Nat → Int32) (z : Int32) : Law l yN 2 1 1 14 yB 3 (some .boolean) site (P x t V cd n f y t' V' cd' k g z) (Says01 (SameT n f k g)) [] 0 0 := by
  refine Law.of_walk (plainFor_of_name (by decide +kernel)) (by decide +kernel) (by decide +kernel) (by decide) (fun _ _ h => by rw [h.1]; rfl) (fun _ U U' hal hh h => ⟨h.1, h.2.1.mv hal hh, h.2.2.1.mv hal hh, h.2.2.2.1.there hal hh, h.2.2.2.2⟩) (fun r U U' V V' h1 hal h2 h => Says01.mv r U U' V V' h1 hal h2 h) ?_
  intro p e s m args below meth c s₁ X0 hexec hbytes hml hret hlk hnm hown hh0 W hP
  obtain ⟨rfl, hx, hy, s1, hz⟩ := hP
  have c1 : Steps p.tables e below (s₁.setTop (entryFrame m #[.ref x, .ref y] 3)) (s₁.setTop (mkF m 2 #[.val (.ref x), .val (.ref y), .unset] [.ref y, .ref x])) := Steps.trans (entry rfl) (by
    show Steps p.tables e below (s₁.setTop (mkF m 0 #[.val (.ref x), .val (.ref y), .unset] [])) _
    refine XS.aloadN X0.here hexec rfl (hb hbytes d0) rfl rfl ?_
    refine XS.aloadN X0.here hexec rfl (hb hbytes d1) rfl rfl ?_
    exact Steps.refl _)
  by_cases hxy : x = y
  · have c2 : Steps p.tables e below (s₁.setTop (entryFrame m #[.ref x, .ref y] 3)) (s₁.setTop (mkF m 6 #[.val (.ref x), .val (.ref y), .unset] [.int 1])) := c1.trans (by
      refine acmpNo X0.here hexec rfl (hb hbytes d2) rfl rfl rfl (by simp [acmp, hxy]) ?_
      refine iconstV X0.here hexec rfl 1 (hb hbytes d5) (by decide) ?_
      exact Steps.refl _)
    subst hxy
    have ec : cd = cd' := by
      obtain ⟨D, fd, a1, a2, a3⟩ := hx.2.2.1
      obtain ⟨D', fd', b1, b2, b3⟩ := hy.2.2.1
      cases a1.symm.trans b1
      obtain ⟨q1, q2, q3, q4⟩ := a2.1
      obtain ⟨r1, r2, r3, r4⟩ := b2.1
      cases q4.symm.trans r4
      cases a3.symm.trans b3; rfl
    have et : t = t' := by
      obtain ⟨D, fd, a1, a2, a3⟩ := hx.2.1
      obtain ⟨D', fd', b1, b2, b3⟩ := hy.2.1
      cases a1.symm.trans b1
      obtain ⟨q1, q2, q3, q4⟩ := a2.1
      obtain ⟨r1, r2, r3, r4⟩ := b2.1
      cases q4.symm.trans r4
      cases a3.symm.trans b3; rfl
    subst ec et
    have ev : V = V' := by cases hx.2.2.2.1.1.symm.trans hy.2.2.2.1.1; rfl
    subst ev
    have hs : SameT n f k g := (Cod.eqv hx.2.2.2.2.1 hy.2.2.2.2.1 hx.2.2.2.2.2 hy.2.2.2.2.2).mp ⟨rfl, fun _ _ => rfl⟩
    exact ⟨s₁, some (.int 1), _, _, _, X0, rfl, rfl, rfl, (fun h => by cases h), ⟨1, rfl, hh0, Or.inl ⟨rfl, hs⟩⟩, fun fs hl => c2.trans (X0.ireturnOut hexec hret rfl (Or.inr (Or.inl rfl)) (hb hbytes d6) hl)⟩
  · have c2 : Steps p.tables e below (s₁.setTop (entryFrame m #[.ref x, .ref y] 3)) (s₁.setTop (mkF m 8 #[.val (.ref x), .val (.ref y), .unset] [.ref y])) := c1.trans (by
      refine acmpYes X0.here hexec rfl (pc0 := 2) rfl (hb hbytes d2) rfl rfl rfl (by simp [acmp, hxy]) (by decide) rfl ?_
      refine XS.aloadN X0.here hexec rfl (hb hbytes d7) rfl rfl ?_
      exact Steps.refl _)
    obtain ⟨T3, X3, q3, st3⟩ := cinst X0 hexec hown (wk W (.classLink "java/lang/String" 10 "java/lang/String")) (hy.mv X0.warmed.alike hh0).1 (g := (mkF m 8 #[.val (.ref x), .val (.ref y), .unset] [.ref y])) rfl (rest := []) rfl (hb hbytes d8)
    have hh3 := q3.trans hh0
    have c4 : Steps p.tables e below (s₁.setTop (entryFrame m #[.ref x, .ref y] 3)) (T3.setTop (mkF m 15 #[.val (.ref x), .val (.ref y), .unset] [.ref y])) := (c2.trans (st3 _ (Steps.refl _))).trans (by
      refine XS.ifNo X3.here hexec rfl (hb hbytes d11) rfl (i0_eq_f (by decide)) ?_
      refine XS.aloadN X3.here hexec rfl (hb hbytes d14) rfl rfl ?_
      exact Steps.refl _)
    obtain ⟨T5, X5, q5, st5⟩ := cself X3 hexec hown (wk W (.classLink "java/lang/String" 10 "java/lang/String")) (hy.mv X3.warmed.alike hh3).1 (g := (mkF m 15 #[.val (.ref x), .val (.ref y), .unset] [.ref y])) rfl (rest := []) rfl (hb hbytes d15)
    have hh5 := q5.trans hh3
    have c6 : Steps p.tables e below (s₁.setTop (entryFrame m #[.ref x, .ref y] 3)) (T5.setTop (mkF m 19 #[.val (.ref x), .val (.ref y), .val (.ref y)] [])) := (c4.trans (st5 _ (Steps.refl _))).trans (by
      refine XS.astoreN X5.here hexec rfl (hb hbytes d18) rfl rfl rfl ?_
      exact Steps.refl _)
    obtain ⟨T7, X7, q7, st7⟩ := X5.sget hexec hown (wk W (.fieldLink "java/lang/String" 38 "java/lang/String" "COMPACT_STRINGS" "Z")) s1 (fun _ _ h => by rw [hh5]; exact h) (g := (mkF m 19 #[.val (.ref x), .val (.ref y), .val (.ref y)] [])) rfl (hb hbytes d19)
    have hh7 := q7.trans hh5
    have c8 : Steps p.tables e below (s₁.setTop (entryFrame m #[.ref x, .ref y] 3)) (T7.setTop (mkF m 26 #[.val (.ref x), .val (.ref y), .val (.ref y)] [.ref x])) := (c6.trans (st7 _ (Steps.refl _))).trans (by
      refine XS.ifNo X7.here hexec rfl (hb hbytes d22) rfl (i0_eq_f hz) ?_
      refine XS.aloadN X7.here hexec rfl (hb hbytes d25) rfl rfl ?_
      exact Steps.refl _)
    obtain ⟨T9, X9, q9, st9⟩ := X7.hget hexec hown (wk W (.fieldLink "java/lang/String" 15 "java/lang/String" "coder" "B")) (hx.mv X7.warmed.alike hh7).2.2.1 (g := (mkF m 26 #[.val (.ref x), .val (.ref y), .val (.ref y)] [.ref x])) rfl (rest := []) rfl (hb hbytes d26)
    have hh9 := q9.trans hh7
    have c10 : Steps p.tables e below (s₁.setTop (entryFrame m #[.ref x, .ref y] 3)) (T9.setTop (mkF m 30 #[.val (.ref x), .val (.ref y), .val (.ref y)] [.ref y, .int cd])) := (c8.trans (st9 _ (Steps.refl _))).trans (by
      refine XS.aloadN X9.here hexec rfl (hb hbytes d29) rfl rfl ?_
      exact Steps.refl _)
    obtain ⟨T11, X11, q11, st11⟩ := X9.hget hexec hown (wk W (.fieldLink "java/lang/String" 15 "java/lang/String" "coder" "B")) (hy.mv X9.warmed.alike hh9).2.2.1 (g := (mkF m 30 #[.val (.ref x), .val (.ref y), .val (.ref y)] [.ref y, .int cd])) rfl (rest := [.int cd]) rfl (hb hbytes d30)
    have hh11 := q11.trans hh9
    have c12 : Steps p.tables e below (s₁.setTop (entryFrame m #[.ref x, .ref y] 3)) (T11.setTop (mkF m 33 #[.val (.ref x), .val (.ref y), .val (.ref y)] [.int cd', .int cd])) := c10.trans (st11 _ (Steps.refl _))
    by_cases hcd : cd = cd'
    · subst hcd
      have c13 : Steps p.tables e below (s₁.setTop (entryFrame m #[.ref x, .ref y] 3)) (T11.setTop (mkF m 37 #[.val (.ref x), .val (.ref y), .val (.ref y)] [.ref x])) := c12.trans (by
        refine XS.icmpNo X11.here hexec rfl (hb hbytes d33) rfl (ii_ne_f rfl) ?_
        refine XS.aloadN X11.here hexec rfl (hb hbytes d36) rfl rfl ?_
        exact Steps.refl _)
      obtain ⟨T14, X14, q14, st14⟩ := X11.hget hexec hown (wk W (.fieldLink "java/lang/String" 9 "java/lang/String" "value" "[B")) (hx.mv X11.warmed.alike hh11).2.1 (g := (mkF m 37 #[.val (.ref x), .val (.ref y), .val (.ref y)] [.ref x])) rfl (rest := []) rfl (hb hbytes d37)
      have hh14 := q14.trans hh11
      have c15 : Steps p.tables e below (s₁.setTop (entryFrame m #[.ref x, .ref y] 3)) (T14.setTop (mkF m 41 #[.val (.ref x), .val (.ref y), .val (.ref y)] [.ref y, .ref t])) := (c13.trans (st14 _ (Steps.refl _))).trans (by
        refine XS.aloadN X14.here hexec rfl (hb hbytes d40) rfl rfl ?_
        exact Steps.refl _)
      obtain ⟨T16, X16, q16, st16⟩ := X14.hget hexec hown (wk W (.fieldLink "java/lang/String" 9 "java/lang/String" "value" "[B")) (hy.mv X14.warmed.alike hh14).2.1 (g := (mkF m 41 #[.val (.ref x), .val (.ref y), .val (.ref y)] [.ref y, .ref t])) rfl (rest := [.ref t]) rfl (hb hbytes d41)
      have hh16 := q16.trans hh14
      have c17 : Steps p.tables e below (s₁.setTop (entryFrame m #[.ref x, .ref y] 3)) (T16.setTop (mkF m 44 #[.val (.ref x), .val (.ref y), .val (.ref y)] [.ref t', .ref t])) := c15.trans (st16 _ (Steps.refl _))
      obtain ⟨v18, T18, X18, E18, g18⟩ := X16.callS hexec (LEq.law l t V t' V') hown (wks W (staticW "java/lang/String" 541 LEq.yN)) (wk W LEq.tab) (W := 0) (Nat.le_of_ble_eq_true rfl) (Nat.le_of_ble_eq_true rfl) (Nat.le_refl _) (Nat.le_refl _) (g := (mkF m 44 #[.val (.ref x), .val (.ref y), .val (.ref y)] [.ref t', .ref t])) rfl (by rw [hml]; rfl) c17 (argsL := [.ref t, .ref t']) (rest := []) rfl rfl (by show 2 * 0 + 0 ≤ _; decide) (hb hbytes d44) (⟨rfl, hx.2.2.2.1.mv X16.warmed.alike hh16, hx.2.2.2.2.1.ty, hy.2.2.2.1.mv X16.warmed.alike hh16, hy.2.2.2.2.1.ty⟩)
      obtain ⟨v, rfl, q18, hv⟩ := E18
      have iff := Cod.eqv hx.2.2.2.2.1 hy.2.2.2.2.1 hx.2.2.2.2.2 hy.2.2.2.2.2
      rcases hv with ⟨rfl, he⟩ | ⟨rfl, he⟩
      · have c19 : Steps p.tables e below (s₁.setTop (entryFrame m #[.ref x, .ref y] 3)) (T18.setTop (mkF m 55 #[.val (.ref x), .val (.ref y), .val (.ref y)] [.int 1])) := Steps.trans g18 (by
          refine XS.ifNo X18.here hexec rfl (hb hbytes d47) rfl (i0_eq_f (by decide)) ?_
          refine iconstV X18.here hexec rfl 1 (hb hbytes d50) (by decide) ?_
          refine XS.goto X18.here hexec rfl (pc0 := 51) rfl (hb hbytes d51) (by decide) rfl ?_
          exact Steps.refl _)
        exact ⟨T18, some (.int 1), _, _, _, X18, rfl, rfl, rfl, (fun h => by cases h), ⟨1, rfl, q18.trans hh16, Or.inl ⟨rfl, iff.mp he⟩⟩, fun fs hl => c19.trans (X18.ireturnOut hexec hret rfl (Or.inr (Or.inl rfl)) (hb hbytes d55) hl)⟩
      · have c19 : Steps p.tables e below (s₁.setTop (entryFrame m #[.ref x, .ref y] 3)) (T18.setTop (mkF m 55 #[.val (.ref x), .val (.ref y), .val (.ref y)] [.int 0])) := Steps.trans g18 (by
          refine XS.ifYes X18.here hexec rfl (pc0 := 47) rfl (hb hbytes d47) rfl (i0_eq_t rfl) (by decide) rfl ?_
          refine iconstV X18.here hexec rfl 0 (hb hbytes d54) (by decide) ?_
          exact Steps.refl _)
        exact ⟨T18, some (.int 0), _, _, _, X18, rfl, rfl, rfl, (fun h => by cases h), ⟨0, rfl, q18.trans hh16, Or.inr ⟨rfl, fun q => he (iff.mpr q)⟩⟩, fun fs hl => c19.trans (X18.ireturnOut hexec hret rfl (Or.inr (Or.inl rfl)) (hb hbytes d55) hl)⟩
    · have c13 : Steps p.tables e below (s₁.setTop (entryFrame m #[.ref x, .ref y] 3)) (T11.setTop (mkF m 55 #[.val (.ref x), .val (.ref y), .val (.ref y)] [.int 0])) := c12.trans (by
        refine XS.icmpYes X11.here hexec rfl (pc0 := 33) rfl (hb hbytes d33) rfl (ii_ne_t hcd) (by decide) rfl ?_
        refine iconstV X11.here hexec rfl 0 (hb hbytes d54) (by decide) ?_
        exact Steps.refl _)
      exact ⟨T11, some (.int 0), _, _, _, X11, rfl, rfl, rfl, (fun h => by cases h), ⟨0, rfl, hh11, Or.inr ⟨rfl, Cod.dif hx.2.2.2.2.1 hy.2.2.2.2.1 hcd⟩⟩, fun fs hl => c13.trans (X11.ireturnOut hexec hret rfl (Or.inr (Or.inl rfl)) (hb hbytes d55) hl)⟩
theorem pays {l : Launch} {R : Room} {p : Program} {e : Env} {below : List Frame} {s : State} {sargs : Array Value} {len W : Nat} (x t : Addr) (V : Cell) (cd : Int32) (n : Nat) (f : Nat → Int32) (y t' : Addr) (V' : Cell) (cd' : Int32) (k : Nat) (g : Nat → Int32) (z : Int32) (htab : tab.before sargs s = true) (hfr : 2 ≤ R.frames) (hlo : W + 28 ≤ R.locals) :
    Back l R p e below s sargs yN len W (fun A₁ a₁ => A₁.cells + 0 ≤ R.cells ∧ A₁.slots + 0 ≤ R.slots ∧ P x t V cd n f y t' V' cd' k g z a₁ A₁.U) (fun A₁ _ v₁ B₁ => Says01 (SameT n f k g) v₁ A₁.U B₁.U ∧ B₁.locs = A₁.locs ++ [] ∧ B₁.cells = A₁.cells + 0 ∧ B₁.slots = A₁.slots + 0) :=
  (law l x t V cd n f y t' V' cd' k g z).pays htab hfr (by omega)
end SEq
end StrChars
namespace StrChars.Road
open Jvm Sem ClassFile Op Lib Jvm.Stand Jvm.Free Jvm.Free.XT
open Jvm.Lib.Cold (StaticIs)
/-- the words of String.equals(Object) -/
abbrev wordsEq : List Jvm.Cond := [.code SEq.yN SEq.yB 3 (some .boolean), .initialized ST, .classLink ST 10 ST, .fieldLink ST 38 ST "COMPACT_STRINGS" "Z", .fieldLink ST 15 ST "coder" "B", .fieldLink ST 9 ST "value" "[B", .methodLink ST 541 LEq.yN, .static LEq.yN, .code LEq.yN LEq.yB 3 (some .boolean), .initialized "java/lang/StringLatin1"]
theorem tabEq_of {a : Array Value} {s : State} (h : ∀ w ∈ wordsEq, w.before a s = true) : SEq.tab.before a s = true := by
  have hl : LEq.tab.before a s = true := unparts (wk h (.code LEq.yN LEq.yB 3 (some .boolean))) (wks h (.initialized LEq.yN.cls :: LEq.site))
  have q := consq hl h
  exact unparts (wk q (.code SEq.yN SEq.yB 3 (some .boolean))) (wks q (.initialized SEq.yN.cls :: SEq.site))
theorem movedEq {Z s : State} {a0 args : Array Value} (hZ : Z.Warmed39 s.vm) (hw : ∀ d ∈ wordsEq, d.before a0 Z = true) : ∀ d ∈ wordsEq, d.before args s = true := fun d hd => by
  have t : ∀ d ∈ wordsEq, (d.onTables && d.keepsFace) = true := by decide +kernel
  exact RoadKit.mv hZ (hw d hd) (t d hd)
/-- the road's facts of a String, as the laws ask it -/
theorem txt_of {Z U : State} {a0 : Array Value} {kI : Nat} (wi : (Jvm.Cond.instantiable ST kI).before a0 Z = true) (al : Z.vm.Alike U.vm) {x t : Addr} {kb : ClassId} {cs : List Int32} {cd N2 : Int32} {vs : List Value} (E : RoadKit.Exa Z U.heap x ST) (V : RoadKit.Fld Z U.heap x ST "value" "[B" (.ref t)) (C : RoadKit.Fld Z U.heap x ST "coder" "B" (.int cd)) (K : RoadKit.Arv Z U.heap t kb .byte N2 vs (.int 0)) (hc : CodA cs cd N2 vs) (hb : ∀ c ∈ cs, ¬ c < 0 ∧ ¬ (65535 : Int32) < c) (l2 : cs.length ≤ 4000) :
    ∃ A, Txt x t A cd cs.length (fun j => cs.getD j 0) U := by
  obtain ⟨A, K1, K2, K3, K4, K5, K6⟩ := K
  have hcod := hc.cod (by omega) K3 K5
  obtain ⟨D, fV, fC, hB, F1, F2, g1, g2, -, -⟩ := strObj wi al E V C
  exact ⟨A, ⟨_, hB.2.2.1, D, hB.1, rfl, by cases q : D.vm <;> first | rfl | exact absurd q (hB.2.1.2 _)⟩, Has.of hB F1 g1, Has.of hB F2 g2, ⟨K1.1, State.isArrayOf_alike al K1.2.1, K1.2.2, by rcases hcod with ⟨-, q, -⟩ | ⟨-, q, -⟩ <;> omega⟩, hcod, fun j hj => by
    have e : cs.getD j 0 = cs[j] := by simp [List.getD_eq_getElem?_getD, hj]
    show ¬ cs.getD j 0 < 0 ∧ ¬ 65535 < cs.getD j 0
    rw [e]; exact hb _ (List.getElem_mem _)⟩
theorem same_list (cs ds : List Int32) : SameT cs.length (fun j => cs.getD j 0) ds.length (fun j => ds.getD j 0) ↔ cs = ds := by
  constructor
  · rintro ⟨e, q⟩
    refine List.ext_getElem e fun j h1 h2 => ?_
    have := q j h1
    simpa [List.getD_eq_getElem?_getD, h1, h2] using this
  · rintro rfl
    exact ⟨rfl, fun _ _ => rfl⟩
/-- **equals(Object) OF TWO SUCH STRINGS**: 1 just where the chars are the same -/
theorem eqW {p : Program} {l : Launch} {e : Env} {R : Room} {s : State} {args : Array Value} {below : List Frame} {len W : Nat} {Z : State} {a0 : Array Value} {h : Heap} (hZ : Z.Warmed39 s.vm) (hw : ∀ d ∈ wordsEq, d.before a0 Z = true) {kI : Nat} (wi : (Jvm.Cond.instantiable ST kI).before a0 Z = true)
    {x t : Addr} {kb : ClassId} {cs : List Int32} {cd N2 : Int32} {vs : List Value} (E : RoadKit.Exa Z h x ST) (V : RoadKit.Fld Z h x ST "value" "[B" (.ref t)) (C : RoadKit.Fld Z h x ST "coder" "B" (.int cd)) (K : RoadKit.Arv Z h t kb .byte N2 vs (.int 0)) (hc : CodA cs cd N2 vs) (hb : ∀ c ∈ cs, ¬ c < 0 ∧ ¬ (65535 : Int32) < c) (l2 : cs.length ≤ 4000)
    {y t' : Addr} {kb' : ClassId} {ds : List Int32} {cd' N2' : Int32} {vs' : List Value} (E' : RoadKit.Exa Z h y ST) (V' : RoadKit.Fld Z h y ST "value" "[B" (.ref t')) (C' : RoadKit.Fld Z h y ST "coder" "B" (.int cd')) (K' : RoadKit.Arv Z h t' kb' .byte N2' vs' (.int 0)) (hc' : CodA ds cd' N2' vs') (hb' : ∀ c ∈ ds, ¬ c < 0 ∧ ¬ (65535 : Int32) < c) (l2' : ds.length ≤ 4000)
    {z : Int32} (S : RoadKit.Sta Z h ST "COMPACT_STRINGS" "Z" (.int z)) (hz : ¬ z = 0) (hfr : 2 ≤ R.frames) (hlo : W + 28 ≤ R.locals) :
    Back l R p e below s args (⟨"java/lang/String", "equals", "(Ljava/lang/Object;)Z"⟩ : MethodName) len W (fun P a => a = #[.ref x, .ref y] ∧ P.U.heap = h ∧ P.cells + 0 ≤ R.cells ∧ P.slots + 0 ≤ R.slots)
      (fun P _ v B => ∃ L, (((v = some (.int 1) ∧ cs = ds) ∨ (v = some (.int 0) ∧ ¬ cs = ds)) ∧ L = [] ∧ B.U.heap = h) ∧ B.locs = P.locs ++ L ∧ B.cells = P.cells + 0 ∧ B.slots = P.slots + 0) := by
  intro m meth c P g ig mk a X hg hsize hdg hW hn hp'
  obtain ⟨rfl, rfl, r1, r2⟩ := hp'
  have al : Z.vm.Alike P.U.vm := hZ.alike.trans X.warmed.alike
  obtain ⟨A, hx⟩ := txt_of wi al E V C K hc hb l2
  obtain ⟨A', hy⟩ := txt_of wi al E' V' C' K' hc' hb' l2'
  obtain ⟨v, B, X', ⟨⟨w, hv, hh, hq⟩, hl, hk, hs⟩, st⟩ := SEq.pays x t A cd cs.length (fun j => cs.getD j 0) y t' A' cd' ds.length (fun j => ds.getD j 0) z (tabEq_of (movedEq hZ hw)) hfr hlo m meth c P g ig mk _ X hg hsize hdg hW hn ⟨r1, r2, rfl, hx, hy, sta_is al S, hz⟩
  refine ⟨v, B, X', ⟨[], ⟨?_, rfl, hh⟩, hl, hk, hs⟩, st⟩
  rcases hq with ⟨rfl, q⟩ | ⟨rfl, q⟩
  · exact Or.inl ⟨hv, (same_list cs ds).mp q⟩
  · exact Or.inr ⟨hv, fun e => q ((same_list cs ds).mpr e)⟩
end StrChars.Road
namespace StrChars.Road
open Jvm Sem ClassFile Op Lib Jvm.Stand Jvm.Free Jvm.Free.XT
open Jvm.Lib.Cold (StaticIs)
/-- what backV says of its String, as the contracts of this text ask it: cs's low bytes, coder 0 -/
theorem codOf {cs : List Int32} {n : Nat} (hn : cs.length = n) (hb : ∀ c ∈ cs, ¬ 255 < c) : CodA cs 0 (Int32.ofNat n) ((cs.map lo8).map Value.int) := Or.inl ⟨rfl, by rw [hn], by simp [List.map_map, Function.comp_def], hb⟩
end StrChars.Road
end Jvm.Pilot.@@N@@
namespace Jvm.Pilot.@@N@@
open Jvm Jvm.ClassFile Sem Op Lib Jvm.Free Jvm.Stand Jvm.LawKit Jvm.RoadKit Bundle Jvm.Pilot.@@N@@.Jvm.D
def own_Done (p : Program) (e : Env) (below : List Frame) (P : Outcome → State → Prop) (S : State) : Prop := ∃ s₂ o, Steps p.tables e below S s₂ ∧ s₂.status = .running ∧ Ended s₂ below o ∧ P o s₂
section Own
variable {p : Program} {e : Env} {below : List Frame} {P : Outcome → State → Prop} {S S' : State}
theorem own_open (d : own_Done p e below P S) : ∃ s₂ o, Steps p.tables e below S s₂ ∧ s₂.status = .running ∧ Ended s₂ below o ∧ P o s₂ := d
theorem own_via (k : ∀ t, Steps p.tables e below S' t → Steps p.tables e below S t) (d : own_Done p e below P S') : own_Done p e below P S := by
  obtain ⟨s₂, o, h1, h2⟩ := d
  exact ⟨s₂, o, k _ h1, h2⟩
theorem own_tr (k : Steps p.tables e below S S') (d : own_Done p e below P S') : own_Done p e below P S := own_via (fun _ h => k.trans h) d
theorem own_ret {l : Launch} {R : Room} {s : State} {m : MethodId} {args : Array Value} {meth : Method} {c : Code} {T : State} {locs : List Loc} {cells slots : Nat} {Q : Option Value → Heap → List Loc → Prop} {C N : Nat} (X : Stand p l e R s m args below meth c T locs cells slots) {v : Option Value} (hv : meth.sig.returnType = none → v = none) (hlocks : meth.locks = false) (hq : Q v T.heap locs) (hc : cells ≤ C) (hs : slots ≤ N)
    (k : ∀ fs, (∀ (f : JFrame) (acts : List Action), f.method = m → f.locked = none → f.entered = [] → (doReturn e (T.setTop f) acts v).1 = T.setFrames fs) → Steps p.tables e below S (T.setFrames fs)) :
    own_Done p e below (fun o U' => ∃ v L, o = .returned v ∧ Q v U'.heap L ∧ FrameEnd s o U' L C N) S := by
  obtain ⟨fs, hr, hrun, hended, hW, hsame⟩ := X.leave hv hlocks
  exact ⟨_, _, k fs hr, hrun, hended, v, locs, rfl, hq, ⟨_, rfl⟩, hW, hsame.mono hc hs⟩
theorem own_nface {args : Array Value} {s : State} {C : String} {y z : MethodName} (hsel : (Cond.selects C y y).before args s = true) (e : z.cls = y.cls) : NotFace s z := fun r0 h0 => by
  obtain ⟨c2, r2, m2, q1, q2, q3, q4, kP, hkP, hkPi⟩ := Cond.selects_spec hsel
  have e1 := findClass_of_methodNamed h0
  have e2 := findClass_of_methodNamed q3
  rw [e] at e1
  have e3 : r0.cls = m2.cls := Option.some.inj (e1.symm.trans e2)
  exact ⟨kP, by rw [e3]; exact hkP, hkPi⟩
theorem own_sameM {args : Array Value} {s : State} {y : MethodName} (h1 : (Cond.instanceMethod y).before args s = true) (hnf : NotFace s y) (hy : y.cls ≠ "java/lang/invoke/MethodHandle" ∧ y.cls ≠ "java/lang/invoke/VarHandle") : (Cond.sameMethod y.cls y.cls y.name y.desc).before args s = true := by
  obtain ⟨mk, meth, hn, hm, -, -⟩ := Cond.instanceMethod_spec h1
  have e1 := findClass_of_methodNamed hn
  have e2 := State.methodFound?_of_named hn hy
  obtain ⟨k, hk, hi⟩ := hnf _ hn
  have e3 : s.methodNamed? ⟨y.cls, y.name, y.desc⟩ = some mk := hn
  simp [Cond.before, Cond.holds, Cond.value, e1, e2, e3, hk, hi]
theorem own_declares {args : Array Value} {s : State} {y : MethodName} {bytes : ByteArray} {maxL : Nat} {ret : Option FieldType} (h1 : (Cond.instanceMethod y).before args s = true) (h2 : (Cond.code y bytes maxL ret).before args s = true) : (Cond.declares y).before args s = true := by
  obtain ⟨mk, meth, hn, hm, hst, -⟩ := Cond.instanceMethod_spec h1
  obtain ⟨meth', c, hm', -, -, -, -, -, -, hsig⟩ := Cond.code_spec hn h2
  cases hm.symm.trans hm'
  simp [Cond.before, Cond.holds, Cond.value, hn, hm, hst, hsig]
theorem own_ltA {a : Addr} {n : Nat} (h : n > a) : a < n := h
theorem own_shr0 (x : Int32) : x >>> ((0 : Int32) &&& 31) = x := by rw [show ((0 : Int32) &&& 31) = 0 from by decide]; simp
theorem own_shl0 (x : Int32) : x <<< ((0 : Int32) &&& 31) = x := by rw [show ((0 : Int32) &&& 31) = 0 from by decide]; simp
theorem own_sub0 (x : Int32) : x - (0 : Int32) = x := by simp
abbrev own_cp (vd vs : List Value) (dp sp nn : Int32) : List Value := vd.take dp.toNatClampNeg ++ ((List.range nn.toNatClampNeg).map fun i => vs.getD (sp.toNatClampNeg + i) (.int (0 : Int32))) ++ vd.drop (dp.toNatClampNeg + nn.toNatClampNeg)
theorem own_inst {Z : State} {h : Heap} {a : Addr} {C own K : String} {idx : Nat} {a0 : Array Value} {d : ClassId} (E : Exa Z h a C) (w : (Cond.classLink own idx K).before a0 Z = true) (hd : Z.vm.findClass own = some d) : Ins Z h a K true ∨ ∃ c t, Z.vm.findClass C = some c ∧ Z.vm.findClass K = some t ∧ Z.vm.assignable c t = false := by
  obtain ⟨cell, k, h1, h2, h3, h4, h5⟩ := E
  obtain ⟨cT, hT, -⟩ := Cond.classLink_spec hd w {} rfl
  cases hb : Z.vm.assignable cell.cls cT
  · exact Or.inr ⟨cell.cls, cT, h2, hT, hb⟩
  · exact Or.inl ⟨cell, cT, h1, hT, by simp [h4, hb]⟩
end Own
abbrev mt0 : MethodName := (⟨"java/util/Objects", "requireNonNull", "(Ljava/lang/Object;Ljava/lang/String;)Ljava/lang/Object;"⟩ : MethodName)
theorem pn_java_util_Objects : plainName "java/util/Objects" = true := by first | (simp [plainName, overriddenIn]; done) | decide +kernel
theorem ef_own_rnn (m : MethodId) (x0 : Addr) (x1 : Addr) : entryFrame m #[(.ref x0), (.ref x1)] 2 = mkF m 0 #[.val (.ref x0), .val (.ref x1)] [] := by first | (simp [entryFrame, mkF, argsToLocals, Value.category]; done) | rfl
theorem d8_0 : decode jdk_31_method_11_code 0 = .ok (.aload_n 0, 1) := by decide +kernel
theorem d8_1 : decode jdk_31_method_11_code 1 = .ok (.ifnonnull 12, 3) := by decide +kernel
theorem d8_13 : decode jdk_31_method_11_code 13 = .ok (.aload_n 0, 1) := by decide +kernel
theorem d8_14 : decode jdk_31_method_11_code 14 = .ok (.areturn, 1) := by decide +kernel
abbrev mt1 : MethodName := (⟨"com/example/regent/regent/AccessLevel", "values", "()[Lcom/example/regent/regent/AccessLevel;"⟩ : MethodName)
theorem pn_com_example_regent_regent_AccessLevel : plainName "com/example/regent/regent/AccessLevel" = true := by first | (simp [plainName, overriddenIn]; done) | decide +kernel
theorem ef_own_values (m : MethodId)  : entryFrame m #[] 0 = mkF m 0 #[] [] := by first | (simp [entryFrame, mkF, argsToLocals, Value.category]; done) | rfl
theorem d9_0 : decode prog_1_method_1_code 0 = .ok (.getstatic 13, 3) := by decide +kernel
theorem wd46 {Z : State} {a0 : Array Value} (hw : ∀ d ∈ tables_1, d.before a0 Z = true) : ((Jvm.Cond.fieldLink "com/example/regent/regent/AccessLevel" (13 : Nat) "com/example/regent/regent/AccessLevel" "$VALUES" "[Lcom/example/regent/regent/AccessLevel;") : Jvm.Cond).before a0 Z = true := hw _ (List.mem_of_getElem? (i := 46) rfl)
theorem d9_3 : decode prog_1_method_1_code 3 = .ok (.invokevirtual 17, 3) := by decide +kernel
theorem wd48 {Z : State} {a0 : Array Value} (hw : ∀ d ∈ tables_1, d.before a0 Z = true) : ((Jvm.Cond.methodLink "com/example/regent/regent/AccessLevel" (17 : Nat) ({ cls := "[Lcom/example/regent/regent/AccessLevel;", name := "clone", desc := "()Ljava/lang/Object;" } : Jvm.MethodName)) : Jvm.Cond).before a0 Z = true := hw _ (List.mem_of_getElem? (i := 48) rfl)
theorem wd49 {Z : State} {a0 : Array Value} (hw : ∀ d ∈ tables_1, d.before a0 Z = true) : ((Jvm.Cond.sameMethod "[Lcom/example/regent/regent/AccessLevel;" "java/lang/Object" "clone" "()Ljava/lang/Object;") : Jvm.Cond).before a0 Z = true := hw _ (List.mem_of_getElem? (i := 49) rfl)
theorem wd53 {Z : State} {a0 : Array Value} (hw : ∀ d ∈ tables_1, d.before a0 Z = true) : ((Jvm.Cond.native ({ cls := "java/lang/Object", name := "clone", desc := "()Ljava/lang/Object;" } : Jvm.MethodName)) : Jvm.Cond).before a0 Z = true := hw _ (List.mem_of_getElem? (i := 53) rfl)
theorem wd51 {Z : State} {a0 : Array Value} (hw : ∀ d ∈ tables_1, d.before a0 Z = true) : ((Jvm.Cond.instanceMethod ({ cls := "java/lang/Object", name := "clone", desc := "()Ljava/lang/Object;" } : Jvm.MethodName)) : Jvm.Cond).before a0 Z = true := hw _ (List.mem_of_getElem? (i := 51) rfl)
theorem wd52 {Z : State} {a0 : Array Value} (hw : ∀ d ∈ tables_1, d.before a0 Z = true) : ((Jvm.Cond.selects "[Lcom/example/regent/regent/AccessLevel;" ({ cls := "[Lcom/example/regent/regent/AccessLevel;", name := "clone", desc := "()Ljava/lang/Object;" } : Jvm.MethodName) ({ cls := "java/lang/Object", name := "clone", desc := "()Ljava/lang/Object;" } : Jvm.MethodName)) : Jvm.Cond).before a0 Z = true := hw _ (List.mem_of_getElem? (i := 52) rfl)
theorem wd54 {Z : State} {a0 : Array Value} (hw : ∀ d ∈ tables_1, d.before a0 Z = true) : ((Jvm.Cond.castable "[Lcom/example/regent/regent/AccessLevel;" "java/lang/Cloneable") : Jvm.Cond).before a0 Z = true := hw _ (List.mem_of_getElem? (i := 54) rfl)
theorem d9_6 : decode prog_1_method_1_code 6 = .ok (.checkcast 18, 3) := by decide +kernel
theorem wd58 {Z : State} {a0 : Array Value} (hw : ∀ d ∈ tables_1, d.before a0 Z = true) : ((Jvm.Cond.classLink "com/example/regent/regent/AccessLevel" (18 : Nat) "[Lcom/example/regent/regent/AccessLevel;") : Jvm.Cond).before a0 Z = true := hw _ (List.mem_of_getElem? (i := 58) rfl)
theorem d9_9 : decode prog_1_method_1_code 9 = .ok (.areturn, 1) := by decide +kernel
abbrev mt2 : MethodName := (⟨"com/example/regent/regent/AccessLevel", "externalName", "()Ljava/lang/String;"⟩ : MethodName)
theorem ef_own_ext (m : MethodId) (x0 : Addr) : entryFrame m #[(.ref x0)] 1 = mkF m 0 #[.val (.ref x0)] [] := by first | (simp [entryFrame, mkF, argsToLocals, Value.category]; done) | rfl
theorem d12_0 : decode prog_1_method_4_code 0 = .ok (.aload_n 0, 1) := by decide +kernel
theorem d12_1 : decode prog_1_method_4_code 1 = .ok (.getfield 32, 3) := by decide +kernel
theorem wd61 {Z : State} {a0 : Array Value} (hw : ∀ d ∈ tables_1, d.before a0 Z = true) : ((Jvm.Cond.fieldLink "com/example/regent/regent/AccessLevel" (32 : Nat) "com/example/regent/regent/AccessLevel" "externalName" "Ljava/lang/String;") : Jvm.Cond).before a0 Z = true := hw _ (List.mem_of_getElem? (i := 61) rfl)
theorem d12_4 : decode prog_1_method_4_code 4 = .ok (.areturn, 1) := by decide +kernel
abbrev mt3 : MethodName := (⟨"com/example/regent/regent/AccessLevel", "parseGrant", "(Ljava/lang/String;)Lcom/example/regent/regent/AccessLevel;"⟩ : MethodName)
theorem ef_own_pgR (m : MethodId) (x0 : Addr) : entryFrame m #[(.ref x0)] 5 = mkF m 0 #[.val (.ref x0), .unset, .unset, .unset, .unset] [] := by first | (simp [entryFrame, mkF, argsToLocals, Value.category]; done) | rfl
theorem wd4 {Z : State} {a0 : Array Value} (hw : ∀ d ∈ tables_1, d.before a0 Z = true) : ((Jvm.Cond.instantiable "java/lang/String" (4 : Nat)) : Jvm.Cond).before a0 Z = true := hw _ (List.mem_of_getElem? (i := 4) rfl)
theorem d7_0 : decode prog_1_method_5_code 0 = .ok (.aload_n 0, 1) := by decide +kernel
theorem d7_1 : decode prog_1_method_5_code 1 = .ok (.ldc 36, 2) := by decide +kernel
theorem wd36 {Z : State} {a0 : Array Value} (hw : ∀ d ∈ tables_1, d.before a0 Z = true) : ((Jvm.Cond.stringLink "com/example/regent/regent/AccessLevel" (36 : Nat) "name") : Jvm.Cond).before a0 Z = true := hw _ (List.mem_of_getElem? (i := 36) rfl)
theorem d7_3 : decode prog_1_method_5_code 3 = .ok (.invokestatic 38, 3) := by decide +kernel
theorem wd39 {Z : State} {a0 : Array Value} (hw : ∀ d ∈ tables_1, d.before a0 Z = true) : ((Jvm.Cond.methodLink "com/example/regent/regent/AccessLevel" (38 : Nat) ({ cls := "java/util/Objects", name := "requireNonNull", desc := "(Ljava/lang/Object;Ljava/lang/String;)Ljava/lang/Object;" } : Jvm.MethodName)) : Jvm.Cond).before a0 Z = true := hw _ (List.mem_of_getElem? (i := 39) rfl)
theorem wd42 {Z : State} {a0 : Array Value} (hw : ∀ d ∈ tables_1, d.before a0 Z = true) : ((Jvm.Cond.code ({ cls := "java/util/Objects", name := "requireNonNull", desc := "(Ljava/lang/Object;Ljava/lang/String;)Ljava/lang/Object;" } : Jvm.MethodName) jdk_31_method_11_code (2 : Nat) (Option.some (Jvm.ClassFile.FieldType.object "java/lang/Object"))) : Jvm.Cond).before a0 Z = true := hw _ (List.mem_of_getElem? (i := 42) rfl)
theorem wd41 {Z : State} {a0 : Array Value} (hw : ∀ d ∈ tables_1, d.before a0 Z = true) : ((Jvm.Cond.initialized "java/util/Objects") : Jvm.Cond).before a0 Z = true := hw _ (List.mem_of_getElem? (i := 41) rfl)
theorem pd__Ljava_lang_Object_Ljava_lang_String__Ljava_lang_Object__5105 : parseMethodDescriptor "(Ljava/lang/Object;Ljava/lang/String;)Ljava/lang/Object;" = some ⟨[(.object "java/lang/Object"), (.object "java/lang/String")], some (.object "java/lang/Object")⟩ := by decide +kernel
theorem wd40 {Z : State} {a0 : Array Value} (hw : ∀ d ∈ tables_1, d.before a0 Z = true) : ((Jvm.Cond.static ({ cls := "java/util/Objects", name := "requireNonNull", desc := "(Ljava/lang/Object;Ljava/lang/String;)Ljava/lang/Object;" } : Jvm.MethodName)) : Jvm.Cond).before a0 Z = true := hw _ (List.mem_of_getElem? (i := 40) rfl)
theorem d7_6 : decode prog_1_method_5_code 6 = .ok (.pop, 1) := by decide +kernel
theorem d7_7 : decode prog_1_method_5_code 7 = .ok (.invokestatic 44, 3) := by decide +kernel
theorem wd43 {Z : State} {a0 : Array Value} (hw : ∀ d ∈ tables_1, d.before a0 Z = true) : ((Jvm.Cond.methodLink "com/example/regent/regent/AccessLevel" (44 : Nat) ({ cls := "com/example/regent/regent/AccessLevel", name := "values", desc := "()[Lcom/example/regent/regent/AccessLevel;" } : Jvm.MethodName)) : Jvm.Cond).before a0 Z = true := hw _ (List.mem_of_getElem? (i := 43) rfl)
theorem wd45 {Z : State} {a0 : Array Value} (hw : ∀ d ∈ tables_1, d.before a0 Z = true) : ((Jvm.Cond.code ({ cls := "com/example/regent/regent/AccessLevel", name := "values", desc := "()[Lcom/example/regent/regent/AccessLevel;" } : Jvm.MethodName) prog_1_method_1_code (0 : Nat) (Option.some (Jvm.ClassFile.FieldType.array (Jvm.ClassFile.FieldType.object "com/example/regent/regent/AccessLevel")))) : Jvm.Cond).before a0 Z = true := hw _ (List.mem_of_getElem? (i := 45) rfl)
theorem wd1 {Z : State} {a0 : Array Value} (hw : ∀ d ∈ tables_1, d.before a0 Z = true) : ((Jvm.Cond.initialized "com/example/regent/regent/AccessLevel") : Jvm.Cond).before a0 Z = true := hw _ (List.mem_of_getElem? (i := 1) rfl)
theorem pd____Lcom_example_regent_regent_AccessLevel__3950 : parseMethodDescriptor "()[Lcom/example/regent/regent/AccessLevel;" = some ⟨[], some (.array (.object "com/example/regent/regent/AccessLevel"))⟩ := by decide +kernel
theorem wd44 {Z : State} {a0 : Array Value} (hw : ∀ d ∈ tables_1, d.before a0 Z = true) : ((Jvm.Cond.static ({ cls := "com/example/regent/regent/AccessLevel", name := "values", desc := "()[Lcom/example/regent/regent/AccessLevel;" } : Jvm.MethodName)) : Jvm.Cond).before a0 Z = true := hw _ (List.mem_of_getElem? (i := 44) rfl)
theorem d7_10 : decode prog_1_method_5_code 10 = .ok (.astore_n 1, 1) := by decide +kernel
theorem d7_11 : decode prog_1_method_5_code 11 = .ok (.aload_n 1, 1) := by decide +kernel
theorem d7_12 : decode prog_1_method_5_code 12 = .ok (.arraylength, 1) := by decide +kernel
theorem d7_13 : decode prog_1_method_5_code 13 = .ok (.istore_n 2, 1) := by decide +kernel
theorem d7_14 : decode prog_1_method_5_code 14 = .ok (.iconst 0, 1) := by decide +kernel
theorem d7_15 : decode prog_1_method_5_code 15 = .ok (.istore_n 3, 1) := by decide +kernel
theorem d7_16 : decode prog_1_method_5_code 16 = .ok (.iload_n 3, 1) := by decide +kernel
theorem d7_17 : decode prog_1_method_5_code 17 = .ok (.iload_n 2, 1) := by decide +kernel
theorem d7_18 : decode prog_1_method_5_code 18 = .ok (.if_icmp .ge 37, 3) := by decide +kernel
theorem d7_21 : decode prog_1_method_5_code 21 = .ok (.aload_n 1, 1) := by decide +kernel
theorem d7_22 : decode prog_1_method_5_code 22 = .ok (.iload_n 3, 1) := by decide +kernel
theorem d7_23 : decode prog_1_method_5_code 23 = .ok (.aaload, 1) := by decide +kernel
theorem d7_24 : decode prog_1_method_5_code 24 = .ok (.astore 4, 2) := by decide +kernel
theorem d7_26 : decode prog_1_method_5_code 26 = .ok (.aload 4, 2) := by decide +kernel
theorem d7_28 : decode prog_1_method_5_code 28 = .ok (.getstatic 3, 3) := by decide +kernel
theorem wd60 {Z : State} {a0 : Array Value} (hw : ∀ d ∈ tables_1, d.before a0 Z = true) : ((Jvm.Cond.fieldLink "com/example/regent/regent/AccessLevel" (3 : Nat) "com/example/regent/regent/AccessLevel" "NONE" "Lcom/example/regent/regent/AccessLevel;") : Jvm.Cond).before a0 Z = true := hw _ (List.mem_of_getElem? (i := 60) rfl)
theorem d7_31 : decode prog_1_method_5_code 31 = .ok (.if_acmp .eq 18, 3) := by decide +kernel
theorem d7_49 : decode prog_1_method_5_code 49 = .ok (.iinc 3 1, 3) := by decide +kernel
theorem d7_52 : decode prog_1_method_5_code 52 = .ok (.goto (-36), 3) := by decide +kernel
theorem d7_34 : decode prog_1_method_5_code 34 = .ok (.aload 4, 2) := by decide +kernel
theorem d7_36 : decode prog_1_method_5_code 36 = .ok (.getfield 32, 3) := by decide +kernel
theorem d7_39 : decode prog_1_method_5_code 39 = .ok (.aload_n 0, 1) := by decide +kernel
theorem d7_40 : decode prog_1_method_5_code 40 = .ok (.invokevirtual 48, 3) := by decide +kernel
theorem wd63 {Z : State} {a0 : Array Value} (hw : ∀ d ∈ tables_1, d.before a0 Z = true) : ((Jvm.Cond.methodLink "com/example/regent/regent/AccessLevel" (48 : Nat) ({ cls := "java/lang/String", name := "equals", desc := "(Ljava/lang/Object;)Z" } : Jvm.MethodName)) : Jvm.Cond).before a0 Z = true := hw _ (List.mem_of_getElem? (i := 63) rfl)
theorem own_mwe {Z : State} {a0 : Array Value} (hw : ∀ d ∈ tables_1, d.before a0 Z = true) : ∀ d ∈ StrChars.Road.wordsEq, d.before a0 Z = true := fun d hd => hw d ((by decide +kernel : ∀ d ∈ StrChars.Road.wordsEq, d ∈ tables_1) d hd)
theorem wd67 {Z : State} {a0 : Array Value} (hw : ∀ d ∈ tables_1, d.before a0 Z = true) : ((Jvm.Cond.code ({ cls := "java/lang/String", name := "equals", desc := "(Ljava/lang/Object;)Z" } : Jvm.MethodName) jdk_42_method_66_code (3 : Nat) (Option.some Jvm.ClassFile.FieldType.boolean)) : Jvm.Cond).before a0 Z = true := hw _ (List.mem_of_getElem? (i := 67) rfl)
theorem pd__Ljava_lang_Object__Z_1835 : parseMethodDescriptor "(Ljava/lang/Object;)Z" = some ⟨[(.object "java/lang/Object")], some .boolean⟩ := by decide +kernel
theorem wd66 {Z : State} {a0 : Array Value} (hw : ∀ d ∈ tables_1, d.before a0 Z = true) : ((Jvm.Cond.selects "java/lang/String" ({ cls := "java/lang/String", name := "equals", desc := "(Ljava/lang/Object;)Z" } : Jvm.MethodName) ({ cls := "java/lang/String", name := "equals", desc := "(Ljava/lang/Object;)Z" } : Jvm.MethodName)) : Jvm.Cond).before a0 Z = true := hw _ (List.mem_of_getElem? (i := 66) rfl)
abbrev mt4 : MethodName := (⟨"java/lang/String", "equals", "(Ljava/lang/Object;)Z"⟩ : MethodName)
theorem wd64 {Z : State} {a0 : Array Value} (hw : ∀ d ∈ tables_1, d.before a0 Z = true) : ((Jvm.Cond.declares ({ cls := "java/lang/String", name := "equals", desc := "(Ljava/lang/Object;)Z" } : Jvm.MethodName)) : Jvm.Cond).before a0 Z = true := hw _ (List.mem_of_getElem? (i := 64) rfl)
theorem wd65 {Z : State} {a0 : Array Value} (hw : ∀ d ∈ tables_1, d.before a0 Z = true) : ((Jvm.Cond.instanceMethod ({ cls := "java/lang/String", name := "equals", desc := "(Ljava/lang/Object;)Z" } : Jvm.MethodName)) : Jvm.Cond).before a0 Z = true := hw _ (List.mem_of_getElem? (i := 65) rfl)
theorem d7_43 : decode prog_1_method_5_code 43 = .ok (.ifCond .eq 6, 3) := by decide +kernel
theorem d7_46 : decode prog_1_method_5_code 46 = .ok (.aload 4, 2) := by decide +kernel
theorem d7_48 : decode prog_1_method_5_code 48 = .ok (.areturn, 1) := by decide +kernel
theorem ef_own_pgW (m : MethodId) (x0 : Addr) : entryFrame m #[(.ref x0)] 5 = mkF m 0 #[.val (.ref x0), .unset, .unset, .unset, .unset] [] := by first | (simp [entryFrame, mkF, argsToLocals, Value.category]; done) | rfl
theorem pn_com_example_regent_regent_AccessLevelParseGrantPinLaw : plainName "com/example/regent/regent/AccessLevelParseGrantPinLaw" = true := by first | (simp [plainName, overriddenIn]; done) | decide +kernel
theorem ef_own_law (m : MethodId) (x0 : Int32) : entryFrame m #[(.int x0)] maxLocals = mkF m 0 #[.val (.int x0), .unset, .unset, .unset, .unset] [] := by first | (simp [entryFrame, mkF, argsToLocals, Value.category, maxLocals]; done) | rfl
theorem wd0 {Z : State} {a0 : Array Value} (hw : ∀ d ∈ tables_1, d.before a0 Z = true) : ((Jvm.Cond.fieldLink "com/example/regent/regent/AccessLevelParseGrantPinLaw" (13 : Nat) "com/example/regent/regent/AccessLevel" "READ" "Lcom/example/regent/regent/AccessLevel;") : Jvm.Cond).before a0 Z = true := hw _ (List.mem_of_getElem? (i := 0) rfl)
theorem wd3 {Z : State} {a0 : Array Value} (hw : ∀ d ∈ tables_1, d.before a0 Z = true) : ((Jvm.Cond.classLink "com/example/regent/regent/AccessLevelParseGrantPinLaw" (16 : Nat) "java/lang/String") : Jvm.Cond).before a0 Z = true := hw _ (List.mem_of_getElem? (i := 3) rfl)
theorem wd5 {Z : State} {a0 : Array Value} (hw : ∀ d ∈ tables_1, d.before a0 Z = true) : ((Jvm.Cond.initialized "java/lang/String") : Jvm.Cond).before a0 Z = true := hw _ (List.mem_of_getElem? (i := 5) rfl)
theorem wd30 {Z : State} {a0 : Array Value} (hw : ∀ d ∈ tables_1, d.before a0 Z = true) : ((Jvm.Cond.laysFinal "java/lang/String" "java/lang/String" "coder" "B") : Jvm.Cond).before a0 Z = true := hw _ (List.mem_of_getElem? (i := 30) rfl)
theorem wd32 {Z : State} {a0 : Array Value} (hw : ∀ d ∈ tables_1, d.before a0 Z = true) : ((Jvm.Cond.laysFinal "java/lang/String" "java/lang/String" "value" "[B") : Jvm.Cond).before a0 Z = true := hw _ (List.mem_of_getElem? (i := 32) rfl)
theorem wd6 {Z : State} {a0 : Array Value} (hw : ∀ d ∈ tables_1, d.before a0 Z = true) : ((Jvm.Cond.arrayClass Jvm.ClassFile.FieldType.char) : Jvm.Cond).before a0 Z = true := hw _ (List.mem_of_getElem? (i := 6) rfl)
theorem wd7 {Z : State} {a0 : Array Value} (hw : ∀ d ∈ tables_1, d.before a0 Z = true) : ((Jvm.Cond.methodLink "com/example/regent/regent/AccessLevelParseGrantPinLaw" (18 : Nat) ({ cls := "java/lang/String", name := "<init>", desc := "([C)V" } : Jvm.MethodName)) : Jvm.Cond).before a0 Z = true := hw _ (List.mem_of_getElem? (i := 7) rfl)
theorem own_mw {Z : State} {a0 : Array Value} (hw : ∀ d ∈ tables_1, d.before a0 Z = true) : ∀ d ∈ StrChars.Road.words, d.before a0 Z = true := fun d hd => hw d ((by decide +kernel : ∀ d ∈ StrChars.Road.words, d ∈ tables_1) d hd)
theorem wd9 {Z : State} {a0 : Array Value} (hw : ∀ d ∈ tables_1, d.before a0 Z = true) : ((Jvm.Cond.code ({ cls := "java/lang/String", name := "<init>", desc := "([C)V" } : Jvm.MethodName) jdk_42_method_3_code (2 : Nat) (Option.none : Option Jvm.ClassFile.FieldType)) : Jvm.Cond).before a0 Z = true := hw _ (List.mem_of_getElem? (i := 9) rfl)
theorem pd___C_V_325 : parseMethodDescriptor "([C)V" = some ⟨[(.array .char)], none⟩ := by decide +kernel
abbrev mt5 : MethodName := (⟨"java/lang/String", "<init>", "([C)V"⟩ : MethodName)
theorem wd8 {Z : State} {a0 : Array Value} (hw : ∀ d ∈ tables_1, d.before a0 Z = true) : ((Jvm.Cond.instanceMethod ({ cls := "java/lang/String", name := "<init>", desc := "([C)V" } : Jvm.MethodName)) : Jvm.Cond).before a0 Z = true := hw _ (List.mem_of_getElem? (i := 8) rfl)
theorem wd33 {Z : State} {a0 : Array Value} (hw : ∀ d ∈ tables_1, d.before a0 Z = true) : ((Jvm.Cond.methodLink "com/example/regent/regent/AccessLevelParseGrantPinLaw" (21 : Nat) ({ cls := "com/example/regent/regent/AccessLevel", name := "parseGrant", desc := "(Ljava/lang/String;)Lcom/example/regent/regent/AccessLevel;" } : Jvm.MethodName)) : Jvm.Cond).before a0 Z = true := hw _ (List.mem_of_getElem? (i := 33) rfl)
theorem wd35 {Z : State} {a0 : Array Value} (hw : ∀ d ∈ tables_1, d.before a0 Z = true) : ((Jvm.Cond.code ({ cls := "com/example/regent/regent/AccessLevel", name := "parseGrant", desc := "(Ljava/lang/String;)Lcom/example/regent/regent/AccessLevel;" } : Jvm.MethodName) prog_1_method_5_code (5 : Nat) (Option.some (Jvm.ClassFile.FieldType.object "com/example/regent/regent/AccessLevel"))) : Jvm.Cond).before a0 Z = true := hw _ (List.mem_of_getElem? (i := 35) rfl)
theorem pd__Ljava_lang_String__Lcom_example_regent_regent_AccessLevel__5555 : parseMethodDescriptor "(Ljava/lang/String;)Lcom/example/regent/regent/AccessLevel;" = some ⟨[(.object "java/lang/String")], some (.object "com/example/regent/regent/AccessLevel")⟩ := by decide +kernel
theorem wd34 {Z : State} {a0 : Array Value} (hw : ∀ d ∈ tables_1, d.before a0 Z = true) : ((Jvm.Cond.static ({ cls := "com/example/regent/regent/AccessLevel", name := "parseGrant", desc := "(Ljava/lang/String;)Lcom/example/regent/regent/AccessLevel;" } : Jvm.MethodName)) : Jvm.Cond).before a0 Z = true := hw _ (List.mem_of_getElem? (i := 34) rfl)
theorem wd73 {Z : State} {a0 : Array Value} (hw : ∀ d ∈ tables_1, d.before a0 Z = true) : ((Jvm.Cond.methodLink "com/example/regent/regent/AccessLevelParseGrantPinLaw" (25 : Nat) ({ cls := "com/example/regent/regent/AccessLevel", name := "externalName", desc := "()Ljava/lang/String;" } : Jvm.MethodName)) : Jvm.Cond).before a0 Z = true := hw _ (List.mem_of_getElem? (i := 73) rfl)
theorem wd77 {Z : State} {a0 : Array Value} (hw : ∀ d ∈ tables_1, d.before a0 Z = true) : ((Jvm.Cond.code ({ cls := "com/example/regent/regent/AccessLevel", name := "externalName", desc := "()Ljava/lang/String;" } : Jvm.MethodName) prog_1_method_4_code (1 : Nat) (Option.some (Jvm.ClassFile.FieldType.object "java/lang/String"))) : Jvm.Cond).before a0 Z = true := hw _ (List.mem_of_getElem? (i := 77) rfl)
theorem pd___Ljava_lang_String__1777 : parseMethodDescriptor "()Ljava/lang/String;" = some ⟨[], some (.object "java/lang/String")⟩ := by decide +kernel
theorem wd76 {Z : State} {a0 : Array Value} (hw : ∀ d ∈ tables_1, d.before a0 Z = true) : ((Jvm.Cond.selects "com/example/regent/regent/AccessLevel" ({ cls := "com/example/regent/regent/AccessLevel", name := "externalName", desc := "()Ljava/lang/String;" } : Jvm.MethodName) ({ cls := "com/example/regent/regent/AccessLevel", name := "externalName", desc := "()Ljava/lang/String;" } : Jvm.MethodName)) : Jvm.Cond).before a0 Z = true := hw _ (List.mem_of_getElem? (i := 76) rfl)
theorem wd74 {Z : State} {a0 : Array Value} (hw : ∀ d ∈ tables_1, d.before a0 Z = true) : ((Jvm.Cond.declares ({ cls := "com/example/regent/regent/AccessLevel", name := "externalName", desc := "()Ljava/lang/String;" } : Jvm.MethodName)) : Jvm.Cond).before a0 Z = true := hw _ (List.mem_of_getElem? (i := 74) rfl)
theorem wd75 {Z : State} {a0 : Array Value} (hw : ∀ d ∈ tables_1, d.before a0 Z = true) : ((Jvm.Cond.instanceMethod ({ cls := "com/example/regent/regent/AccessLevel", name := "externalName", desc := "()Ljava/lang/String;" } : Jvm.MethodName)) : Jvm.Cond).before a0 Z = true := hw _ (List.mem_of_getElem? (i := 75) rfl)
theorem wd78 {Z : State} {a0 : Array Value} (hw : ∀ d ∈ tables_1, d.before a0 Z = true) : ((Jvm.Cond.methodLink "com/example/regent/regent/AccessLevelParseGrantPinLaw" (29 : Nat) ({ cls := "java/lang/String", name := "equals", desc := "(Ljava/lang/Object;)Z" } : Jvm.MethodName)) : Jvm.Cond).before a0 Z = true := hw _ (List.mem_of_getElem? (i := 78) rfl)
theorem wd79 {Z : State} {a0 : Array Value} (hw : ∀ d ∈ tables_1, d.before a0 Z = true) : ((Jvm.Cond.fieldLink "com/example/regent/regent/AccessLevelParseGrantPinLaw" (7 : Nat) "com/example/regent/regent/AccessLevel" "READ_WRITE" "Lcom/example/regent/regent/AccessLevel;") : Jvm.Cond).before a0 Z = true := hw _ (List.mem_of_getElem? (i := 79) rfl)
theorem wd55 {Z : State} {a0 : Array Value} (hw : ∀ d ∈ tables_1, d.before a0 Z = true) : ((Jvm.Cond.laysStatic "com/example/regent/regent/AccessLevel" "NONE" "Lcom/example/regent/regent/AccessLevel;") : Jvm.Cond).before a0 Z = true := hw _ (List.mem_of_getElem? (i := 55) rfl)
theorem wd2 {Z : State} {a0 : Array Value} (hw : ∀ d ∈ tables_1, d.before a0 Z = true) : ((Jvm.Cond.laysStatic "com/example/regent/regent/AccessLevel" "READ" "Lcom/example/regent/regent/AccessLevel;") : Jvm.Cond).before a0 Z = true := hw _ (List.mem_of_getElem? (i := 2) rfl)
theorem wd56 {Z : State} {a0 : Array Value} (hw : ∀ d ∈ tables_1, d.before a0 Z = true) : ((Jvm.Cond.laysStatic "com/example/regent/regent/AccessLevel" "READ_WRITE" "Lcom/example/regent/regent/AccessLevel;") : Jvm.Cond).before a0 Z = true := hw _ (List.mem_of_getElem? (i := 56) rfl)
theorem wd57 {Z : State} {a0 : Array Value} (hw : ∀ d ∈ tables_1, d.before a0 Z = true) : ((Jvm.Cond.initializedFor "com/example/regent/regent/AccessLevel" "$VALUES" "[Lcom/example/regent/regent/AccessLevel;") : Jvm.Cond).before a0 Z = true := hw _ (List.mem_of_getElem? (i := 57) rfl)
abbrev own_EL : List (String × Nat) := []
theorem own_EW {Z : State} {a0 : Array Value} (hw : ∀ d ∈ tables_1, d.before a0 Z = true) : EW Z a0 own_EL := EW.nil
theorem own_wS {Z : State} {a0 : Array Value} (hw : ∀ d ∈ tables_1, d.before a0 Z = true) : ∀ a ∈ Bundle.stringAtoms, a.before a0 Z = true := fun d hd => hw d ((by decide +kernel : ∀ d ∈ Bundle.stringAtoms, d ∈ tables_1) d hd)
theorem own_safeNull {Z : State} {EL : List (String × Nat)} {vm : Vm} {h : Heap} {a : Addr} (hal : Z.vm.Alike vm) (E : Exa Z h a "java/lang/String") (F : Fld Z h a "java/lang/String" "value" "[B" .null) : Safe Z EL vm h a := fun B => by
  obtain ⟨p, -, u, a', -, q, -, G, rfl | rfl⟩ := B
  · obtain ⟨cell, cf, k, i, f, h1, h2, -, -, -, -, h7⟩ := F
    cases (show h[q.sa]? = some q.sC from G.ha).symm.trans h1
    obtain ⟨cS, ⟨⟨-, -, -, ⟨c1, k1, i1, g1, -⟩, -, -, -, g2, -⟩, -⟩, -⟩ := G
    obtain ⟨k', g3⟩ := ff_back (U := Wst Z vm h) hal g1
    cases g3.symm.trans h2
    rw [g2] at h7
    cases h7
  · obtain ⟨cell, k, e1, e2, -⟩ := E
    cases (show h[q.sd]? = some q.SA from G.hd).symm.trans e1
    obtain ⟨cS, -, -, f, -⟩ := G
    have f' : Z.vm.findClass "[B" = some q.SA.cls := by rw [← hal.findClass]; exact f
    exact ids_ne e2 f' (by decide) rfl
section OwnW
variable {p : Program} {l : Launch} {e : Env} {R : Room} {s : State} {m : MethodId} {args : Array Value} {below : List Frame} {meth : Method} {c : Code} {T : State} {locs : List Loc} {cells slots : Nat} {Z : State} {a0 : Array Value} {h : Heap} {vm0 : Vm} {EL : List (String × Nat)}
theorem own_retW {S : State} {Q : Option Value → Vm → Heap → List Loc → Prop} {C N k0 : Nat} (X : Stand p l e R (s.setVm vm0) m args below meth c T locs cells slots) (hS : s.Since vm0 k0) (hk : k0 ≤ T.heap.size) {v : Option Value} (hv : meth.sig.returnType = none → v = none) (hlocks : meth.locks = false) (hq : Q v T.vm T.heap locs) (hR : CHr Z EL s.vm s.heap T.vm T.heap) (hc : cells ≤ C) (hs : slots ≤ N)
    (k : ∀ fs, (∀ (f : JFrame) (acts : List Action), f.method = m → f.locked = none → f.entered = [] → (doReturn e (T.setTop f) acts v).1 = T.setFrames fs) → Steps p.tables e below S (T.setFrames fs)) :
    own_Done p e below (fun o U' => ∃ v L, o = .returned v ∧ Q v U'.vm U'.heap L ∧ CHr Z EL s.vm s.heap U'.vm U'.heap ∧ ReturnedEndW s o U' L C N) S := by
  obtain ⟨fs, hr, hrun, hended, h1, h2, h3, h4⟩ := X.leaveW hS hk hv hlocks
  exact ⟨_, _, k fs hr, hrun, hended, v, locs, rfl, hq, hR, h1, h2, h3, h4.mono hc hs⟩
theorem own_backW {y : MethodName} {bytes : ByteArray} {maxL : Nat} {ret : Option FieldType} {rm : Room} {len W : Nat} {as' : Array Value} {SL : List Addr} {Q : Option Value → Vm → Heap → List Loc → Prop}
    (hM : MetFree l y (head1 [Cond.code y bytes maxL ret] rm) (fun a U => a = as' ∧ Z.Warmed39 U.vm ∧ U.heap = h ∧ CHv Z EL U.vm h ∧ ∀ x ∈ SL, Safe Z EL U.vm h x) (fun _ _ _ _ _ => True) (fun _ U o U' => ∃ v L, o = .returned v ∧ Q v U'.vm U'.heap L ∧ CHr Z EL U.vm U.heap U'.vm U'.heap ∧ ReturnedEndW U o U' L rm.cells rm.slots))
    (hZ : Z.Warmed39 vm0) (wc : (Cond.code y bytes maxL ret).before a0 Z = true) (wz : (Cond.initialized y.cls).before a0 Z = true) (hf : rm.frames + 1 ≤ R.frames) (hl : W + (maxL + 11) + rm.locals ≤ R.locals) (hEL : EW Z a0 EL) (H : CHv Z EL vm0 h) (hSL : ∀ x ∈ SL, x < h.size ∧ Safe Z EL vm0 h x) :
    BackS l R p e below (s.setVm vm0) args y len W (fun A a => a = as' ∧ A.U.heap = h ∧ A.cells + rm.cells ≤ R.cells ∧ A.slots + rm.slots ≤ R.slots)
      (fun A _ v B => ∃ L, (Q v B.U.vm B.U.heap L ∧ CHr Z EL vm0 h B.U.vm B.U.heap) ∧ B.locs = A.locs ++ L ∧ B.cells = A.cells + rm.cells ∧ B.slots = A.slots + rm.slots) :=
  BackS.of_freeW (bytes := bytes) (maxL := maxL) (ret := ret) (E := fun _ first o t L k n => k = rm.cells ∧ n = rm.slots ∧ (∃ v, o = .returned v ∧ Q v t.vm t.heap L) ∧ CHr Z EL first.vm first.heap t.vm t.heap) hM hf hl
    (fun m meth c A a Y hp => have hU : Z.Warmed39 A.U.vm := wtrans (s := s.setVm vm0) hZ Y.warmed
      ⟨by show (Cond.and _ .tt).before a A.U = true; rw [Cond.before_and, mv hU wc]; rfl, mv hU wc, mv hU wz, hp.2.2.1, hp.2.2.2⟩)
    (fun m meth c A a g mk Y hp => have A1 := CHv.at Y hZ hEL H
      ⟨hp.1, wtrans (s := s.setVm vm0) hZ Y.warmed, hp.2.1, A1.1, fun x hx => A1.safe (hSL x hx).1 (hSL x hx).2⟩)
    (fun _ _ _ _ _ _ _ _ _ => trivial)
    (fun _ _ _ _ ⟨v, L, h1, h2, h3, h4⟩ => ⟨L, _, _, h4, rfl, rfl, ⟨v, h1, h2⟩, h3⟩)
    (fun m meth c A a g mk v t L k n Y hp _ _ q => by
      obtain ⟨e1, e2, ⟨v', e3, e4⟩, e5⟩ := q
      cases e3
      subst e1 e2
      have e6 : CHr Z EL A.U.vm h t.vm t.heap := by rw [← hp.2.1]; exact e5
      exact ⟨L, ⟨e4, (CHv.at Y hZ hEL H).trans e6⟩, rfl, rfl, rfl⟩)
end OwnW
theorem own_and255 (y : Int32) : ¬ (y &&& (255 : Int32)).toUInt32.toUInt16.toUInt32.toInt32 < 0 ∧ ¬ (255 : Int32) < (y &&& (255 : Int32)).toUInt32.toUInt16.toUInt32.toInt32 := by
  have t : ∀ k : Fin 256, ¬ (Int32.ofNat k.val).toUInt32.toUInt16.toUInt32.toInt32 < 0 ∧ ¬ (255 : Int32) < (Int32.ofNat k.val).toUInt32.toUInt16.toUInt32.toInt32 := by decide +kernel
  have h : (y &&& 255).toBitVec.toNat < 256 := by
    simp only [Int32.toBitVec_and, BitVec.toNat_and]
    exact Nat.lt_succ_of_le Nat.and_le_right
  have e : y &&& 255 = Int32.ofNat (y &&& 255).toBitVec.toNat := by
    apply Int32.toBitVec_inj.mp
    apply BitVec.eq_of_toNat_eq
    simp only [Int32.toBitVec_ofNat', BitVec.toNat_ofNat]
    omega
  rw [e]
  exact t ⟨_, h⟩
theorem own_cases256 {c : Int32} (h : ¬ c < 0 ∧ ¬ (255 : Int32) < c) : ∃ k : Fin 256, c = Int32.ofNat k.val := by
  have h1 : 0 ≤ c.toInt := by have := h.1; rw [Int32.lt_iff_toInt_lt] at this; simpa using this
  have h2 : c.toInt ≤ 255 := by have := h.2; rw [Int32.lt_iff_toInt_lt] at this; have e : (255 : Int32).toInt = 255 := rfl; omega
  refine ⟨⟨c.toInt.toNat, by omega⟩, ?_⟩
  apply Int32.toInt_inj.mp
  rw [Int32.toInt_ofNat_small (by show c.toInt.toNat < 2 ^ 31; omega)]
  show c.toInt = (c.toInt.toNat : Int)
  omega
theorem own_narc {c : Int32} (h : ¬ c < 0 ∧ ¬ (255 : Int32) < c) : nar .char c = c := by
  obtain ⟨k, rfl⟩ := own_cases256 h
  have t : ∀ k : Fin 256, nar .char (Int32.ofNat k.val) = Int32.ofNat k.val := by decide +kernel
  exact t k
theorem own_fitc {c : Int32} (h : ¬ c < 0 ∧ ¬ (255 : Int32) < c) : fits .char (.int c) = true := by
  have q := fits_nar_char c
  rw [own_narc h] at q
  exact q
theorem own_up (cs : List Int32) (h : ∀ c ∈ cs, ¬ c < 0 ∧ ¬ (255 : Int32) < c) : ∀ c ∈ cs, ¬ c < 0 ∧ ¬ (65535 : Int32) < c := fun c hc => ⟨(h c hc).1, fun q => (h c hc).2 (by rw [Int32.lt_iff_toInt_lt] at q ⊢; have e1 : (65535 : Int32).toInt = 65535 := rfl; have e2 : (255 : Int32).toInt = 255 := rfl; omega)⟩
theorem own_ord {args : Array Value} {s : State} {u : Term} {w : Addr} {C n d : String} {k : Int32} (ev : u.eval args s none [] s = some (.ref w)) (h : (Cond.eq (Term.field u C n d) (Term.int k)).value args s none s [] = some true) : s.fieldOf? w C n d = some (.int k) := by
  simp only [Cond.value, fld_at ev, Term.int_eval] at h
  rcases hv : s.fieldOf? w C n d with _ | v
  · rw [hv] at h; simp at h
  · rw [hv] at h
    cases v <;> simp at h
    subst h
    rfl
theorem own_eqv_r {Z : State} {args : Array Value} {X F : Term} {y : Addr} (hF : F.eval args Z none [] Z = some (.ref y)) (h : (Cond.eq X F).value args Z none Z [] = some true) : X.eval args Z none [] Z = some (.ref y) := by
  obtain ⟨u, v, e1, e2, k1, k2⟩ := cmp_v (Or.inl h)
  cases hF.symm.trans e2
  have hu : u.isRef = true := by cases u <;> simp [Kin, Value.isRef] at k1 k2 ⊢
  have q := gotT (eq_R e1 hF hu rfl) h
  rw [e1, q]
theorem own_arr0 {Z : State} {args : Array Value} {u : Term} {a : Addr} {ty : FieldType} {z : Int32} (ev : u.eval args Z none [] Z = some (.ref a)) (hA : (Cond.arrayOf u ty).value args Z none Z [] = some true) (hl : (Cond.eq (Term.length u) (Term.int z)).value args Z none Z [] = some true) : ∃ cl : Cell, Arr Z Z.heap a cl ty ∧ cl.slots.size < 2 ^ 31 ∧ cl.slots.size.toInt32 = z := by
  obtain ⟨cl, A⟩ := Arr.start ev hA
  have q := eqv_i (Term.int_eval z) hl
  obtain ⟨x, c', e1, e2, -⟩ := Term.length_spec q
  cases ev.symm.trans e1
  cases e2.symm.trans (A.fin (Vm.Alike.refl _))
  have h31 := SBG.length_lt ev e2 q
  refine ⟨cl, A, h31, ?_⟩
  have e : (Term.length u).eval args Z none [] Z = some (.int cl.slots.size.toInt32) := len_f ev e2 h31
  exact Value.int.inj (Option.some.inj (e.symm.trans q))
def Q_own_rnn (Z : State) (a : Addr) (ms : Addr) (h0 : Heap) (n0 : Nat) (v : Option Value) (h : Heap) (L : List Loc) : Prop := v = some (.ref a) ∧ L = [] ∧ h = h0
set_option maxRecDepth 65536 in
set_option maxHeartbeats 40000000 in
theorem own_rnn (l : Launch) (Z : State) (a0 : Array Value) (hw : ∀ d ∈ tables_1, d.before a0 Z = true) (ws : List Jvm.Cond) (a : Addr) (ms : Addr) (h0 : Heap) (n0 : Nat) (O0 : Old Z n0 h0) :
    MetFree l mt0 (head1 (Jvm.Cond.code mt0 jdk_31_method_11_code 2 (some (.object "java/lang/Object")) :: ws) ({ frames := 0, cells := 0, slots := 0, locals := 0 } : Room)) (fun aq U => aq = #[(.ref a), (.ref ms)] ∧ Z.Warmed39 U.vm ∧ U.heap = h0) (fun _ _ _ _ _ => True) (fun _ U o U' => ∃ v L, o = .returned v ∧ Q_own_rnn Z a ms h0 n0 v U'.heap L ∧ FrameEnd U o U' L ({ frames := 0, cells := 0, slots := 0, locals := 0 } : Room).cells ({ frames := 0, cells := 0, slots := 0, locals := 0 } : Room).slots) := by
  refine MetFree.of_bodySF (plainFor_of_name pn_java_util_Objects) hisR ?_
  intro p e s m args below meth c s₁ Bd hml0 hP hK
  obtain ⟨rfl, hZ, hh⟩ := hP
  have hx := Bd.exec
  have hby := Bd.bytes
  have hml : c.maxLocals = 2 := hml0
  have hown : s.vm.findClass "java/util/Objects" = some m.cls := findClass_of_methodNamed Bd.named
  have hnm := (name_of_methodNamed Bd.named Bd.method).1
  have X0 : Stand p l e ({ frames := 0, cells := 0, slots := 0, locals := 0 } : Room) s m #[(.ref a), (.ref ms)] below meth c s₁ [] 0 0 := Stand.of_body Bd
  have e0 : s₁.heap = h0 := by rw [← hh, Bd.state]; rfl
  have N0 := Fr.nil n0
  have zO := O0.1
  have zO2 := O0.2.1
  refine own_open (own_via (S' := s₁.setTop (mkF m 0 #[.val (.ref a), .val (.ref ms)] [])) (fun t k => castTop (ef_own_rnn m a ms) k) ?_)
  refine own_via (S' := s₁.setTop (mkF m 1 #[.val (.ref a), .val (.ref ms)] [(.ref a)])) (fun t k => XS.aloadN X0.here hx rfl (hb hby d8_0) rfl rfl k) ?_
  refine own_via (S' := s₁.setTop (mkF m 13 #[.val (.ref a), .val (.ref ms)] [])) (fun t k => XS.ifnonnullYes X0.here hx rfl (pc0 := 1) (pc' := 13) rfl (hb hby d8_1) rfl (by decide) (by decide) k) ?_
  refine own_via (S' := s₁.setTop (mkF m 14 #[.val (.ref a), .val (.ref ms)] [(.ref a)])) (fun t k => XS.aloadN X0.here hx rfl (hb hby d8_13) rfl rfl k) ?_
  refine own_ret (Q := Q_own_rnn Z a ms h0 n0) (C := ({ frames := 0, cells := 0, slots := 0, locals := 0 } : Room).cells) (N := ({ frames := 0, cells := 0, slots := 0, locals := 0 } : Room).slots) X0 (v := some (.ref a)) (fun h => by rw [Bd.returns] at h; cases h) Bd.notSynchronized ?_ (by decide) (by decide) (fun fs hr => retOut X0 hx Bd.returns rfl (Or.inr (Or.inr (Or.inr (Or.inr ⟨rfl, rfl, rfl⟩)))) (hb hby d8_14) hr)
  show Q_own_rnn Z a ms h0 n0 _ s₁.heap _
  rw [e0]
  exact ⟨rfl, rfl, rfl⟩
def Q_own_values (Z : State) (wV : Addr) (kV : ClassId) (wN : Addr) (wR : Addr) (wW : Addr) (h0 : Heap) (n0 : Nat) (v : Option Value) (h : Heap) (L : List Loc) : Prop := ∃ b : Addr, v = some (.ref b) ∧ Fr n0 L ∧ Keep h0 h [] ∧ Arv Z h b kV (.object "com/example/regent/regent/AccessLevel") (3 : Int32) [(.ref wN), (.ref wR), (.ref wW)] .null
set_option maxRecDepth 65536 in
set_option maxHeartbeats 40000000 in
theorem own_values (l : Launch) (Z : State) (a0 : Array Value) (hw : ∀ d ∈ tables_1, d.before a0 Z = true) (ws : List Jvm.Cond) (wV : Addr) (kV : ClassId) (wN : Addr) (wR : Addr) (wW : Addr) (h0 : Heap) (n0 : Nat) (O0 : Old Z n0 h0) (zf_S_com_example_regent_regent_AccessLevel__VALUES : Sta Z Z.heap "com/example/regent/regent/AccessLevel" "$VALUES" "[Lcom/example/regent/regent/AccessLevel;" (.ref wV)) (zf_E_wV : Exa Z Z.heap wV "[Lcom/example/regent/regent/AccessLevel;") (zf_A_wV : Arv Z Z.heap wV kV (.object "com/example/regent/regent/AccessLevel") (3 : Int32) [(.ref wN), (.ref wR), (.ref wW)] .null) :
    MetFree l mt1 (head1 (Jvm.Cond.code mt1 prog_1_method_1_code 0 (some (.array (.object "com/example/regent/regent/AccessLevel"))) :: ws) ({ frames := 1, cells := 1, slots := 3, locals := 14 } : Room)) (fun aq U => aq = #[] ∧ Z.Warmed39 U.vm ∧ U.heap = h0) (fun _ _ _ _ _ => True) (fun _ U o U' => ∃ v L, o = .returned v ∧ Q_own_values Z wV kV wN wR wW h0 n0 v U'.heap L ∧ FrameEnd U o U' L ({ frames := 1, cells := 1, slots := 3, locals := 14 } : Room).cells ({ frames := 1, cells := 1, slots := 3, locals := 14 } : Room).slots) := by
  refine MetFree.of_bodySF (plainFor_of_name pn_com_example_regent_regent_AccessLevel) hisR ?_
  intro p e s m args below meth c s₁ Bd hml0 hP hK
  obtain ⟨rfl, hZ, hh⟩ := hP
  have hx := Bd.exec
  have hby := Bd.bytes
  have hml : c.maxLocals = 0 := hml0
  have hown : s.vm.findClass "com/example/regent/regent/AccessLevel" = some m.cls := findClass_of_methodNamed Bd.named
  have hnm := (name_of_methodNamed Bd.named Bd.method).1
  have X0 : Stand p l e ({ frames := 1, cells := 1, slots := 3, locals := 14 } : Room) s m #[] below meth c s₁ [] 0 0 := Stand.of_body Bd
  have e0 : s₁.heap = h0 := by rw [← hh, Bd.state]; rfl
  have N0 := Fr.nil n0
  have zO := O0.1
  have zO2 := O0.2.1
  have zl_E_wV : Z.heap.size > wV := zf_E_wV.lt
  refine own_open (own_via (S' := s₁.setTop (mkF m 0 #[] [])) (fun t k => castTop (ef_own_values m ) k) ?_)
  have K0 : Keep h0 h0 [] := Keep.refl _ _
  have cx1 : Sta Z h0 "com/example/regent/regent/AccessLevel" "$VALUES" "[Lcom/example/regent/regent/AccessLevel;" (.ref wV) := zf_S_com_example_regent_regent_AccessLevel__VALUES.ext O0.2
  obtain ⟨T2, X2, e2, st2⟩ := getS2 X0 hx hZ hown (host := "") (Or.inl (wd46 hw)) Via.refl e0 cx1 (g := (mkF m 0 #[] [])) rfl (hb hby d9_0)
  refine own_via (S' := T2.setTop (mkF m 3 #[] [(.ref wV)])) st2 ?_
  have cx4 : Arv Z h0 wV kV (.object "com/example/regent/regent/AccessLevel") (3 : Int32) [(.ref wN), (.ref wR), (.ref wW)] .null := zf_A_wV.ext O0.2
  have cx5 : Exa Z h0 wV "[Lcom/example/regent/regent/AccessLevel;" := zf_E_wV.ext O0.2
  obtain ⟨T3, h3, X3, e3, E3, V3, A3, st3⟩ := cloneH X2 hx hZ hown (wd48 hw) (wd49 hw) (wd53 hw) (wd51 hw) (wd52 hw) (wd54 hw) e2 (Arv.arh cx4) cx5 (g := (mkF m 3 #[] [(.ref wV)])) rfl (by rw [hml]; rfl) rfl (hb hby d9_3) (by decide) (W := 0) (cap := 3) (by show 2 * 0 + _ ≤ _; exact Nat.le_of_eq rfl) (by decide) (by decide) (by decide) (by decide)
  obtain ⟨b3, g3⟩ : ∃ z, z = h0.size := ⟨_, rfl⟩
  rw [← g3] at A3 V3 st3
  have lt_b3 : h3.size > b3 := A3.lt
  have sz6 : h0.size ≤ h3.size := E3.1
  have O7 : Old Z n0 h3 := O0.ext E3
  have K8 : Keep h0 h3 [] := K0.ext E3
  have Vk3 : Arv Z h3 b3 kV (.object "com/example/regent/regent/AccessLevel") (3 : Int32) [(.ref wN), (.ref wR), (.ref wW)] .null := V3
  refine own_via (S' := T3.setTop (mkF m 6 #[] [(.ref b3)])) st3 ?_
  obtain ⟨T9, X9, e9, st9⟩ := castY X3 hx hZ hown (wd58 hw) e3 (Ins.self A3) (g := (mkF m 6 #[] [(.ref b3)])) rfl rfl (hb hby d9_6)
  refine own_via (S' := T9.setTop (mkF m 9 #[] [(.ref b3)])) st9 ?_
  refine own_ret (Q := Q_own_values Z wV kV wN wR wW h0 n0) (C := ({ frames := 1, cells := 1, slots := 3, locals := 14 } : Room).cells) (N := ({ frames := 1, cells := 1, slots := 3, locals := 14 } : Room).slots) X9 (v := some (.ref b3)) (fun h => by rw [Bd.returns] at h; cases h) Bd.notSynchronized ?_ (by decide) (by decide) (fun fs hr => retOut X9 hx Bd.returns rfl (Or.inr (Or.inr (Or.inr (Or.inr ⟨rfl, rfl, rfl⟩)))) (hb hby d9_9) hr)
  show Q_own_values Z wV kV wN wR wW h0 n0 _ T9.heap _
  rw [e9]
  exact ⟨b3, rfl, N0, K8, Vk3⟩
def Q_own_ext (Z : State) (a : Addr) (xa : Addr) (h0 : Heap) (n0 : Nat) (v : Option Value) (h : Heap) (L : List Loc) : Prop := v = some (.ref xa) ∧ L = [] ∧ h = h0
set_option maxRecDepth 65536 in
set_option maxHeartbeats 40000000 in
theorem own_ext (l : Launch) (Z : State) (a0 : Array Value) (hw : ∀ d ∈ tables_1, d.before a0 Z = true) (ws : List Jvm.Cond) (a : Addr) (xa : Addr) (h0 : Heap) (n0 : Nat) (O0 : Old Z n0 h0) (f0_F_a_externalName : Fld Z h0 a "com/example/regent/regent/AccessLevel" "externalName" "Ljava/lang/String;" (.ref xa)) :
    MetFree l mt2 (head1 (Jvm.Cond.code mt2 prog_1_method_4_code 1 (some (.object "java/lang/String")) :: ws) ({ frames := 0, cells := 0, slots := 0, locals := 0 } : Room)) (fun aq U => aq = #[(.ref a)] ∧ Z.Warmed39 U.vm ∧ U.heap = h0) (fun _ _ _ _ _ => True) (fun _ U o U' => ∃ v L, o = .returned v ∧ Q_own_ext Z a xa h0 n0 v U'.heap L ∧ FrameEnd U o U' L ({ frames := 0, cells := 0, slots := 0, locals := 0 } : Room).cells ({ frames := 0, cells := 0, slots := 0, locals := 0 } : Room).slots) := by
  refine MetFree.of_bodySF (plainFor_of_name pn_com_example_regent_regent_AccessLevel) hisR ?_
  intro p e s m args below meth c s₁ Bd hml0 hP hK
  obtain ⟨rfl, hZ, hh⟩ := hP
  have hx := Bd.exec
  have hby := Bd.bytes
  have hml : c.maxLocals = 1 := hml0
  have hown : s.vm.findClass "com/example/regent/regent/AccessLevel" = some m.cls := findClass_of_methodNamed Bd.named
  have hnm := (name_of_methodNamed Bd.named Bd.method).1
  have X0 : Stand p l e ({ frames := 0, cells := 0, slots := 0, locals := 0 } : Room) s m #[(.ref a)] below meth c s₁ [] 0 0 := Stand.of_body Bd
  have e0 : s₁.heap = h0 := by rw [← hh, Bd.state]; rfl
  have N0 := Fr.nil n0
  have zO := O0.1
  have zO2 := O0.2.1
  have fl_F_a_externalName : h0.size > a := f0_F_a_externalName.lt
  refine own_open (own_via (S' := s₁.setTop (mkF m 0 #[.val (.ref a)] [])) (fun t k => castTop (ef_own_ext m a) k) ?_)
  refine own_via (S' := s₁.setTop (mkF m 1 #[.val (.ref a)] [(.ref a)])) (fun t k => XS.aloadN X0.here hx rfl (hb hby d12_0) rfl rfl k) ?_
  obtain ⟨T1, X1, e1, st1⟩ := getF X0 hx hZ hown (host := "") (Or.inl (wd61 hw)) Via.refl e0 f0_F_a_externalName (g := (mkF m 1 #[.val (.ref a)] [(.ref a)])) rfl rfl (hb hby d12_1)
  refine own_via (S' := T1.setTop (mkF m 4 #[.val (.ref a)] [(.ref xa)])) st1 ?_
  refine own_ret (Q := Q_own_ext Z a xa h0 n0) (C := ({ frames := 0, cells := 0, slots := 0, locals := 0 } : Room).cells) (N := ({ frames := 0, cells := 0, slots := 0, locals := 0 } : Room).slots) X1 (v := some (.ref xa)) (fun h => by rw [Bd.returns] at h; cases h) Bd.notSynchronized ?_ (by decide) (by decide) (fun fs hr => retOut X1 hx Bd.returns rfl (Or.inr (Or.inr (Or.inr (Or.inr ⟨rfl, rfl, rfl⟩)))) (hb hby d12_4) hr)
  show Q_own_ext Z a xa h0 n0 _ T1.heap _
  rw [e1]
  exact ⟨rfl, rfl, rfl⟩
def Q_own_pgR (Z : State) (nm : Addr) (tn : Addr) (kn : ClassId) (zc : Int32) (wV : Addr) (kV : ClassId) (wN : Addr) (wR : Addr) (wW : Addr) (xR : Addr) (tR : Addr) (kR : ClassId) (xW : Addr) (tW : Addr) (kW : ClassId) (h0 : Heap) (n0 : Nat) (v : Option Value) (vm : Vm) (h : Heap) (L : List Loc) : Prop := v = some (.ref wR) ∧ Fr n0 L ∧ Keep h0 h []
set_option maxRecDepth 65536 in
set_option maxHeartbeats 40000000 in
theorem own_pgR (l : Launch) (Z : State) (a0 : Array Value) (hw : ∀ d ∈ tables_1, d.before a0 Z = true) (ws : List Jvm.Cond) (nm : Addr) (tn : Addr) (kn : ClassId) (zc : Int32) (wV : Addr) (kV : ClassId) (wN : Addr) (wR : Addr) (wW : Addr) (xR : Addr) (tR : Addr) (kR : ClassId) (xW : Addr) (tW : Addr) (kW : ClassId) (h0 : Heap) (n0 : Nat) (O0 : Old Z n0 h0) (zf_S_java_lang_String_COMPACT_STRINGS : Sta Z Z.heap "java/lang/String" "COMPACT_STRINGS" "Z" (.int zc)) (zf_S_com_example_regent_regent_AccessLevel__VALUES : Sta Z Z.heap "com/example/regent/regent/AccessLevel" "$VALUES" "[Lcom/example/regent/regent/AccessLevel;" (.ref wV)) (zf_E_wV : Exa Z Z.heap wV "[Lcom/example/regent/regent/AccessLevel;") (zf_A_wV : Arv Z Z.heap wV kV (.object "com/example/regent/regent/AccessLevel") (3 : Int32) [(.ref wN), (.ref wR), (.ref wW)] .null) (zf_S_com_example_regent_regent_AccessLevel_NONE : Sta Z Z.heap "com/example/regent/regent/AccessLevel" "NONE" "Lcom/example/regent/regent/AccessLevel;" (.ref wN)) (zf_F_wR_externalName : Fld Z Z.heap wR "com/example/regent/regent/AccessLevel" "externalName" "Ljava/lang/String;" (.ref xR)) (zf_E_xR : Exa Z Z.heap xR "java/lang/String") (zf_F_xR_coder : Fld Z Z.heap xR "java/lang/String" "coder" "B" (.int (0 : Int32))) (zf_F_xR_value : Fld Z Z.heap xR "java/lang/String" "value" "[B" (.ref tR)) (zf_A_tR : Arv Z Z.heap tR kR .byte (4 : Int32) [(.int (114 : Int32)), (.int (101 : Int32)), (.int (97 : Int32)), (.int (100 : Int32))] (.int (0 : Int32))) (zf_F_wW_externalName : Fld Z Z.heap wW "com/example/regent/regent/AccessLevel" "externalName" "Ljava/lang/String;" (.ref xW)) (zf_E_xW : Exa Z Z.heap xW "java/lang/String") (zf_F_xW_coder : Fld Z Z.heap xW "java/lang/String" "coder" "B" (.int (0 : Int32))) (zf_F_xW_value : Fld Z Z.heap xW "java/lang/String" "value" "[B" (.ref tW)) (zf_A_tW : Arv Z Z.heap tW kW .byte (10 : Int32) [(.int (114 : Int32)), (.int (101 : Int32)), (.int (97 : Int32)), (.int (100 : Int32)), (.int (95 : Int32)), (.int (119 : Int32)), (.int (114 : Int32)), (.int (105 : Int32)), (.int (116 : Int32)), (.int (101 : Int32))] (.int (0 : Int32))) (f0_E_nm : Exa Z h0 nm "java/lang/String") (f0_F_nm_coder : Fld Z h0 nm "java/lang/String" "coder" "B" (.int (0 : Int32))) (f0_F_nm_value : Fld Z h0 nm "java/lang/String" "value" "[B" (.ref tn)) (f0_A_tn : Arv Z h0 tn kn .byte (4 : Int32) [(.int ((114 : Int32).toInt8.toInt32)), (.int ((101 : Int32).toInt8.toInt32)), (.int ((97 : Int32).toInt8.toInt32)), (.int ((100 : Int32).toInt8.toInt32))] (.int (0 : Int32))) (hzc : ¬ (zc = (0 : Int32))) (hRN : ¬ (wR = wN)) (hWN : ¬ (wW = wN)) :
    MetFree l mt3 (head1 (Jvm.Cond.code mt3 prog_1_method_5_code 5 (some (.object "com/example/regent/regent/AccessLevel")) :: ws) ({ frames := 2, cells := 3, slots := 23, locals := 28 } : Room)) (fun aq U => aq = #[(.ref nm)] ∧ Z.Warmed39 U.vm ∧ U.heap = h0 ∧ CHv Z own_EL U.vm h0 ∧ ∀ x ∈ ([] : List Addr), Safe Z own_EL U.vm h0 x) (fun _ _ _ _ _ => True) (fun _ U o U' => ∃ v L, o = .returned v ∧ Q_own_pgR Z nm tn kn zc wV kV wN wR wW xR tR kR xW tW kW h0 n0 v U'.vm U'.heap L ∧ CHr Z own_EL U.vm U.heap U'.vm U'.heap ∧ ReturnedEndW U o U' L ({ frames := 2, cells := 3, slots := 23, locals := 28 } : Room).cells ({ frames := 2, cells := 3, slots := 23, locals := 28 } : Room).slots) := by
  refine MetFree.of_bodySF (plainFor_of_name pn_com_example_regent_regent_AccessLevel) hisR ?_
  intro p e s m args below meth c s₁ Bd hml0 hP hK
  obtain ⟨rfl, hZ, hh, hCH, hSL⟩ := hP
  have hx := Bd.exec
  have hby := Bd.bytes
  have hml : c.maxLocals = 5 := hml0
  have hown : s.vm.findClass "com/example/regent/regent/AccessLevel" = some m.cls := findClass_of_methodNamed Bd.named
  have hnm := (name_of_methodNamed Bd.named Bd.method).1
  have X0 : Stand p l e ({ frames := 2, cells := 3, slots := 23, locals := 28 } : Room) (s.setVm s.vm) m #[(.ref nm)] below meth c s₁ [] 0 0 := Stand.of_body Bd
  have e0 : s₁.heap = h0 := by rw [← hh, Bd.state]; rfl
  have N0 := Fr.nil n0
  have zO := O0.1
  have zO2 := O0.2.1
  have zl_E_wV : Z.heap.size > wV := zf_E_wV.lt
  have zl_F_wR_externalName : Z.heap.size > wR := zf_F_wR_externalName.lt
  have zl_E_xR : Z.heap.size > xR := zf_E_xR.lt
  have zl_F_xR_coder : Z.heap.size > xR := zf_F_xR_coder.lt
  have zl_F_xR_value : Z.heap.size > xR := zf_F_xR_value.lt
  have zl_F_wW_externalName : Z.heap.size > wW := zf_F_wW_externalName.lt
  have zl_E_xW : Z.heap.size > xW := zf_E_xW.lt
  have zl_F_xW_coder : Z.heap.size > xW := zf_F_xW_coder.lt
  have zl_F_xW_value : Z.heap.size > xW := zf_F_xW_value.lt
  have fl_E_nm : h0.size > nm := f0_E_nm.lt
  have fl_F_nm_coder : h0.size > nm := f0_F_nm_coder.lt
  have fl_F_nm_value : h0.size > nm := f0_F_nm_value.lt
  have fl_A_tn : h0.size > tn := f0_A_tn.lt
  refine own_open (own_via (S' := s₁.setTop (mkF m 0 #[.val (.ref nm), .unset, .unset, .unset, .unset] [])) (fun t k => castTop (ef_own_pgR m nm) k) ?_)
  have hEL := own_EW hw
  have hS0 : s.Since s.vm h0.size := (State.WarmedH.refl s).since _
  have R0 : CHr Z own_EL s.vm h0 s.vm h0 := CHr.refl hCH
  have K0 : Keep h0 h0 [] := Keep.refl _ _
  have ne_nm_tn : nm ≠ tn := Exa.neArv f0_E_nm f0_A_tn (wd4 hw)
  have hpR : ∀ c ∈ ([(114 : Int32), (101 : Int32), (97 : Int32), (100 : Int32)] : List Int32), ¬ c < 0 ∧ ¬ (255 : Int32) < c := by decide
  have hpW : ∀ c ∈ ([(114 : Int32), (101 : Int32), (97 : Int32), (100 : Int32), (95 : Int32), (119 : Int32), (114 : Int32), (105 : Int32), (116 : Int32), (101 : Int32)] : List Int32), ¬ c < 0 ∧ ¬ (255 : Int32) < c := by decide
  refine own_via (S' := s₁.setTop (mkF m 1 #[.val (.ref nm), .unset, .unset, .unset, .unset] [(.ref nm)])) (fun t k => XS.aloadN X0.here hx rfl (hb hby d7_0) rfl rfl k) ?_
  obtain ⟨b1, T1, h1, kk1, X1, e1, E1, hS1, hk1, hZ, hown, R1q, hLit1, st1⟩ := ldcOH X0 hx hZ hown (wd36 hw) (own_wS hw) e0 hS0 (by omega) hEL R0.1 (g := (mkF m 1 #[.val (.ref nm), .unset, .unset, .unset, .unset] [(.ref nm)])) rfl (hb hby d7_1) (n := 16) (by decide) (by decide) (by decide) (by decide)
  have sz2 : h0.size ≤ h1.size := E1.1
  have O3 : Old Z n0 h1 := O0.ext E1
  have R4 : CHr Z own_EL s.vm h0 T1.vm h1 := R0.trans R1q
  have K5 : Keep h0 h1 [] := K0.ext E1
  refine own_via (S' := T1.setTop (mkF m 3 #[.val (.ref nm), .unset, .unset, .unset, .unset] [(.ref b1), (.ref nm)])) st1 ?_
  obtain ⟨_, _, ⟨T6, Lp6, kp6, np6⟩, -, X6, ⟨Lc6, hQ6, l6, y6, z6⟩, st6⟩ := Jvm.LawKit.callS X1 hx (y := mt0) hown (mvT hZ (wd39 hw)) (mvT hZ (wd40 hw)) (mvT hZ (wd41 hw)) (mvT hZ (wd42 hw)) (by decide) (backOf (W := 0) (own_rnn l Z a0 hw [] nm b1 h1 n0 O3) hZ (wd42 hw) (wd41 hw) (by decide) (by decide)) (g := (mkF m 3 #[.val (.ref nm), .unset, .unset, .unset, .unset] [(.ref b1), (.ref nm)])) rfl (by rw [hml]; rfl) (argsL := [(.ref nm), (.ref b1)]) (rest := []) (lenOf pd__Ljava_lang_Object_Ljava_lang_String__Ljava_lang_Object__5105 rfl) rfl (by show 2 * 0 + _ ≤ _; exact Nat.le_of_eq rfl) (hb hby d7_3) (fun _ _ => ⟨rfl, e1, (by decide : 2 + 0 ≤ _), (by decide : 20 + 0 ≤ _)⟩)
  dsimp only [Pt.U, Pt.locs, Pt.cells, Pt.slots] at X6 l6 y6 z6 st6 hQ6
  subst Lp6 kp6 np6
  obtain ⟨rfl, rfl, e6⟩ := hQ6
  try rw [List.append_nil] at X6
  refine own_via (S' := T6.setTop (mkF m 6 #[.val (.ref nm), .unset, .unset, .unset, .unset] [(.ref nm)])) st6 ?_
  refine own_via (S' := T6.setTop (mkF m 7 #[.val (.ref nm), .unset, .unset, .unset, .unset] [])) (fun t k => XS.pop X6.here hx rfl (hb hby d7_6) rfl rfl k) ?_
  obtain ⟨_, _, ⟨T7, Lp7, kp7, np7⟩, -, X7, ⟨Lc7, hQ7, l7, y7, z7⟩, st7⟩ := Jvm.LawKit.callS X6 hx (y := mt1) hown (mvT hZ (wd43 hw)) (mvT hZ (wd44 hw)) (mvT hZ (wd1 hw)) (mvT hZ (wd45 hw)) (by decide) (backOf (W := 0) (own_values l Z a0 hw [] wV kV wN wR wW h1 n0 O3 zf_S_com_example_regent_regent_AccessLevel__VALUES zf_E_wV zf_A_wV) hZ (wd45 hw) (wd1 hw) (by decide) (by decide)) (g := (mkF m 7 #[.val (.ref nm), .unset, .unset, .unset, .unset] [])) rfl (by rw [hml]; rfl) (argsL := []) (rest := []) (lenOf pd____Lcom_example_regent_regent_AccessLevel__3950 rfl) rfl (by show 2 * 0 + _ ≤ _; exact Nat.le_of_eq rfl) (hb hby d7_7) (fun _ _ => ⟨rfl, e6, (by decide : 2 + 1 ≤ _), (by decide : 20 + 3 ≤ _)⟩)
  dsimp only [Pt.U, Pt.locs, Pt.cells, Pt.slots] at X7 l7 y7 z7 st7 hQ7
  subst Lp7 kp7 np7
  obtain ⟨b7, rfl, N7q, K7q, f7_0⟩ := hQ7
  have N7 := Fr.app N0 N7q
  have sf7 : ∀ x ∈ ([] : List Addr), Safe Z own_EL T1.vm h1 x := sf0
  have sz8 : h1.size ≤ T7.heap.size := K7q.1
  have R9 : CHr Z own_EL s.vm h0 T1.vm T7.heap := R4.trans (CHr.keep K7q sf7 R4.1)
  have O10 : Old Z n0 T7.heap := O3.keep K7q all0
  have K11 : Keep h0 T7.heap [] := K5.trans K7q all0
  have lt12_b7 : T7.heap.size > b7 := f7_0.lt
  refine own_via (S' := T7.setTop (mkF m 10 #[.val (.ref nm), .unset, .unset, .unset, .unset] [(.ref b7)])) st7 ?_
  refine own_via (S' := T7.setTop (mkF m 11 #[.val (.ref nm), .val (.ref b7), .unset, .unset, .unset] [])) (fun t k => XS.astoreN X7.here hx rfl (hb hby d7_10) rfl rfl (l' := #[.val (.ref nm), .val (.ref b7), .unset, .unset, .unset]) rfl k) ?_
  refine own_via (S' := T7.setTop (mkF m 12 #[.val (.ref nm), .val (.ref b7), .unset, .unset, .unset] [(.ref b7)])) (fun t k => XS.aloadN X7.here hx rfl (hb hby d7_11) rfl rfl k) ?_
  obtain ⟨cl13, Ar13, -, S13, N13, -, -⟩ := id f7_0
  refine own_via (S' := T7.setTop (mkF m 13 #[.val (.ref nm), .val (.ref b7), .unset, .unset, .unset] [(.int (3 : Int32))])) (fun t k => X7.arraylength hx (by first | (rw [rfl]; exact Ar13.1) | exact Ar13.1) (State.isArrayOf_alike hZ.alike Ar13.2.1) (g := (mkF m 12 #[.val (.ref nm), .val (.ref b7), .unset, .unset, .unset] [(.ref b7)])) rfl rfl (hb hby d7_12) _ (by rw [len_of S13 N13]; exact k)) ?_
  refine own_via (S' := T7.setTop (mkF m 14 #[.val (.ref nm), .val (.ref b7), .val (.int (3 : Int32)), .unset, .unset] [])) (fun t k => XS.istoreN X7.here hx rfl (hb hby d7_13) rfl (l' := #[.val (.ref nm), .val (.ref b7), .val (.int (3 : Int32)), .unset, .unset]) rfl k) ?_
  refine own_via (S' := T7.setTop (mkF m 15 #[.val (.ref nm), .val (.ref b7), .val (.int (3 : Int32)), .unset, .unset] [(.int (0 : Int32))])) (fun t k => XS.iconst X7.here hx rfl (hb hby d7_14) k) ?_
  refine own_via (S' := T7.setTop (mkF m 16 #[.val (.ref nm), .val (.ref b7), .val (.int (3 : Int32)), .val (.int (0 : Int32)), .unset] [])) (fun t k => XS.istoreN X7.here hx rfl (hb hby d7_15) rfl (l' := #[.val (.ref nm), .val (.ref b7), .val (.int (3 : Int32)), .val (.int (0 : Int32)), .unset]) rfl k) ?_
  refine own_via (S' := T7.setTop (mkF m 17 #[.val (.ref nm), .val (.ref b7), .val (.int (3 : Int32)), .val (.int (0 : Int32)), .unset] [(.int (0 : Int32))])) (fun t k => XS.iloadN X7.here hx rfl (hb hby d7_16) rfl k) ?_
  refine own_via (S' := T7.setTop (mkF m 18 #[.val (.ref nm), .val (.ref b7), .val (.int (3 : Int32)), .val (.int (0 : Int32)), .unset] [(.int (3 : Int32)), (.int (0 : Int32))])) (fun t k => XS.iloadN X7.here hx rfl (hb hby d7_17) rfl k) ?_
  refine own_via (S' := T7.setTop (mkF m 21 #[.val (.ref nm), .val (.ref b7), .val (.int (3 : Int32)), .val (.int (0 : Int32)), .unset] [])) (fun t k => XS.icmpNo X7.here hx rfl (hb hby d7_18) rfl (tlt (by decide : (0 : Int32) < (3 : Int32))).2.1 k) ?_
  refine own_via (S' := T7.setTop (mkF m 22 #[.val (.ref nm), .val (.ref b7), .val (.int (3 : Int32)), .val (.int (0 : Int32)), .unset] [(.ref b7)])) (fun t k => XS.aloadN X7.here hx rfl (hb hby d7_21) rfl rfl k) ?_
  refine own_via (S' := T7.setTop (mkF m 23 #[.val (.ref nm), .val (.ref b7), .val (.int (3 : Int32)), .val (.int (0 : Int32)), .unset] [(.int (0 : Int32)), (.ref b7)])) (fun t k => XS.iloadN X7.here hx rfl (hb hby d7_22) rfl k) ?_
  obtain ⟨cl14, Ar14, q14, S14, M14, H14, U14⟩ := id f7_0
  have hin14 : ¬ ((0 : Int32) < 0 ∨ cl14.slots.size ≤ ((0 : Int32)).toNatClampNeg) := inb_of S14 ⟨by decide, by decide⟩
  refine own_via (S' := T7.setTop (mkF m 24 #[.val (.ref nm), .val (.ref b7), .val (.int (3 : Int32)), .val (.int (0 : Int32)), .unset] [(.ref wN)])) (fun t k => X7.aaload hx (j := (0 : Int32)) (v := (.ref wN)) (by first | (rw [rfl]; exact Ar14.1) | exact Ar14.1) (State.isArrayOf_alike hZ.alike Ar14.2.1) rfl Ar14.2.2 hin14 (Has.at H14 hin14 rfl) (g := (mkF m 23 #[.val (.ref nm), .val (.ref b7), .val (.int (3 : Int32)), .val (.int (0 : Int32)), .unset] [(.int (0 : Int32)), (.ref b7)])) rfl rfl (hb hby d7_23) _ k) ?_
  refine own_via (S' := T7.setTop (mkF m 26 #[.val (.ref nm), .val (.ref b7), .val (.int (3 : Int32)), .val (.int (0 : Int32)), .val (.ref wN)] [])) (fun t k => XS.astore X7.here hx rfl (hb hby d7_24) rfl rfl (l' := #[.val (.ref nm), .val (.ref b7), .val (.int (3 : Int32)), .val (.int (0 : Int32)), .val (.ref wN)]) rfl k) ?_
  refine own_via (S' := T7.setTop (mkF m 28 #[.val (.ref nm), .val (.ref b7), .val (.int (3 : Int32)), .val (.int (0 : Int32)), .val (.ref wN)] [(.ref wN)])) (fun t k => XS.aload X7.here hx rfl (hb hby d7_26) rfl rfl k) ?_
  have cx15 : Sta Z T7.heap "com/example/regent/regent/AccessLevel" "NONE" "Lcom/example/regent/regent/AccessLevel;" (.ref wN) := zf_S_com_example_regent_regent_AccessLevel_NONE.ext O10.2
  obtain ⟨T16, X16, e16, st16⟩ := getS2 X7 hx hZ hown (host := "") (Or.inl (wd60 hw)) Via.refl rfl cx15 (g := (mkF m 28 #[.val (.ref nm), .val (.ref b7), .val (.int (3 : Int32)), .val (.int (0 : Int32)), .val (.ref wN)] [(.ref wN)])) rfl (hb hby d7_28)
  refine own_via (S' := T16.setTop (mkF m 31 #[.val (.ref nm), .val (.ref b7), .val (.int (3 : Int32)), .val (.int (0 : Int32)), .val (.ref wN)] [(.ref wN), (.ref wN)])) st16 ?_
  refine own_via (S' := T16.setTop (mkF m 49 #[.val (.ref nm), .val (.ref b7), .val (.int (3 : Int32)), .val (.int (0 : Int32)), .val (.ref wN)] [])) (fun t k => Jvm.RoadKit.acmp (g := (mkF m 31 #[.val (.ref nm), .val (.ref b7), .val (.int (3 : Int32)), .val (.int (0 : Int32)), .val (.ref wN)] [(.ref wN), (.ref wN)])) X16 hx rfl rfl rfl (pc0 := 31) (pc' := 49) (same := true) rfl (hb hby d7_31) rfl (decide_eq_true rfl) (by decide) (by decide) k) ?_
  refine own_via (S' := T16.setTop (mkF m 52 #[.val (.ref nm), .val (.ref b7), .val (.int (3 : Int32)), .val (.int (1 : Int32)), .val (.ref wN)] [])) (fun t k => XS.iinc X16.here hx rfl (hb hby d7_49) rfl (l' := #[.val (.ref nm), .val (.ref b7), .val (.int (3 : Int32)), .val (.int (1 : Int32)), .val (.ref wN)]) rfl k) ?_
  refine own_via (S' := T16.setTop (mkF m 16 #[.val (.ref nm), .val (.ref b7), .val (.int (3 : Int32)), .val (.int (1 : Int32)), .val (.ref wN)] [])) (fun t k => XS.goto X16.here hx rfl (pc0 := 52) (pc' := 16) rfl (hb hby d7_52) (by decide) (by decide) k) ?_
  refine own_via (S' := T16.setTop (mkF m 17 #[.val (.ref nm), .val (.ref b7), .val (.int (3 : Int32)), .val (.int (1 : Int32)), .val (.ref wN)] [(.int (1 : Int32))])) (fun t k => XS.iloadN X16.here hx rfl (hb hby d7_16) rfl k) ?_
  refine own_via (S' := T16.setTop (mkF m 18 #[.val (.ref nm), .val (.ref b7), .val (.int (3 : Int32)), .val (.int (1 : Int32)), .val (.ref wN)] [(.int (3 : Int32)), (.int (1 : Int32))])) (fun t k => XS.iloadN X16.here hx rfl (hb hby d7_17) rfl k) ?_
  refine own_via (S' := T16.setTop (mkF m 21 #[.val (.ref nm), .val (.ref b7), .val (.int (3 : Int32)), .val (.int (1 : Int32)), .val (.ref wN)] [])) (fun t k => XS.icmpNo X16.here hx rfl (hb hby d7_18) rfl (tlt (by decide : (1 : Int32) < (3 : Int32))).2.1 k) ?_
  refine own_via (S' := T16.setTop (mkF m 22 #[.val (.ref nm), .val (.ref b7), .val (.int (3 : Int32)), .val (.int (1 : Int32)), .val (.ref wN)] [(.ref b7)])) (fun t k => XS.aloadN X16.here hx rfl (hb hby d7_21) rfl rfl k) ?_
  refine own_via (S' := T16.setTop (mkF m 23 #[.val (.ref nm), .val (.ref b7), .val (.int (3 : Int32)), .val (.int (1 : Int32)), .val (.ref wN)] [(.int (1 : Int32)), (.ref b7)])) (fun t k => XS.iloadN X16.here hx rfl (hb hby d7_22) rfl k) ?_
  obtain ⟨cl17, Ar17, q17, S17, M17, H17, U17⟩ := id f7_0
  have hin17 : ¬ ((1 : Int32) < 0 ∨ cl17.slots.size ≤ ((1 : Int32)).toNatClampNeg) := inb_of S17 ⟨by decide, by decide⟩
  refine own_via (S' := T16.setTop (mkF m 24 #[.val (.ref nm), .val (.ref b7), .val (.int (3 : Int32)), .val (.int (1 : Int32)), .val (.ref wN)] [(.ref wR)])) (fun t k => X16.aaload hx (j := (1 : Int32)) (v := (.ref wR)) (by first | (rw [e16]; exact Ar17.1) | exact Ar17.1) (State.isArrayOf_alike hZ.alike Ar17.2.1) rfl Ar17.2.2 hin17 (Has.at H17 hin17 rfl) (g := (mkF m 23 #[.val (.ref nm), .val (.ref b7), .val (.int (3 : Int32)), .val (.int (1 : Int32)), .val (.ref wN)] [(.int (1 : Int32)), (.ref b7)])) rfl rfl (hb hby d7_23) _ k) ?_
  refine own_via (S' := T16.setTop (mkF m 26 #[.val (.ref nm), .val (.ref b7), .val (.int (3 : Int32)), .val (.int (1 : Int32)), .val (.ref wR)] [])) (fun t k => XS.astore X16.here hx rfl (hb hby d7_24) rfl rfl (l' := #[.val (.ref nm), .val (.ref b7), .val (.int (3 : Int32)), .val (.int (1 : Int32)), .val (.ref wR)]) rfl k) ?_
  refine own_via (S' := T16.setTop (mkF m 28 #[.val (.ref nm), .val (.ref b7), .val (.int (3 : Int32)), .val (.int (1 : Int32)), .val (.ref wR)] [(.ref wR)])) (fun t k => XS.aload X16.here hx rfl (hb hby d7_26) rfl rfl k) ?_
  obtain ⟨T18, X18, e18, st18⟩ := getS2 X16 hx hZ hown (host := "") (Or.inl (wd60 hw)) Via.refl e16 cx15 (g := (mkF m 28 #[.val (.ref nm), .val (.ref b7), .val (.int (3 : Int32)), .val (.int (1 : Int32)), .val (.ref wR)] [(.ref wR)])) rfl (hb hby d7_28)
  refine own_via (S' := T18.setTop (mkF m 31 #[.val (.ref nm), .val (.ref b7), .val (.int (3 : Int32)), .val (.int (1 : Int32)), .val (.ref wR)] [(.ref wN), (.ref wR)])) st18 ?_
  refine own_via (S' := T18.setTop (mkF m 34 #[.val (.ref nm), .val (.ref b7), .val (.int (3 : Int32)), .val (.int (1 : Int32)), .val (.ref wR)] [])) (fun t k => Jvm.RoadKit.acmp (g := (mkF m 31 #[.val (.ref nm), .val (.ref b7), .val (.int (3 : Int32)), .val (.int (1 : Int32)), .val (.ref wR)] [(.ref wN), (.ref wR)])) X18 hx rfl rfl rfl (pc0 := 31) (pc' := 34) (same := false) rfl (hb hby d7_31) rfl (decide_eq_false fun q => hRN (Value.ref.inj q)) (by decide) (by decide) k) ?_
  refine own_via (S' := T18.setTop (mkF m 36 #[.val (.ref nm), .val (.ref b7), .val (.int (3 : Int32)), .val (.int (1 : Int32)), .val (.ref wR)] [(.ref wR)])) (fun t k => XS.aload X18.here hx rfl (hb hby d7_34) rfl rfl k) ?_
  have cx19 : Fld Z T7.heap wR "com/example/regent/regent/AccessLevel" "externalName" "Ljava/lang/String;" (.ref xR) := zf_F_wR_externalName.ext O10.2
  obtain ⟨T20, X20, e20, st20⟩ := getF X18 hx hZ hown (host := "") (Or.inl (wd61 hw)) Via.refl e18 cx19 (g := (mkF m 36 #[.val (.ref nm), .val (.ref b7), .val (.int (3 : Int32)), .val (.int (1 : Int32)), .val (.ref wR)] [(.ref wR)])) rfl rfl (hb hby d7_36)
  refine own_via (S' := T20.setTop (mkF m 39 #[.val (.ref nm), .val (.ref b7), .val (.int (3 : Int32)), .val (.int (1 : Int32)), .val (.ref wR)] [(.ref xR)])) st20 ?_
  refine own_via (S' := T20.setTop (mkF m 40 #[.val (.ref nm), .val (.ref b7), .val (.int (3 : Int32)), .val (.int (1 : Int32)), .val (.ref wR)] [(.ref nm), (.ref xR)])) (fun t k => XS.aloadN X20.here hx rfl (hb hby d7_39) rfl rfl k) ?_
  have cx22 : Exa Z T7.heap xR "java/lang/String" := zf_E_xR.ext O10.2
  have cx23 : Fld Z T7.heap xR "java/lang/String" "value" "[B" (.ref tR) := zf_F_xR_value.ext O10.2
  have cx24 : Fld Z T7.heap xR "java/lang/String" "coder" "B" (.int (0 : Int32)) := zf_F_xR_coder.ext O10.2
  have cx25 : Arv Z T7.heap tR kR .byte (4 : Int32) [(.int (114 : Int32)), (.int (101 : Int32)), (.int (97 : Int32)), (.int (100 : Int32))] (.int (0 : Int32)) := zf_A_tR.ext O10.2
  have cx26 : Exa Z T7.heap nm "java/lang/String" := ((f0_E_nm.ext E1).keep K7q)
  have cx27 : Fld Z T7.heap nm "java/lang/String" "value" "[B" (.ref tn) := ((f0_F_nm_value.ext E1).keep K7q nin0)
  have cx28 : Fld Z T7.heap nm "java/lang/String" "coder" "B" (.int (0 : Int32)) := ((f0_F_nm_coder.ext E1).keep K7q nin0)
  have cx29 : Arv Z T7.heap tn kn .byte (4 : Int32) [(.int ((114 : Int32).toInt8.toInt32)), (.int ((101 : Int32).toInt8.toInt32)), (.int ((97 : Int32).toInt8.toInt32)), (.int ((100 : Int32).toInt8.toInt32))] (.int (0 : Int32)) := ((f0_A_tn.ext E1).keep K7q nin0)
  have hwe21 := own_mwe hw
  have cx30 : Sta Z T7.heap "java/lang/String" "COMPACT_STRINGS" "Z" (.int zc) := zf_S_java_lang_String_COMPACT_STRINGS.ext O10.2
  obtain ⟨cq21, kq21, q21a, q21b, q21c⟩ := isOf hZ e20 cx22
  obtain ⟨_, _, ⟨T21, Lp21, kp21, np21⟩, -, X21, ⟨Lc21, hQ21, l21, y21, z21⟩, st21⟩ := X20.virtualBack hx (y := mt4) (z := mt4) hown (mvT hZ (wd63 hw)) (mvT hZ (wd64 hw)) (notFace_of_selects (args := #[]) (mvT hZ (wd66 hw))) (mvT hZ (wd66 hw)) (mvT hZ (wd65 hw)) (by decide) (StrChars.Road.eqW (W := 0) hZ hwe21 (kI := 4) (wd4 hw) cx22 cx23 cx24 cx25 (StrChars.Road.codOf (cs := ([(114 : Int32), (101 : Int32), (97 : Int32), (100 : Int32)] : List Int32)) rfl (fun c hc => (hpR c hc).2)) (own_up ([(114 : Int32), (101 : Int32), (97 : Int32), (100 : Int32)] : List Int32) hpR) (by first | decide | exact Nat.le_of_ble_eq_true rfl) cx26 cx27 cx28 cx29 (StrChars.Road.codOf (cs := ([(114 : Int32), (101 : Int32), (97 : Int32), (100 : Int32)] : List Int32)) rfl (fun c hc => (hpR c hc).2)) (own_up ([(114 : Int32), (101 : Int32), (97 : Int32), (100 : Int32)] : List Int32) hpR) (by first | decide | exact Nat.le_of_ble_eq_true rfl) cx30 hzc (by decide) (by decide)) q21a q21c (g := (mkF m 40 #[.val (.ref nm), .val (.ref b7), .val (.int (3 : Int32)), .val (.int (1 : Int32)), .val (.ref wR)] [(.ref nm), (.ref xR)])) rfl (by rw [hml]; rfl) (Steps.refl _) (argsL := [(.ref nm)]) (rest := []) (lenOf pd__Ljava_lang_Object__Z_1835 rfl) rfl (by show 2 * 0 + _ ≤ _; exact Nat.le_of_eq rfl) (hb hby d7_40) (fun _ _ => ⟨rfl, e20, (by decide : 3 + 0 ≤ _), (by decide : 23 + 0 ≤ _)⟩)
  dsimp only [Pt.U, Pt.locs, Pt.cells, Pt.slots] at X21 l21 y21 z21 st21 hQ21
  subst Lp21 kp21 np21
  obtain ⟨hv21, rfl, e21⟩ := hQ21
  obtain ⟨zq21, hzq21, rfl⟩ : ∃ z : Int32, z = (if ([(114 : Int32), (101 : Int32), (97 : Int32), (100 : Int32)] : List Int32) = ([(114 : Int32), (101 : Int32), (97 : Int32), (100 : Int32)] : List Int32) then (1 : Int32) else (0 : Int32)) ∧ _ = some (Value.int z) := by rcases hv21 with ⟨q1, q2⟩ | ⟨q1, q2⟩; exact ⟨_, (if_pos q2).symm, q1⟩; exact ⟨_, (if_neg q2).symm, q1⟩
  try rw [List.append_nil] at X21
  refine own_tr (S' := T21.setTop (mkF m 43 #[.val (.ref nm), .val (.ref b7), .val (.int (3 : Int32)), .val (.int (1 : Int32)), .val (.ref wR)] [(.int zq21)])) st21 ?_
  obtain rfl : zq21 = (1 : Int32) := hzq21.trans (if_pos rfl)
  refine own_via (S' := T21.setTop (mkF m 46 #[.val (.ref nm), .val (.ref b7), .val (.int (3 : Int32)), .val (.int (1 : Int32)), .val (.ref wR)] [])) (fun t k => XS.ifNo X21.here hx rfl (hb hby d7_43) rfl ((if0 _ _).trans (feq (by decide : ¬ ((1 : Int32) = (0 : Int32)))).1) k) ?_
  refine own_via (S' := T21.setTop (mkF m 48 #[.val (.ref nm), .val (.ref b7), .val (.int (3 : Int32)), .val (.int (1 : Int32)), .val (.ref wR)] [(.ref wR)])) (fun t k => XS.aload X21.here hx rfl (hb hby d7_46) rfl rfl k) ?_
  have RTR9 : CHr Z own_EL s.vm h0 T21.vm T7.heap := R9.trans (CHv.at X21 hZ hEL R9.1)
  have RXR9 : CHr Z own_EL s.vm s.heap T21.vm T21.heap := by rw [hh, e21]; exact RTR9
  refine own_retW (Q := Q_own_pgR Z nm tn kn zc wV kV wN wR wW xR tR kR xW tW kW h0 n0) (C := ({ frames := 2, cells := 3, slots := 23, locals := 28 } : Room).cells) (N := ({ frames := 2, cells := 3, slots := 23, locals := 28 } : Room).slots) X21 hS1 (by rw [e21]; omega) (v := some (.ref wR)) (fun h => by rw [Bd.returns] at h; cases h) Bd.notSynchronized ?_ RXR9 (by decide) (by decide) (fun fs hr => retOut X21 hx Bd.returns rfl (Or.inr (Or.inr (Or.inr (Or.inr ⟨rfl, rfl, rfl⟩)))) (hb hby d7_48) hr)
  show Q_own_pgR Z nm tn kn zc wV kV wN wR wW xR tR kR xW tW kW h0 n0 _ T21.vm T21.heap _
  rw [e21]
  exact ⟨rfl, N7, K11⟩
def Q_own_pgW (Z : State) (nm : Addr) (tn : Addr) (kn : ClassId) (zc : Int32) (wV : Addr) (kV : ClassId) (wN : Addr) (wR : Addr) (wW : Addr) (xR : Addr) (tR : Addr) (kR : ClassId) (xW : Addr) (tW : Addr) (kW : ClassId) (h0 : Heap) (n0 : Nat) (v : Option Value) (vm : Vm) (h : Heap) (L : List Loc) : Prop := v = some (.ref wW) ∧ Fr n0 L ∧ Keep h0 h []
set_option maxRecDepth 65536 in
set_option maxHeartbeats 40000000 in
theorem own_pgW (l : Launch) (Z : State) (a0 : Array Value) (hw : ∀ d ∈ tables_1, d.before a0 Z = true) (ws : List Jvm.Cond) (nm : Addr) (tn : Addr) (kn : ClassId) (zc : Int32) (wV : Addr) (kV : ClassId) (wN : Addr) (wR : Addr) (wW : Addr) (xR : Addr) (tR : Addr) (kR : ClassId) (xW : Addr) (tW : Addr) (kW : ClassId) (h0 : Heap) (n0 : Nat) (O0 : Old Z n0 h0) (zf_S_java_lang_String_COMPACT_STRINGS : Sta Z Z.heap "java/lang/String" "COMPACT_STRINGS" "Z" (.int zc)) (zf_S_com_example_regent_regent_AccessLevel__VALUES : Sta Z Z.heap "com/example/regent/regent/AccessLevel" "$VALUES" "[Lcom/example/regent/regent/AccessLevel;" (.ref wV)) (zf_E_wV : Exa Z Z.heap wV "[Lcom/example/regent/regent/AccessLevel;") (zf_A_wV : Arv Z Z.heap wV kV (.object "com/example/regent/regent/AccessLevel") (3 : Int32) [(.ref wN), (.ref wR), (.ref wW)] .null) (zf_S_com_example_regent_regent_AccessLevel_NONE : Sta Z Z.heap "com/example/regent/regent/AccessLevel" "NONE" "Lcom/example/regent/regent/AccessLevel;" (.ref wN)) (zf_F_wR_externalName : Fld Z Z.heap wR "com/example/regent/regent/AccessLevel" "externalName" "Ljava/lang/String;" (.ref xR)) (zf_E_xR : Exa Z Z.heap xR "java/lang/String") (zf_F_xR_coder : Fld Z Z.heap xR "java/lang/String" "coder" "B" (.int (0 : Int32))) (zf_F_xR_value : Fld Z Z.heap xR "java/lang/String" "value" "[B" (.ref tR)) (zf_A_tR : Arv Z Z.heap tR kR .byte (4 : Int32) [(.int (114 : Int32)), (.int (101 : Int32)), (.int (97 : Int32)), (.int (100 : Int32))] (.int (0 : Int32))) (zf_F_wW_externalName : Fld Z Z.heap wW "com/example/regent/regent/AccessLevel" "externalName" "Ljava/lang/String;" (.ref xW)) (zf_E_xW : Exa Z Z.heap xW "java/lang/String") (zf_F_xW_coder : Fld Z Z.heap xW "java/lang/String" "coder" "B" (.int (0 : Int32))) (zf_F_xW_value : Fld Z Z.heap xW "java/lang/String" "value" "[B" (.ref tW)) (zf_A_tW : Arv Z Z.heap tW kW .byte (10 : Int32) [(.int (114 : Int32)), (.int (101 : Int32)), (.int (97 : Int32)), (.int (100 : Int32)), (.int (95 : Int32)), (.int (119 : Int32)), (.int (114 : Int32)), (.int (105 : Int32)), (.int (116 : Int32)), (.int (101 : Int32))] (.int (0 : Int32))) (f0_E_nm : Exa Z h0 nm "java/lang/String") (f0_F_nm_coder : Fld Z h0 nm "java/lang/String" "coder" "B" (.int (0 : Int32))) (f0_F_nm_value : Fld Z h0 nm "java/lang/String" "value" "[B" (.ref tn)) (f0_A_tn : Arv Z h0 tn kn .byte (10 : Int32) [(.int ((114 : Int32).toInt8.toInt32)), (.int ((101 : Int32).toInt8.toInt32)), (.int ((97 : Int32).toInt8.toInt32)), (.int ((100 : Int32).toInt8.toInt32)), (.int ((95 : Int32).toInt8.toInt32)), (.int ((119 : Int32).toInt8.toInt32)), (.int ((114 : Int32).toInt8.toInt32)), (.int ((105 : Int32).toInt8.toInt32)), (.int ((116 : Int32).toInt8.toInt32)), (.int ((101 : Int32).toInt8.toInt32))] (.int (0 : Int32))) (hzc : ¬ (zc = (0 : Int32))) (hRN : ¬ (wR = wN)) (hWN : ¬ (wW = wN)) :
    MetFree l mt3 (head1 (Jvm.Cond.code mt3 prog_1_method_5_code 5 (some (.object "com/example/regent/regent/AccessLevel")) :: ws) ({ frames := 2, cells := 3, slots := 23, locals := 28 } : Room)) (fun aq U => aq = #[(.ref nm)] ∧ Z.Warmed39 U.vm ∧ U.heap = h0 ∧ CHv Z own_EL U.vm h0 ∧ ∀ x ∈ ([] : List Addr), Safe Z own_EL U.vm h0 x) (fun _ _ _ _ _ => True) (fun _ U o U' => ∃ v L, o = .returned v ∧ Q_own_pgW Z nm tn kn zc wV kV wN wR wW xR tR kR xW tW kW h0 n0 v U'.vm U'.heap L ∧ CHr Z own_EL U.vm U.heap U'.vm U'.heap ∧ ReturnedEndW U o U' L ({ frames := 2, cells := 3, slots := 23, locals := 28 } : Room).cells ({ frames := 2, cells := 3, slots := 23, locals := 28 } : Room).slots) := by
  refine MetFree.of_bodySF (plainFor_of_name pn_com_example_regent_regent_AccessLevel) hisR ?_
  intro p e s m args below meth c s₁ Bd hml0 hP hK
  obtain ⟨rfl, hZ, hh, hCH, hSL⟩ := hP
  have hx := Bd.exec
  have hby := Bd.bytes
  have hml : c.maxLocals = 5 := hml0
  have hown : s.vm.findClass "com/example/regent/regent/AccessLevel" = some m.cls := findClass_of_methodNamed Bd.named
  have hnm := (name_of_methodNamed Bd.named Bd.method).1
  have X0 : Stand p l e ({ frames := 2, cells := 3, slots := 23, locals := 28 } : Room) (s.setVm s.vm) m #[(.ref nm)] below meth c s₁ [] 0 0 := Stand.of_body Bd
  have e0 : s₁.heap = h0 := by rw [← hh, Bd.state]; rfl
  have N0 := Fr.nil n0
  have zO := O0.1
  have zO2 := O0.2.1
  have zl_E_wV : Z.heap.size > wV := zf_E_wV.lt
  have zl_F_wR_externalName : Z.heap.size > wR := zf_F_wR_externalName.lt
  have zl_E_xR : Z.heap.size > xR := zf_E_xR.lt
  have zl_F_xR_coder : Z.heap.size > xR := zf_F_xR_coder.lt
  have zl_F_xR_value : Z.heap.size > xR := zf_F_xR_value.lt
  have zl_F_wW_externalName : Z.heap.size > wW := zf_F_wW_externalName.lt
  have zl_E_xW : Z.heap.size > xW := zf_E_xW.lt
  have zl_F_xW_coder : Z.heap.size > xW := zf_F_xW_coder.lt
  have zl_F_xW_value : Z.heap.size > xW := zf_F_xW_value.lt
  have fl_E_nm : h0.size > nm := f0_E_nm.lt
  have fl_F_nm_coder : h0.size > nm := f0_F_nm_coder.lt
  have fl_F_nm_value : h0.size > nm := f0_F_nm_value.lt
  have fl_A_tn : h0.size > tn := f0_A_tn.lt
  refine own_open (own_via (S' := s₁.setTop (mkF m 0 #[.val (.ref nm), .unset, .unset, .unset, .unset] [])) (fun t k => castTop (ef_own_pgW m nm) k) ?_)
  have hEL := own_EW hw
  have hS0 : s.Since s.vm h0.size := (State.WarmedH.refl s).since _
  have R0 : CHr Z own_EL s.vm h0 s.vm h0 := CHr.refl hCH
  have K0 : Keep h0 h0 [] := Keep.refl _ _
  have ne_nm_tn : nm ≠ tn := Exa.neArv f0_E_nm f0_A_tn (wd4 hw)
  have hpR : ∀ c ∈ ([(114 : Int32), (101 : Int32), (97 : Int32), (100 : Int32)] : List Int32), ¬ c < 0 ∧ ¬ (255 : Int32) < c := by decide
  have hpW : ∀ c ∈ ([(114 : Int32), (101 : Int32), (97 : Int32), (100 : Int32), (95 : Int32), (119 : Int32), (114 : Int32), (105 : Int32), (116 : Int32), (101 : Int32)] : List Int32), ¬ c < 0 ∧ ¬ (255 : Int32) < c := by decide
  refine own_via (S' := s₁.setTop (mkF m 1 #[.val (.ref nm), .unset, .unset, .unset, .unset] [(.ref nm)])) (fun t k => XS.aloadN X0.here hx rfl (hb hby d7_0) rfl rfl k) ?_
  obtain ⟨b1, T1, h1, kk1, X1, e1, E1, hS1, hk1, hZ, hown, R1q, hLit1, st1⟩ := ldcOH X0 hx hZ hown (wd36 hw) (own_wS hw) e0 hS0 (by omega) hEL R0.1 (g := (mkF m 1 #[.val (.ref nm), .unset, .unset, .unset, .unset] [(.ref nm)])) rfl (hb hby d7_1) (n := 16) (by decide) (by decide) (by decide) (by decide)
  have sz2 : h0.size ≤ h1.size := E1.1
  have O3 : Old Z n0 h1 := O0.ext E1
  have R4 : CHr Z own_EL s.vm h0 T1.vm h1 := R0.trans R1q
  have K5 : Keep h0 h1 [] := K0.ext E1
  refine own_via (S' := T1.setTop (mkF m 3 #[.val (.ref nm), .unset, .unset, .unset, .unset] [(.ref b1), (.ref nm)])) st1 ?_
  obtain ⟨_, _, ⟨T6, Lp6, kp6, np6⟩, -, X6, ⟨Lc6, hQ6, l6, y6, z6⟩, st6⟩ := Jvm.LawKit.callS X1 hx (y := mt0) hown (mvT hZ (wd39 hw)) (mvT hZ (wd40 hw)) (mvT hZ (wd41 hw)) (mvT hZ (wd42 hw)) (by decide) (backOf (W := 0) (own_rnn l Z a0 hw [] nm b1 h1 n0 O3) hZ (wd42 hw) (wd41 hw) (by decide) (by decide)) (g := (mkF m 3 #[.val (.ref nm), .unset, .unset, .unset, .unset] [(.ref b1), (.ref nm)])) rfl (by rw [hml]; rfl) (argsL := [(.ref nm), (.ref b1)]) (rest := []) (lenOf pd__Ljava_lang_Object_Ljava_lang_String__Ljava_lang_Object__5105 rfl) rfl (by show 2 * 0 + _ ≤ _; exact Nat.le_of_eq rfl) (hb hby d7_3) (fun _ _ => ⟨rfl, e1, (by decide : 2 + 0 ≤ _), (by decide : 20 + 0 ≤ _)⟩)
  dsimp only [Pt.U, Pt.locs, Pt.cells, Pt.slots] at X6 l6 y6 z6 st6 hQ6
  subst Lp6 kp6 np6
  obtain ⟨rfl, rfl, e6⟩ := hQ6
  try rw [List.append_nil] at X6
  refine own_via (S' := T6.setTop (mkF m 6 #[.val (.ref nm), .unset, .unset, .unset, .unset] [(.ref nm)])) st6 ?_
  refine own_via (S' := T6.setTop (mkF m 7 #[.val (.ref nm), .unset, .unset, .unset, .unset] [])) (fun t k => XS.pop X6.here hx rfl (hb hby d7_6) rfl rfl k) ?_
  obtain ⟨_, _, ⟨T7, Lp7, kp7, np7⟩, -, X7, ⟨Lc7, hQ7, l7, y7, z7⟩, st7⟩ := Jvm.LawKit.callS X6 hx (y := mt1) hown (mvT hZ (wd43 hw)) (mvT hZ (wd44 hw)) (mvT hZ (wd1 hw)) (mvT hZ (wd45 hw)) (by decide) (backOf (W := 0) (own_values l Z a0 hw [] wV kV wN wR wW h1 n0 O3 zf_S_com_example_regent_regent_AccessLevel__VALUES zf_E_wV zf_A_wV) hZ (wd45 hw) (wd1 hw) (by decide) (by decide)) (g := (mkF m 7 #[.val (.ref nm), .unset, .unset, .unset, .unset] [])) rfl (by rw [hml]; rfl) (argsL := []) (rest := []) (lenOf pd____Lcom_example_regent_regent_AccessLevel__3950 rfl) rfl (by show 2 * 0 + _ ≤ _; exact Nat.le_of_eq rfl) (hb hby d7_7) (fun _ _ => ⟨rfl, e6, (by decide : 2 + 1 ≤ _), (by decide : 20 + 3 ≤ _)⟩)
  dsimp only [Pt.U, Pt.locs, Pt.cells, Pt.slots] at X7 l7 y7 z7 st7 hQ7
  subst Lp7 kp7 np7
  obtain ⟨b7, rfl, N7q, K7q, f7_0⟩ := hQ7
  have N7 := Fr.app N0 N7q
  have sf7 : ∀ x ∈ ([] : List Addr), Safe Z own_EL T1.vm h1 x := sf0
  have sz8 : h1.size ≤ T7.heap.size := K7q.1
  have R9 : CHr Z own_EL s.vm h0 T1.vm T7.heap := R4.trans (CHr.keep K7q sf7 R4.1)
  have O10 : Old Z n0 T7.heap := O3.keep K7q all0
  have K11 : Keep h0 T7.heap [] := K5.trans K7q all0
  have lt12_b7 : T7.heap.size > b7 := f7_0.lt
  refine own_via (S' := T7.setTop (mkF m 10 #[.val (.ref nm), .unset, .unset, .unset, .unset] [(.ref b7)])) st7 ?_
  refine own_via (S' := T7.setTop (mkF m 11 #[.val (.ref nm), .val (.ref b7), .unset, .unset, .unset] [])) (fun t k => XS.astoreN X7.here hx rfl (hb hby d7_10) rfl rfl (l' := #[.val (.ref nm), .val (.ref b7), .unset, .unset, .unset]) rfl k) ?_
  refine own_via (S' := T7.setTop (mkF m 12 #[.val (.ref nm), .val (.ref b7), .unset, .unset, .unset] [(.ref b7)])) (fun t k => XS.aloadN X7.here hx rfl (hb hby d7_11) rfl rfl k) ?_
  obtain ⟨cl13, Ar13, -, S13, N13, -, -⟩ := id f7_0
  refine own_via (S' := T7.setTop (mkF m 13 #[.val (.ref nm), .val (.ref b7), .unset, .unset, .unset] [(.int (3 : Int32))])) (fun t k => X7.arraylength hx (by first | (rw [rfl]; exact Ar13.1) | exact Ar13.1) (State.isArrayOf_alike hZ.alike Ar13.2.1) (g := (mkF m 12 #[.val (.ref nm), .val (.ref b7), .unset, .unset, .unset] [(.ref b7)])) rfl rfl (hb hby d7_12) _ (by rw [len_of S13 N13]; exact k)) ?_
  refine own_via (S' := T7.setTop (mkF m 14 #[.val (.ref nm), .val (.ref b7), .val (.int (3 : Int32)), .unset, .unset] [])) (fun t k => XS.istoreN X7.here hx rfl (hb hby d7_13) rfl (l' := #[.val (.ref nm), .val (.ref b7), .val (.int (3 : Int32)), .unset, .unset]) rfl k) ?_
  refine own_via (S' := T7.setTop (mkF m 15 #[.val (.ref nm), .val (.ref b7), .val (.int (3 : Int32)), .unset, .unset] [(.int (0 : Int32))])) (fun t k => XS.iconst X7.here hx rfl (hb hby d7_14) k) ?_
  refine own_via (S' := T7.setTop (mkF m 16 #[.val (.ref nm), .val (.ref b7), .val (.int (3 : Int32)), .val (.int (0 : Int32)), .unset] [])) (fun t k => XS.istoreN X7.here hx rfl (hb hby d7_15) rfl (l' := #[.val (.ref nm), .val (.ref b7), .val (.int (3 : Int32)), .val (.int (0 : Int32)), .unset]) rfl k) ?_
  refine own_via (S' := T7.setTop (mkF m 17 #[.val (.ref nm), .val (.ref b7), .val (.int (3 : Int32)), .val (.int (0 : Int32)), .unset] [(.int (0 : Int32))])) (fun t k => XS.iloadN X7.here hx rfl (hb hby d7_16) rfl k) ?_
  refine own_via (S' := T7.setTop (mkF m 18 #[.val (.ref nm), .val (.ref b7), .val (.int (3 : Int32)), .val (.int (0 : Int32)), .unset] [(.int (3 : Int32)), (.int (0 : Int32))])) (fun t k => XS.iloadN X7.here hx rfl (hb hby d7_17) rfl k) ?_
  refine own_via (S' := T7.setTop (mkF m 21 #[.val (.ref nm), .val (.ref b7), .val (.int (3 : Int32)), .val (.int (0 : Int32)), .unset] [])) (fun t k => XS.icmpNo X7.here hx rfl (hb hby d7_18) rfl (tlt (by decide : (0 : Int32) < (3 : Int32))).2.1 k) ?_
  refine own_via (S' := T7.setTop (mkF m 22 #[.val (.ref nm), .val (.ref b7), .val (.int (3 : Int32)), .val (.int (0 : Int32)), .unset] [(.ref b7)])) (fun t k => XS.aloadN X7.here hx rfl (hb hby d7_21) rfl rfl k) ?_
  refine own_via (S' := T7.setTop (mkF m 23 #[.val (.ref nm), .val (.ref b7), .val (.int (3 : Int32)), .val (.int (0 : Int32)), .unset] [(.int (0 : Int32)), (.ref b7)])) (fun t k => XS.iloadN X7.here hx rfl (hb hby d7_22) rfl k) ?_
  obtain ⟨cl14, Ar14, q14, S14, M14, H14, U14⟩ := id f7_0
  have hin14 : ¬ ((0 : Int32) < 0 ∨ cl14.slots.size ≤ ((0 : Int32)).toNatClampNeg) := inb_of S14 ⟨by decide, by decide⟩
  refine own_via (S' := T7.setTop (mkF m 24 #[.val (.ref nm), .val (.ref b7), .val (.int (3 : Int32)), .val (.int (0 : Int32)), .unset] [(.ref wN)])) (fun t k => X7.aaload hx (j := (0 : Int32)) (v := (.ref wN)) (by first | (rw [rfl]; exact Ar14.1) | exact Ar14.1) (State.isArrayOf_alike hZ.alike Ar14.2.1) rfl Ar14.2.2 hin14 (Has.at H14 hin14 rfl) (g := (mkF m 23 #[.val (.ref nm), .val (.ref b7), .val (.int (3 : Int32)), .val (.int (0 : Int32)), .unset] [(.int (0 : Int32)), (.ref b7)])) rfl rfl (hb hby d7_23) _ k) ?_
  refine own_via (S' := T7.setTop (mkF m 26 #[.val (.ref nm), .val (.ref b7), .val (.int (3 : Int32)), .val (.int (0 : Int32)), .val (.ref wN)] [])) (fun t k => XS.astore X7.here hx rfl (hb hby d7_24) rfl rfl (l' := #[.val (.ref nm), .val (.ref b7), .val (.int (3 : Int32)), .val (.int (0 : Int32)), .val (.ref wN)]) rfl k) ?_
  refine own_via (S' := T7.setTop (mkF m 28 #[.val (.ref nm), .val (.ref b7), .val (.int (3 : Int32)), .val (.int (0 : Int32)), .val (.ref wN)] [(.ref wN)])) (fun t k => XS.aload X7.here hx rfl (hb hby d7_26) rfl rfl k) ?_
  have cx15 : Sta Z T7.heap "com/example/regent/regent/AccessLevel" "NONE" "Lcom/example/regent/regent/AccessLevel;" (.ref wN) := zf_S_com_example_regent_regent_AccessLevel_NONE.ext O10.2
  obtain ⟨T16, X16, e16, st16⟩ := getS2 X7 hx hZ hown (host := "") (Or.inl (wd60 hw)) Via.refl rfl cx15 (g := (mkF m 28 #[.val (.ref nm), .val (.ref b7), .val (.int (3 : Int32)), .val (.int (0 : Int32)), .val (.ref wN)] [(.ref wN)])) rfl (hb hby d7_28)
  refine own_via (S' := T16.setTop (mkF m 31 #[.val (.ref nm), .val (.ref b7), .val (.int (3 : Int32)), .val (.int (0 : Int32)), .val (.ref wN)] [(.ref wN), (.ref wN)])) st16 ?_
  refine own_via (S' := T16.setTop (mkF m 49 #[.val (.ref nm), .val (.ref b7), .val (.int (3 : Int32)), .val (.int (0 : Int32)), .val (.ref wN)] [])) (fun t k => Jvm.RoadKit.acmp (g := (mkF m 31 #[.val (.ref nm), .val (.ref b7), .val (.int (3 : Int32)), .val (.int (0 : Int32)), .val (.ref wN)] [(.ref wN), (.ref wN)])) X16 hx rfl rfl rfl (pc0 := 31) (pc' := 49) (same := true) rfl (hb hby d7_31) rfl (decide_eq_true rfl) (by decide) (by decide) k) ?_
  refine own_via (S' := T16.setTop (mkF m 52 #[.val (.ref nm), .val (.ref b7), .val (.int (3 : Int32)), .val (.int (1 : Int32)), .val (.ref wN)] [])) (fun t k => XS.iinc X16.here hx rfl (hb hby d7_49) rfl (l' := #[.val (.ref nm), .val (.ref b7), .val (.int (3 : Int32)), .val (.int (1 : Int32)), .val (.ref wN)]) rfl k) ?_
  refine own_via (S' := T16.setTop (mkF m 16 #[.val (.ref nm), .val (.ref b7), .val (.int (3 : Int32)), .val (.int (1 : Int32)), .val (.ref wN)] [])) (fun t k => XS.goto X16.here hx rfl (pc0 := 52) (pc' := 16) rfl (hb hby d7_52) (by decide) (by decide) k) ?_
  refine own_via (S' := T16.setTop (mkF m 17 #[.val (.ref nm), .val (.ref b7), .val (.int (3 : Int32)), .val (.int (1 : Int32)), .val (.ref wN)] [(.int (1 : Int32))])) (fun t k => XS.iloadN X16.here hx rfl (hb hby d7_16) rfl k) ?_
  refine own_via (S' := T16.setTop (mkF m 18 #[.val (.ref nm), .val (.ref b7), .val (.int (3 : Int32)), .val (.int (1 : Int32)), .val (.ref wN)] [(.int (3 : Int32)), (.int (1 : Int32))])) (fun t k => XS.iloadN X16.here hx rfl (hb hby d7_17) rfl k) ?_
  refine own_via (S' := T16.setTop (mkF m 21 #[.val (.ref nm), .val (.ref b7), .val (.int (3 : Int32)), .val (.int (1 : Int32)), .val (.ref wN)] [])) (fun t k => XS.icmpNo X16.here hx rfl (hb hby d7_18) rfl (tlt (by decide : (1 : Int32) < (3 : Int32))).2.1 k) ?_
  refine own_via (S' := T16.setTop (mkF m 22 #[.val (.ref nm), .val (.ref b7), .val (.int (3 : Int32)), .val (.int (1 : Int32)), .val (.ref wN)] [(.ref b7)])) (fun t k => XS.aloadN X16.here hx rfl (hb hby d7_21) rfl rfl k) ?_
  refine own_via (S' := T16.setTop (mkF m 23 #[.val (.ref nm), .val (.ref b7), .val (.int (3 : Int32)), .val (.int (1 : Int32)), .val (.ref wN)] [(.int (1 : Int32)), (.ref b7)])) (fun t k => XS.iloadN X16.here hx rfl (hb hby d7_22) rfl k) ?_
  obtain ⟨cl17, Ar17, q17, S17, M17, H17, U17⟩ := id f7_0
  have hin17 : ¬ ((1 : Int32) < 0 ∨ cl17.slots.size ≤ ((1 : Int32)).toNatClampNeg) := inb_of S17 ⟨by decide, by decide⟩
  refine own_via (S' := T16.setTop (mkF m 24 #[.val (.ref nm), .val (.ref b7), .val (.int (3 : Int32)), .val (.int (1 : Int32)), .val (.ref wN)] [(.ref wR)])) (fun t k => X16.aaload hx (j := (1 : Int32)) (v := (.ref wR)) (by first | (rw [e16]; exact Ar17.1) | exact Ar17.1) (State.isArrayOf_alike hZ.alike Ar17.2.1) rfl Ar17.2.2 hin17 (Has.at H17 hin17 rfl) (g := (mkF m 23 #[.val (.ref nm), .val (.ref b7), .val (.int (3 : Int32)), .val (.int (1 : Int32)), .val (.ref wN)] [(.int (1 : Int32)), (.ref b7)])) rfl rfl (hb hby d7_23) _ k) ?_
  refine own_via (S' := T16.setTop (mkF m 26 #[.val (.ref nm), .val (.ref b7), .val (.int (3 : Int32)), .val (.int (1 : Int32)), .val (.ref wR)] [])) (fun t k => XS.astore X16.here hx rfl (hb hby d7_24) rfl rfl (l' := #[.val (.ref nm), .val (.ref b7), .val (.int (3 : Int32)), .val (.int (1 : Int32)), .val (.ref wR)]) rfl k) ?_
  refine own_via (S' := T16.setTop (mkF m 28 #[.val (.ref nm), .val (.ref b7), .val (.int (3 : Int32)), .val (.int (1 : Int32)), .val (.ref wR)] [(.ref wR)])) (fun t k => XS.aload X16.here hx rfl (hb hby d7_26) rfl rfl k) ?_
  obtain ⟨T18, X18, e18, st18⟩ := getS2 X16 hx hZ hown (host := "") (Or.inl (wd60 hw)) Via.refl e16 cx15 (g := (mkF m 28 #[.val (.ref nm), .val (.ref b7), .val (.int (3 : Int32)), .val (.int (1 : Int32)), .val (.ref wR)] [(.ref wR)])) rfl (hb hby d7_28)
  refine own_via (S' := T18.setTop (mkF m 31 #[.val (.ref nm), .val (.ref b7), .val (.int (3 : Int32)), .val (.int (1 : Int32)), .val (.ref wR)] [(.ref wN), (.ref wR)])) st18 ?_
  refine own_via (S' := T18.setTop (mkF m 34 #[.val (.ref nm), .val (.ref b7), .val (.int (3 : Int32)), .val (.int (1 : Int32)), .val (.ref wR)] [])) (fun t k => Jvm.RoadKit.acmp (g := (mkF m 31 #[.val (.ref nm), .val (.ref b7), .val (.int (3 : Int32)), .val (.int (1 : Int32)), .val (.ref wR)] [(.ref wN), (.ref wR)])) X18 hx rfl rfl rfl (pc0 := 31) (pc' := 34) (same := false) rfl (hb hby d7_31) rfl (decide_eq_false fun q => hRN (Value.ref.inj q)) (by decide) (by decide) k) ?_
  refine own_via (S' := T18.setTop (mkF m 36 #[.val (.ref nm), .val (.ref b7), .val (.int (3 : Int32)), .val (.int (1 : Int32)), .val (.ref wR)] [(.ref wR)])) (fun t k => XS.aload X18.here hx rfl (hb hby d7_34) rfl rfl k) ?_
  have cx19 : Fld Z T7.heap wR "com/example/regent/regent/AccessLevel" "externalName" "Ljava/lang/String;" (.ref xR) := zf_F_wR_externalName.ext O10.2
  obtain ⟨T20, X20, e20, st20⟩ := getF X18 hx hZ hown (host := "") (Or.inl (wd61 hw)) Via.refl e18 cx19 (g := (mkF m 36 #[.val (.ref nm), .val (.ref b7), .val (.int (3 : Int32)), .val (.int (1 : Int32)), .val (.ref wR)] [(.ref wR)])) rfl rfl (hb hby d7_36)
  refine own_via (S' := T20.setTop (mkF m 39 #[.val (.ref nm), .val (.ref b7), .val (.int (3 : Int32)), .val (.int (1 : Int32)), .val (.ref wR)] [(.ref xR)])) st20 ?_
  refine own_via (S' := T20.setTop (mkF m 40 #[.val (.ref nm), .val (.ref b7), .val (.int (3 : Int32)), .val (.int (1 : Int32)), .val (.ref wR)] [(.ref nm), (.ref xR)])) (fun t k => XS.aloadN X20.here hx rfl (hb hby d7_39) rfl rfl k) ?_
  have cx22 : Exa Z T7.heap xR "java/lang/String" := zf_E_xR.ext O10.2
  have cx23 : Fld Z T7.heap xR "java/lang/String" "value" "[B" (.ref tR) := zf_F_xR_value.ext O10.2
  have cx24 : Fld Z T7.heap xR "java/lang/String" "coder" "B" (.int (0 : Int32)) := zf_F_xR_coder.ext O10.2
  have cx25 : Arv Z T7.heap tR kR .byte (4 : Int32) [(.int (114 : Int32)), (.int (101 : Int32)), (.int (97 : Int32)), (.int (100 : Int32))] (.int (0 : Int32)) := zf_A_tR.ext O10.2
  have cx26 : Exa Z T7.heap nm "java/lang/String" := ((f0_E_nm.ext E1).keep K7q)
  have cx27 : Fld Z T7.heap nm "java/lang/String" "value" "[B" (.ref tn) := ((f0_F_nm_value.ext E1).keep K7q nin0)
  have cx28 : Fld Z T7.heap nm "java/lang/String" "coder" "B" (.int (0 : Int32)) := ((f0_F_nm_coder.ext E1).keep K7q nin0)
  have cx29 : Arv Z T7.heap tn kn .byte (10 : Int32) [(.int ((114 : Int32).toInt8.toInt32)), (.int ((101 : Int32).toInt8.toInt32)), (.int ((97 : Int32).toInt8.toInt32)), (.int ((100 : Int32).toInt8.toInt32)), (.int ((95 : Int32).toInt8.toInt32)), (.int ((119 : Int32).toInt8.toInt32)), (.int ((114 : Int32).toInt8.toInt32)), (.int ((105 : Int32).toInt8.toInt32)), (.int ((116 : Int32).toInt8.toInt32)), (.int ((101 : Int32).toInt8.toInt32))] (.int (0 : Int32)) := ((f0_A_tn.ext E1).keep K7q nin0)
  have hwe21 := own_mwe hw
  have cx30 : Sta Z T7.heap "java/lang/String" "COMPACT_STRINGS" "Z" (.int zc) := zf_S_java_lang_String_COMPACT_STRINGS.ext O10.2
  obtain ⟨cq21, kq21, q21a, q21b, q21c⟩ := isOf hZ e20 cx22
  obtain ⟨_, _, ⟨T21, Lp21, kp21, np21⟩, -, X21, ⟨Lc21, hQ21, l21, y21, z21⟩, st21⟩ := X20.virtualBack hx (y := mt4) (z := mt4) hown (mvT hZ (wd63 hw)) (mvT hZ (wd64 hw)) (notFace_of_selects (args := #[]) (mvT hZ (wd66 hw))) (mvT hZ (wd66 hw)) (mvT hZ (wd65 hw)) (by decide) (StrChars.Road.eqW (W := 0) hZ hwe21 (kI := 4) (wd4 hw) cx22 cx23 cx24 cx25 (StrChars.Road.codOf (cs := ([(114 : Int32), (101 : Int32), (97 : Int32), (100 : Int32)] : List Int32)) rfl (fun c hc => (hpR c hc).2)) (own_up ([(114 : Int32), (101 : Int32), (97 : Int32), (100 : Int32)] : List Int32) hpR) (by first | decide | exact Nat.le_of_ble_eq_true rfl) cx26 cx27 cx28 cx29 (StrChars.Road.codOf (cs := ([(114 : Int32), (101 : Int32), (97 : Int32), (100 : Int32), (95 : Int32), (119 : Int32), (114 : Int32), (105 : Int32), (116 : Int32), (101 : Int32)] : List Int32)) rfl (fun c hc => (hpW c hc).2)) (own_up ([(114 : Int32), (101 : Int32), (97 : Int32), (100 : Int32), (95 : Int32), (119 : Int32), (114 : Int32), (105 : Int32), (116 : Int32), (101 : Int32)] : List Int32) hpW) (by first | decide | exact Nat.le_of_ble_eq_true rfl) cx30 hzc (by decide) (by decide)) q21a q21c (g := (mkF m 40 #[.val (.ref nm), .val (.ref b7), .val (.int (3 : Int32)), .val (.int (1 : Int32)), .val (.ref wR)] [(.ref nm), (.ref xR)])) rfl (by rw [hml]; rfl) (Steps.refl _) (argsL := [(.ref nm)]) (rest := []) (lenOf pd__Ljava_lang_Object__Z_1835 rfl) rfl (by show 2 * 0 + _ ≤ _; exact Nat.le_of_eq rfl) (hb hby d7_40) (fun _ _ => ⟨rfl, e20, (by decide : 3 + 0 ≤ _), (by decide : 23 + 0 ≤ _)⟩)
  dsimp only [Pt.U, Pt.locs, Pt.cells, Pt.slots] at X21 l21 y21 z21 st21 hQ21
  subst Lp21 kp21 np21
  obtain ⟨hv21, rfl, e21⟩ := hQ21
  obtain ⟨zq21, hzq21, rfl⟩ : ∃ z : Int32, z = (if ([(114 : Int32), (101 : Int32), (97 : Int32), (100 : Int32)] : List Int32) = ([(114 : Int32), (101 : Int32), (97 : Int32), (100 : Int32), (95 : Int32), (119 : Int32), (114 : Int32), (105 : Int32), (116 : Int32), (101 : Int32)] : List Int32) then (1 : Int32) else (0 : Int32)) ∧ _ = some (Value.int z) := by rcases hv21 with ⟨q1, q2⟩ | ⟨q1, q2⟩; exact ⟨_, (if_pos q2).symm, q1⟩; exact ⟨_, (if_neg q2).symm, q1⟩
  try rw [List.append_nil] at X21
  refine own_tr (S' := T21.setTop (mkF m 43 #[.val (.ref nm), .val (.ref b7), .val (.int (3 : Int32)), .val (.int (1 : Int32)), .val (.ref wR)] [(.int zq21)])) st21 ?_
  obtain rfl : zq21 = (0 : Int32) := hzq21.trans (if_neg (by decide))
  refine own_via (S' := T21.setTop (mkF m 49 #[.val (.ref nm), .val (.ref b7), .val (.int (3 : Int32)), .val (.int (1 : Int32)), .val (.ref wR)] [])) (fun t k => XS.ifYes X21.here hx rfl (pc0 := 43) (pc' := 49) rfl (hb hby d7_43) rfl ((if0 _ _).trans (teq (by decide : (0 : Int32) = (0 : Int32))).1) (by decide) (by decide) k) ?_
  refine own_via (S' := T21.setTop (mkF m 52 #[.val (.ref nm), .val (.ref b7), .val (.int (3 : Int32)), .val (.int (2 : Int32)), .val (.ref wR)] [])) (fun t k => XS.iinc X21.here hx rfl (hb hby d7_49) rfl (l' := #[.val (.ref nm), .val (.ref b7), .val (.int (3 : Int32)), .val (.int (2 : Int32)), .val (.ref wR)]) rfl k) ?_
  refine own_via (S' := T21.setTop (mkF m 16 #[.val (.ref nm), .val (.ref b7), .val (.int (3 : Int32)), .val (.int (2 : Int32)), .val (.ref wR)] [])) (fun t k => XS.goto X21.here hx rfl (pc0 := 52) (pc' := 16) rfl (hb hby d7_52) (by decide) (by decide) k) ?_
  refine own_via (S' := T21.setTop (mkF m 17 #[.val (.ref nm), .val (.ref b7), .val (.int (3 : Int32)), .val (.int (2 : Int32)), .val (.ref wR)] [(.int (2 : Int32))])) (fun t k => XS.iloadN X21.here hx rfl (hb hby d7_16) rfl k) ?_
  refine own_via (S' := T21.setTop (mkF m 18 #[.val (.ref nm), .val (.ref b7), .val (.int (3 : Int32)), .val (.int (2 : Int32)), .val (.ref wR)] [(.int (3 : Int32)), (.int (2 : Int32))])) (fun t k => XS.iloadN X21.here hx rfl (hb hby d7_17) rfl k) ?_
  refine own_via (S' := T21.setTop (mkF m 21 #[.val (.ref nm), .val (.ref b7), .val (.int (3 : Int32)), .val (.int (2 : Int32)), .val (.ref wR)] [])) (fun t k => XS.icmpNo X21.here hx rfl (hb hby d7_18) rfl (tlt (by decide : (2 : Int32) < (3 : Int32))).2.1 k) ?_
  refine own_via (S' := T21.setTop (mkF m 22 #[.val (.ref nm), .val (.ref b7), .val (.int (3 : Int32)), .val (.int (2 : Int32)), .val (.ref wR)] [(.ref b7)])) (fun t k => XS.aloadN X21.here hx rfl (hb hby d7_21) rfl rfl k) ?_
  refine own_via (S' := T21.setTop (mkF m 23 #[.val (.ref nm), .val (.ref b7), .val (.int (3 : Int32)), .val (.int (2 : Int32)), .val (.ref wR)] [(.int (2 : Int32)), (.ref b7)])) (fun t k => XS.iloadN X21.here hx rfl (hb hby d7_22) rfl k) ?_
  obtain ⟨cl32, Ar32, q32, S32, M32, H32, U32⟩ := id f7_0
  have hin32 : ¬ ((2 : Int32) < 0 ∨ cl32.slots.size ≤ ((2 : Int32)).toNatClampNeg) := inb_of S32 ⟨by decide, by decide⟩
  refine own_via (S' := T21.setTop (mkF m 24 #[.val (.ref nm), .val (.ref b7), .val (.int (3 : Int32)), .val (.int (2 : Int32)), .val (.ref wR)] [(.ref wW)])) (fun t k => X21.aaload hx (j := (2 : Int32)) (v := (.ref wW)) (by first | (rw [e21]; exact Ar32.1) | exact Ar32.1) (State.isArrayOf_alike hZ.alike Ar32.2.1) rfl Ar32.2.2 hin32 (Has.at H32 hin32 rfl) (g := (mkF m 23 #[.val (.ref nm), .val (.ref b7), .val (.int (3 : Int32)), .val (.int (2 : Int32)), .val (.ref wR)] [(.int (2 : Int32)), (.ref b7)])) rfl rfl (hb hby d7_23) _ k) ?_
  refine own_via (S' := T21.setTop (mkF m 26 #[.val (.ref nm), .val (.ref b7), .val (.int (3 : Int32)), .val (.int (2 : Int32)), .val (.ref wW)] [])) (fun t k => XS.astore X21.here hx rfl (hb hby d7_24) rfl rfl (l' := #[.val (.ref nm), .val (.ref b7), .val (.int (3 : Int32)), .val (.int (2 : Int32)), .val (.ref wW)]) rfl k) ?_
  refine own_via (S' := T21.setTop (mkF m 28 #[.val (.ref nm), .val (.ref b7), .val (.int (3 : Int32)), .val (.int (2 : Int32)), .val (.ref wW)] [(.ref wW)])) (fun t k => XS.aload X21.here hx rfl (hb hby d7_26) rfl rfl k) ?_
  obtain ⟨T33, X33, e33, st33⟩ := getS2 X21 hx hZ hown (host := "") (Or.inl (wd60 hw)) Via.refl e21 cx15 (g := (mkF m 28 #[.val (.ref nm), .val (.ref b7), .val (.int (3 : Int32)), .val (.int (2 : Int32)), .val (.ref wW)] [(.ref wW)])) rfl (hb hby d7_28)
  refine own_via (S' := T33.setTop (mkF m 31 #[.val (.ref nm), .val (.ref b7), .val (.int (3 : Int32)), .val (.int (2 : Int32)), .val (.ref wW)] [(.ref wN), (.ref wW)])) st33 ?_
  refine own_via (S' := T33.setTop (mkF m 34 #[.val (.ref nm), .val (.ref b7), .val (.int (3 : Int32)), .val (.int (2 : Int32)), .val (.ref wW)] [])) (fun t k => Jvm.RoadKit.acmp (g := (mkF m 31 #[.val (.ref nm), .val (.ref b7), .val (.int (3 : Int32)), .val (.int (2 : Int32)), .val (.ref wW)] [(.ref wN), (.ref wW)])) X33 hx rfl rfl rfl (pc0 := 31) (pc' := 34) (same := false) rfl (hb hby d7_31) rfl (decide_eq_false fun q => hWN (Value.ref.inj q)) (by decide) (by decide) k) ?_
  refine own_via (S' := T33.setTop (mkF m 36 #[.val (.ref nm), .val (.ref b7), .val (.int (3 : Int32)), .val (.int (2 : Int32)), .val (.ref wW)] [(.ref wW)])) (fun t k => XS.aload X33.here hx rfl (hb hby d7_34) rfl rfl k) ?_
  have cx34 : Fld Z T7.heap wW "com/example/regent/regent/AccessLevel" "externalName" "Ljava/lang/String;" (.ref xW) := zf_F_wW_externalName.ext O10.2
  obtain ⟨T35, X35, e35, st35⟩ := getF X33 hx hZ hown (host := "") (Or.inl (wd61 hw)) Via.refl e33 cx34 (g := (mkF m 36 #[.val (.ref nm), .val (.ref b7), .val (.int (3 : Int32)), .val (.int (2 : Int32)), .val (.ref wW)] [(.ref wW)])) rfl rfl (hb hby d7_36)
  refine own_via (S' := T35.setTop (mkF m 39 #[.val (.ref nm), .val (.ref b7), .val (.int (3 : Int32)), .val (.int (2 : Int32)), .val (.ref wW)] [(.ref xW)])) st35 ?_
  refine own_via (S' := T35.setTop (mkF m 40 #[.val (.ref nm), .val (.ref b7), .val (.int (3 : Int32)), .val (.int (2 : Int32)), .val (.ref wW)] [(.ref nm), (.ref xW)])) (fun t k => XS.aloadN X35.here hx rfl (hb hby d7_39) rfl rfl k) ?_
  have cx37 : Exa Z T7.heap xW "java/lang/String" := zf_E_xW.ext O10.2
  have cx38 : Fld Z T7.heap xW "java/lang/String" "value" "[B" (.ref tW) := zf_F_xW_value.ext O10.2
  have cx39 : Fld Z T7.heap xW "java/lang/String" "coder" "B" (.int (0 : Int32)) := zf_F_xW_coder.ext O10.2
  have cx40 : Arv Z T7.heap tW kW .byte (10 : Int32) [(.int (114 : Int32)), (.int (101 : Int32)), (.int (97 : Int32)), (.int (100 : Int32)), (.int (95 : Int32)), (.int (119 : Int32)), (.int (114 : Int32)), (.int (105 : Int32)), (.int (116 : Int32)), (.int (101 : Int32))] (.int (0 : Int32)) := zf_A_tW.ext O10.2
  have hwe36 := own_mwe hw
  obtain ⟨cq36, kq36, q36a, q36b, q36c⟩ := isOf hZ e35 cx37
  obtain ⟨_, _, ⟨T36, Lp36, kp36, np36⟩, -, X36, ⟨Lc36, hQ36, l36, y36, z36⟩, st36⟩ := X35.virtualBack hx (y := mt4) (z := mt4) hown (mvT hZ (wd63 hw)) (mvT hZ (wd64 hw)) (notFace_of_selects (args := #[]) (mvT hZ (wd66 hw))) (mvT hZ (wd66 hw)) (mvT hZ (wd65 hw)) (by decide) (StrChars.Road.eqW (W := 0) hZ hwe36 (kI := 4) (wd4 hw) cx37 cx38 cx39 cx40 (StrChars.Road.codOf (cs := ([(114 : Int32), (101 : Int32), (97 : Int32), (100 : Int32), (95 : Int32), (119 : Int32), (114 : Int32), (105 : Int32), (116 : Int32), (101 : Int32)] : List Int32)) rfl (fun c hc => (hpW c hc).2)) (own_up ([(114 : Int32), (101 : Int32), (97 : Int32), (100 : Int32), (95 : Int32), (119 : Int32), (114 : Int32), (105 : Int32), (116 : Int32), (101 : Int32)] : List Int32) hpW) (by first | decide | exact Nat.le_of_ble_eq_true rfl) cx26 cx27 cx28 cx29 (StrChars.Road.codOf (cs := ([(114 : Int32), (101 : Int32), (97 : Int32), (100 : Int32), (95 : Int32), (119 : Int32), (114 : Int32), (105 : Int32), (116 : Int32), (101 : Int32)] : List Int32)) rfl (fun c hc => (hpW c hc).2)) (own_up ([(114 : Int32), (101 : Int32), (97 : Int32), (100 : Int32), (95 : Int32), (119 : Int32), (114 : Int32), (105 : Int32), (116 : Int32), (101 : Int32)] : List Int32) hpW) (by first | decide | exact Nat.le_of_ble_eq_true rfl) cx30 hzc (by decide) (by decide)) q36a q36c (g := (mkF m 40 #[.val (.ref nm), .val (.ref b7), .val (.int (3 : Int32)), .val (.int (2 : Int32)), .val (.ref wW)] [(.ref nm), (.ref xW)])) rfl (by rw [hml]; rfl) (Steps.refl _) (argsL := [(.ref nm)]) (rest := []) (lenOf pd__Ljava_lang_Object__Z_1835 rfl) rfl (by show 2 * 0 + _ ≤ _; exact Nat.le_of_eq rfl) (hb hby d7_40) (fun _ _ => ⟨rfl, e35, (by decide : 3 + 0 ≤ _), (by decide : 23 + 0 ≤ _)⟩)
  dsimp only [Pt.U, Pt.locs, Pt.cells, Pt.slots] at X36 l36 y36 z36 st36 hQ36
  subst Lp36 kp36 np36
  obtain ⟨hv36, rfl, e36⟩ := hQ36
  obtain ⟨zq36, hzq36, rfl⟩ : ∃ z : Int32, z = (if ([(114 : Int32), (101 : Int32), (97 : Int32), (100 : Int32), (95 : Int32), (119 : Int32), (114 : Int32), (105 : Int32), (116 : Int32), (101 : Int32)] : List Int32) = ([(114 : Int32), (101 : Int32), (97 : Int32), (100 : Int32), (95 : Int32), (119 : Int32), (114 : Int32), (105 : Int32), (116 : Int32), (101 : Int32)] : List Int32) then (1 : Int32) else (0 : Int32)) ∧ _ = some (Value.int z) := by rcases hv36 with ⟨q1, q2⟩ | ⟨q1, q2⟩; exact ⟨_, (if_pos q2).symm, q1⟩; exact ⟨_, (if_neg q2).symm, q1⟩
  try rw [List.append_nil] at X36
  refine own_tr (S' := T36.setTop (mkF m 43 #[.val (.ref nm), .val (.ref b7), .val (.int (3 : Int32)), .val (.int (2 : Int32)), .val (.ref wW)] [(.int zq36)])) st36 ?_
  obtain rfl : zq36 = (1 : Int32) := hzq36.trans (if_pos rfl)
  refine own_via (S' := T36.setTop (mkF m 46 #[.val (.ref nm), .val (.ref b7), .val (.int (3 : Int32)), .val (.int (2 : Int32)), .val (.ref wW)] [])) (fun t k => XS.ifNo X36.here hx rfl (hb hby d7_43) rfl ((if0 _ _).trans (feq (by decide : ¬ ((1 : Int32) = (0 : Int32)))).1) k) ?_
  refine own_via (S' := T36.setTop (mkF m 48 #[.val (.ref nm), .val (.ref b7), .val (.int (3 : Int32)), .val (.int (2 : Int32)), .val (.ref wW)] [(.ref wW)])) (fun t k => XS.aload X36.here hx rfl (hb hby d7_46) rfl rfl k) ?_
  have RTR9 : CHr Z own_EL s.vm h0 T36.vm T7.heap := R9.trans (CHv.at X36 hZ hEL R9.1)
  have RXR9 : CHr Z own_EL s.vm s.heap T36.vm T36.heap := by rw [hh, e36]; exact RTR9
  refine own_retW (Q := Q_own_pgW Z nm tn kn zc wV kV wN wR wW xR tR kR xW tW kW h0 n0) (C := ({ frames := 2, cells := 3, slots := 23, locals := 28 } : Room).cells) (N := ({ frames := 2, cells := 3, slots := 23, locals := 28 } : Room).slots) X36 hS1 (by rw [e36]; omega) (v := some (.ref wW)) (fun h => by rw [Bd.returns] at h; cases h) Bd.notSynchronized ?_ RXR9 (by decide) (by decide) (fun fs hr => retOut X36 hx Bd.returns rfl (Or.inr (Or.inr (Or.inr (Or.inr ⟨rfl, rfl, rfl⟩)))) (hb hby d7_48) hr)
  show Q_own_pgW Z nm tn kn zc wV kV wN wR wW xR tR kR xW tW kW h0 n0 _ T36.vm T36.heap _
  rw [e36]
  exact ⟨rfl, N7, K11⟩
def Q_own_law (Z : State) (p0 : Int32) (zc : Int32) (wV : Addr) (kV : ClassId) (wN : Addr) (wR : Addr) (wW : Addr) (xR : Addr) (tR : Addr) (kR : ClassId) (xW : Addr) (tW : Addr) (kW : ClassId) (h0 : Heap) (n0 : Nat) (v : Option Value) (vm : Vm) (h : Heap) (L : List Loc) : Prop := v = some (.int (1 : Int32)) ∧ Fr n0 L
set_option maxRecDepth 65536 in
set_option maxHeartbeats 40000000 in
theorem own_law (l : Launch) (Z : State) (a0 : Array Value) (hw : ∀ d ∈ tables_1, d.before a0 Z = true) (ws : List Jvm.Cond) (p0 : Int32) (zc : Int32) (wV : Addr) (kV : ClassId) (wN : Addr) (wR : Addr) (wW : Addr) (xR : Addr) (tR : Addr) (kR : ClassId) (xW : Addr) (tW : Addr) (kW : ClassId) (h0 : Heap) (n0 : Nat) (O0 : Old Z n0 h0) (zf_S_java_lang_String_COMPACT_STRINGS : Sta Z Z.heap "java/lang/String" "COMPACT_STRINGS" "Z" (.int zc)) (zf_S_com_example_regent_regent_AccessLevel__VALUES : Sta Z Z.heap "com/example/regent/regent/AccessLevel" "$VALUES" "[Lcom/example/regent/regent/AccessLevel;" (.ref wV)) (zf_E_wV : Exa Z Z.heap wV "[Lcom/example/regent/regent/AccessLevel;") (zf_A_wV : Arv Z Z.heap wV kV (.object "com/example/regent/regent/AccessLevel") (3 : Int32) [(.ref wN), (.ref wR), (.ref wW)] .null) (zf_S_com_example_regent_regent_AccessLevel_NONE : Sta Z Z.heap "com/example/regent/regent/AccessLevel" "NONE" "Lcom/example/regent/regent/AccessLevel;" (.ref wN)) (zf_S_com_example_regent_regent_AccessLevel_READ : Sta Z Z.heap "com/example/regent/regent/AccessLevel" "READ" "Lcom/example/regent/regent/AccessLevel;" (.ref wR)) (zf_S_com_example_regent_regent_AccessLevel_READ_WRITE : Sta Z Z.heap "com/example/regent/regent/AccessLevel" "READ_WRITE" "Lcom/example/regent/regent/AccessLevel;" (.ref wW)) (zf_E_wR : Exa Z Z.heap wR "com/example/regent/regent/AccessLevel") (zf_E_wW : Exa Z Z.heap wW "com/example/regent/regent/AccessLevel") (zf_F_wR_externalName : Fld Z Z.heap wR "com/example/regent/regent/AccessLevel" "externalName" "Ljava/lang/String;" (.ref xR)) (zf_E_xR : Exa Z Z.heap xR "java/lang/String") (zf_F_xR_coder : Fld Z Z.heap xR "java/lang/String" "coder" "B" (.int (0 : Int32))) (zf_F_xR_value : Fld Z Z.heap xR "java/lang/String" "value" "[B" (.ref tR)) (zf_A_tR : Arv Z Z.heap tR kR .byte (4 : Int32) [(.int (114 : Int32)), (.int (101 : Int32)), (.int (97 : Int32)), (.int (100 : Int32))] (.int (0 : Int32))) (zf_F_wW_externalName : Fld Z Z.heap wW "com/example/regent/regent/AccessLevel" "externalName" "Ljava/lang/String;" (.ref xW)) (zf_E_xW : Exa Z Z.heap xW "java/lang/String") (zf_F_xW_coder : Fld Z Z.heap xW "java/lang/String" "coder" "B" (.int (0 : Int32))) (zf_F_xW_value : Fld Z Z.heap xW "java/lang/String" "value" "[B" (.ref tW)) (zf_A_tW : Arv Z Z.heap tW kW .byte (10 : Int32) [(.int (114 : Int32)), (.int (101 : Int32)), (.int (97 : Int32)), (.int (100 : Int32)), (.int (95 : Int32)), (.int (119 : Int32)), (.int (114 : Int32)), (.int (105 : Int32)), (.int (116 : Int32)), (.int (101 : Int32))] (.int (0 : Int32))) (hzc : ¬ (zc = (0 : Int32))) (hRN : ¬ (wR = wN)) (hWN : ¬ (wW = wN)) :
    MetFree l x (head1 (Jvm.Cond.code x code maxLocals ret :: ws) room_1) (fun aq U => aq = #[(.int p0)] ∧ Z.Warmed39 U.vm ∧ U.heap = h0 ∧ CHv Z own_EL U.vm h0 ∧ ∀ x ∈ ([] : List Addr), Safe Z own_EL U.vm h0 x) (fun _ _ _ _ _ => True) (fun _ U o U' => ∃ v L, o = .returned v ∧ Q_own_law Z p0 zc wV kV wN wR wW xR tR kR xW tW kW h0 n0 v U'.vm U'.heap L ∧ CHr Z own_EL U.vm U.heap U'.vm U'.heap ∧ ReturnedEndW U o U' L room_1.cells room_1.slots) := by
  refine MetFree.of_bodySF (plainFor_of_name pn_com_example_regent_regent_AccessLevelParseGrantPinLaw) hisR ?_
  intro p e s m args below meth c s₁ Bd hml0 hP hK
  obtain ⟨rfl, hZ, hh, hCH, hSL⟩ := hP
  have hx := Bd.exec
  have hby := Bd.bytes
  have hml : c.maxLocals = 5 := hml0
  have hown : s.vm.findClass "com/example/regent/regent/AccessLevelParseGrantPinLaw" = some m.cls := findClass_of_methodNamed Bd.named
  have hnm := (name_of_methodNamed Bd.named Bd.method).1
  have X0 : Stand p l e room_1 (s.setVm s.vm) m #[(.int p0)] below meth c s₁ [] 0 0 := Stand.of_body Bd
  have e0 : s₁.heap = h0 := by rw [← hh, Bd.state]; rfl
  have N0 := Fr.nil n0
  have zO := O0.1
  have zO2 := O0.2.1
  have zl_E_wV : Z.heap.size > wV := zf_E_wV.lt
  have zl_E_wR : Z.heap.size > wR := zf_E_wR.lt
  have zl_E_wW : Z.heap.size > wW := zf_E_wW.lt
  have zl_F_wR_externalName : Z.heap.size > wR := zf_F_wR_externalName.lt
  have zl_E_xR : Z.heap.size > xR := zf_E_xR.lt
  have zl_F_xR_coder : Z.heap.size > xR := zf_F_xR_coder.lt
  have zl_F_xR_value : Z.heap.size > xR := zf_F_xR_value.lt
  have zl_F_wW_externalName : Z.heap.size > wW := zf_F_wW_externalName.lt
  have zl_E_xW : Z.heap.size > xW := zf_E_xW.lt
  have zl_F_xW_coder : Z.heap.size > xW := zf_F_xW_coder.lt
  have zl_F_xW_value : Z.heap.size > xW := zf_F_xW_value.lt
  refine own_open (own_via (S' := s₁.setTop (mkF m 0 #[.val (.int p0), .unset, .unset, .unset, .unset] [])) (fun t k => castTop (ef_own_law m p0) k) ?_)
  have hEL := own_EW hw
  have hS0 : s.Since s.vm h0.size := (State.WarmedH.refl s).since _
  have R0 : CHr Z own_EL s.vm h0 s.vm h0 := CHr.refl hCH
  have hpR : ∀ c ∈ ([(114 : Int32), (101 : Int32), (97 : Int32), (100 : Int32)] : List Int32), ¬ c < 0 ∧ ¬ (255 : Int32) < c := by decide
  have hpW : ∀ c ∈ ([(114 : Int32), (101 : Int32), (97 : Int32), (100 : Int32), (95 : Int32), (119 : Int32), (114 : Int32), (105 : Int32), (116 : Int32), (101 : Int32)] : List Int32), ¬ c < 0 ∧ ¬ (255 : Int32) < c := by decide
  refine own_via (S' := s₁.setTop (mkF m 1 #[.val (.int p0), .unset, .unset, .unset, .unset] [(.int p0)])) (fun t k => XS.iloadN X0.here hx rfl (hb hby at_0) rfl k) ?_
  refine own_via (S' := s₁.setTop (mkF m 2 #[.val (.int p0), .unset, .unset, .unset, .unset] [(.int (1 : Int32)), (.int p0)])) (fun t k => XS.iconst X0.here hx rfl (hb hby at_1) k) ?_
  refine own_via (S' := s₁.setTop (mkF m 3 #[.val (.int p0), .unset, .unset, .unset, .unset] [(.int (p0 &&& (1 : Int32)))])) (fun t k => XS.iand X0.here hx rfl (hb hby at_2) rfl k) ?_
  by_cases hc3_1 : (p0 &&& (1 : Int32)) = (0 : Int32)
  · -- yes
    refine own_via (S' := s₁.setTop (mkF m 10 #[.val (.int p0), .unset, .unset, .unset, .unset] [])) (fun t k => XS.ifYes X0.here hx rfl (pc0 := 3) (pc' := 10) rfl (hb hby at_3) rfl ((if0 _ _).trans (teq hc3_1).1) (by decide) (by decide) k) ?_
    refine own_via (S' := s₁.setTop (mkF m 11 #[.val (.int p0), .unset, .unset, .unset, .unset] [(.int (0 : Int32))])) (fun t k => XS.iconst X0.here hx rfl (hb hby at_10) k) ?_
    refine own_via (S' := s₁.setTop (mkF m 12 #[.val (.int p0), .val (.int (0 : Int32)), .unset, .unset, .unset] [])) (fun t k => XS.istoreN X0.here hx rfl (hb hby at_11) rfl (l' := #[.val (.int p0), .val (.int (0 : Int32)), .unset, .unset, .unset]) rfl k) ?_
    refine own_via (S' := s₁.setTop (mkF m 13 #[.val (.int p0), .val (.int (0 : Int32)), .unset, .unset, .unset] [(.int (0 : Int32))])) (fun t k => XS.iloadN X0.here hx rfl (hb hby at_12) rfl k) ?_
    refine own_via (S' := s₁.setTop (mkF m 22 #[.val (.int p0), .val (.int (0 : Int32)), .unset, .unset, .unset] [])) (fun t k => XS.ifYes X0.here hx rfl (pc0 := 13) (pc' := 22) rfl (hb hby at_13) rfl ((if0 _ _).trans (teq (by decide : (0 : Int32) = (0 : Int32))).1) (by decide) (by decide) k) ?_
    have cx2 : Sta Z h0 "com/example/regent/regent/AccessLevel" "READ" "Lcom/example/regent/regent/AccessLevel;" (.ref wR) := zf_S_com_example_regent_regent_AccessLevel_READ.ext O0.2
    obtain ⟨T3, X3, e3, st3⟩ := getS2 X0 hx hZ hown (host := "") (Or.inl (wd0 hw)) Via.refl e0 cx2 (g := (mkF m 22 #[.val (.int p0), .val (.int (0 : Int32)), .unset, .unset, .unset] [])) rfl (hb hby at_22)
    refine own_via (S' := T3.setTop (mkF m 25 #[.val (.int p0), .val (.int (0 : Int32)), .unset, .unset, .unset] [(.ref wR)])) st3 ?_
    refine own_via (S' := T3.setTop (mkF m 26 #[.val (.int p0), .val (.int (0 : Int32)), .val (.ref wR), .unset, .unset] [])) (fun t k => XS.astoreN X3.here hx rfl (hb hby at_25) rfl rfl (l' := #[.val (.int p0), .val (.int (0 : Int32)), .val (.ref wR), .unset, .unset]) rfl k) ?_
    refine own_via (S' := T3.setTop (mkF m 27 #[.val (.int p0), .val (.int (0 : Int32)), .val (.ref wR), .unset, .unset] [(.int (0 : Int32))])) (fun t k => XS.iloadN X3.here hx rfl (hb hby at_26) rfl k) ?_
    refine own_via (S' := T3.setTop (mkF m 98 #[.val (.int p0), .val (.int (0 : Int32)), .val (.ref wR), .unset, .unset] [])) (fun t k => XS.ifYes X3.here hx rfl (pc0 := 27) (pc' := 98) rfl (hb hby at_27) rfl ((if0 _ _).trans (teq (by decide : (0 : Int32) = (0 : Int32))).1) (by decide) (by decide) k) ?_
    obtain ⟨T4, h4, X4, e4, E4, A4, D4, -, st4⟩ := newO X3 hx hZ hown (wd3 hw) (wd4 hw) (wd5 hw) e3 (g := (mkF m 98 #[.val (.int p0), .val (.int (0 : Int32)), .val (.ref wR), .unset, .unset] [])) rfl (hb hby at_98) (by decide) (by decide)
    obtain ⟨b4, g4⟩ : ∃ z, z = h0.size := ⟨_, rfl⟩
    rw [← g4] at A4 D4 st4
    have lt_b4 : h4.size > b4 := A4.lt
    have sz5 : h0.size ≤ h4.size := E4.1
    have O6 : Old Z n0 h4 := O0.ext E4
    have R7 : CHr Z own_EL s.vm h0 s.vm h4 := R0.trans (CHr.ext E4 R0.1)
    have SF_b4 : Safe Z own_EL s.vm h4 b4 := Safe.ext E4 R0.1 (Safe.new (Nat.le_of_eq g4.symm))
    have F4_coder : Fld Z h4 b4 "java/lang/String" "coder" "B" (.int (0 : Int32)) := D4 (Or.inr (wd30 hw)) (ty := .byte) (by decide)
    have F4_value : Fld Z h4 b4 "java/lang/String" "value" "[B" .null := D4 (Or.inr (wd32 hw)) (ty := (.array .byte)) (by decide)
    refine own_via (S' := T4.setTop (mkF m 101 #[.val (.int p0), .val (.int (0 : Int32)), .val (.ref wR), .unset, .unset] [(.ref b4)])) st4 ?_
    refine own_via (S' := T4.setTop (mkF m 102 #[.val (.int p0), .val (.int (0 : Int32)), .val (.ref wR), .unset, .unset] [(.ref b4), (.ref b4)])) (fun t k => XS.dup X4.here hx rfl (hb hby at_101) rfl rfl k) ?_
    refine own_via (S' := T4.setTop (mkF m 103 #[.val (.int p0), .val (.int (0 : Int32)), .val (.ref wR), .unset, .unset] [(.int (4 : Int32)), (.ref b4), (.ref b4)])) (fun t k => XS.iconst X4.here hx rfl (hb hby at_102) k) ?_
    obtain ⟨T8, h8, k8, X8, e8, E8, A8, st8⟩ := newP (aty := .char) X4 hx hZ (wd6 hw) e4 (g := (mkF m 103 #[.val (.int p0), .val (.int (0 : Int32)), .val (.ref wR), .unset, .unset] [(.int (4 : Int32)), (.ref b4), (.ref b4)])) rfl (hb hby at_103) rfl (by decide : ¬ ((4 : Int32) < (0 : Int32))) (cap := 4) (by decide) (by decide) (by decide) (by decide)
    obtain ⟨b8, g8⟩ : ∃ z, z = h4.size := ⟨_, rfl⟩
    rw [← g8] at A8 st8
    have lt_b8 : h8.size > b8 := A8.lt
    have sz9 : h4.size ≤ h8.size := E8.1
    have O10 : Old Z n0 h8 := O6.ext E8
    have R11 : CHr Z own_EL s.vm h0 s.vm h8 := R7.trans (CHr.ext E8 R7.1)
    have V8 : Arv Z h8 b8 k8 .char (4 : Int32) [(.int (0 : Int32)), (.int (0 : Int32)), (.int (0 : Int32)), (.int (0 : Int32))] (.int (0 : Int32)) := (Arv.new A8 (by decide)).pad (pad_rep [] (.int (0 : Int32)) 4)
    refine own_via (S' := T8.setTop (mkF m 105 #[.val (.int p0), .val (.int (0 : Int32)), .val (.ref wR), .unset, .unset] [(.ref b8), (.ref b4), (.ref b4)])) st8 ?_
    refine own_via (S' := T8.setTop (mkF m 106 #[.val (.int p0), .val (.int (0 : Int32)), .val (.ref wR), .unset, .unset] [(.ref b8), (.ref b8), (.ref b4), (.ref b4)])) (fun t k => XS.dup X8.here hx rfl (hb hby at_105) rfl rfl k) ?_
    refine own_via (S' := T8.setTop (mkF m 107 #[.val (.int p0), .val (.int (0 : Int32)), .val (.ref wR), .unset, .unset] [(.int (0 : Int32)), (.ref b8), (.ref b8), (.ref b4), (.ref b4)])) (fun t k => XS.iconst X8.here hx rfl (hb hby at_106) k) ?_
    refine own_via (S' := T8.setTop (mkF m 109 #[.val (.int p0), .val (.int (0 : Int32)), .val (.ref wR), .unset, .unset] [(.int (114 : Int32)), (.int (0 : Int32)), (.ref b8), (.ref b8), (.ref b4), (.ref b4)])) (fun t k => XS.bipush X8.here hx rfl (hb hby at_107) k) ?_
    obtain ⟨cl12, Ar12, q12, S12, M12, H12, U12⟩ := id V8
    obtain ⟨T12, h12, X12, e12, W12, st12⟩ := stC X8 hx hZ e8 Ar12 (j := (0 : Int32)) (inb_of S12 ⟨by decide, by decide⟩) (g := (mkF m 109 #[.val (.int p0), .val (.int (0 : Int32)), .val (.ref wR), .unset, .unset] [(.int (114 : Int32)), (.int (0 : Int32)), (.ref b8), (.ref b8), (.ref b4), (.ref b4)])) rfl rfl (hb hby at_109)
    have sf12 : Safe Z own_EL s.vm h8 b8 := (Safe.arv hZ.alike V8 (by decide))
    have sz13 : h8.size ≤ h12.size := Nat.le_of_eq W12.size.symm
    have R14 : CHr Z own_EL s.vm h0 s.vm h12 := R11.trans (CHr.wr W12 sf12 R11.1)
    have O15 : Old Z n0 h12 := O10.wr W12 (by omega : n0 ≤ b8)
    have N12 := Fr.snoc X12 N0 (by omega : n0 ≤ b8)
    have V12 : Arv Z h12 b8 k8 .char (4 : Int32) [(.int (114 : Int32)), (.int (0 : Int32)), (.int (0 : Int32)), (.int (0 : Int32))] (.int (0 : Int32)) := Arv.set Ar12 q12 S12 M12 H12 U12 (fits_nar_char _) W12 0 rfl (Nat.le_of_ble_eq_true rfl)
    refine own_via (S' := T12.setTop (mkF m 110 #[.val (.int p0), .val (.int (0 : Int32)), .val (.ref wR), .unset, .unset] [(.ref b8), (.ref b4), (.ref b4)])) st12 ?_
    refine own_via (S' := T12.setTop (mkF m 111 #[.val (.int p0), .val (.int (0 : Int32)), .val (.ref wR), .unset, .unset] [(.ref b8), (.ref b8), (.ref b4), (.ref b4)])) (fun t k => XS.dup X12.here hx rfl (hb hby at_110) rfl rfl k) ?_
    refine own_via (S' := T12.setTop (mkF m 112 #[.val (.int p0), .val (.int (0 : Int32)), .val (.ref wR), .unset, .unset] [(.int (1 : Int32)), (.ref b8), (.ref b8), (.ref b4), (.ref b4)])) (fun t k => XS.iconst X12.here hx rfl (hb hby at_111) k) ?_
    refine own_via (S' := T12.setTop (mkF m 114 #[.val (.int p0), .val (.int (0 : Int32)), .val (.ref wR), .unset, .unset] [(.int (101 : Int32)), (.int (1 : Int32)), (.ref b8), (.ref b8), (.ref b4), (.ref b4)])) (fun t k => XS.bipush X12.here hx rfl (hb hby at_112) k) ?_
    obtain ⟨cl16, Ar16, q16, S16, M16, H16, U16⟩ := id V12
    obtain ⟨T16, h16, X16, e16, W16, st16⟩ := stC X12 hx hZ e12 Ar16 (j := (1 : Int32)) (inb_of S16 ⟨by decide, by decide⟩) (g := (mkF m 114 #[.val (.int p0), .val (.int (0 : Int32)), .val (.ref wR), .unset, .unset] [(.int (101 : Int32)), (.int (1 : Int32)), (.ref b8), (.ref b8), (.ref b4), (.ref b4)])) rfl rfl (hb hby at_114)
    have sf16 : Safe Z own_EL s.vm h12 b8 := (Safe.arv hZ.alike V12 (by decide))
    have sz17 : h12.size ≤ h16.size := Nat.le_of_eq W16.size.symm
    have R18 : CHr Z own_EL s.vm h0 s.vm h16 := R14.trans (CHr.wr W16 sf16 R14.1)
    have O19 : Old Z n0 h16 := O15.wr W16 (by omega : n0 ≤ b8)
    have N16 := Fr.snoc X16 N12 (by omega : n0 ≤ b8)
    have V16 : Arv Z h16 b8 k8 .char (4 : Int32) [(.int (114 : Int32)), (.int (101 : Int32)), (.int (0 : Int32)), (.int (0 : Int32))] (.int (0 : Int32)) := Arv.set Ar16 q16 S16 M16 H16 U16 (fits_nar_char _) W16 1 rfl (Nat.le_of_ble_eq_true rfl)
    refine own_via (S' := T16.setTop (mkF m 115 #[.val (.int p0), .val (.int (0 : Int32)), .val (.ref wR), .unset, .unset] [(.ref b8), (.ref b4), (.ref b4)])) st16 ?_
    refine own_via (S' := T16.setTop (mkF m 116 #[.val (.int p0), .val (.int (0 : Int32)), .val (.ref wR), .unset, .unset] [(.ref b8), (.ref b8), (.ref b4), (.ref b4)])) (fun t k => XS.dup X16.here hx rfl (hb hby at_115) rfl rfl k) ?_
    refine own_via (S' := T16.setTop (mkF m 117 #[.val (.int p0), .val (.int (0 : Int32)), .val (.ref wR), .unset, .unset] [(.int (2 : Int32)), (.ref b8), (.ref b8), (.ref b4), (.ref b4)])) (fun t k => XS.iconst X16.here hx rfl (hb hby at_116) k) ?_
    refine own_via (S' := T16.setTop (mkF m 119 #[.val (.int p0), .val (.int (0 : Int32)), .val (.ref wR), .unset, .unset] [(.int (97 : Int32)), (.int (2 : Int32)), (.ref b8), (.ref b8), (.ref b4), (.ref b4)])) (fun t k => XS.bipush X16.here hx rfl (hb hby at_117) k) ?_
    obtain ⟨cl20, Ar20, q20, S20, M20, H20, U20⟩ := id V16
    obtain ⟨T20, h20, X20, e20, W20, st20⟩ := stC X16 hx hZ e16 Ar20 (j := (2 : Int32)) (inb_of S20 ⟨by decide, by decide⟩) (g := (mkF m 119 #[.val (.int p0), .val (.int (0 : Int32)), .val (.ref wR), .unset, .unset] [(.int (97 : Int32)), (.int (2 : Int32)), (.ref b8), (.ref b8), (.ref b4), (.ref b4)])) rfl rfl (hb hby at_119)
    have sf20 : Safe Z own_EL s.vm h16 b8 := (Safe.arv hZ.alike V16 (by decide))
    have sz21 : h16.size ≤ h20.size := Nat.le_of_eq W20.size.symm
    have R22 : CHr Z own_EL s.vm h0 s.vm h20 := R18.trans (CHr.wr W20 sf20 R18.1)
    have O23 : Old Z n0 h20 := O19.wr W20 (by omega : n0 ≤ b8)
    have N20 := Fr.snoc X20 N16 (by omega : n0 ≤ b8)
    have V20 : Arv Z h20 b8 k8 .char (4 : Int32) [(.int (114 : Int32)), (.int (101 : Int32)), (.int (97 : Int32)), (.int (0 : Int32))] (.int (0 : Int32)) := Arv.set Ar20 q20 S20 M20 H20 U20 (fits_nar_char _) W20 2 rfl (Nat.le_of_ble_eq_true rfl)
    refine own_via (S' := T20.setTop (mkF m 120 #[.val (.int p0), .val (.int (0 : Int32)), .val (.ref wR), .unset, .unset] [(.ref b8), (.ref b4), (.ref b4)])) st20 ?_
    refine own_via (S' := T20.setTop (mkF m 121 #[.val (.int p0), .val (.int (0 : Int32)), .val (.ref wR), .unset, .unset] [(.ref b8), (.ref b8), (.ref b4), (.ref b4)])) (fun t k => XS.dup X20.here hx rfl (hb hby at_120) rfl rfl k) ?_
    refine own_via (S' := T20.setTop (mkF m 122 #[.val (.int p0), .val (.int (0 : Int32)), .val (.ref wR), .unset, .unset] [(.int (3 : Int32)), (.ref b8), (.ref b8), (.ref b4), (.ref b4)])) (fun t k => XS.iconst X20.here hx rfl (hb hby at_121) k) ?_
    refine own_via (S' := T20.setTop (mkF m 124 #[.val (.int p0), .val (.int (0 : Int32)), .val (.ref wR), .unset, .unset] [(.int (100 : Int32)), (.int (3 : Int32)), (.ref b8), (.ref b8), (.ref b4), (.ref b4)])) (fun t k => XS.bipush X20.here hx rfl (hb hby at_122) k) ?_
    obtain ⟨cl24, Ar24, q24, S24, M24, H24, U24⟩ := id V20
    obtain ⟨T24, h24, X24, e24, W24, st24⟩ := stC X20 hx hZ e20 Ar24 (j := (3 : Int32)) (inb_of S24 ⟨by decide, by decide⟩) (g := (mkF m 124 #[.val (.int p0), .val (.int (0 : Int32)), .val (.ref wR), .unset, .unset] [(.int (100 : Int32)), (.int (3 : Int32)), (.ref b8), (.ref b8), (.ref b4), (.ref b4)])) rfl rfl (hb hby at_124)
    have sf24 : Safe Z own_EL s.vm h20 b8 := (Safe.arv hZ.alike V20 (by decide))
    have sz25 : h20.size ≤ h24.size := Nat.le_of_eq W24.size.symm
    have R26 : CHr Z own_EL s.vm h0 s.vm h24 := R22.trans (CHr.wr W24 sf24 R22.1)
    have O27 : Old Z n0 h24 := O23.wr W24 (by omega : n0 ≤ b8)
    have N24 := Fr.snoc X24 N20 (by omega : n0 ≤ b8)
    have V24 : Arv Z h24 b8 k8 .char (4 : Int32) [(.int (114 : Int32)), (.int (101 : Int32)), (.int (97 : Int32)), (.int (100 : Int32))] (.int (0 : Int32)) := Arv.set Ar24 q24 S24 M24 H24 U24 (fits_nar_char _) W24 3 rfl (Nat.le_of_ble_eq_true rfl)
    refine own_via (S' := T24.setTop (mkF m 125 #[.val (.int p0), .val (.int (0 : Int32)), .val (.ref wR), .unset, .unset] [(.ref b8), (.ref b4), (.ref b4)])) st24 ?_
    have cx29 : Exa Z h24 b4 "java/lang/String" := (Exa.wr W24 (Exa.wr W20 (Exa.wr W16 (Exa.wr W12 (A4.ext E8)))))
    have ne_b4_b8 : b4 ≠ b8 := by first | omega | exact (Exa.neArv cx29 V24 (wd4 hw))
    have cx30 : Fld Z h24 b4 "java/lang/String" "value" "[B" .null := (Fld.other W24 (Fld.other W20 (Fld.other W16 (Fld.other W12 (F4_value.ext E8) (Or.inl ne_b4_b8)) (Or.inl ne_b4_b8)) (Or.inl ne_b4_b8)) (Or.inl ne_b4_b8))
    have cx31 : Fld Z h24 b4 "java/lang/String" "coder" "B" (.int (0 : Int32)) := (Fld.other W24 (Fld.other W20 (Fld.other W16 (Fld.other W12 (F4_coder.ext E8) (Or.inl ne_b4_b8)) (Or.inl ne_b4_b8)) (Or.inl ne_b4_b8)) (Or.inl ne_b4_b8))
    have cx32 : Sta Z h24 "java/lang/String" "COMPACT_STRINGS" "Z" (.int zc) := zf_S_java_lang_String_COMPACT_STRINGS.ext O27.2
    have hws28 := own_mw hw
    have hp28 : ∀ c ∈ ([(114 : Int32), (101 : Int32), (97 : Int32), (100 : Int32)] : List Int32), ¬ c < 0 ∧ ¬ (255 : Int32) < c := by
      intro c hc
      simp only [List.mem_cons, List.not_mem_nil, or_false] at hc
      rcases hc with rfl | rfl | rfl | rfl
      · exact by decide
      · exact by decide
      · exact by decide
      · exact by decide
    obtain ⟨_, _, ⟨T28, Lp28, kp28, np28⟩, -, X28, ⟨Lc28, hQ28, l28, y28, z28⟩, st28⟩ := X24.specialBack hx (y := mt5) rfl hown (mvT hZ (wd7 hw)) (mvT hZ (wd8 hw)) (mvT hZ (wd9 hw)) (by decide) (StrChars.Road.backV (W := 1) hZ hws28 (kI := 4) (wd4 hw) (cs := ([(114 : Int32), (101 : Int32), (97 : Int32), (100 : Int32)] : List Int32)) (bs := (([(114 : Int32), (101 : Int32), (97 : Int32), (100 : Int32)] : List Int32)).map (fun c => c.toInt8.toInt32)) (n := 4) (by omega : n0 ≤ b4) (by omega : n0 ≤ h24.size) cx29 cx30 cx31 V24 cx32 hzc rfl rfl (by decide) (by decide) hp28 rfl (by decide) (by decide)) (g := (mkF m 125 #[.val (.int p0), .val (.int (0 : Int32)), .val (.ref wR), .unset, .unset] [(.ref b8), (.ref b4), (.ref b4)])) rfl (by rw [hml]; rfl) (Steps.refl _) (a := b4) (argsL := [(.ref b8)]) (rest := [(.ref b4)]) (lenOf pd___C_V_325 rfl) rfl (by show 2 * 0 + _ ≤ _; exact Nat.le_of_eq rfl) (hb hby at_125) (fun _ _ => ⟨rfl, e24, (by decide : 2 + 1 ≤ _), (by decide : 8 + 4 ≤ _)⟩)
    dsimp only [Pt.U, Pt.locs, Pt.cells, Pt.slots] at X28 l28 y28 z28 st28 hQ28
    subst Lp28 kp28 np28
    obtain ⟨rfl, N28q, K28q, f28_0, f28_1, t28, kb28, tg28, tg28', tn28, f28_2, f28_3⟩ := hQ28
    have N28 := Fr.app N24 N28q
    have cx33 : Safe Z own_EL s.vm h24 b4 := (Safe.wr W24 sf24 R22.1 (Safe.wr W20 sf20 R18.1 (Safe.wr W16 sf16 R14.1 (Safe.wr W12 sf12 R11.1 (Safe.ext E8 R7.1 SF_b4)))))
    have sf28 : ∀ x ∈ ([b4] : List Addr), Safe Z own_EL s.vm h24 x := (sfS cx33 sf0)
    have sz34 : h24.size ≤ T28.heap.size := K28q.1
    have R35 : CHr Z own_EL s.vm h0 s.vm T28.heap := R26.trans (CHr.keep K28q sf28 R26.1)
    have O36 : Old Z n0 T28.heap := O27.keep K28q (allS (by omega : n0 ≤ b4) all0)
    have lt_t28 : T28.heap.size > t28 := f28_3.lt
    refine own_tr (S' := T28.setTop (mkF m 128 #[.val (.int p0), .val (.int (0 : Int32)), .val (.ref wR), .unset, .unset] [(.ref b4)])) st28 ?_
    refine own_via (S' := T28.setTop (mkF m 129 #[.val (.int p0), .val (.int (0 : Int32)), .val (.ref wR), .val (.ref b4), .unset] [])) (fun t k => XS.astoreN X28.here hx rfl (hb hby at_128) rfl rfl (l' := #[.val (.int p0), .val (.int (0 : Int32)), .val (.ref wR), .val (.ref b4), .unset]) rfl k) ?_
    refine own_via (S' := T28.setTop (mkF m 130 #[.val (.int p0), .val (.int (0 : Int32)), .val (.ref wR), .val (.ref b4), .unset] [(.ref b4)])) (fun t k => XS.aloadN X28.here hx rfl (hb hby at_129) rfl rfl k) ?_
    have hk37 : h0.size ≤ T28.heap.size := by omega
    obtain ⟨_, _, ⟨T37, Lp37, kp37, np37⟩, -, X37, hS37, hgr37, ⟨Lc37, ⟨hQ37, R37q⟩, l37, y37, z37⟩, st37⟩ := callSS X28 hx (y := mt3) hown (mvT hZ (wd33 hw)) (mvT hZ (wd34 hw)) (mvT hZ (wd1 hw)) (mvT hZ (wd35 hw)) (by decide) (own_backW (SL := []) (W := 0) (own_pgR l Z a0 hw [] b4 t28 kb28 zc wV kV wN wR wW xR tR kR xW tW kW T28.heap n0 O36 zf_S_java_lang_String_COMPACT_STRINGS zf_S_com_example_regent_regent_AccessLevel__VALUES zf_E_wV zf_A_wV zf_S_com_example_regent_regent_AccessLevel_NONE zf_F_wR_externalName zf_E_xR zf_F_xR_coder zf_F_xR_value zf_A_tR zf_F_wW_externalName zf_E_xW zf_F_xW_coder zf_F_xW_value zf_A_tW f28_0 f28_1 f28_2 f28_3 hzc hRN hWN) hZ (wd35 hw) (wd1 hw) (by decide) (by decide) hEL R35.1 all0) (g := (mkF m 130 #[.val (.int p0), .val (.int (0 : Int32)), .val (.ref wR), .val (.ref b4), .unset] [(.ref b4)])) rfl (by rw [hml]; rfl) (argsL := [(.ref b4)]) (rest := []) (lenOf pd__Ljava_lang_String__Lcom_example_regent_regent_AccessLevel__5555 rfl) rfl (by show 2 * 0 + _ ≤ _; exact Nat.le_of_eq rfl) (hb hby at_130) (fun _ _ => ⟨rfl, rfl, (by decide : 3 + 3 ≤ _), (by decide : 12 + 23 ≤ _)⟩)
    dsimp only [Pt.U, Pt.locs, Pt.cells, Pt.slots] at X37 l37 y37 z37 st37 hQ37 hS37 hgr37 R37q
    subst Lp37 kp37 np37
    obtain ⟨X37, hSn37, hZ, hown⟩ := rebS hS0 hk37 X37 hS37 hgr37 hZ hown
    obtain ⟨rfl, N37q, K37q⟩ := hQ37
    have N37 := Fr.app N28 N37q
    have sz38 : T28.heap.size ≤ T37.heap.size := K37q.1
    have R39 : CHr Z own_EL s.vm h0 T37.vm T37.heap := R35.trans R37q
    have O40 : Old Z n0 T37.heap := O36.keep K37q all0
    refine own_tr (S' := T37.setTop (mkF m 133 #[.val (.int p0), .val (.int (0 : Int32)), .val (.ref wR), .val (.ref b4), .unset] [(.ref wR)])) st37 ?_
    refine own_via (S' := T37.setTop (mkF m 135 #[.val (.int p0), .val (.int (0 : Int32)), .val (.ref wR), .val (.ref b4), .val (.ref wR)] [])) (fun t k => XS.astore X37.here hx rfl (hb hby at_133) rfl rfl (l' := #[.val (.int p0), .val (.int (0 : Int32)), .val (.ref wR), .val (.ref b4), .val (.ref wR)]) rfl k) ?_
    refine own_via (S' := T37.setTop (mkF m 137 #[.val (.int p0), .val (.int (0 : Int32)), .val (.ref wR), .val (.ref b4), .val (.ref wR)] [(.ref wR)])) (fun t k => XS.aload X37.here hx rfl (hb hby at_135) rfl rfl k) ?_
    refine own_via (S' := T37.setTop (mkF m 138 #[.val (.int p0), .val (.int (0 : Int32)), .val (.ref wR), .val (.ref b4), .val (.ref wR)] [(.ref wR), (.ref wR)])) (fun t k => XS.aloadN X37.here hx rfl (hb hby at_137) rfl rfl k) ?_
    refine own_via (S' := T37.setTop (mkF m 141 #[.val (.int p0), .val (.int (0 : Int32)), .val (.ref wR), .val (.ref b4), .val (.ref wR)] [])) (fun t k => Jvm.RoadKit.acmp (g := (mkF m 138 #[.val (.int p0), .val (.int (0 : Int32)), .val (.ref wR), .val (.ref b4), .val (.ref wR)] [(.ref wR), (.ref wR)])) X37 hx rfl rfl rfl (pc0 := 138) (pc' := 141) (same := true) rfl (hb hby at_138) rfl (decide_eq_true rfl) (by decide) (by decide) k) ?_
    refine own_via (S' := T37.setTop (mkF m 143 #[.val (.int p0), .val (.int (0 : Int32)), .val (.ref wR), .val (.ref b4), .val (.ref wR)] [(.ref wR)])) (fun t k => XS.aload X37.here hx rfl (hb hby at_141) rfl rfl k) ?_
    have cx42 : Fld Z T37.heap wR "com/example/regent/regent/AccessLevel" "externalName" "Ljava/lang/String;" (.ref xR) := zf_F_wR_externalName.ext O40.2
    have cx43 : Exa Z T37.heap wR "com/example/regent/regent/AccessLevel" := zf_E_wR.ext O40.2
    obtain ⟨cq41, kq41, q41a, q41b, q41c⟩ := isOf hZ rfl cx43
    obtain ⟨_, _, ⟨T41, Lp41, kp41, np41⟩, -, X41, ⟨Lc41, hQ41, l41, y41, z41⟩, st41⟩ := X37.virtualBack hx (y := mt2) (z := mt2) hown (mvT hZ (wd73 hw)) (mvT hZ (wd74 hw)) (notFace_of_selects (args := #[]) (mvT hZ (wd76 hw))) (mvT hZ (wd76 hw)) (mvT hZ (wd75 hw)) (by decide) (backOf (W := 0) (own_ext l Z a0 hw [] wR xR T37.heap n0 O40 cx42) hZ (wd77 hw) (wd1 hw) (by decide) (by decide)) q41a q41c (g := (mkF m 143 #[.val (.int p0), .val (.int (0 : Int32)), .val (.ref wR), .val (.ref b4), .val (.ref wR)] [(.ref wR)])) rfl (by rw [hml]; rfl) (Steps.refl _) (argsL := []) (rest := []) (lenOf pd___Ljava_lang_String__1777 rfl) rfl (by show 2 * 0 + _ ≤ _; exact Nat.le_of_eq rfl) (hb hby at_143) (fun _ _ => ⟨rfl, rfl, (by decide : 6 + 0 ≤ _), (by decide : 35 + 0 ≤ _)⟩)
    dsimp only [Pt.U, Pt.locs, Pt.cells, Pt.slots] at X41 l41 y41 z41 st41 hQ41
    subst Lp41 kp41 np41
    obtain ⟨rfl, rfl, e41⟩ := hQ41
    try rw [List.append_nil] at X41
    refine own_tr (S' := T41.setTop (mkF m 146 #[.val (.int p0), .val (.int (0 : Int32)), .val (.ref wR), .val (.ref b4), .val (.ref wR)] [(.ref xR)])) st41 ?_
    refine own_via (S' := T41.setTop (mkF m 147 #[.val (.int p0), .val (.int (0 : Int32)), .val (.ref wR), .val (.ref b4), .val (.ref wR)] [(.ref b4), (.ref xR)])) (fun t k => XS.aloadN X41.here hx rfl (hb hby at_146) rfl rfl k) ?_
    have cx45 : Exa Z T37.heap xR "java/lang/String" := zf_E_xR.ext O40.2
    have cx46 : Fld Z T37.heap xR "java/lang/String" "value" "[B" (.ref tR) := zf_F_xR_value.ext O40.2
    have cx47 : Fld Z T37.heap xR "java/lang/String" "coder" "B" (.int (0 : Int32)) := zf_F_xR_coder.ext O40.2
    have cx48 : Arv Z T37.heap tR kR .byte (4 : Int32) [(.int (114 : Int32)), (.int (101 : Int32)), (.int (97 : Int32)), (.int (100 : Int32))] (.int (0 : Int32)) := zf_A_tR.ext O40.2
    have cx49 : Exa Z T37.heap b4 "java/lang/String" := (f28_0.keep K37q)
    have cx50 : Fld Z T37.heap b4 "java/lang/String" "value" "[B" (.ref t28) := (f28_2.keep K37q nin0)
    have cx51 : Fld Z T37.heap b4 "java/lang/String" "coder" "B" (.int (0 : Int32)) := (f28_1.keep K37q nin0)
    have cx52 : Arv Z T37.heap t28 kb28 .byte (4 : Int32) [(.int ((114 : Int32).toInt8.toInt32)), (.int ((101 : Int32).toInt8.toInt32)), (.int ((97 : Int32).toInt8.toInt32)), (.int ((100 : Int32).toInt8.toInt32))] (.int (0 : Int32)) := (f28_3.keep K37q nin0)
    have hwe44 := own_mwe hw
    have cx53 : Sta Z T37.heap "java/lang/String" "COMPACT_STRINGS" "Z" (.int zc) := zf_S_java_lang_String_COMPACT_STRINGS.ext O40.2
    obtain ⟨cq44, kq44, q44a, q44b, q44c⟩ := isOf hZ e41 cx45
    obtain ⟨_, _, ⟨T44, Lp44, kp44, np44⟩, -, X44, ⟨Lc44, hQ44, l44, y44, z44⟩, st44⟩ := X41.virtualBack hx (y := mt4) (z := mt4) hown (mvT hZ (wd78 hw)) (mvT hZ (wd64 hw)) (notFace_of_selects (args := #[]) (mvT hZ (wd66 hw))) (mvT hZ (wd66 hw)) (mvT hZ (wd65 hw)) (by decide) (StrChars.Road.eqW (W := 0) hZ hwe44 (kI := 4) (wd4 hw) cx45 cx46 cx47 cx48 (StrChars.Road.codOf (cs := ([(114 : Int32), (101 : Int32), (97 : Int32), (100 : Int32)] : List Int32)) rfl (fun c hc => (hpR c hc).2)) (own_up ([(114 : Int32), (101 : Int32), (97 : Int32), (100 : Int32)] : List Int32) hpR) (by first | decide | exact Nat.le_of_ble_eq_true rfl) cx49 cx50 cx51 cx52 (StrChars.Road.codOf (cs := ([(114 : Int32), (101 : Int32), (97 : Int32), (100 : Int32)] : List Int32)) rfl (fun c hc => (hp28 c hc).2)) (own_up ([(114 : Int32), (101 : Int32), (97 : Int32), (100 : Int32)] : List Int32) hp28) (by first | decide | exact Nat.le_of_ble_eq_true rfl) cx53 hzc (by decide) (by decide)) q44a q44c (g := (mkF m 147 #[.val (.int p0), .val (.int (0 : Int32)), .val (.ref wR), .val (.ref b4), .val (.ref wR)] [(.ref b4), (.ref xR)])) rfl (by rw [hml]; rfl) (Steps.refl _) (argsL := [(.ref b4)]) (rest := []) (lenOf pd__Ljava_lang_Object__Z_1835 rfl) rfl (by show 2 * 0 + _ ≤ _; exact Nat.le_of_eq rfl) (hb hby at_147) (fun _ _ => ⟨rfl, e41, (by decide : 6 + 0 ≤ _), (by decide : 35 + 0 ≤ _)⟩)
    dsimp only [Pt.U, Pt.locs, Pt.cells, Pt.slots] at X44 l44 y44 z44 st44 hQ44
    subst Lp44 kp44 np44
    obtain ⟨hv44, rfl, e44⟩ := hQ44
    obtain ⟨zq44, hzq44, rfl⟩ : ∃ z : Int32, z = (if ([(114 : Int32), (101 : Int32), (97 : Int32), (100 : Int32)] : List Int32) = ([(114 : Int32), (101 : Int32), (97 : Int32), (100 : Int32)] : List Int32) then (1 : Int32) else (0 : Int32)) ∧ _ = some (Value.int z) := by rcases hv44 with ⟨q1, q2⟩ | ⟨q1, q2⟩; exact ⟨_, (if_pos q2).symm, q1⟩; exact ⟨_, (if_neg q2).symm, q1⟩
    try rw [List.append_nil] at X44
    refine own_tr (S' := T44.setTop (mkF m 150 #[.val (.int p0), .val (.int (0 : Int32)), .val (.ref wR), .val (.ref b4), .val (.ref wR)] [(.int zq44)])) st44 ?_
    obtain rfl : zq44 = (1 : Int32) := hzq44.trans (if_pos rfl)
    refine own_via (S' := T44.setTop (mkF m 153 #[.val (.int p0), .val (.int (0 : Int32)), .val (.ref wR), .val (.ref b4), .val (.ref wR)] [])) (fun t k => XS.ifNo X44.here hx rfl (hb hby at_150) rfl ((if0 _ _).trans (feq (by decide : ¬ ((1 : Int32) = (0 : Int32)))).1) k) ?_
    refine own_via (S' := T44.setTop (mkF m 154 #[.val (.int p0), .val (.int (0 : Int32)), .val (.ref wR), .val (.ref b4), .val (.ref wR)] [(.int (1 : Int32))])) (fun t k => XS.iconst X44.here hx rfl (hb hby at_153) k) ?_
    refine own_via (S' := T44.setTop (mkF m 158 #[.val (.int p0), .val (.int (0 : Int32)), .val (.ref wR), .val (.ref b4), .val (.ref wR)] [(.int (1 : Int32))])) (fun t k => XS.goto X44.here hx rfl (pc0 := 154) (pc' := 158) rfl (hb hby at_154) (by decide) (by decide) k) ?_
    have RTR39 : CHr Z own_EL s.vm h0 T44.vm T37.heap := R39.trans (CHv.at X44 hZ hEL R39.1)
    have RXR39 : CHr Z own_EL s.vm s.heap T44.vm T44.heap := by rw [hh, e44]; exact RTR39
    refine own_retW (Q := Q_own_law Z p0 zc wV kV wN wR wW xR tR kR xW tW kW h0 n0) (C := room_1.cells) (N := room_1.slots) X44 hSn37 (by rw [e44]; omega) (v := some (.int (1 : Int32))) (fun h => by rw [Bd.returns] at h; cases h) Bd.notSynchronized ?_ RXR39 (by decide) (by decide) (fun fs hr => retN X44 hx (t := .boolean) Bd.returns (by simp) (hb hby at_158) hr)
    show Q_own_law Z p0 zc wV kV wN wR wW xR tR kR xW tW kW h0 n0 _ T44.vm T44.heap _
    rw [e44]
    exact ⟨rfl, N37⟩
  · -- no
    refine own_via (S' := s₁.setTop (mkF m 6 #[.val (.int p0), .unset, .unset, .unset, .unset] [])) (fun t k => XS.ifNo X0.here hx rfl (hb hby at_3) rfl ((if0 _ _).trans (feq hc3_1).1) k) ?_
    refine own_via (S' := s₁.setTop (mkF m 7 #[.val (.int p0), .unset, .unset, .unset, .unset] [(.int (1 : Int32))])) (fun t k => XS.iconst X0.here hx rfl (hb hby at_6) k) ?_
    refine own_via (S' := s₁.setTop (mkF m 11 #[.val (.int p0), .unset, .unset, .unset, .unset] [(.int (1 : Int32))])) (fun t k => XS.goto X0.here hx rfl (pc0 := 7) (pc' := 11) rfl (hb hby at_7) (by decide) (by decide) k) ?_
    refine own_via (S' := s₁.setTop (mkF m 12 #[.val (.int p0), .val (.int (1 : Int32)), .unset, .unset, .unset] [])) (fun t k => XS.istoreN X0.here hx rfl (hb hby at_11) rfl (l' := #[.val (.int p0), .val (.int (1 : Int32)), .unset, .unset, .unset]) rfl k) ?_
    refine own_via (S' := s₁.setTop (mkF m 13 #[.val (.int p0), .val (.int (1 : Int32)), .unset, .unset, .unset] [(.int (1 : Int32))])) (fun t k => XS.iloadN X0.here hx rfl (hb hby at_12) rfl k) ?_
    refine own_via (S' := s₁.setTop (mkF m 16 #[.val (.int p0), .val (.int (1 : Int32)), .unset, .unset, .unset] [])) (fun t k => XS.ifNo X0.here hx rfl (hb hby at_13) rfl ((if0 _ _).trans (feq (by decide : ¬ ((1 : Int32) = (0 : Int32)))).1) k) ?_
    have cx55 : Sta Z h0 "com/example/regent/regent/AccessLevel" "READ_WRITE" "Lcom/example/regent/regent/AccessLevel;" (.ref wW) := zf_S_com_example_regent_regent_AccessLevel_READ_WRITE.ext O0.2
    obtain ⟨T56, X56, e56, st56⟩ := getS2 X0 hx hZ hown (host := "") (Or.inl (wd79 hw)) Via.refl e0 cx55 (g := (mkF m 16 #[.val (.int p0), .val (.int (1 : Int32)), .unset, .unset, .unset] [])) rfl (hb hby at_16)
    refine own_via (S' := T56.setTop (mkF m 19 #[.val (.int p0), .val (.int (1 : Int32)), .unset, .unset, .unset] [(.ref wW)])) st56 ?_
    refine own_via (S' := T56.setTop (mkF m 25 #[.val (.int p0), .val (.int (1 : Int32)), .unset, .unset, .unset] [(.ref wW)])) (fun t k => XS.goto X56.here hx rfl (pc0 := 19) (pc' := 25) rfl (hb hby at_19) (by decide) (by decide) k) ?_
    refine own_via (S' := T56.setTop (mkF m 26 #[.val (.int p0), .val (.int (1 : Int32)), .val (.ref wW), .unset, .unset] [])) (fun t k => XS.astoreN X56.here hx rfl (hb hby at_25) rfl rfl (l' := #[.val (.int p0), .val (.int (1 : Int32)), .val (.ref wW), .unset, .unset]) rfl k) ?_
    refine own_via (S' := T56.setTop (mkF m 27 #[.val (.int p0), .val (.int (1 : Int32)), .val (.ref wW), .unset, .unset] [(.int (1 : Int32))])) (fun t k => XS.iloadN X56.here hx rfl (hb hby at_26) rfl k) ?_
    refine own_via (S' := T56.setTop (mkF m 30 #[.val (.int p0), .val (.int (1 : Int32)), .val (.ref wW), .unset, .unset] [])) (fun t k => XS.ifNo X56.here hx rfl (hb hby at_27) rfl ((if0 _ _).trans (feq (by decide : ¬ ((1 : Int32) = (0 : Int32)))).1) k) ?_
    obtain ⟨T57, h57, X57, e57, E57, A57, D57, -, st57⟩ := newO X56 hx hZ hown (wd3 hw) (wd4 hw) (wd5 hw) e56 (g := (mkF m 30 #[.val (.int p0), .val (.int (1 : Int32)), .val (.ref wW), .unset, .unset] [])) rfl (hb hby at_30) (by decide) (by decide)
    obtain ⟨b57, g57⟩ : ∃ z, z = h0.size := ⟨_, rfl⟩
    rw [← g57] at A57 D57 st57
    have lt_b57 : h57.size > b57 := A57.lt
    have sz58 : h0.size ≤ h57.size := E57.1
    have O59 : Old Z n0 h57 := O0.ext E57
    have R60 : CHr Z own_EL s.vm h0 s.vm h57 := R0.trans (CHr.ext E57 R0.1)
    have SF_b57 : Safe Z own_EL s.vm h57 b57 := Safe.ext E57 R0.1 (Safe.new (Nat.le_of_eq g57.symm))
    have F57_coder : Fld Z h57 b57 "java/lang/String" "coder" "B" (.int (0 : Int32)) := D57 (Or.inr (wd30 hw)) (ty := .byte) (by decide)
    have F57_value : Fld Z h57 b57 "java/lang/String" "value" "[B" .null := D57 (Or.inr (wd32 hw)) (ty := (.array .byte)) (by decide)
    refine own_via (S' := T57.setTop (mkF m 33 #[.val (.int p0), .val (.int (1 : Int32)), .val (.ref wW), .unset, .unset] [(.ref b57)])) st57 ?_
    refine own_via (S' := T57.setTop (mkF m 34 #[.val (.int p0), .val (.int (1 : Int32)), .val (.ref wW), .unset, .unset] [(.ref b57), (.ref b57)])) (fun t k => XS.dup X57.here hx rfl (hb hby at_33) rfl rfl k) ?_
    refine own_via (S' := T57.setTop (mkF m 36 #[.val (.int p0), .val (.int (1 : Int32)), .val (.ref wW), .unset, .unset] [(.int (10 : Int32)), (.ref b57), (.ref b57)])) (fun t k => XS.bipush X57.here hx rfl (hb hby at_34) k) ?_
    obtain ⟨T61, h61, k61, X61, e61, E61, A61, st61⟩ := newP (aty := .char) X57 hx hZ (wd6 hw) e57 (g := (mkF m 36 #[.val (.int p0), .val (.int (1 : Int32)), .val (.ref wW), .unset, .unset] [(.int (10 : Int32)), (.ref b57), (.ref b57)])) rfl (hb hby at_36) rfl (by decide : ¬ ((10 : Int32) < (0 : Int32))) (cap := 10) (by decide) (by decide) (by decide) (by decide)
    obtain ⟨b61, g61⟩ : ∃ z, z = h57.size := ⟨_, rfl⟩
    rw [← g61] at A61 st61
    have lt_b61 : h61.size > b61 := A61.lt
    have sz62 : h57.size ≤ h61.size := E61.1
    have O63 : Old Z n0 h61 := O59.ext E61
    have R64 : CHr Z own_EL s.vm h0 s.vm h61 := R60.trans (CHr.ext E61 R60.1)
    have V61 : Arv Z h61 b61 k61 .char (10 : Int32) [(.int (0 : Int32)), (.int (0 : Int32)), (.int (0 : Int32)), (.int (0 : Int32)), (.int (0 : Int32)), (.int (0 : Int32)), (.int (0 : Int32)), (.int (0 : Int32)), (.int (0 : Int32)), (.int (0 : Int32))] (.int (0 : Int32)) := (Arv.new A61 (by decide)).pad (pad_rep [] (.int (0 : Int32)) 10)
    refine own_via (S' := T61.setTop (mkF m 38 #[.val (.int p0), .val (.int (1 : Int32)), .val (.ref wW), .unset, .unset] [(.ref b61), (.ref b57), (.ref b57)])) st61 ?_
    refine own_via (S' := T61.setTop (mkF m 39 #[.val (.int p0), .val (.int (1 : Int32)), .val (.ref wW), .unset, .unset] [(.ref b61), (.ref b61), (.ref b57), (.ref b57)])) (fun t k => XS.dup X61.here hx rfl (hb hby at_38) rfl rfl k) ?_
    refine own_via (S' := T61.setTop (mkF m 40 #[.val (.int p0), .val (.int (1 : Int32)), .val (.ref wW), .unset, .unset] [(.int (0 : Int32)), (.ref b61), (.ref b61), (.ref b57), (.ref b57)])) (fun t k => XS.iconst X61.here hx rfl (hb hby at_39) k) ?_
    refine own_via (S' := T61.setTop (mkF m 42 #[.val (.int p0), .val (.int (1 : Int32)), .val (.ref wW), .unset, .unset] [(.int (114 : Int32)), (.int (0 : Int32)), (.ref b61), (.ref b61), (.ref b57), (.ref b57)])) (fun t k => XS.bipush X61.here hx rfl (hb hby at_40) k) ?_
    obtain ⟨cl65, Ar65, q65, S65, M65, H65, U65⟩ := id V61
    obtain ⟨T65, h65, X65, e65, W65, st65⟩ := stC X61 hx hZ e61 Ar65 (j := (0 : Int32)) (inb_of S65 ⟨by decide, by decide⟩) (g := (mkF m 42 #[.val (.int p0), .val (.int (1 : Int32)), .val (.ref wW), .unset, .unset] [(.int (114 : Int32)), (.int (0 : Int32)), (.ref b61), (.ref b61), (.ref b57), (.ref b57)])) rfl rfl (hb hby at_42)
    have sf65 : Safe Z own_EL s.vm h61 b61 := (Safe.arv hZ.alike V61 (by decide))
    have sz66 : h61.size ≤ h65.size := Nat.le_of_eq W65.size.symm
    have R67 : CHr Z own_EL s.vm h0 s.vm h65 := R64.trans (CHr.wr W65 sf65 R64.1)
    have O68 : Old Z n0 h65 := O63.wr W65 (by omega : n0 ≤ b61)
    have N65 := Fr.snoc X65 N0 (by omega : n0 ≤ b61)
    have V65 : Arv Z h65 b61 k61 .char (10 : Int32) [(.int (114 : Int32)), (.int (0 : Int32)), (.int (0 : Int32)), (.int (0 : Int32)), (.int (0 : Int32)), (.int (0 : Int32)), (.int (0 : Int32)), (.int (0 : Int32)), (.int (0 : Int32)), (.int (0 : Int32))] (.int (0 : Int32)) := Arv.set Ar65 q65 S65 M65 H65 U65 (fits_nar_char _) W65 0 rfl (Nat.le_of_ble_eq_true rfl)
    refine own_via (S' := T65.setTop (mkF m 43 #[.val (.int p0), .val (.int (1 : Int32)), .val (.ref wW), .unset, .unset] [(.ref b61), (.ref b57), (.ref b57)])) st65 ?_
    refine own_via (S' := T65.setTop (mkF m 44 #[.val (.int p0), .val (.int (1 : Int32)), .val (.ref wW), .unset, .unset] [(.ref b61), (.ref b61), (.ref b57), (.ref b57)])) (fun t k => XS.dup X65.here hx rfl (hb hby at_43) rfl rfl k) ?_
    refine own_via (S' := T65.setTop (mkF m 45 #[.val (.int p0), .val (.int (1 : Int32)), .val (.ref wW), .unset, .unset] [(.int (1 : Int32)), (.ref b61), (.ref b61), (.ref b57), (.ref b57)])) (fun t k => XS.iconst X65.here hx rfl (hb hby at_44) k) ?_
    refine own_via (S' := T65.setTop (mkF m 47 #[.val (.int p0), .val (.int (1 : Int32)), .val (.ref wW), .unset, .unset] [(.int (101 : Int32)), (.int (1 : Int32)), (.ref b61), (.ref b61), (.ref b57), (.ref b57)])) (fun t k => XS.bipush X65.here hx rfl (hb hby at_45) k) ?_
    obtain ⟨cl69, Ar69, q69, S69, M69, H69, U69⟩ := id V65
    obtain ⟨T69, h69, X69, e69, W69, st69⟩ := stC X65 hx hZ e65 Ar69 (j := (1 : Int32)) (inb_of S69 ⟨by decide, by decide⟩) (g := (mkF m 47 #[.val (.int p0), .val (.int (1 : Int32)), .val (.ref wW), .unset, .unset] [(.int (101 : Int32)), (.int (1 : Int32)), (.ref b61), (.ref b61), (.ref b57), (.ref b57)])) rfl rfl (hb hby at_47)
    have sf69 : Safe Z own_EL s.vm h65 b61 := (Safe.arv hZ.alike V65 (by decide))
    have sz70 : h65.size ≤ h69.size := Nat.le_of_eq W69.size.symm
    have R71 : CHr Z own_EL s.vm h0 s.vm h69 := R67.trans (CHr.wr W69 sf69 R67.1)
    have O72 : Old Z n0 h69 := O68.wr W69 (by omega : n0 ≤ b61)
    have N69 := Fr.snoc X69 N65 (by omega : n0 ≤ b61)
    have V69 : Arv Z h69 b61 k61 .char (10 : Int32) [(.int (114 : Int32)), (.int (101 : Int32)), (.int (0 : Int32)), (.int (0 : Int32)), (.int (0 : Int32)), (.int (0 : Int32)), (.int (0 : Int32)), (.int (0 : Int32)), (.int (0 : Int32)), (.int (0 : Int32))] (.int (0 : Int32)) := Arv.set Ar69 q69 S69 M69 H69 U69 (fits_nar_char _) W69 1 rfl (Nat.le_of_ble_eq_true rfl)
    refine own_via (S' := T69.setTop (mkF m 48 #[.val (.int p0), .val (.int (1 : Int32)), .val (.ref wW), .unset, .unset] [(.ref b61), (.ref b57), (.ref b57)])) st69 ?_
    refine own_via (S' := T69.setTop (mkF m 49 #[.val (.int p0), .val (.int (1 : Int32)), .val (.ref wW), .unset, .unset] [(.ref b61), (.ref b61), (.ref b57), (.ref b57)])) (fun t k => XS.dup X69.here hx rfl (hb hby at_48) rfl rfl k) ?_
    refine own_via (S' := T69.setTop (mkF m 50 #[.val (.int p0), .val (.int (1 : Int32)), .val (.ref wW), .unset, .unset] [(.int (2 : Int32)), (.ref b61), (.ref b61), (.ref b57), (.ref b57)])) (fun t k => XS.iconst X69.here hx rfl (hb hby at_49) k) ?_
    refine own_via (S' := T69.setTop (mkF m 52 #[.val (.int p0), .val (.int (1 : Int32)), .val (.ref wW), .unset, .unset] [(.int (97 : Int32)), (.int (2 : Int32)), (.ref b61), (.ref b61), (.ref b57), (.ref b57)])) (fun t k => XS.bipush X69.here hx rfl (hb hby at_50) k) ?_
    obtain ⟨cl73, Ar73, q73, S73, M73, H73, U73⟩ := id V69
    obtain ⟨T73, h73, X73, e73, W73, st73⟩ := stC X69 hx hZ e69 Ar73 (j := (2 : Int32)) (inb_of S73 ⟨by decide, by decide⟩) (g := (mkF m 52 #[.val (.int p0), .val (.int (1 : Int32)), .val (.ref wW), .unset, .unset] [(.int (97 : Int32)), (.int (2 : Int32)), (.ref b61), (.ref b61), (.ref b57), (.ref b57)])) rfl rfl (hb hby at_52)
    have sf73 : Safe Z own_EL s.vm h69 b61 := (Safe.arv hZ.alike V69 (by decide))
    have sz74 : h69.size ≤ h73.size := Nat.le_of_eq W73.size.symm
    have R75 : CHr Z own_EL s.vm h0 s.vm h73 := R71.trans (CHr.wr W73 sf73 R71.1)
    have O76 : Old Z n0 h73 := O72.wr W73 (by omega : n0 ≤ b61)
    have N73 := Fr.snoc X73 N69 (by omega : n0 ≤ b61)
    have V73 : Arv Z h73 b61 k61 .char (10 : Int32) [(.int (114 : Int32)), (.int (101 : Int32)), (.int (97 : Int32)), (.int (0 : Int32)), (.int (0 : Int32)), (.int (0 : Int32)), (.int (0 : Int32)), (.int (0 : Int32)), (.int (0 : Int32)), (.int (0 : Int32))] (.int (0 : Int32)) := Arv.set Ar73 q73 S73 M73 H73 U73 (fits_nar_char _) W73 2 rfl (Nat.le_of_ble_eq_true rfl)
    refine own_via (S' := T73.setTop (mkF m 53 #[.val (.int p0), .val (.int (1 : Int32)), .val (.ref wW), .unset, .unset] [(.ref b61), (.ref b57), (.ref b57)])) st73 ?_
    refine own_via (S' := T73.setTop (mkF m 54 #[.val (.int p0), .val (.int (1 : Int32)), .val (.ref wW), .unset, .unset] [(.ref b61), (.ref b61), (.ref b57), (.ref b57)])) (fun t k => XS.dup X73.here hx rfl (hb hby at_53) rfl rfl k) ?_
    refine own_via (S' := T73.setTop (mkF m 55 #[.val (.int p0), .val (.int (1 : Int32)), .val (.ref wW), .unset, .unset] [(.int (3 : Int32)), (.ref b61), (.ref b61), (.ref b57), (.ref b57)])) (fun t k => XS.iconst X73.here hx rfl (hb hby at_54) k) ?_
    refine own_via (S' := T73.setTop (mkF m 57 #[.val (.int p0), .val (.int (1 : Int32)), .val (.ref wW), .unset, .unset] [(.int (100 : Int32)), (.int (3 : Int32)), (.ref b61), (.ref b61), (.ref b57), (.ref b57)])) (fun t k => XS.bipush X73.here hx rfl (hb hby at_55) k) ?_
    obtain ⟨cl77, Ar77, q77, S77, M77, H77, U77⟩ := id V73
    obtain ⟨T77, h77, X77, e77, W77, st77⟩ := stC X73 hx hZ e73 Ar77 (j := (3 : Int32)) (inb_of S77 ⟨by decide, by decide⟩) (g := (mkF m 57 #[.val (.int p0), .val (.int (1 : Int32)), .val (.ref wW), .unset, .unset] [(.int (100 : Int32)), (.int (3 : Int32)), (.ref b61), (.ref b61), (.ref b57), (.ref b57)])) rfl rfl (hb hby at_57)
    have sf77 : Safe Z own_EL s.vm h73 b61 := (Safe.arv hZ.alike V73 (by decide))
    have sz78 : h73.size ≤ h77.size := Nat.le_of_eq W77.size.symm
    have R79 : CHr Z own_EL s.vm h0 s.vm h77 := R75.trans (CHr.wr W77 sf77 R75.1)
    have O80 : Old Z n0 h77 := O76.wr W77 (by omega : n0 ≤ b61)
    have N77 := Fr.snoc X77 N73 (by omega : n0 ≤ b61)
    have V77 : Arv Z h77 b61 k61 .char (10 : Int32) [(.int (114 : Int32)), (.int (101 : Int32)), (.int (97 : Int32)), (.int (100 : Int32)), (.int (0 : Int32)), (.int (0 : Int32)), (.int (0 : Int32)), (.int (0 : Int32)), (.int (0 : Int32)), (.int (0 : Int32))] (.int (0 : Int32)) := Arv.set Ar77 q77 S77 M77 H77 U77 (fits_nar_char _) W77 3 rfl (Nat.le_of_ble_eq_true rfl)
    refine own_via (S' := T77.setTop (mkF m 58 #[.val (.int p0), .val (.int (1 : Int32)), .val (.ref wW), .unset, .unset] [(.ref b61), (.ref b57), (.ref b57)])) st77 ?_
    refine own_via (S' := T77.setTop (mkF m 59 #[.val (.int p0), .val (.int (1 : Int32)), .val (.ref wW), .unset, .unset] [(.ref b61), (.ref b61), (.ref b57), (.ref b57)])) (fun t k => XS.dup X77.here hx rfl (hb hby at_58) rfl rfl k) ?_
    refine own_via (S' := T77.setTop (mkF m 60 #[.val (.int p0), .val (.int (1 : Int32)), .val (.ref wW), .unset, .unset] [(.int (4 : Int32)), (.ref b61), (.ref b61), (.ref b57), (.ref b57)])) (fun t k => XS.iconst X77.here hx rfl (hb hby at_59) k) ?_
    refine own_via (S' := T77.setTop (mkF m 62 #[.val (.int p0), .val (.int (1 : Int32)), .val (.ref wW), .unset, .unset] [(.int (95 : Int32)), (.int (4 : Int32)), (.ref b61), (.ref b61), (.ref b57), (.ref b57)])) (fun t k => XS.bipush X77.here hx rfl (hb hby at_60) k) ?_
    obtain ⟨cl81, Ar81, q81, S81, M81, H81, U81⟩ := id V77
    obtain ⟨T81, h81, X81, e81, W81, st81⟩ := stC X77 hx hZ e77 Ar81 (j := (4 : Int32)) (inb_of S81 ⟨by decide, by decide⟩) (g := (mkF m 62 #[.val (.int p0), .val (.int (1 : Int32)), .val (.ref wW), .unset, .unset] [(.int (95 : Int32)), (.int (4 : Int32)), (.ref b61), (.ref b61), (.ref b57), (.ref b57)])) rfl rfl (hb hby at_62)
    have sf81 : Safe Z own_EL s.vm h77 b61 := (Safe.arv hZ.alike V77 (by decide))
    have sz82 : h77.size ≤ h81.size := Nat.le_of_eq W81.size.symm
    have R83 : CHr Z own_EL s.vm h0 s.vm h81 := R79.trans (CHr.wr W81 sf81 R79.1)
    have O84 : Old Z n0 h81 := O80.wr W81 (by omega : n0 ≤ b61)
    have N81 := Fr.snoc X81 N77 (by omega : n0 ≤ b61)
    have V81 : Arv Z h81 b61 k61 .char (10 : Int32) [(.int (114 : Int32)), (.int (101 : Int32)), (.int (97 : Int32)), (.int (100 : Int32)), (.int (95 : Int32)), (.int (0 : Int32)), (.int (0 : Int32)), (.int (0 : Int32)), (.int (0 : Int32)), (.int (0 : Int32))] (.int (0 : Int32)) := Arv.set Ar81 q81 S81 M81 H81 U81 (fits_nar_char _) W81 4 rfl (Nat.le_of_ble_eq_true rfl)
    refine own_via (S' := T81.setTop (mkF m 63 #[.val (.int p0), .val (.int (1 : Int32)), .val (.ref wW), .unset, .unset] [(.ref b61), (.ref b57), (.ref b57)])) st81 ?_
    refine own_via (S' := T81.setTop (mkF m 64 #[.val (.int p0), .val (.int (1 : Int32)), .val (.ref wW), .unset, .unset] [(.ref b61), (.ref b61), (.ref b57), (.ref b57)])) (fun t k => XS.dup X81.here hx rfl (hb hby at_63) rfl rfl k) ?_
    refine own_via (S' := T81.setTop (mkF m 65 #[.val (.int p0), .val (.int (1 : Int32)), .val (.ref wW), .unset, .unset] [(.int (5 : Int32)), (.ref b61), (.ref b61), (.ref b57), (.ref b57)])) (fun t k => XS.iconst X81.here hx rfl (hb hby at_64) k) ?_
    refine own_via (S' := T81.setTop (mkF m 67 #[.val (.int p0), .val (.int (1 : Int32)), .val (.ref wW), .unset, .unset] [(.int (119 : Int32)), (.int (5 : Int32)), (.ref b61), (.ref b61), (.ref b57), (.ref b57)])) (fun t k => XS.bipush X81.here hx rfl (hb hby at_65) k) ?_
    obtain ⟨cl85, Ar85, q85, S85, M85, H85, U85⟩ := id V81
    obtain ⟨T85, h85, X85, e85, W85, st85⟩ := stC X81 hx hZ e81 Ar85 (j := (5 : Int32)) (inb_of S85 ⟨by decide, by decide⟩) (g := (mkF m 67 #[.val (.int p0), .val (.int (1 : Int32)), .val (.ref wW), .unset, .unset] [(.int (119 : Int32)), (.int (5 : Int32)), (.ref b61), (.ref b61), (.ref b57), (.ref b57)])) rfl rfl (hb hby at_67)
    have sf85 : Safe Z own_EL s.vm h81 b61 := (Safe.arv hZ.alike V81 (by decide))
    have sz86 : h81.size ≤ h85.size := Nat.le_of_eq W85.size.symm
    have R87 : CHr Z own_EL s.vm h0 s.vm h85 := R83.trans (CHr.wr W85 sf85 R83.1)
    have O88 : Old Z n0 h85 := O84.wr W85 (by omega : n0 ≤ b61)
    have N85 := Fr.snoc X85 N81 (by omega : n0 ≤ b61)
    have V85 : Arv Z h85 b61 k61 .char (10 : Int32) [(.int (114 : Int32)), (.int (101 : Int32)), (.int (97 : Int32)), (.int (100 : Int32)), (.int (95 : Int32)), (.int (119 : Int32)), (.int (0 : Int32)), (.int (0 : Int32)), (.int (0 : Int32)), (.int (0 : Int32))] (.int (0 : Int32)) := Arv.set Ar85 q85 S85 M85 H85 U85 (fits_nar_char _) W85 5 rfl (Nat.le_of_ble_eq_true rfl)
    refine own_via (S' := T85.setTop (mkF m 68 #[.val (.int p0), .val (.int (1 : Int32)), .val (.ref wW), .unset, .unset] [(.ref b61), (.ref b57), (.ref b57)])) st85 ?_
    refine own_via (S' := T85.setTop (mkF m 69 #[.val (.int p0), .val (.int (1 : Int32)), .val (.ref wW), .unset, .unset] [(.ref b61), (.ref b61), (.ref b57), (.ref b57)])) (fun t k => XS.dup X85.here hx rfl (hb hby at_68) rfl rfl k) ?_
    refine own_via (S' := T85.setTop (mkF m 71 #[.val (.int p0), .val (.int (1 : Int32)), .val (.ref wW), .unset, .unset] [(.int (6 : Int32)), (.ref b61), (.ref b61), (.ref b57), (.ref b57)])) (fun t k => XS.bipush X85.here hx rfl (hb hby at_69) k) ?_
    refine own_via (S' := T85.setTop (mkF m 73 #[.val (.int p0), .val (.int (1 : Int32)), .val (.ref wW), .unset, .unset] [(.int (114 : Int32)), (.int (6 : Int32)), (.ref b61), (.ref b61), (.ref b57), (.ref b57)])) (fun t k => XS.bipush X85.here hx rfl (hb hby at_71) k) ?_
    obtain ⟨cl89, Ar89, q89, S89, M89, H89, U89⟩ := id V85
    obtain ⟨T89, h89, X89, e89, W89, st89⟩ := stC X85 hx hZ e85 Ar89 (j := (6 : Int32)) (inb_of S89 ⟨by decide, by decide⟩) (g := (mkF m 73 #[.val (.int p0), .val (.int (1 : Int32)), .val (.ref wW), .unset, .unset] [(.int (114 : Int32)), (.int (6 : Int32)), (.ref b61), (.ref b61), (.ref b57), (.ref b57)])) rfl rfl (hb hby at_73)
    have sf89 : Safe Z own_EL s.vm h85 b61 := (Safe.arv hZ.alike V85 (by decide))
    have sz90 : h85.size ≤ h89.size := Nat.le_of_eq W89.size.symm
    have R91 : CHr Z own_EL s.vm h0 s.vm h89 := R87.trans (CHr.wr W89 sf89 R87.1)
    have O92 : Old Z n0 h89 := O88.wr W89 (by omega : n0 ≤ b61)
    have N89 := Fr.snoc X89 N85 (by omega : n0 ≤ b61)
    have V89 : Arv Z h89 b61 k61 .char (10 : Int32) [(.int (114 : Int32)), (.int (101 : Int32)), (.int (97 : Int32)), (.int (100 : Int32)), (.int (95 : Int32)), (.int (119 : Int32)), (.int (114 : Int32)), (.int (0 : Int32)), (.int (0 : Int32)), (.int (0 : Int32))] (.int (0 : Int32)) := Arv.set Ar89 q89 S89 M89 H89 U89 (fits_nar_char _) W89 6 rfl (Nat.le_of_ble_eq_true rfl)
    refine own_via (S' := T89.setTop (mkF m 74 #[.val (.int p0), .val (.int (1 : Int32)), .val (.ref wW), .unset, .unset] [(.ref b61), (.ref b57), (.ref b57)])) st89 ?_
    refine own_via (S' := T89.setTop (mkF m 75 #[.val (.int p0), .val (.int (1 : Int32)), .val (.ref wW), .unset, .unset] [(.ref b61), (.ref b61), (.ref b57), (.ref b57)])) (fun t k => XS.dup X89.here hx rfl (hb hby at_74) rfl rfl k) ?_
    refine own_via (S' := T89.setTop (mkF m 77 #[.val (.int p0), .val (.int (1 : Int32)), .val (.ref wW), .unset, .unset] [(.int (7 : Int32)), (.ref b61), (.ref b61), (.ref b57), (.ref b57)])) (fun t k => XS.bipush X89.here hx rfl (hb hby at_75) k) ?_
    refine own_via (S' := T89.setTop (mkF m 79 #[.val (.int p0), .val (.int (1 : Int32)), .val (.ref wW), .unset, .unset] [(.int (105 : Int32)), (.int (7 : Int32)), (.ref b61), (.ref b61), (.ref b57), (.ref b57)])) (fun t k => XS.bipush X89.here hx rfl (hb hby at_77) k) ?_
    obtain ⟨cl93, Ar93, q93, S93, M93, H93, U93⟩ := id V89
    obtain ⟨T93, h93, X93, e93, W93, st93⟩ := stC X89 hx hZ e89 Ar93 (j := (7 : Int32)) (inb_of S93 ⟨by decide, by decide⟩) (g := (mkF m 79 #[.val (.int p0), .val (.int (1 : Int32)), .val (.ref wW), .unset, .unset] [(.int (105 : Int32)), (.int (7 : Int32)), (.ref b61), (.ref b61), (.ref b57), (.ref b57)])) rfl rfl (hb hby at_79)
    have sf93 : Safe Z own_EL s.vm h89 b61 := (Safe.arv hZ.alike V89 (by decide))
    have sz94 : h89.size ≤ h93.size := Nat.le_of_eq W93.size.symm
    have R95 : CHr Z own_EL s.vm h0 s.vm h93 := R91.trans (CHr.wr W93 sf93 R91.1)
    have O96 : Old Z n0 h93 := O92.wr W93 (by omega : n0 ≤ b61)
    have N93 := Fr.snoc X93 N89 (by omega : n0 ≤ b61)
    have V93 : Arv Z h93 b61 k61 .char (10 : Int32) [(.int (114 : Int32)), (.int (101 : Int32)), (.int (97 : Int32)), (.int (100 : Int32)), (.int (95 : Int32)), (.int (119 : Int32)), (.int (114 : Int32)), (.int (105 : Int32)), (.int (0 : Int32)), (.int (0 : Int32))] (.int (0 : Int32)) := Arv.set Ar93 q93 S93 M93 H93 U93 (fits_nar_char _) W93 7 rfl (Nat.le_of_ble_eq_true rfl)
    refine own_via (S' := T93.setTop (mkF m 80 #[.val (.int p0), .val (.int (1 : Int32)), .val (.ref wW), .unset, .unset] [(.ref b61), (.ref b57), (.ref b57)])) st93 ?_
    refine own_via (S' := T93.setTop (mkF m 81 #[.val (.int p0), .val (.int (1 : Int32)), .val (.ref wW), .unset, .unset] [(.ref b61), (.ref b61), (.ref b57), (.ref b57)])) (fun t k => XS.dup X93.here hx rfl (hb hby at_80) rfl rfl k) ?_
    refine own_via (S' := T93.setTop (mkF m 83 #[.val (.int p0), .val (.int (1 : Int32)), .val (.ref wW), .unset, .unset] [(.int (8 : Int32)), (.ref b61), (.ref b61), (.ref b57), (.ref b57)])) (fun t k => XS.bipush X93.here hx rfl (hb hby at_81) k) ?_
    refine own_via (S' := T93.setTop (mkF m 85 #[.val (.int p0), .val (.int (1 : Int32)), .val (.ref wW), .unset, .unset] [(.int (116 : Int32)), (.int (8 : Int32)), (.ref b61), (.ref b61), (.ref b57), (.ref b57)])) (fun t k => XS.bipush X93.here hx rfl (hb hby at_83) k) ?_
    obtain ⟨cl97, Ar97, q97, S97, M97, H97, U97⟩ := id V93
    obtain ⟨T97, h97, X97, e97, W97, st97⟩ := stC X93 hx hZ e93 Ar97 (j := (8 : Int32)) (inb_of S97 ⟨by decide, by decide⟩) (g := (mkF m 85 #[.val (.int p0), .val (.int (1 : Int32)), .val (.ref wW), .unset, .unset] [(.int (116 : Int32)), (.int (8 : Int32)), (.ref b61), (.ref b61), (.ref b57), (.ref b57)])) rfl rfl (hb hby at_85)
    have sf97 : Safe Z own_EL s.vm h93 b61 := (Safe.arv hZ.alike V93 (by decide))
    have sz98 : h93.size ≤ h97.size := Nat.le_of_eq W97.size.symm
    have R99 : CHr Z own_EL s.vm h0 s.vm h97 := R95.trans (CHr.wr W97 sf97 R95.1)
    have O100 : Old Z n0 h97 := O96.wr W97 (by omega : n0 ≤ b61)
    have N97 := Fr.snoc X97 N93 (by omega : n0 ≤ b61)
    have V97 : Arv Z h97 b61 k61 .char (10 : Int32) [(.int (114 : Int32)), (.int (101 : Int32)), (.int (97 : Int32)), (.int (100 : Int32)), (.int (95 : Int32)), (.int (119 : Int32)), (.int (114 : Int32)), (.int (105 : Int32)), (.int (116 : Int32)), (.int (0 : Int32))] (.int (0 : Int32)) := Arv.set Ar97 q97 S97 M97 H97 U97 (fits_nar_char _) W97 8 rfl (Nat.le_of_ble_eq_true rfl)
    refine own_via (S' := T97.setTop (mkF m 86 #[.val (.int p0), .val (.int (1 : Int32)), .val (.ref wW), .unset, .unset] [(.ref b61), (.ref b57), (.ref b57)])) st97 ?_
    refine own_via (S' := T97.setTop (mkF m 87 #[.val (.int p0), .val (.int (1 : Int32)), .val (.ref wW), .unset, .unset] [(.ref b61), (.ref b61), (.ref b57), (.ref b57)])) (fun t k => XS.dup X97.here hx rfl (hb hby at_86) rfl rfl k) ?_
    refine own_via (S' := T97.setTop (mkF m 89 #[.val (.int p0), .val (.int (1 : Int32)), .val (.ref wW), .unset, .unset] [(.int (9 : Int32)), (.ref b61), (.ref b61), (.ref b57), (.ref b57)])) (fun t k => XS.bipush X97.here hx rfl (hb hby at_87) k) ?_
    refine own_via (S' := T97.setTop (mkF m 91 #[.val (.int p0), .val (.int (1 : Int32)), .val (.ref wW), .unset, .unset] [(.int (101 : Int32)), (.int (9 : Int32)), (.ref b61), (.ref b61), (.ref b57), (.ref b57)])) (fun t k => XS.bipush X97.here hx rfl (hb hby at_89) k) ?_
    obtain ⟨cl101, Ar101, q101, S101, M101, H101, U101⟩ := id V97
    obtain ⟨T101, h101, X101, e101, W101, st101⟩ := stC X97 hx hZ e97 Ar101 (j := (9 : Int32)) (inb_of S101 ⟨by decide, by decide⟩) (g := (mkF m 91 #[.val (.int p0), .val (.int (1 : Int32)), .val (.ref wW), .unset, .unset] [(.int (101 : Int32)), (.int (9 : Int32)), (.ref b61), (.ref b61), (.ref b57), (.ref b57)])) rfl rfl (hb hby at_91)
    have sf101 : Safe Z own_EL s.vm h97 b61 := (Safe.arv hZ.alike V97 (by decide))
    have sz102 : h97.size ≤ h101.size := Nat.le_of_eq W101.size.symm
    have R103 : CHr Z own_EL s.vm h0 s.vm h101 := R99.trans (CHr.wr W101 sf101 R99.1)
    have O104 : Old Z n0 h101 := O100.wr W101 (by omega : n0 ≤ b61)
    have N101 := Fr.snoc X101 N97 (by omega : n0 ≤ b61)
    have V101 : Arv Z h101 b61 k61 .char (10 : Int32) [(.int (114 : Int32)), (.int (101 : Int32)), (.int (97 : Int32)), (.int (100 : Int32)), (.int (95 : Int32)), (.int (119 : Int32)), (.int (114 : Int32)), (.int (105 : Int32)), (.int (116 : Int32)), (.int (101 : Int32))] (.int (0 : Int32)) := Arv.set Ar101 q101 S101 M101 H101 U101 (fits_nar_char _) W101 9 rfl (Nat.le_of_ble_eq_true rfl)
    refine own_via (S' := T101.setTop (mkF m 92 #[.val (.int p0), .val (.int (1 : Int32)), .val (.ref wW), .unset, .unset] [(.ref b61), (.ref b57), (.ref b57)])) st101 ?_
    have cx106 : Exa Z h101 b57 "java/lang/String" := (Exa.wr W101 (Exa.wr W97 (Exa.wr W93 (Exa.wr W89 (Exa.wr W85 (Exa.wr W81 (Exa.wr W77 (Exa.wr W73 (Exa.wr W69 (Exa.wr W65 (A57.ext E61)))))))))))
    have ne_b57_b61 : b57 ≠ b61 := by first | omega | exact (Exa.neArv cx106 V101 (wd4 hw))
    have cx107 : Fld Z h101 b57 "java/lang/String" "value" "[B" .null := (Fld.other W101 (Fld.other W97 (Fld.other W93 (Fld.other W89 (Fld.other W85 (Fld.other W81 (Fld.other W77 (Fld.other W73 (Fld.other W69 (Fld.other W65 (F57_value.ext E61) (Or.inl ne_b57_b61)) (Or.inl ne_b57_b61)) (Or.inl ne_b57_b61)) (Or.inl ne_b57_b61)) (Or.inl ne_b57_b61)) (Or.inl ne_b57_b61)) (Or.inl ne_b57_b61)) (Or.inl ne_b57_b61)) (Or.inl ne_b57_b61)) (Or.inl ne_b57_b61))
    have cx108 : Fld Z h101 b57 "java/lang/String" "coder" "B" (.int (0 : Int32)) := (Fld.other W101 (Fld.other W97 (Fld.other W93 (Fld.other W89 (Fld.other W85 (Fld.other W81 (Fld.other W77 (Fld.other W73 (Fld.other W69 (Fld.other W65 (F57_coder.ext E61) (Or.inl ne_b57_b61)) (Or.inl ne_b57_b61)) (Or.inl ne_b57_b61)) (Or.inl ne_b57_b61)) (Or.inl ne_b57_b61)) (Or.inl ne_b57_b61)) (Or.inl ne_b57_b61)) (Or.inl ne_b57_b61)) (Or.inl ne_b57_b61)) (Or.inl ne_b57_b61))
    have cx109 : Sta Z h101 "java/lang/String" "COMPACT_STRINGS" "Z" (.int zc) := zf_S_java_lang_String_COMPACT_STRINGS.ext O104.2
    have hws105 := own_mw hw
    have hp105 : ∀ c ∈ ([(114 : Int32), (101 : Int32), (97 : Int32), (100 : Int32), (95 : Int32), (119 : Int32), (114 : Int32), (105 : Int32), (116 : Int32), (101 : Int32)] : List Int32), ¬ c < 0 ∧ ¬ (255 : Int32) < c := by
      intro c hc
      simp only [List.mem_cons, List.not_mem_nil, or_false] at hc
      rcases hc with rfl | rfl | rfl | rfl | rfl | rfl | rfl | rfl | rfl | rfl
      · exact by decide
      · exact by decide
      · exact by decide
      · exact by decide
      · exact by decide
      · exact by decide
      · exact by decide
      · exact by decide
      · exact by decide
      · exact by decide
    obtain ⟨_, _, ⟨T105, Lp105, kp105, np105⟩, -, X105, ⟨Lc105, hQ105, l105, y105, z105⟩, st105⟩ := X101.specialBack hx (y := mt5) rfl hown (mvT hZ (wd7 hw)) (mvT hZ (wd8 hw)) (mvT hZ (wd9 hw)) (by decide) (StrChars.Road.backV (W := 1) hZ hws105 (kI := 4) (wd4 hw) (cs := ([(114 : Int32), (101 : Int32), (97 : Int32), (100 : Int32), (95 : Int32), (119 : Int32), (114 : Int32), (105 : Int32), (116 : Int32), (101 : Int32)] : List Int32)) (bs := (([(114 : Int32), (101 : Int32), (97 : Int32), (100 : Int32), (95 : Int32), (119 : Int32), (114 : Int32), (105 : Int32), (116 : Int32), (101 : Int32)] : List Int32)).map (fun c => c.toInt8.toInt32)) (n := 10) (by omega : n0 ≤ b57) (by omega : n0 ≤ h101.size) cx106 cx107 cx108 V101 cx109 hzc rfl rfl (by decide) (by decide) hp105 rfl (by decide) (by decide)) (g := (mkF m 92 #[.val (.int p0), .val (.int (1 : Int32)), .val (.ref wW), .unset, .unset] [(.ref b61), (.ref b57), (.ref b57)])) rfl (by rw [hml]; rfl) (Steps.refl _) (a := b57) (argsL := [(.ref b61)]) (rest := [(.ref b57)]) (lenOf pd___C_V_325 rfl) rfl (by show 2 * 0 + _ ≤ _; exact Nat.le_of_eq rfl) (hb hby at_92) (fun _ _ => ⟨rfl, e101, (by decide : 2 + 1 ≤ _), (by decide : 14 + 10 ≤ _)⟩)
    dsimp only [Pt.U, Pt.locs, Pt.cells, Pt.slots] at X105 l105 y105 z105 st105 hQ105
    subst Lp105 kp105 np105
    obtain ⟨rfl, N105q, K105q, f105_0, f105_1, t105, kb105, tg105, tg105', tn105, f105_2, f105_3⟩ := hQ105
    have N105 := Fr.app N101 N105q
    have cx110 : Safe Z own_EL s.vm h101 b57 := (Safe.wr W101 sf101 R99.1 (Safe.wr W97 sf97 R95.1 (Safe.wr W93 sf93 R91.1 (Safe.wr W89 sf89 R87.1 (Safe.wr W85 sf85 R83.1 (Safe.wr W81 sf81 R79.1 (Safe.wr W77 sf77 R75.1 (Safe.wr W73 sf73 R71.1 (Safe.wr W69 sf69 R67.1 (Safe.wr W65 sf65 R64.1 (Safe.ext E61 R60.1 SF_b57)))))))))))
    have sf105 : ∀ x ∈ ([b57] : List Addr), Safe Z own_EL s.vm h101 x := (sfS cx110 sf0)
    have sz111 : h101.size ≤ T105.heap.size := K105q.1
    have R112 : CHr Z own_EL s.vm h0 s.vm T105.heap := R103.trans (CHr.keep K105q sf105 R103.1)
    have O113 : Old Z n0 T105.heap := O104.keep K105q (allS (by omega : n0 ≤ b57) all0)
    have lt_t105 : T105.heap.size > t105 := f105_3.lt
    refine own_tr (S' := T105.setTop (mkF m 95 #[.val (.int p0), .val (.int (1 : Int32)), .val (.ref wW), .unset, .unset] [(.ref b57)])) st105 ?_
    refine own_via (S' := T105.setTop (mkF m 128 #[.val (.int p0), .val (.int (1 : Int32)), .val (.ref wW), .unset, .unset] [(.ref b57)])) (fun t k => XS.goto X105.here hx rfl (pc0 := 95) (pc' := 128) rfl (hb hby at_95) (by decide) (by decide) k) ?_
    refine own_via (S' := T105.setTop (mkF m 129 #[.val (.int p0), .val (.int (1 : Int32)), .val (.ref wW), .val (.ref b57), .unset] [])) (fun t k => XS.astoreN X105.here hx rfl (hb hby at_128) rfl rfl (l' := #[.val (.int p0), .val (.int (1 : Int32)), .val (.ref wW), .val (.ref b57), .unset]) rfl k) ?_
    refine own_via (S' := T105.setTop (mkF m 130 #[.val (.int p0), .val (.int (1 : Int32)), .val (.ref wW), .val (.ref b57), .unset] [(.ref b57)])) (fun t k => XS.aloadN X105.here hx rfl (hb hby at_129) rfl rfl k) ?_
    have hk114 : h0.size ≤ T105.heap.size := by omega
    obtain ⟨_, _, ⟨T114, Lp114, kp114, np114⟩, -, X114, hS114, hgr114, ⟨Lc114, ⟨hQ114, R114q⟩, l114, y114, z114⟩, st114⟩ := callSS X105 hx (y := mt3) hown (mvT hZ (wd33 hw)) (mvT hZ (wd34 hw)) (mvT hZ (wd1 hw)) (mvT hZ (wd35 hw)) (by decide) (own_backW (SL := []) (W := 0) (own_pgW l Z a0 hw [] b57 t105 kb105 zc wV kV wN wR wW xR tR kR xW tW kW T105.heap n0 O113 zf_S_java_lang_String_COMPACT_STRINGS zf_S_com_example_regent_regent_AccessLevel__VALUES zf_E_wV zf_A_wV zf_S_com_example_regent_regent_AccessLevel_NONE zf_F_wR_externalName zf_E_xR zf_F_xR_coder zf_F_xR_value zf_A_tR zf_F_wW_externalName zf_E_xW zf_F_xW_coder zf_F_xW_value zf_A_tW f105_0 f105_1 f105_2 f105_3 hzc hRN hWN) hZ (wd35 hw) (wd1 hw) (by decide) (by decide) hEL R112.1 all0) (g := (mkF m 130 #[.val (.int p0), .val (.int (1 : Int32)), .val (.ref wW), .val (.ref b57), .unset] [(.ref b57)])) rfl (by rw [hml]; rfl) (argsL := [(.ref b57)]) (rest := []) (lenOf pd__Ljava_lang_String__Lcom_example_regent_regent_AccessLevel__5555 rfl) rfl (by show 2 * 0 + _ ≤ _; exact Nat.le_of_eq rfl) (hb hby at_130) (fun _ _ => ⟨rfl, rfl, (by decide : 3 + 3 ≤ _), (by decide : 24 + 23 ≤ _)⟩)
    dsimp only [Pt.U, Pt.locs, Pt.cells, Pt.slots] at X114 l114 y114 z114 st114 hQ114 hS114 hgr114 R114q
    subst Lp114 kp114 np114
    obtain ⟨X114, hSn114, hZ, hown⟩ := rebS hS0 hk114 X114 hS114 hgr114 hZ hown
    obtain ⟨rfl, N114q, K114q⟩ := hQ114
    have N114 := Fr.app N105 N114q
    have sz115 : T105.heap.size ≤ T114.heap.size := K114q.1
    have R116 : CHr Z own_EL s.vm h0 T114.vm T114.heap := R112.trans R114q
    have O117 : Old Z n0 T114.heap := O113.keep K114q all0
    refine own_tr (S' := T114.setTop (mkF m 133 #[.val (.int p0), .val (.int (1 : Int32)), .val (.ref wW), .val (.ref b57), .unset] [(.ref wW)])) st114 ?_
    refine own_via (S' := T114.setTop (mkF m 135 #[.val (.int p0), .val (.int (1 : Int32)), .val (.ref wW), .val (.ref b57), .val (.ref wW)] [])) (fun t k => XS.astore X114.here hx rfl (hb hby at_133) rfl rfl (l' := #[.val (.int p0), .val (.int (1 : Int32)), .val (.ref wW), .val (.ref b57), .val (.ref wW)]) rfl k) ?_
    refine own_via (S' := T114.setTop (mkF m 137 #[.val (.int p0), .val (.int (1 : Int32)), .val (.ref wW), .val (.ref b57), .val (.ref wW)] [(.ref wW)])) (fun t k => XS.aload X114.here hx rfl (hb hby at_135) rfl rfl k) ?_
    refine own_via (S' := T114.setTop (mkF m 138 #[.val (.int p0), .val (.int (1 : Int32)), .val (.ref wW), .val (.ref b57), .val (.ref wW)] [(.ref wW), (.ref wW)])) (fun t k => XS.aloadN X114.here hx rfl (hb hby at_137) rfl rfl k) ?_
    refine own_via (S' := T114.setTop (mkF m 141 #[.val (.int p0), .val (.int (1 : Int32)), .val (.ref wW), .val (.ref b57), .val (.ref wW)] [])) (fun t k => Jvm.RoadKit.acmp (g := (mkF m 138 #[.val (.int p0), .val (.int (1 : Int32)), .val (.ref wW), .val (.ref b57), .val (.ref wW)] [(.ref wW), (.ref wW)])) X114 hx rfl rfl rfl (pc0 := 138) (pc' := 141) (same := true) rfl (hb hby at_138) rfl (decide_eq_true rfl) (by decide) (by decide) k) ?_
    refine own_via (S' := T114.setTop (mkF m 143 #[.val (.int p0), .val (.int (1 : Int32)), .val (.ref wW), .val (.ref b57), .val (.ref wW)] [(.ref wW)])) (fun t k => XS.aload X114.here hx rfl (hb hby at_141) rfl rfl k) ?_
    have cx119 : Fld Z T114.heap wW "com/example/regent/regent/AccessLevel" "externalName" "Ljava/lang/String;" (.ref xW) := zf_F_wW_externalName.ext O117.2
    have cx120 : Exa Z T114.heap wW "com/example/regent/regent/AccessLevel" := zf_E_wW.ext O117.2
    obtain ⟨cq118, kq118, q118a, q118b, q118c⟩ := isOf hZ rfl cx120
    obtain ⟨_, _, ⟨T118, Lp118, kp118, np118⟩, -, X118, ⟨Lc118, hQ118, l118, y118, z118⟩, st118⟩ := X114.virtualBack hx (y := mt2) (z := mt2) hown (mvT hZ (wd73 hw)) (mvT hZ (wd74 hw)) (notFace_of_selects (args := #[]) (mvT hZ (wd76 hw))) (mvT hZ (wd76 hw)) (mvT hZ (wd75 hw)) (by decide) (backOf (W := 0) (own_ext l Z a0 hw [] wW xW T114.heap n0 O117 cx119) hZ (wd77 hw) (wd1 hw) (by decide) (by decide)) q118a q118c (g := (mkF m 143 #[.val (.int p0), .val (.int (1 : Int32)), .val (.ref wW), .val (.ref b57), .val (.ref wW)] [(.ref wW)])) rfl (by rw [hml]; rfl) (Steps.refl _) (argsL := []) (rest := []) (lenOf pd___Ljava_lang_String__1777 rfl) rfl (by show 2 * 0 + _ ≤ _; exact Nat.le_of_eq rfl) (hb hby at_143) (fun _ _ => ⟨rfl, rfl, (by decide : 6 + 0 ≤ _), (by decide : 47 + 0 ≤ _)⟩)
    dsimp only [Pt.U, Pt.locs, Pt.cells, Pt.slots] at X118 l118 y118 z118 st118 hQ118
    subst Lp118 kp118 np118
    obtain ⟨rfl, rfl, e118⟩ := hQ118
    try rw [List.append_nil] at X118
    refine own_tr (S' := T118.setTop (mkF m 146 #[.val (.int p0), .val (.int (1 : Int32)), .val (.ref wW), .val (.ref b57), .val (.ref wW)] [(.ref xW)])) st118 ?_
    refine own_via (S' := T118.setTop (mkF m 147 #[.val (.int p0), .val (.int (1 : Int32)), .val (.ref wW), .val (.ref b57), .val (.ref wW)] [(.ref b57), (.ref xW)])) (fun t k => XS.aloadN X118.here hx rfl (hb hby at_146) rfl rfl k) ?_
    have cx122 : Exa Z T114.heap xW "java/lang/String" := zf_E_xW.ext O117.2
    have cx123 : Fld Z T114.heap xW "java/lang/String" "value" "[B" (.ref tW) := zf_F_xW_value.ext O117.2
    have cx124 : Fld Z T114.heap xW "java/lang/String" "coder" "B" (.int (0 : Int32)) := zf_F_xW_coder.ext O117.2
    have cx125 : Arv Z T114.heap tW kW .byte (10 : Int32) [(.int (114 : Int32)), (.int (101 : Int32)), (.int (97 : Int32)), (.int (100 : Int32)), (.int (95 : Int32)), (.int (119 : Int32)), (.int (114 : Int32)), (.int (105 : Int32)), (.int (116 : Int32)), (.int (101 : Int32))] (.int (0 : Int32)) := zf_A_tW.ext O117.2
    have cx126 : Exa Z T114.heap b57 "java/lang/String" := (f105_0.keep K114q)
    have cx127 : Fld Z T114.heap b57 "java/lang/String" "value" "[B" (.ref t105) := (f105_2.keep K114q nin0)
    have cx128 : Fld Z T114.heap b57 "java/lang/String" "coder" "B" (.int (0 : Int32)) := (f105_1.keep K114q nin0)
    have cx129 : Arv Z T114.heap t105 kb105 .byte (10 : Int32) [(.int ((114 : Int32).toInt8.toInt32)), (.int ((101 : Int32).toInt8.toInt32)), (.int ((97 : Int32).toInt8.toInt32)), (.int ((100 : Int32).toInt8.toInt32)), (.int ((95 : Int32).toInt8.toInt32)), (.int ((119 : Int32).toInt8.toInt32)), (.int ((114 : Int32).toInt8.toInt32)), (.int ((105 : Int32).toInt8.toInt32)), (.int ((116 : Int32).toInt8.toInt32)), (.int ((101 : Int32).toInt8.toInt32))] (.int (0 : Int32)) := (f105_3.keep K114q nin0)
    have hwe121 := own_mwe hw
    have cx130 : Sta Z T114.heap "java/lang/String" "COMPACT_STRINGS" "Z" (.int zc) := zf_S_java_lang_String_COMPACT_STRINGS.ext O117.2
    obtain ⟨cq121, kq121, q121a, q121b, q121c⟩ := isOf hZ e118 cx122
    obtain ⟨_, _, ⟨T121, Lp121, kp121, np121⟩, -, X121, ⟨Lc121, hQ121, l121, y121, z121⟩, st121⟩ := X118.virtualBack hx (y := mt4) (z := mt4) hown (mvT hZ (wd78 hw)) (mvT hZ (wd64 hw)) (notFace_of_selects (args := #[]) (mvT hZ (wd66 hw))) (mvT hZ (wd66 hw)) (mvT hZ (wd65 hw)) (by decide) (StrChars.Road.eqW (W := 0) hZ hwe121 (kI := 4) (wd4 hw) cx122 cx123 cx124 cx125 (StrChars.Road.codOf (cs := ([(114 : Int32), (101 : Int32), (97 : Int32), (100 : Int32), (95 : Int32), (119 : Int32), (114 : Int32), (105 : Int32), (116 : Int32), (101 : Int32)] : List Int32)) rfl (fun c hc => (hpW c hc).2)) (own_up ([(114 : Int32), (101 : Int32), (97 : Int32), (100 : Int32), (95 : Int32), (119 : Int32), (114 : Int32), (105 : Int32), (116 : Int32), (101 : Int32)] : List Int32) hpW) (by first | decide | exact Nat.le_of_ble_eq_true rfl) cx126 cx127 cx128 cx129 (StrChars.Road.codOf (cs := ([(114 : Int32), (101 : Int32), (97 : Int32), (100 : Int32), (95 : Int32), (119 : Int32), (114 : Int32), (105 : Int32), (116 : Int32), (101 : Int32)] : List Int32)) rfl (fun c hc => (hp105 c hc).2)) (own_up ([(114 : Int32), (101 : Int32), (97 : Int32), (100 : Int32), (95 : Int32), (119 : Int32), (114 : Int32), (105 : Int32), (116 : Int32), (101 : Int32)] : List Int32) hp105) (by first | decide | exact Nat.le_of_ble_eq_true rfl) cx130 hzc (by decide) (by decide)) q121a q121c (g := (mkF m 147 #[.val (.int p0), .val (.int (1 : Int32)), .val (.ref wW), .val (.ref b57), .val (.ref wW)] [(.ref b57), (.ref xW)])) rfl (by rw [hml]; rfl) (Steps.refl _) (argsL := [(.ref b57)]) (rest := []) (lenOf pd__Ljava_lang_Object__Z_1835 rfl) rfl (by show 2 * 0 + _ ≤ _; exact Nat.le_of_eq rfl) (hb hby at_147) (fun _ _ => ⟨rfl, e118, (by decide : 6 + 0 ≤ _), (by decide : 47 + 0 ≤ _)⟩)
    dsimp only [Pt.U, Pt.locs, Pt.cells, Pt.slots] at X121 l121 y121 z121 st121 hQ121
    subst Lp121 kp121 np121
    obtain ⟨hv121, rfl, e121⟩ := hQ121
    obtain ⟨zq121, hzq121, rfl⟩ : ∃ z : Int32, z = (if ([(114 : Int32), (101 : Int32), (97 : Int32), (100 : Int32), (95 : Int32), (119 : Int32), (114 : Int32), (105 : Int32), (116 : Int32), (101 : Int32)] : List Int32) = ([(114 : Int32), (101 : Int32), (97 : Int32), (100 : Int32), (95 : Int32), (119 : Int32), (114 : Int32), (105 : Int32), (116 : Int32), (101 : Int32)] : List Int32) then (1 : Int32) else (0 : Int32)) ∧ _ = some (Value.int z) := by rcases hv121 with ⟨q1, q2⟩ | ⟨q1, q2⟩; exact ⟨_, (if_pos q2).symm, q1⟩; exact ⟨_, (if_neg q2).symm, q1⟩
    try rw [List.append_nil] at X121
    refine own_tr (S' := T121.setTop (mkF m 150 #[.val (.int p0), .val (.int (1 : Int32)), .val (.ref wW), .val (.ref b57), .val (.ref wW)] [(.int zq121)])) st121 ?_
    obtain rfl : zq121 = (1 : Int32) := hzq121.trans (if_pos rfl)
    refine own_via (S' := T121.setTop (mkF m 153 #[.val (.int p0), .val (.int (1 : Int32)), .val (.ref wW), .val (.ref b57), .val (.ref wW)] [])) (fun t k => XS.ifNo X121.here hx rfl (hb hby at_150) rfl ((if0 _ _).trans (feq (by decide : ¬ ((1 : Int32) = (0 : Int32)))).1) k) ?_
    refine own_via (S' := T121.setTop (mkF m 154 #[.val (.int p0), .val (.int (1 : Int32)), .val (.ref wW), .val (.ref b57), .val (.ref wW)] [(.int (1 : Int32))])) (fun t k => XS.iconst X121.here hx rfl (hb hby at_153) k) ?_
    refine own_via (S' := T121.setTop (mkF m 158 #[.val (.int p0), .val (.int (1 : Int32)), .val (.ref wW), .val (.ref b57), .val (.ref wW)] [(.int (1 : Int32))])) (fun t k => XS.goto X121.here hx rfl (pc0 := 154) (pc' := 158) rfl (hb hby at_154) (by decide) (by decide) k) ?_
    have RTR116 : CHr Z own_EL s.vm h0 T121.vm T114.heap := R116.trans (CHv.at X121 hZ hEL R116.1)
    have RXR116 : CHr Z own_EL s.vm s.heap T121.vm T121.heap := by rw [hh, e121]; exact RTR116
    refine own_retW (Q := Q_own_law Z p0 zc wV kV wN wR wW xR tR kR xW tW kW h0 n0) (C := room_1.cells) (N := room_1.slots) X121 hSn114 (by rw [e121]; omega) (v := some (.int (1 : Int32))) (fun h => by rw [Bd.returns] at h; cases h) Bd.notSynchronized ?_ RXR116 (by decide) (by decide) (fun fs hr => retN X121 hx (t := .boolean) Bd.returns (by simp) (hb hby at_158) hr)
    show Q_own_law Z p0 zc wV kV wN wR wW xR tR kR xW tW kW h0 n0 _ T121.vm T121.heap _
    rw [e121]
    exact ⟨rfl, N114⟩
set_option maxRecDepth 65536 in
set_option maxHeartbeats 40000000 in
theorem comes_1 {Post : Tables → Env → Array Value → State → Outcome → State → Prop} (hpost : ∀ tb e args s v u, (limb_1_1.after args s (.returned v) u = true ∧ limb_1_2.after args s (.returned v) u = true ∧ True) → ReturnedEndW s (.returned v) u (Jvm.fieldLocs frame_1_writes args s ++ Jvm.arrayLocs frame_1_arrays args s ++ Jvm.staticLocs frame_1_statics s) 24 1152 → Post tb e args s (.returned v) u) :
    ArmFor flags0 classFile x code maxLocals ret World_1 tables_1 room_1 Calls_1 rest_1 Pre_1 Post := by
  intro l hfl _ _ p e ha hc hk s m args below hf hA hF happ hP
  obtain ⟨hcalls, hrest, hpre⟩ := hP
  obtain ⟨-, -, -, hnamed, -, -, -, hat⟩ := (Spec.applies_iff hf).mp happ
  obtain ⟨hg, hn⟩ := and_e (Cond.before_iff.mp (show (Jvm.Cond.and given_1 narrow_1).before args s = true from hpre))
  obtain ⟨hcount, hg⟩ := and_e hg
  have hg0 := hg
  obtain ⟨w0, rfl⟩ : ∃ w0 : Value, args = #[w0] := by
    have hs : args.size = 1 := by simpa [Cond.value, given_1] using hcount
    obtain ⟨L⟩ := args
    match L, hs with
    | [w0], _ => exact ⟨w0, rfl⟩
  have hw := fun d (hd : d ∈ tables_1) => atoms_spec (ws := Jvm.Cond.code x code maxLocals ret :: tables_1) hat d (List.mem_cons_of_mem _ hd)
  have hfit : Fit s := fun {y c} hc i hi => by
    obtain ⟨ha, rfl⟩ := Array.getElem?_eq_some_iff.mp hc
    have q := List.all_eq_true.mp ((Array.all_eq_true_iff_forall_mem.mp hF) _ (Array.getElem_mem ha)) i (List.mem_range.mpr hi)
    simpa [Array.getElem?_eq_getElem hi] using q
  obtain ⟨hsets, hown0⟩ := atoms_of _ (rest_1_c_eq ▸ (show rest_1_c.before _ s = true from hrest))
  have hr0 := Cond.before_iff.mp hown0
  obtain ⟨i0, ei0⟩ := is_v hg0
  obtain rfl : w0 = (.int i0) := Option.some.inj ei0
  obtain ⟨n0, hn⟩ := and_e hn
  obtain ⟨n1, hn⟩ := and_e hn
  obtain ⟨n2, hn⟩ := and_e hn
  obtain ⟨n3, hn⟩ := and_e hn
  obtain ⟨n4, hn⟩ := and_e hn
  obtain ⟨n5, hn⟩ := and_e hn
  obtain ⟨n6, hn⟩ := and_e hn
  obtain ⟨n7, hn⟩ := and_e hn
  obtain ⟨n8, hn⟩ := and_e hn
  obtain ⟨n9, hn⟩ := and_e hn
  obtain ⟨n10, hn⟩ := and_e hn
  obtain ⟨n11, hn⟩ := and_e hn
  obtain ⟨n12, hn⟩ := and_e hn
  obtain ⟨n13, hn⟩ := and_e hn
  obtain ⟨n14, hn⟩ := and_e hn
  obtain ⟨n15, hn⟩ := and_e hn
  obtain ⟨n16, hn⟩ := and_e hn
  obtain ⟨n17, hn⟩ := and_e hn
  obtain ⟨n18, hn⟩ := and_e hn
  obtain ⟨n19, hn⟩ := and_e hn
  obtain ⟨n20, hn⟩ := and_e hn
  obtain ⟨n21, hn⟩ := and_e hn
  obtain ⟨n22, hn⟩ := and_e hn
  obtain ⟨n23, hn⟩ := and_e hn
  obtain ⟨n24, hn⟩ := and_e hn
  obtain ⟨n25, hn⟩ := and_e hn
  obtain ⟨n26, hn⟩ := and_e hn
  obtain ⟨n27, hn⟩ := and_e hn
  obtain ⟨n28, hn⟩ := and_e hn
  obtain ⟨n29, hn⟩ := and_e hn
  obtain ⟨n30, hn⟩ := and_e hn
  obtain ⟨n31, hn⟩ := and_e hn
  obtain ⟨n32, hn⟩ := and_e hn
  obtain ⟨n33, hn⟩ := and_e hn
  obtain ⟨n34, hn⟩ := and_e hn
  obtain ⟨n35, hn⟩ := and_e hn
  obtain ⟨n36, hn⟩ := and_e hn
  obtain ⟨n37, hn⟩ := and_e hn
  obtain ⟨n38, hn⟩ := and_e hn
  obtain ⟨n39, hn⟩ := and_e hn
  obtain ⟨n40, hn⟩ := and_e hn
  have n41 := hn
  obtain ⟨wN, e_wN⟩ := exa_v n4
  have E_wN := Exa.start e_wN n4
  have S_wN := Sta.start e_wN (Or.inr ⟨(wd1 hw), (wd55 hw)⟩)
  obtain ⟨wR, e_wR⟩ := exa_v n0
  have E_wR := Exa.start e_wR n0
  have S_wR := Sta.start e_wR (Or.inr ⟨(wd1 hw), (wd2 hw)⟩)
  obtain ⟨wW, e_wW⟩ := exa_v n7
  have E_wW := Exa.start e_wW n7
  have S_wW := Sta.start e_wW (Or.inr ⟨(wd1 hw), (wd56 hw)⟩)
  have o_wN := own_ord e_wN n10
  have o_wR := own_ord e_wR n9
  have o_wW := own_ord e_wW n19
  have ne_wR_wN : ¬ (wR = wN) := fun q => by rw [q, o_wN] at o_wR; simp at o_wR
  have ne_wW_wN : ¬ (wW = wN) := fun q => by rw [q, o_wN] at o_wW; simp at o_wW
  obtain ⟨wV, e_wV⟩ := exa_v n2
  have E_wV := Exa.start e_wV n2
  have S_wV := Sta.start e_wV (Or.inl (wd57 hw))
  obtain ⟨cl_wV, A_wV, l_wV, z_wV⟩ := own_arr0 e_wV n1 n3
  have el_wV_0 := (elem_in (own_eqv_r e_wN n5) e_wV (Term.int_eval 0) A_wV.1).2
  have el_wV_1 := (elem_in (own_eqv_r e_wR n6) e_wV (Term.int_eval 1) A_wV.1).2
  have el_wV_2 := (elem_in (own_eqv_r e_wW n8) e_wV (Term.int_eval 2) A_wV.1).2
  have V_wV : Arv s s.heap wV cl_wV.cls (.object "com/example/regent/regent/AccessLevel") (3 : Int32) [(.ref wN), (.ref wR), (.ref wW)] .null := Arv.start hfit A_wV l_wV z_wV (by decide) rfl ⟨el_wV_0, el_wV_1, el_wV_2, trivial⟩
  obtain ⟨xR, e_xR⟩ := exa_v n11
  have E_xR := Exa.start e_xR n11
  have Fx_xR := Fld.start ((fld_at e_wR).symm.trans e_xR)
  have Fc_xR := Fld.start (own_ord e_xR n12)
  obtain ⟨tR, e_tR⟩ := arr_v n13
  have Fv_xR := Fld.start ((fld_at e_xR).symm.trans e_tR)
  obtain ⟨cl_tR, A_tR, l_tR, z_tR⟩ := own_arr0 e_tR n13 n14
  have el_tR_0 := (elem_in (eqv_i (Term.int_eval 114) n15) e_tR (Term.int_eval 0) A_tR.1).2
  have el_tR_1 := (elem_in (eqv_i (Term.int_eval 101) n16) e_tR (Term.int_eval 1) A_tR.1).2
  have el_tR_2 := (elem_in (eqv_i (Term.int_eval 97) n17) e_tR (Term.int_eval 2) A_tR.1).2
  have el_tR_3 := (elem_in (eqv_i (Term.int_eval 100) n18) e_tR (Term.int_eval 3) A_tR.1).2
  have V_tR : Arv s s.heap tR cl_tR.cls .byte (4 : Int32) [(.int (114 : Int32)), (.int (101 : Int32)), (.int (97 : Int32)), (.int (100 : Int32))] (.int (0 : Int32)) := Arv.start hfit A_tR l_tR z_tR (by decide) rfl ⟨el_tR_0, el_tR_1, el_tR_2, el_tR_3, trivial⟩
  obtain ⟨xW, e_xW⟩ := exa_v n20
  have E_xW := Exa.start e_xW n20
  have Fx_xW := Fld.start ((fld_at e_wW).symm.trans e_xW)
  have Fc_xW := Fld.start (own_ord e_xW n21)
  obtain ⟨tW, e_tW⟩ := arr_v n22
  have Fv_xW := Fld.start ((fld_at e_xW).symm.trans e_tW)
  obtain ⟨cl_tW, A_tW, l_tW, z_tW⟩ := own_arr0 e_tW n22 n23
  have el_tW_0 := (elem_in (eqv_i (Term.int_eval 114) n32) e_tW (Term.int_eval 0) A_tW.1).2
  have el_tW_1 := (elem_in (eqv_i (Term.int_eval 101) n33) e_tW (Term.int_eval 1) A_tW.1).2
  have el_tW_2 := (elem_in (eqv_i (Term.int_eval 97) n34) e_tW (Term.int_eval 2) A_tW.1).2
  have el_tW_3 := (elem_in (eqv_i (Term.int_eval 100) n35) e_tW (Term.int_eval 3) A_tW.1).2
  have el_tW_4 := (elem_in (eqv_i (Term.int_eval 95) n36) e_tW (Term.int_eval 4) A_tW.1).2
  have el_tW_5 := (elem_in (eqv_i (Term.int_eval 119) n37) e_tW (Term.int_eval 5) A_tW.1).2
  have el_tW_6 := (elem_in (eqv_i (Term.int_eval 114) n38) e_tW (Term.int_eval 6) A_tW.1).2
  have el_tW_7 := (elem_in (eqv_i (Term.int_eval 105) n39) e_tW (Term.int_eval 7) A_tW.1).2
  have el_tW_8 := (elem_in (eqv_i (Term.int_eval 116) n40) e_tW (Term.int_eval 8) A_tW.1).2
  have el_tW_9 := (elem_in (eqv_i (Term.int_eval 101) n41) e_tW (Term.int_eval 9) A_tW.1).2
  have V_tW : Arv s s.heap tW cl_tW.cls .byte (10 : Int32) [(.int (114 : Int32)), (.int (101 : Int32)), (.int (97 : Int32)), (.int (100 : Int32)), (.int (95 : Int32)), (.int (119 : Int32)), (.int (114 : Int32)), (.int (105 : Int32)), (.int (116 : Int32)), (.int (101 : Int32))] (.int (0 : Int32)) := Arv.start hfit A_tW l_tW z_tW (by decide) rfl ⟨el_tW_0, el_tW_1, el_tW_2, el_tW_3, el_tW_4, el_tW_5, el_tW_6, el_tW_7, el_tW_8, el_tW_9, trivial⟩
  obtain ⟨zc, ez⟩ := is_v (Cond.before_iff.mp (hsets _ (List.mem_of_getElem? (i := 1) rfl)))
  have S_zc : Sta s s.heap "java/lang/String" "COMPACT_STRINGS" "Z" (.int zc) := Sta.start ez (Or.inl (hsets _ (List.mem_of_getElem? (i := 0) rfl)))
  have hzc : ¬ (zc = (0 : Int32)) := gotF (Cond.eq_ints ez (Term.int_eval (0))) (not_v (Cond.before_iff.mp (hsets _ (List.mem_of_getElem? (i := 2) rfl))))
  have hEL := own_EW hw
  have hCH : CHv s own_EL s.vm s.heap := fun _ q => nomatch q
  obtain ⟨n, o, h1, h2, h3, _, L, rfl, ⟨rfl, N⟩, -, hq⟩ := own_law l s _ hw tables_1 i0 zc wV cl_wV.cls wN wR wW xR tR cl_tR.cls xW tW cl_tW.cls s.heap s.heap.size (Old.start s) S_zc S_wV E_wV V_wV S_wN S_wR S_wW E_wR E_wW Fx_xR E_xR Fc_xR Fv_xR V_tR Fx_xW E_xW Fc_xW Fv_xW V_tW hzc ne_wR_wN ne_wW_wN p e ha hc hk s m _ below hf ((Spec.applies_iff_loose hf).mp happ).1 ⟨rfl, State.Warmed39.refl s, rfl, hCH, fun _ q => nomatch q⟩ trivial
  refine ⟨n, _, h1, h2, h3, hpost _ _ _ _ _ _ ⟨Cond.after_iff.mpr rfl, Cond.after_iff.mpr (eq_i res_at (Term.int_eval (1)) rfl), trivial⟩ ⟨hq.1, hq.2.1, hq.2.2.1, (hq.2.2.2.sift fun y hy => Or.inr (N y hy)).mono (by decide) (by decide)⟩⟩
theorem main_1_1 : Claimed_1_1 := comes_1 fun _ _ _ _ _ _ h hF => ⟨h.1, hF⟩
theorem main_1_2 : Claimed_1_2 := comes_1 fun _ _ _ _ _ _ h hF => ⟨h.2.1, hF⟩
end Jvm.Pilot.@@N@@
namespace Jvm.Pilot.@@N@@
open Jvm Jvm.ClassFile Sem Op Lib Jvm.Free Jvm.Stand Jvm.Pilot.@@N@@.Jvm.D
/-! MADE BY PROGRAM (witnessworld.py) out of the Statement's table words and the real class files: 23 classes; the members and pool entries that the words name. The judged class is class 1, her method 1. -/
namespace start1
open Jvm.ClassFile
def u (s : String) : CpInfo := .utf8 (stringToUtf16 s)
/-- a pool by its gaps: so many unusable entries, then the entry; so many at the end -/
def gap : Nat → List CpInfo → List CpInfo
  | 0, r => r
  | n + 1, r => .unusable :: gap n r
def poolList (es : List (Nat × CpInfo)) (last : Nat) : List CpInfo := es.foldr (fun e r => gap e.1 (e.2 :: r)) (gap last [])
def pool (es : List (Nat × CpInfo)) (last : Nat) : Array CpInfo := ⟨poolList es last⟩
def fileOf (pool : Array CpInfo) (this : Nat) (attrs : Array Attribute := #[]) (ms : Array MethodInfo := #[]) (fl : Nat := 33) (sup : Nat := 0) (ifs : Array Nat := #[]) (fds : Array FieldInfo := #[]) : ClassFile where
  minorVersion := 0
  majorVersion := 65
  constantPool := pool
  accessFlags := fl
  thisClass := this
  superClass := sup
  interfaces := ifs
  fields := fds
  methods := ms
  attributes := attrs
def plain (name : String) (sup : Option ClassId) : Class where
  name := name
  kind := .ordinary
  loader := none
  accessFlags := 33
  super := sup
  interfaces := #[]
  cf := none
  fields := #[]
  methods := #[]
  instanceTypes := #[]
  staticTypes := #[]
  resolved := #[]
  callSites := []
  init := .initialized
  statics := none
  mirror := none

def pool0 : Array CpInfo := pool [(5, u "<init>"), (0, u "()V"), (1, .class_ 10), (1, u "java/lang/Object"), (85, u "clone"), (0, u "()Ljava/lang/Object;")] 26

def k0c0 : Code := { maxStack := 0, maxLocals := 1, code := object_method_1_code, exceptionTable := #[], attributes := #[] }
def k0m0 : Method := { name := "<init>", desc := "()V", sig := { parameters := [], returnType := none }, accessFlags := 1, code := some k0c0 }
def k0m1 : Method := { name := "clone", desc := "()Ljava/lang/Object;", sig := { parameters := [], returnType := some (.object "java/lang/Object") }, accessFlags := 260, code := none }
/-- java/lang/Object -/
def k0 : Class := { plain "java/lang/Object" none with
  accessFlags := 33
  interfaces := #[]
  cf := some (fileOf pool0 8 #[] #[{ accessFlags := 1, nameIndex := 5, descriptorIndex := 6, attributes := #[] }, { accessFlags := 260, nameIndex := 96, descriptorIndex := 97, attributes := #[] }] 33 0 #[] #[])
  fields := #[]
  methods := #[k0m0, k0m1]
  instanceTypes := #[]
  staticTypes := #[]
  resolved := Array.replicate 124 none
  statics := none }

def pool1 : Array CpInfo := pool [(2, .class_ 4), (1, u "java/lang/Object"), (0, u "<init>"), (0, u "()V"), (0, .fieldref 8 9), (0, .class_ 10), (0, .nameAndType 11 12), (0, u "com/example/regent/regent/AccessLevel"), (0, u "READ_WRITE"), (0, u "Lcom/example/regent/regent/AccessLevel;"), (0, .fieldref 8 14), (0, .nameAndType 15 12), (0, u "READ"), (0, .class_ 17), (0, u "java/lang/String"), (0, .methodref 16 19), (0, .nameAndType 5 20), (0, u "([C)V"), (0, .methodref 8 22), (0, .nameAndType 23 24), (0, u "parseGrant"), (0, u "(Ljava/lang/String;)Lcom/example/regent/regent/AccessLevel;"), (0, .methodref 8 26), (0, .nameAndType 27 28), (0, u "externalName"), (0, u "()Ljava/lang/String;"), (0, .methodref 16 30), (0, .nameAndType 31 32), (0, u "equals"), (0, u "(Ljava/lang/Object;)Z"), (0, .class_ 34), (0, u "com/example/regent/regent/AccessLevelParseGrantPinLaw"), (2, u "law"), (0, u "(I)Z")] 3

def k1m0 : Method := { name := "<init>", desc := "()V", sig := { parameters := [], returnType := none }, accessFlags := 1, code := none }
def k1c1 : Code := { maxStack := 6, maxLocals := 5, code := code, exceptionTable := #[], attributes := #[] }
def k1m1 : Method := { name := "law", desc := "(I)Z", sig := { parameters := [.int], returnType := some .boolean }, accessFlags := 9, code := some k1c1 }
/-- com/example/regent/regent/AccessLevelParseGrantPinLaw -/
def k1 : Class := { plain "com/example/regent/regent/AccessLevelParseGrantPinLaw" (some 0) with
  accessFlags := 49
  interfaces := #[]
  cf := some (fileOf pool1 33 #[] #[{ accessFlags := 1, nameIndex := 5, descriptorIndex := 6, attributes := #[] }, { accessFlags := 9, nameIndex := 37, descriptorIndex := 38, attributes := #[] }] 49 2 #[] #[])
  fields := #[]
  methods := #[k1m0, k1m1]
  instanceTypes := #[]
  staticTypes := #[]
  resolved := Array.replicate 42 none
  statics := none }

def pool2 : Array CpInfo := pool [(1, .class_ 2), (0, u "java/lang/constant/Constable"), (0, .class_ 4), (0, u "java/lang/Object")] 6

/-- java/lang/constant/Constable -/
def k2 : Class := { plain "java/lang/constant/Constable" (some 0) with
  accessFlags := 1537
  interfaces := #[]
  cf := some (fileOf pool2 1 #[] #[] 1537 3 #[] #[])
  fields := #[]
  methods := #[]
  instanceTypes := #[]
  staticTypes := #[]
  resolved := Array.replicate 11 none
  statics := none }

def pool3 : Array CpInfo := pool [(1, .class_ 2), (0, u "java/lang/Comparable"), (0, .class_ 4), (0, u "java/lang/Object")] 7

/-- java/lang/Comparable -/
def k3 : Class := { plain "java/lang/Comparable" (some 0) with
  accessFlags := 1537
  interfaces := #[]
  cf := some (fileOf pool3 1 #[] #[] 1537 3 #[] #[])
  fields := #[]
  methods := #[]
  instanceTypes := #[]
  staticTypes := #[]
  resolved := Array.replicate 12 none
  statics := none }

def pool4 : Array CpInfo := pool [(1, .class_ 2), (0, u "java/io/Serializable"), (0, .class_ 4), (0, u "java/lang/Object")] 2

/-- java/io/Serializable -/
def k4 : Class := { plain "java/io/Serializable" (some 0) with
  accessFlags := 1537
  interfaces := #[]
  cf := some (fileOf pool4 1 #[] #[] 1537 3 #[] #[])
  fields := #[]
  methods := #[]
  instanceTypes := #[]
  staticTypes := #[]
  resolved := Array.replicate 7 none
  statics := none }

def pool5 : Array CpInfo := pool [(2, .class_ 4), (1, u "java/lang/Enum"), (0, u "name"), (0, u "Ljava/lang/String;"), (2, u "ordinal"), (0, u "I"), (1, .class_ 14), (1, u "java/lang/Object"), (4, u "hash"), (86, .class_ 108), (1, u "java/lang/Enum$EnumDesc"), (2, .class_ 112), (0, u "java/lang/constant/Constable"), (0, .class_ 114), (0, u "java/lang/Comparable"), (0, .class_ 116), (0, u "java/io/Serializable")] 87

/-- java/lang/Enum -/
def k5 : Class := { plain "java/lang/Enum" (some 0) with
  accessFlags := 1057
  interfaces := #[2, 3, 4]
  cf := some (fileOf pool5 2 #[.nestMembers #[106]] #[] 1057 12 #[111, 113, 115] #[{ accessFlags := 18, nameIndex := 5, descriptorIndex := 6, attributes := #[] }, { accessFlags := 18, nameIndex := 9, descriptorIndex := 10, attributes := #[] }, { accessFlags := 2, nameIndex := 19, descriptorIndex := 10, attributes := #[] }])
  fields := #[{ name := "name", type := (.object "java/lang/String"), accessFlags := 18, slot := 0, constantValue := 0 }, { name := "ordinal", type := .int, accessFlags := 18, slot := 1, constantValue := 0 }, { name := "hash", type := .int, accessFlags := 2, slot := 2, constantValue := 0 }]
  methods := #[]
  instanceTypes := #[(.object "java/lang/String"), .int, .int]
  staticTypes := #[]
  resolved := Array.replicate 204 none
  statics := none }

def pool6 : Array CpInfo := pool [(1, .class_ 2), (0, u "com/example/regent/regent/AccessLevel"), (0, .fieldref 1 4), (0, .nameAndType 5 6), (0, u "NONE"), (0, u "Lcom/example/regent/regent/AccessLevel;"), (2, u "READ"), (2, u "READ_WRITE"), (0, .fieldref 1 14), (0, .nameAndType 15 16), (0, u "$VALUES"), (0, u "[Lcom/example/regent/regent/AccessLevel;"), (0, .methodref 18 19), (0, .class_ 16), (0, .nameAndType 20 21), (0, u "clone"), (0, u "()Ljava/lang/Object;"), (1, .class_ 25), (1, u "java/lang/Enum"), (6, .fieldref 1 33), (0, .nameAndType 34 35), (0, u "externalName"), (0, u "Ljava/lang/String;"), (0, .string 37), (0, u "name"), (0, .methodref 39 40), (0, .class_ 41), (0, .nameAndType 42 43), (0, u "java/util/Objects"), (0, u "requireNonNull"), (0, u "(Ljava/lang/Object;Ljava/lang/String;)Ljava/lang/Object;"), (0, .methodref 1 45), (0, .nameAndType 46 47), (0, u "values"), (0, u "()[Lcom/example/regent/regent/AccessLevel;"), (0, .methodref 49 50), (0, .class_ 51), (0, .nameAndType 52 53), (0, u "java/lang/String"), (0, u "equals"), (0, u "(Ljava/lang/Object;)Z"), (26, u "(Ljava/lang/String;)Lcom/example/regent/regent/AccessLevel;"), (2, u "()Ljava/lang/String;"), (0, u "parseGrant")] 21

def k6c0 : Code := { maxStack := 1, maxLocals := 0, code := prog_1_method_1_code, exceptionTable := #[], attributes := #[] }
def k6m0 : Method := { name := "values", desc := "()[Lcom/example/regent/regent/AccessLevel;", sig := { parameters := [], returnType := some (.array (.object "com/example/regent/regent/AccessLevel")) }, accessFlags := 9, code := some k6c0 }
def k6c1 : Code := { maxStack := 1, maxLocals := 1, code := prog_1_method_4_code, exceptionTable := #[], attributes := #[] }
def k6m1 : Method := { name := "externalName", desc := "()Ljava/lang/String;", sig := { parameters := [], returnType := some (.object "java/lang/String") }, accessFlags := 1, code := some k6c1 }
def k6c2 : Code := { maxStack := 3, maxLocals := 5, code := prog_1_method_5_code, exceptionTable := #[], attributes := #[] }
def k6m2 : Method := { name := "parseGrant", desc := "(Ljava/lang/String;)Lcom/example/regent/regent/AccessLevel;", sig := { parameters := [(.object "java/lang/String")], returnType := some (.object "com/example/regent/regent/AccessLevel") }, accessFlags := 9, code := some k6c2 }
/-- com/example/regent/regent/AccessLevel -/
def k6 : Class := { plain "com/example/regent/regent/AccessLevel" (some 5) with
  accessFlags := 16433
  interfaces := #[]
  cf := some (fileOf pool6 1 #[] #[{ accessFlags := 9, nameIndex := 46, descriptorIndex := 47, attributes := #[] }, { accessFlags := 1, nameIndex := 34, descriptorIndex := 83, attributes := #[] }, { accessFlags := 9, nameIndex := 84, descriptorIndex := 80, attributes := #[] }] 16433 23 #[] #[{ accessFlags := 16409, nameIndex := 5, descriptorIndex := 6, attributes := #[] }, { accessFlags := 16409, nameIndex := 9, descriptorIndex := 6, attributes := #[] }, { accessFlags := 16409, nameIndex := 12, descriptorIndex := 6, attributes := #[] }, { accessFlags := 18, nameIndex := 34, descriptorIndex := 35, attributes := #[] }, { accessFlags := 4122, nameIndex := 15, descriptorIndex := 16, attributes := #[] }])
  fields := #[{ name := "NONE", type := (.object "com/example/regent/regent/AccessLevel"), accessFlags := 16409, slot := 0, constantValue := 0 }, { name := "READ", type := (.object "com/example/regent/regent/AccessLevel"), accessFlags := 16409, slot := 1, constantValue := 0 }, { name := "READ_WRITE", type := (.object "com/example/regent/regent/AccessLevel"), accessFlags := 16409, slot := 2, constantValue := 0 }, { name := "externalName", type := (.object "java/lang/String"), accessFlags := 18, slot := 3, constantValue := 0 }, { name := "$VALUES", type := (.array (.object "com/example/regent/regent/AccessLevel")), accessFlags := 4122, slot := 3, constantValue := 0 }]
  methods := #[k6m0, k6m1, k6m2]
  instanceTypes := #[(.object "java/lang/String"), .int, .int, (.object "java/lang/String")]
  staticTypes := #[(.object "com/example/regent/regent/AccessLevel"), (.object "com/example/regent/regent/AccessLevel"), (.object "com/example/regent/regent/AccessLevel"), (.array (.object "com/example/regent/regent/AccessLevel"))]
  resolved := Array.replicate 106 none
  statics := some 0 }

def pool7 : Array CpInfo := pool [(2, .class_ 4), (1, u "java/lang/CharSequence"), (42, .class_ 48), (0, u "java/lang/CharSequence$1CodePointIterator"), (10, .class_ 60), (0, u "java/lang/CharSequence$1CharIterator"), (5, .class_ 67), (0, u "java/lang/Object")] 63

/-- java/lang/CharSequence -/
def k7 : Class := { plain "java/lang/CharSequence" (some 0) with
  accessFlags := 1537
  interfaces := #[]
  cf := some (fileOf pool7 2 #[.nestMembers #[47, 59]] #[] 1537 66 #[] #[])
  fields := #[]
  methods := #[]
  instanceTypes := #[]
  staticTypes := #[]
  resolved := Array.replicate 131 none
  statics := none }

def pool8 : Array CpInfo := pool [(1, .class_ 2), (0, u "java/lang/constant/ConstantDesc"), (0, .class_ 4), (0, u "java/lang/Object")] 32

/-- java/lang/constant/ConstantDesc -/
def k8 : Class := { plain "java/lang/constant/ConstantDesc" (some 0) with
  accessFlags := 1537
  interfaces := #[]
  cf := some (fileOf pool8 1 #[] #[] 1537 3 #[] #[])
  fields := #[]
  methods := #[]
  instanceTypes := #[]
  staticTypes := #[]
  resolved := Array.replicate 37 none
  statics := none }

def pool9 : Array CpInfo := pool [(1, .methodref 2 3), (0, .class_ 4), (0, .nameAndType 5 6), (0, u "java/lang/Object"), (0, u "<init>"), (0, u "()V"), (2, .fieldref 10 11), (0, .class_ 12), (0, .nameAndType 13 14), (0, u "java/lang/String"), (0, u "value"), (0, u "[B"), (0, .fieldref 10 16), (0, .nameAndType 17 18), (0, u "coder"), (0, u "B"), (2, u "hash"), (0, u "I"), (2, u "hashIsZero"), (0, u "Z"), (0, .methodref 10 28), (0, .nameAndType 5 29), (0, u "([CIILjava/lang/Void;)V"), (8, .fieldref 10 39), (0, .nameAndType 40 26), (0, u "COMPACT_STRINGS"), (1, .class_ 44), (1, u "java/lang/StringUTF16"), (0, u "compress"), (1, .methodref 42 48), (0, .nameAndType 49 50), (0, u "coderFromArrayLen"), (0, u "([BI)B"), (56, .class_ 109), (1, u "java/lang/StringLatin1"), (67, .methodref 42 178), (0, .nameAndType 45 179), (0, u "([CII)[B"), (361, .methodref 107 542), (0, .nameAndType 543 544), (0, u "equals"), (0, u "([B[B)Z"), (28, u "(Ljava/lang/Object;)Z"), (1, .class_ 576), (0, u "java/lang/CharSequence"), (22, u "CASE_INSENSITIVE_ORDER"), (0, u "Ljava/util/Comparator;"), (409, u "([C)V"), (90, u "serialPersistentFields"), (0, u "[Ljava/io/ObjectStreamField;"), (0, .class_ 1104), (0, u "java/lang/String$CaseInsensitiveComparator"), (1, .class_ 1107), (0, u "java/io/Serializable"), (0, .class_ 1109), (0, u "java/lang/Comparable"), (0, .class_ 1111), (0, u "java/lang/constant/Constable"), (0, .class_ 1113), (0, u "java/lang/constant/ConstantDesc"), (2, u "serialVersionUID"), (0, u "J"), (3, u "REPL"), (0, u "C"), (2, u "LATIN1"), (1, u "UTF16")] 323

def k9m0 : Method := { name := "<init>", desc := "()V", sig := { parameters := [], returnType := none }, accessFlags := 1, code := none }
def k9c1 : Code := { maxStack := 5, maxLocals := 2, code := jdk_42_method_3_code, exceptionTable := #[], attributes := #[] }
def k9m1 : Method := { name := "<init>", desc := "([C)V", sig := { parameters := [(.array .char)], returnType := none }, accessFlags := 1, code := some k9c1 }
def k9c2 : Code := { maxStack := 2, maxLocals := 3, code := jdk_42_method_66_code, exceptionTable := #[], attributes := #[] }
def k9m2 : Method := { name := "equals", desc := "(Ljava/lang/Object;)Z", sig := { parameters := [(.object "java/lang/Object")], returnType := some .boolean }, accessFlags := 1, code := some k9c2 }
def k9c3 : Code := { maxStack := 4, maxLocals := 6, code := jdk_42_method_149_code, exceptionTable := #[], attributes := #[] }
def k9m3 : Method := { name := "<init>", desc := "([CIILjava/lang/Void;)V", sig := { parameters := [(.array .char), .int, .int, (.object "java/lang/Void")], returnType := none }, accessFlags := 2, code := some k9c3 }
/-- java/lang/String -/
def k9 : Class := { plain "java/lang/String" (some 0) with
  accessFlags := 49
  interfaces := #[4, 3, 7, 2, 8]
  cf := some (fileOf pool9 10 #[.nestMembers #[1103]] #[{ accessFlags := 1, nameIndex := 5, descriptorIndex := 6, attributes := #[] }, { accessFlags := 1, nameIndex := 5, descriptorIndex := 1010, attributes := #[] }, { accessFlags := 1, nameIndex := 543, descriptorIndex := 573, attributes := #[] }, { accessFlags := 2, nameIndex := 5, descriptorIndex := 29, attributes := #[] }] 49 2 #[1106, 1108, 575, 1110, 1112] #[{ accessFlags := 18, nameIndex := 13, descriptorIndex := 14, attributes := #[] }, { accessFlags := 18, nameIndex := 17, descriptorIndex := 18, attributes := #[] }, { accessFlags := 2, nameIndex := 21, descriptorIndex := 22, attributes := #[] }, { accessFlags := 2, nameIndex := 25, descriptorIndex := 26, attributes := #[] }, { accessFlags := 26, nameIndex := 1116, descriptorIndex := 1117, attributes := #[] }, { accessFlags := 24, nameIndex := 40, descriptorIndex := 26, attributes := #[] }, { accessFlags := 26, nameIndex := 1101, descriptorIndex := 1102, attributes := #[] }, { accessFlags := 26, nameIndex := 1121, descriptorIndex := 1122, attributes := #[] }, { accessFlags := 25, nameIndex := 599, descriptorIndex := 600, attributes := #[] }, { accessFlags := 24, nameIndex := 1125, descriptorIndex := 18, attributes := #[] }, { accessFlags := 24, nameIndex := 1127, descriptorIndex := 18, attributes := #[] }])
  fields := #[{ name := "value", type := (.array .byte), accessFlags := 18, slot := 0, constantValue := 0 }, { name := "coder", type := .byte, accessFlags := 18, slot := 1, constantValue := 0 }, { name := "hash", type := .int, accessFlags := 2, slot := 2, constantValue := 0 }, { name := "hashIsZero", type := .boolean, accessFlags := 2, slot := 3, constantValue := 0 }, { name := "serialVersionUID", type := .long, accessFlags := 26, slot := 0, constantValue := 0 }, { name := "COMPACT_STRINGS", type := .boolean, accessFlags := 24, slot := 1, constantValue := 0 }, { name := "serialPersistentFields", type := (.array (.object "java/io/ObjectStreamField")), accessFlags := 26, slot := 2, constantValue := 0 }, { name := "REPL", type := .char, accessFlags := 26, slot := 3, constantValue := 0 }, { name := "CASE_INSENSITIVE_ORDER", type := (.object "java/util/Comparator"), accessFlags := 25, slot := 4, constantValue := 0 }, { name := "LATIN1", type := .byte, accessFlags := 24, slot := 5, constantValue := 0 }, { name := "UTF16", type := .byte, accessFlags := 24, slot := 6, constantValue := 0 }]
  methods := #[k9m0, k9m1, k9m2, k9m3]
  instanceTypes := #[(.array .byte), .byte, .int, .boolean]
  staticTypes := #[.long, .boolean, (.array (.object "java/io/ObjectStreamField")), .char, (.object "java/util/Comparator"), .byte, .byte]
  resolved := Array.replicate 1451 none
  statics := some 1 }

def pool10 : Array CpInfo := pool [(6, .class_ 8), (1, u "java/lang/Object"), (0, u "<init>"), (0, u "()V"), (1, .class_ 14), (1, u "java/lang/StringUTF16"), (31, u "$assertionsDisabled"), (0, u "Z"), (13, u "HI_BYTE_SHIFT"), (0, u "I"), (2, u "LO_BYTE_SHIFT"), (49, .methodref 12 116), (0, .nameAndType 117 118), (0, u "compress"), (0, u "([CI[BII)I"), (3, u "([CII)[B"), (138, u "coderFromArrayLen"), (0, u "([BI)B"), (106, .class_ 371), (1, u "java/lang/StringUTF16$LinesSpliterator"), (58, u "MAX_LENGTH"), (196, .class_ 628), (0, u "java/lang/StringUTF16$CodePointsSpliterator"), (0, .class_ 630), (0, u "java/lang/StringUTF16$CharsSpliterator")] 4

def k10m0 : Method := { name := "<init>", desc := "()V", sig := { parameters := [], returnType := none }, accessFlags := 0, code := none }
def k10c1 : Code := { maxStack := 2, maxLocals := 2, code := jdk_52_method_15_code, exceptionTable := #[], attributes := #[] }
def k10m1 : Method := { name := "coderFromArrayLen", desc := "([BI)B", sig := { parameters := [(.array .byte), .int], returnType := some .byte }, accessFlags := 8, code := some k10c1 }
def k10c2 : Code := { maxStack := 5, maxLocals := 6, code := jdk_52_method_16_code, exceptionTable := #[], attributes := #[] }
def k10m2 : Method := { name := "compress", desc := "([CII)[B", sig := { parameters := [(.array .char), .int, .int], returnType := some (.array .byte) }, accessFlags := 9, code := some k10c2 }
def k10c3 : Code := { maxStack := 3, maxLocals := 7, code := jdk_52_method_21_code, exceptionTable := #[], attributes := #[] }
def k10m3 : Method := { name := "compress", desc := "([CI[BII)I", sig := { parameters := [(.array .char), .int, (.array .byte), .int, .int], returnType := some .int }, accessFlags := 9, code := some k10c3 }
/-- java/lang/StringUTF16 -/
def k10 : Class := { plain "java/lang/StringUTF16" (some 0) with
  accessFlags := 48
  interfaces := #[]
  cf := some (fileOf pool10 12 #[.nestMembers #[627, 629, 369]] #[{ accessFlags := 0, nameIndex := 9, descriptorIndex := 10, attributes := #[] }, { accessFlags := 8, nameIndex := 261, descriptorIndex := 262, attributes := #[] }, { accessFlags := 9, nameIndex := 117, descriptorIndex := 122, attributes := #[] }, { accessFlags := 9, nameIndex := 117, descriptorIndex := 118, attributes := #[] }] 48 6 #[] #[{ accessFlags := 26, nameIndex := 61, descriptorIndex := 62, attributes := #[] }, { accessFlags := 26, nameIndex := 65, descriptorIndex := 62, attributes := #[] }, { accessFlags := 24, nameIndex := 430, descriptorIndex := 62, attributes := #[] }, { accessFlags := 4120, nameIndex := 46, descriptorIndex := 47, attributes := #[] }])
  fields := #[{ name := "HI_BYTE_SHIFT", type := .int, accessFlags := 26, slot := 0, constantValue := 0 }, { name := "LO_BYTE_SHIFT", type := .int, accessFlags := 26, slot := 1, constantValue := 0 }, { name := "MAX_LENGTH", type := .int, accessFlags := 24, slot := 2, constantValue := 0 }, { name := "$assertionsDisabled", type := .boolean, accessFlags := 4120, slot := 3, constantValue := 0 }]
  methods := #[k10m0, k10m1, k10m2, k10m3]
  instanceTypes := #[]
  staticTypes := #[.int, .int, .int, .boolean]
  resolved := Array.replicate 635 none
  statics := none }

def pool11 : Array CpInfo := pool [(2, .class_ 4), (1, u "java/lang/Object"), (0, u "<init>"), (0, u "()V"), (35, .class_ 44), (1, u "java/util/Objects"), (0, u "requireNonNull"), (48, u "(Ljava/lang/Object;Ljava/lang/String;)Ljava/lang/Object;")] 89

def k11m0 : Method := { name := "<init>", desc := "()V", sig := { parameters := [], returnType := none }, accessFlags := 2, code := none }
def k11c1 : Code := { maxStack := 3, maxLocals := 2, code := jdk_31_method_11_code, exceptionTable := #[], attributes := #[] }
def k11m1 : Method := { name := "requireNonNull", desc := "(Ljava/lang/Object;Ljava/lang/String;)Ljava/lang/Object;", sig := { parameters := [(.object "java/lang/Object"), (.object "java/lang/String")], returnType := some (.object "java/lang/Object") }, accessFlags := 9, code := some k11c1 }
/-- java/util/Objects -/
def k11 : Class := { plain "java/util/Objects" (some 0) with
  accessFlags := 49
  interfaces := #[]
  cf := some (fileOf pool11 42 #[] #[{ accessFlags := 2, nameIndex := 5, descriptorIndex := 6, attributes := #[] }, { accessFlags := 9, nameIndex := 45, descriptorIndex := 94, attributes := #[] }] 49 2 #[] #[])
  fields := #[]
  methods := #[k11m0, k11m1]
  instanceTypes := #[]
  staticTypes := #[]
  resolved := Array.replicate 184 none
  statics := none }

def pool12 : Array CpInfo := pool [(1, .class_ 2), (0, u "java/lang/Cloneable"), (0, .class_ 4), (0, u "java/lang/Object")] 2

/-- java/lang/Cloneable -/
def k12 : Class := { plain "java/lang/Cloneable" (some 0) with
  accessFlags := 1537
  interfaces := #[]
  cf := some (fileOf pool12 1 #[] #[] 1537 3 #[] #[])
  fields := #[]
  methods := #[]
  instanceTypes := #[]
  staticTypes := #[]
  resolved := Array.replicate 7 none
  statics := none }

def pool13 : Array CpInfo := pool [(4, .class_ 6), (1, u "java/lang/Object"), (0, u "<init>"), (0, u "()V"), (5, .class_ 16), (1, u "java/lang/StringLatin1"), (104, u "$assertionsDisabled"), (0, u "Z"), (98, .class_ 223), (1, u "java/lang/StringLatin1$LinesSpliterator"), (57, u "equals"), (0, u "([B[B)Z"), (107, .class_ 391), (0, u "java/lang/StringLatin1$CharsSpliterator")] 3

def k13m0 : Method := { name := "<init>", desc := "()V", sig := { parameters := [], returnType := none }, accessFlags := 0, code := none }
def k13c1 : Code := { maxStack := 3, maxLocals := 3, code := jdk_43_method_13_code, exceptionTable := #[], attributes := #[] }
def k13m1 : Method := { name := "equals", desc := "([B[B)Z", sig := { parameters := [(.array .byte), (.array .byte)], returnType := some .boolean }, accessFlags := 9, code := some k13c1 }
/-- java/lang/StringLatin1 -/
def k13 : Class := { plain "java/lang/StringLatin1" (some 0) with
  accessFlags := 48
  interfaces := #[]
  cf := some (fileOf pool13 14 #[.nestMembers #[390, 221]] #[{ accessFlags := 0, nameIndex := 7, descriptorIndex := 8, attributes := #[] }, { accessFlags := 9, nameIndex := 281, descriptorIndex := 282, attributes := #[] }] 48 4 #[] #[{ accessFlags := 4120, nameIndex := 121, descriptorIndex := 122, attributes := #[] }])
  fields := #[{ name := "$assertionsDisabled", type := .boolean, accessFlags := 4120, slot := 0, constantValue := 0 }]
  methods := #[k13m0, k13m1]
  instanceTypes := #[]
  staticTypes := #[.boolean]
  resolved := Array.replicate 395 none
  statics := none }

def pool14 : Array CpInfo := pool [(2, .class_ 4), (1, u "java/lang/Object"), (0, u "<init>"), (0, u "()V"), (17, .class_ 26), (1, u "jdk/internal/util/Preconditions"), (28, .class_ 56), (0, u "jdk/internal/util/Preconditions$4"), (57, .class_ 115), (0, u "jdk/internal/util/Preconditions$1"), (7, u "SIOOBE_FORMATTER"), (0, u "Ljava/util/function/BiFunction;"), (0, .class_ 126), (0, u "jdk/internal/util/Preconditions$2"), (3, u "AIOOBE_FORMATTER"), (0, .class_ 132), (0, u "jdk/internal/util/Preconditions$3"), (3, u "IOOBE_FORMATTER")] 57

def k14m0 : Method := { name := "<init>", desc := "()V", sig := { parameters := [], returnType := none }, accessFlags := 1, code := none }
/-- jdk/internal/util/Preconditions -/
def k14 : Class := { plain "jdk/internal/util/Preconditions" (some 0) with
  accessFlags := 33
  interfaces := #[]
  cf := some (fileOf pool14 24 #[.nestMembers #[55, 131, 125, 114]] #[{ accessFlags := 1, nameIndex := 5, descriptorIndex := 6, attributes := #[] }] 33 2 #[] #[{ accessFlags := 25, nameIndex := 123, descriptorIndex := 124, attributes := #[] }, { accessFlags := 25, nameIndex := 130, descriptorIndex := 124, attributes := #[] }, { accessFlags := 25, nameIndex := 136, descriptorIndex := 124, attributes := #[] }])
  fields := #[{ name := "SIOOBE_FORMATTER", type := (.object "java/util/function/BiFunction"), accessFlags := 25, slot := 0, constantValue := 0 }, { name := "AIOOBE_FORMATTER", type := (.object "java/util/function/BiFunction"), accessFlags := 25, slot := 1, constantValue := 0 }, { name := "IOOBE_FORMATTER", type := (.object "java/util/function/BiFunction"), accessFlags := 25, slot := 2, constantValue := 0 }]
  methods := #[k14m0]
  instanceTypes := #[]
  staticTypes := #[(.object "java/util/function/BiFunction"), (.object "java/util/function/BiFunction"), (.object "java/util/function/BiFunction")]
  resolved := Array.replicate 194 none
  statics := some 2 }

def pool15 : Array CpInfo := pool [(9, u "<init>"), (6, .class_ 18), (1, u "java/lang/Object"), (0, u "()V"), (1, .class_ 23), (1, u "jdk/internal/util/ArraysSupport"), (0, u "LOG2_ARRAY_LONG_INDEX_SCALE"), (0, u "I"), (2, u "U"), (0, u "Ljdk/internal/misc/Unsafe;"), (8, u "BIG_ENDIAN"), (0, u "Z"), (8, u "LOG2_BYTE_BIT_SIZE"), (4, u "LOG2_ARRAY_INT_INDEX_SCALE"), (54, u "JLA"), (0, u "Ljdk/internal/access/JavaLangAccess;"), (11, u "LOG2_ARRAY_BOOLEAN_INDEX_SCALE"), (9, u "LOG2_ARRAY_BYTE_INDEX_SCALE"), (5, u "LOG2_ARRAY_CHAR_INDEX_SCALE"), (5, u "LOG2_ARRAY_SHORT_INDEX_SCALE"), (18, u "LOG2_ARRAY_FLOAT_INDEX_SCALE"), (24, u "LOG2_ARRAY_DOUBLE_INDEX_SCALE"), (89, u "T_BOOLEAN"), (2, u "T_CHAR"), (1, u "T_FLOAT"), (1, u "T_DOUBLE"), (1, u "T_BYTE"), (1, u "T_SHORT"), (1, u "T_INT"), (1, u "T_LONG"), (1, u "SOFT_MAX_ARRAY_LENGTH")] 83

def k15m0 : Method := { name := "<init>", desc := "()V", sig := { parameters := [], returnType := none }, accessFlags := 2, code := none }
/-- jdk/internal/util/ArraysSupport -/
def k15 : Class := { plain "jdk/internal/util/ArraysSupport" (some 0) with
  accessFlags := 33
  interfaces := #[]
  cf := some (fileOf pool15 21 #[] #[{ accessFlags := 2, nameIndex := 9, descriptorIndex := 19, attributes := #[] }] 33 16 #[] #[{ accessFlags := 24, nameIndex := 28, descriptorIndex := 29, attributes := #[] }, { accessFlags := 26, nameIndex := 38, descriptorIndex := 39, attributes := #[] }, { accessFlags := 25, nameIndex := 121, descriptorIndex := 25, attributes := #[] }, { accessFlags := 25, nameIndex := 131, descriptorIndex := 25, attributes := #[] }, { accessFlags := 25, nameIndex := 137, descriptorIndex := 25, attributes := #[] }, { accessFlags := 25, nameIndex := 143, descriptorIndex := 25, attributes := #[] }, { accessFlags := 25, nameIndex := 53, descriptorIndex := 25, attributes := #[] }, { accessFlags := 25, nameIndex := 24, descriptorIndex := 25, attributes := #[] }, { accessFlags := 25, nameIndex := 162, descriptorIndex := 25, attributes := #[] }, { accessFlags := 25, nameIndex := 187, descriptorIndex := 25, attributes := #[] }, { accessFlags := 26, nameIndex := 48, descriptorIndex := 25, attributes := #[] }, { accessFlags := 25, nameIndex := 277, descriptorIndex := 25, attributes := #[] }, { accessFlags := 25, nameIndex := 280, descriptorIndex := 25, attributes := #[] }, { accessFlags := 25, nameIndex := 282, descriptorIndex := 25, attributes := #[] }, { accessFlags := 25, nameIndex := 284, descriptorIndex := 25, attributes := #[] }, { accessFlags := 25, nameIndex := 286, descriptorIndex := 25, attributes := #[] }, { accessFlags := 25, nameIndex := 288, descriptorIndex := 25, attributes := #[] }, { accessFlags := 25, nameIndex := 290, descriptorIndex := 25, attributes := #[] }, { accessFlags := 25, nameIndex := 292, descriptorIndex := 25, attributes := #[] }, { accessFlags := 26, nameIndex := 108, descriptorIndex := 109, attributes := #[] }, { accessFlags := 25, nameIndex := 294, descriptorIndex := 25, attributes := #[] }])
  fields := #[{ name := "U", type := (.object "jdk/internal/misc/Unsafe"), accessFlags := 24, slot := 0, constantValue := 0 }, { name := "BIG_ENDIAN", type := .boolean, accessFlags := 26, slot := 1, constantValue := 0 }, { name := "LOG2_ARRAY_BOOLEAN_INDEX_SCALE", type := .int, accessFlags := 25, slot := 2, constantValue := 0 }, { name := "LOG2_ARRAY_BYTE_INDEX_SCALE", type := .int, accessFlags := 25, slot := 3, constantValue := 0 }, { name := "LOG2_ARRAY_CHAR_INDEX_SCALE", type := .int, accessFlags := 25, slot := 4, constantValue := 0 }, { name := "LOG2_ARRAY_SHORT_INDEX_SCALE", type := .int, accessFlags := 25, slot := 5, constantValue := 0 }, { name := "LOG2_ARRAY_INT_INDEX_SCALE", type := .int, accessFlags := 25, slot := 6, constantValue := 0 }, { name := "LOG2_ARRAY_LONG_INDEX_SCALE", type := .int, accessFlags := 25, slot := 7, constantValue := 0 }, { name := "LOG2_ARRAY_FLOAT_INDEX_SCALE", type := .int, accessFlags := 25, slot := 8, constantValue := 0 }, { name := "LOG2_ARRAY_DOUBLE_INDEX_SCALE", type := .int, accessFlags := 25, slot := 9, constantValue := 0 }, { name := "LOG2_BYTE_BIT_SIZE", type := .int, accessFlags := 26, slot := 10, constantValue := 0 }, { name := "T_BOOLEAN", type := .int, accessFlags := 25, slot := 11, constantValue := 0 }, { name := "T_CHAR", type := .int, accessFlags := 25, slot := 12, constantValue := 0 }, { name := "T_FLOAT", type := .int, accessFlags := 25, slot := 13, constantValue := 0 }, { name := "T_DOUBLE", type := .int, accessFlags := 25, slot := 14, constantValue := 0 }, { name := "T_BYTE", type := .int, accessFlags := 25, slot := 15, constantValue := 0 }, { name := "T_SHORT", type := .int, accessFlags := 25, slot := 16, constantValue := 0 }, { name := "T_INT", type := .int, accessFlags := 25, slot := 17, constantValue := 0 }, { name := "T_LONG", type := .int, accessFlags := 25, slot := 18, constantValue := 0 }, { name := "JLA", type := (.object "jdk/internal/access/JavaLangAccess"), accessFlags := 26, slot := 19, constantValue := 0 }, { name := "SOFT_MAX_ARRAY_LENGTH", type := .int, accessFlags := 25, slot := 20, constantValue := 0 }]
  methods := #[k15m0]
  instanceTypes := #[]
  staticTypes := #[(.object "jdk/internal/misc/Unsafe"), .boolean, .int, .int, .int, .int, .int, .int, .int, .int, .int, .int, .int, .int, .int, .int, .int, .int, .int, (.object "jdk/internal/access/JavaLangAccess"), .int]
  resolved := Array.replicate 378 none
  statics := none }

/-- the primitive byte -/
def k16 : Class := { plain "byte" none with kind := .primitive 'B', accessFlags := 0x411 }
/-- [B -/
def k17 : Class := { plain "[B" (some 0) with kind := .array 16 .byte, interfaces := #[12, 4], accessFlags := 1041 }

/-- the primitive char -/
def k18 : Class := { plain "char" none with kind := .primitive 'C', accessFlags := 0x411 }
/-- [C -/
def k19 : Class := { plain "[C" (some 0) with kind := .array 18 .char, interfaces := #[12, 4], accessFlags := 1041 }

/-- the primitive int -/
def k20 : Class := { plain "int" none with kind := .primitive 'I', accessFlags := 0x411 }
/-- [I -/
def k21 : Class := { plain "[I" (some 0) with kind := .array 20 .int, interfaces := #[12, 4], accessFlags := 1041 }

/-- [Lcom/example/regent/regent/AccessLevel; -/
def k22 : Class := { plain "[Lcom/example/regent/regent/AccessLevel;" (some 0) with kind := .array 6 (.object "com/example/regent/regent/AccessLevel"), interfaces := #[12, 4], accessFlags := 1041 }

def heap : Heap := #[{ cls := 6, slots := #[.ref 10, .ref 11, .ref 12, .ref 3], vm := .statics 6 },
  { cls := 9, slots := #[.long 0, .int 1, .null, .int 0, .null, .int 0, .int 0], vm := .statics 9 },
  { cls := 14, slots := #[.null, .null, .null], vm := .statics 14 },
  { cls := 22, slots := #[.ref 10, .ref 11, .ref 12], vm := .none },
  { cls := 17, slots := #[.int 110, .int 111, .int 110, .int 101], vm := .none },
  { cls := 17, slots := #[.int 114, .int 101, .int 97, .int 100], vm := .none },
  { cls := 17, slots := #[.int 114, .int 101, .int 97, .int 100, .int 95, .int 119, .int 114, .int 105, .int 116, .int 101], vm := .none },
  { cls := 9, slots := #[.ref 4, .int 0, .int 0, .int 0], vm := .none },
  { cls := 9, slots := #[.ref 5, .int 0, .int 0, .int 0], vm := .none },
  { cls := 9, slots := #[.ref 6, .int 0, .int 0, .int 0], vm := .none },
  { cls := 6, slots := #[.null, .int 0, .int 0, .ref 7], vm := .none },
  { cls := 6, slots := #[.null, .int 1, .int 0, .ref 8], vm := .none },
  { cls := 6, slots := #[.null, .int 2, .int 0, .ref 9], vm := .none }]
def classes : Array Class := #[k0, k1, k2, k3, k4, k5, k6, k7, k8, k9, k10, k11, k12, k13, k14, k15, k16, k17, k18, k19, k20, k21, k22]
def interned : List (Array UInt16 × Addr) := []
def slotsUsed : Nat := 59
def theMethod : MethodId := ⟨1, 1⟩
def args0 : Array Value := #[.int 5]
def aboutOver (below : List Frame) : State where
  vm := { classes := classes, interned := interned.toArray }
  heap := heap
  slotsUsed := slotsUsed
  threads := #[{ frames := .invoking theMethod args0 :: below }]
def below0 : List Frame := [.native { method := ⟨0, 0⟩, args := #[] }]
def about1 : State := aboutOver below0
def p0 : Program := .bare "" "" ""
def e0 : Env := launch0.env 0 0 0
theorem w_frames : about1.frames = Frame.invoking theMethod args0 :: below0 := rfl
set_option maxRecDepth 65536 in
theorem w_args : argsFit about1.vm theMethod args0 = true := by decide +kernel
set_option maxRecDepth 65536 in
theorem w_heap : heapFits about1 = true := by decide +kernel
set_option maxRecDepth 65536 in
theorem w_runnable : about1.curStatus? = some .runnable := by decide +kernel
set_option maxRecDepth 65536 in
theorem w_alone : about1.alone = true := by decide +kernel
set_option maxRecDepth 65536 in
theorem w_named : about1.methodNamed? x = some theMethod := by decide +kernel
set_option maxRecDepth 65536 in
theorem w_hears : about1.hears theMethod below0 = true := by decide +kernel
set_option maxRecDepth 65536 in
theorem w_ripe : about1.ripe theMethod args0 below0 = true := by decide +kernel
theorem w_running : about1.status = .running := rfl
set_option maxRecDepth 65536 in
theorem w_room : about1.hasRoom e0.platform room_1 = true :=
  launch0.hasRoom_least _ room_1 (by decide +kernel) (by decide +kernel) (by decide +kernel) (by decide +kernel) (by decide +kernel) (by decide +kernel)
theorem allAtoms_all (ts : List Jvm.Cond) (a : Array Jvm.Value) (st : Jvm.State) : (allAtoms ts).before a st = ts.all (fun c => c.before a st) := by
  induction ts with
  | nil => rfl
  | cons c t ih =>
    show (Jvm.Cond.and c (allAtoms t)).before a st = _
    rw [Jvm.Cond.before_and, ih, List.all_cons]
def words1 : List Jvm.Cond := Jvm.Cond.code x code maxLocals ret :: tables_1
/-- a 'code' word, met by the world's own term for the bytes: nothing is compared byte by byte -/
theorem code_word {y : MethodName} {bytes : ByteArray} {mx : Nat} {rt : Option FieldType} {a : Array Value} {s : State} {m : MethodId} {meth : Method} {c : Code} (h1 : s.methodNamed? y = some m) (h2 : s.vm.method? m = some meth) (h3 : meth.code = some c) (h4 : c.code = bytes)
    (h5 : (c.maxLocals == mx && c.exceptionTable.isEmpty && decide (c.maxStack ≤ mostOperands) && decide (meth.sig.returnType = rt) && !meth.locks && decide (parseMethodDescriptor y.desc = some meth.sig)) = true) : (Jvm.Cond.code y bytes mx rt).before a s = true := by
  simp only [Bool.and_eq_true, beq_iff_eq, Bool.not_eq_true', decide_eq_true_eq] at h5
  obtain ⟨⟨⟨⟨⟨g1, g2⟩, g3⟩, g4⟩, g5⟩, g6⟩ := h5
  simp [Cond.before, Cond.holds, Cond.value, h1, h2, h3, h4, g1, g2, g3, g4, g5, g6]
def isCode : Jvm.Cond → Bool
  | .code _ _ _ _ => true
  | _ => false
theorem all_split {L : List Jvm.Cond} {P : Jvm.Cond → Bool} (h1 : L.all (fun c => isCode c || P c) = true) (h2 : ∀ c ∈ L.filter isCode, P c = true) : L.all P = true := by
  refine List.all_eq_true.mpr fun c hc => ?_
  have h := List.all_eq_true.mp h1 c hc
  rcases Bool.eq_false_or_eq_true (isCode c) with hi | hi
  · exact h2 c (List.mem_filter.mpr ⟨hc, hi⟩)
  · simpa [hi] using h
set_option maxRecDepth 65536 in
theorem w_c0 : (Jvm.Cond.code x code maxLocals ret).before args0 about1 = true := code_word (m := ⟨1, 1⟩) (meth := k1m1) (c := k1c1) (by decide +kernel) rfl rfl rfl (by decide +kernel)
set_option maxRecDepth 65536 in
theorem w_c1 : (Jvm.Cond.code ({ cls := "java/lang/String", name := "<init>", desc := "([C)V" } : Jvm.MethodName) jdk_42_method_3_code (2 : Nat) (Option.none : Option Jvm.ClassFile.FieldType)).before args0 about1 = true := code_word (m := ⟨9, 1⟩) (meth := k9m1) (c := k9c1) (by decide +kernel) rfl rfl rfl (by decide +kernel)
set_option maxRecDepth 65536 in
theorem w_c2 : (Jvm.Cond.code ({ cls := "java/lang/String", name := "<init>", desc := "([CIILjava/lang/Void;)V" } : Jvm.MethodName) jdk_42_method_149_code (6 : Nat) (Option.none : Option Jvm.ClassFile.FieldType)).before args0 about1 = true := code_word (m := ⟨9, 3⟩) (meth := k9m3) (c := k9c3) (by decide +kernel) rfl rfl rfl (by decide +kernel)
set_option maxRecDepth 65536 in
theorem w_c3 : (Jvm.Cond.code ({ cls := "java/lang/Object", name := "<init>", desc := "()V" } : Jvm.MethodName) object_method_1_code (1 : Nat) (Option.none : Option Jvm.ClassFile.FieldType)).before args0 about1 = true := code_word (m := ⟨0, 0⟩) (meth := k0m0) (c := k0c0) (by decide +kernel) rfl rfl rfl (by decide +kernel)
set_option maxRecDepth 65536 in
theorem w_c4 : (Jvm.Cond.code ({ cls := "java/lang/StringUTF16", name := "compress", desc := "([CII)[B" } : Jvm.MethodName) jdk_52_method_16_code (6 : Nat) (Option.some (Jvm.ClassFile.FieldType.array Jvm.ClassFile.FieldType.byte))).before args0 about1 = true := code_word (m := ⟨10, 2⟩) (meth := k10m2) (c := k10c2) (by decide +kernel) rfl rfl rfl (by decide +kernel)
set_option maxRecDepth 65536 in
theorem w_c5 : (Jvm.Cond.code ({ cls := "java/lang/StringUTF16", name := "compress", desc := "([CI[BII)I" } : Jvm.MethodName) jdk_52_method_21_code (7 : Nat) (Option.some Jvm.ClassFile.FieldType.int)).before args0 about1 = true := code_word (m := ⟨10, 3⟩) (meth := k10m3) (c := k10c3) (by decide +kernel) rfl rfl rfl (by decide +kernel)
set_option maxRecDepth 65536 in
theorem w_c6 : (Jvm.Cond.code ({ cls := "java/lang/StringUTF16", name := "coderFromArrayLen", desc := "([BI)B" } : Jvm.MethodName) jdk_52_method_15_code (2 : Nat) (Option.some Jvm.ClassFile.FieldType.byte)).before args0 about1 = true := code_word (m := ⟨10, 1⟩) (meth := k10m1) (c := k10c1) (by decide +kernel) rfl rfl rfl (by decide +kernel)
set_option maxRecDepth 65536 in
theorem w_c7 : (Jvm.Cond.code ({ cls := "com/example/regent/regent/AccessLevel", name := "parseGrant", desc := "(Ljava/lang/String;)Lcom/example/regent/regent/AccessLevel;" } : Jvm.MethodName) prog_1_method_5_code (5 : Nat) (Option.some (Jvm.ClassFile.FieldType.object "com/example/regent/regent/AccessLevel"))).before args0 about1 = true := code_word (m := ⟨6, 2⟩) (meth := k6m2) (c := k6c2) (by decide +kernel) rfl rfl rfl (by decide +kernel)
set_option maxRecDepth 65536 in
theorem w_c8 : (Jvm.Cond.code ({ cls := "java/util/Objects", name := "requireNonNull", desc := "(Ljava/lang/Object;Ljava/lang/String;)Ljava/lang/Object;" } : Jvm.MethodName) jdk_31_method_11_code (2 : Nat) (Option.some (Jvm.ClassFile.FieldType.object "java/lang/Object"))).before args0 about1 = true := code_word (m := ⟨11, 1⟩) (meth := k11m1) (c := k11c1) (by decide +kernel) rfl rfl rfl (by decide +kernel)
set_option maxRecDepth 65536 in
theorem w_c9 : (Jvm.Cond.code ({ cls := "com/example/regent/regent/AccessLevel", name := "values", desc := "()[Lcom/example/regent/regent/AccessLevel;" } : Jvm.MethodName) prog_1_method_1_code (0 : Nat) (Option.some (Jvm.ClassFile.FieldType.array (Jvm.ClassFile.FieldType.object "com/example/regent/regent/AccessLevel")))).before args0 about1 = true := code_word (m := ⟨6, 0⟩) (meth := k6m0) (c := k6c0) (by decide +kernel) rfl rfl rfl (by decide +kernel)
set_option maxRecDepth 65536 in
theorem w_c10 : (Jvm.Cond.code ({ cls := "java/lang/String", name := "equals", desc := "(Ljava/lang/Object;)Z" } : Jvm.MethodName) jdk_42_method_66_code (3 : Nat) (Option.some Jvm.ClassFile.FieldType.boolean)).before args0 about1 = true := code_word (m := ⟨9, 2⟩) (meth := k9m2) (c := k9c2) (by decide +kernel) rfl rfl rfl (by decide +kernel)
set_option maxRecDepth 65536 in
theorem w_c11 : (Jvm.Cond.code ({ cls := "java/lang/StringLatin1", name := "equals", desc := "([B[B)Z" } : Jvm.MethodName) jdk_43_method_13_code (3 : Nat) (Option.some Jvm.ClassFile.FieldType.boolean)).before args0 about1 = true := code_word (m := ⟨13, 1⟩) (meth := k13m1) (c := k13c1) (by decide +kernel) rfl rfl rfl (by decide +kernel)
set_option maxRecDepth 65536 in
theorem w_c12 : (Jvm.Cond.code ({ cls := "com/example/regent/regent/AccessLevel", name := "externalName", desc := "()Ljava/lang/String;" } : Jvm.MethodName) prog_1_method_4_code (1 : Nat) (Option.some (Jvm.ClassFile.FieldType.object "java/lang/String"))).before args0 about1 = true := code_word (m := ⟨6, 1⟩) (meth := k6m1) (c := k6c1) (by decide +kernel) rfl rfl rfl (by decide +kernel)
def codes1 : List Jvm.Cond := [Jvm.Cond.code x code maxLocals ret, Jvm.Cond.code ({ cls := "java/lang/String", name := "<init>", desc := "([C)V" } : Jvm.MethodName) jdk_42_method_3_code (2 : Nat) (Option.none : Option Jvm.ClassFile.FieldType), Jvm.Cond.code ({ cls := "java/lang/String", name := "<init>", desc := "([CIILjava/lang/Void;)V" } : Jvm.MethodName) jdk_42_method_149_code (6 : Nat) (Option.none : Option Jvm.ClassFile.FieldType), Jvm.Cond.code ({ cls := "java/lang/Object", name := "<init>", desc := "()V" } : Jvm.MethodName) object_method_1_code (1 : Nat) (Option.none : Option Jvm.ClassFile.FieldType), Jvm.Cond.code ({ cls := "java/lang/StringUTF16", name := "compress", desc := "([CII)[B" } : Jvm.MethodName) jdk_52_method_16_code (6 : Nat) (Option.some (Jvm.ClassFile.FieldType.array Jvm.ClassFile.FieldType.byte)), Jvm.Cond.code ({ cls := "java/lang/StringUTF16", name := "compress", desc := "([CI[BII)I" } : Jvm.MethodName) jdk_52_method_21_code (7 : Nat) (Option.some Jvm.ClassFile.FieldType.int), Jvm.Cond.code ({ cls := "java/lang/StringUTF16", name := "coderFromArrayLen", desc := "([BI)B" } : Jvm.MethodName) jdk_52_method_15_code (2 : Nat) (Option.some Jvm.ClassFile.FieldType.byte), Jvm.Cond.code ({ cls := "com/example/regent/regent/AccessLevel", name := "parseGrant", desc := "(Ljava/lang/String;)Lcom/example/regent/regent/AccessLevel;" } : Jvm.MethodName) prog_1_method_5_code (5 : Nat) (Option.some (Jvm.ClassFile.FieldType.object "com/example/regent/regent/AccessLevel")), Jvm.Cond.code ({ cls := "java/util/Objects", name := "requireNonNull", desc := "(Ljava/lang/Object;Ljava/lang/String;)Ljava/lang/Object;" } : Jvm.MethodName) jdk_31_method_11_code (2 : Nat) (Option.some (Jvm.ClassFile.FieldType.object "java/lang/Object")), Jvm.Cond.code ({ cls := "com/example/regent/regent/AccessLevel", name := "values", desc := "()[Lcom/example/regent/regent/AccessLevel;" } : Jvm.MethodName) prog_1_method_1_code (0 : Nat) (Option.some (Jvm.ClassFile.FieldType.array (Jvm.ClassFile.FieldType.object "com/example/regent/regent/AccessLevel"))), Jvm.Cond.code ({ cls := "java/lang/String", name := "equals", desc := "(Ljava/lang/Object;)Z" } : Jvm.MethodName) jdk_42_method_66_code (3 : Nat) (Option.some Jvm.ClassFile.FieldType.boolean), Jvm.Cond.code ({ cls := "java/lang/StringLatin1", name := "equals", desc := "([B[B)Z" } : Jvm.MethodName) jdk_43_method_13_code (3 : Nat) (Option.some Jvm.ClassFile.FieldType.boolean), Jvm.Cond.code ({ cls := "com/example/regent/regent/AccessLevel", name := "externalName", desc := "()Ljava/lang/String;" } : Jvm.MethodName) prog_1_method_4_code (1 : Nat) (Option.some (Jvm.ClassFile.FieldType.object "java/lang/String"))]
set_option maxRecDepth 65536 in
theorem codes_eq : words1.filter isCode = codes1 := rfl
theorem w_codes : ∀ c ∈ words1.filter isCode, c.before args0 about1 = true := by
  rw [codes_eq]
  intro c hc
  simp only [codes1, List.mem_cons, List.not_mem_nil, or_false] at hc
  rcases hc with rfl | rfl | rfl | rfl | rfl | rfl | rfl | rfl | rfl | rfl | rfl | rfl | rfl
  · exact w_c0
  · exact w_c1
  · exact w_c2
  · exact w_c3
  · exact w_c4
  · exact w_c5
  · exact w_c6
  · exact w_c7
  · exact w_c8
  · exact w_c9
  · exact w_c10
  · exact w_c11
  · exact w_c12
set_option maxRecDepth 65536 in
theorem w_t1 : (words1.take 24).all (fun c => isCode c || c.before args0 about1) = true := by decide +kernel
set_option maxRecDepth 65536 in
theorem w_t2 : ((words1.drop 24).take 24).all (fun c => isCode c || c.before args0 about1) = true := by decide +kernel
set_option maxRecDepth 65536 in
theorem w_t3 : (((words1.drop 24).drop 24).take 24).all (fun c => isCode c || c.before args0 about1) = true := by decide +kernel
set_option maxRecDepth 65536 in
theorem w_t4 : (((words1.drop 24).drop 24).drop 24).all (fun c => isCode c || c.before args0 about1) = true := by decide +kernel
theorem w_tables : (allAtoms (Jvm.Cond.code x code maxLocals ret :: tables_1)).before args0 about1 = true := by
  rw [allAtoms_all]
  show words1.all (fun c => c.before args0 about1) = true
  refine all_split ?_ w_codes
  rw [← List.take_append_drop 24 words1, List.all_append, w_t1, ← List.take_append_drop 24 (words1.drop 24), List.all_append, w_t2, ← List.take_append_drop 24 ((words1.drop 24).drop 24), List.all_append, w_t3, w_t4]
  rfl
set_option maxRecDepth 65536 in
theorem w_rest : rest_1_c.before args0 about1 = true := by decide +kernel
set_option maxRecDepth 65536 in
theorem w_case : (Jvm.Cond.and given_1 narrow_1).before args0 about1 = true := by decide +kernel
theorem w_applies : (headSpec (Jvm.Cond.code x code maxLocals ret :: tables_1) room_1).applies x e0.platform about1 = true :=
  (Spec.applies_iff w_frames).mpr ⟨w_running, w_runnable, w_alone, w_named, w_hears, w_ripe, w_room, w_tables⟩
theorem atStart : AtStart classFile x code maxLocals ret World_1 tables_1 room_1 Calls_1 rest_1 Pre_1 launch0 p0 e0 about1 theMethod args0 below0 :=
  ⟨lists_1, trivial, launch0.admits_env _ _ _, launch0.least_env, fairChoices_fair.cas, fairChoices_fair.clock, w_frames, w_args, w_heap, w_applies, trivial, w_rest, w_case⟩
end start1
theorem witness_1 : WitnessClaimed_1 := ⟨start1.p0, start1.e0, start1.about1, start1.theMethod, start1.args0, start1.below0, start1.atStart⟩
end Jvm.Pilot.@@N@@
