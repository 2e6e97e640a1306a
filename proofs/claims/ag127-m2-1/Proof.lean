import JvmDerived
import JvmDerived.Pilot.@@N@@Statement
import JvmDerived.Pilot.@@N@@Code
set_option linter.unusedVariables false
set_option linter.unusedSimpArgs false
/- laws to paste: Road.backV, Road.eqW, Road.codOf (cut by pick.py; bodies as the Statement names them) -/
namespace Jvm.Pilot.@@N@@
namespace StrChars
open Jvm Sem ClassFile Op Lib Jvm.Stand Jvm.Free.XT Jvm.Free.ALB Jvm.Free.JM Jvm.Free
open Jvm.Lib.Cold (StaticIs)
/-- a char array whose places are chars -/
def Ch (a : Addr) (A : Cell) (U : State) : Prop := Arr .char a A U ∧ Typed .char A
theorem Ch.mv {a : Addr} {A : Cell} {U U' : State} (h : Ch a A U) (hal : U.vm.Alike U'.vm) (hh : U'.heap = U.heap) : Ch a A U' := ⟨h.1.mv hal hh, h.2⟩
theorem Ch.keep {a : Addr} {A : Cell} {U U' : State} (h : Ch a A U) (hal : U.vm.Alike U'.vm) (hk : U'.heap[a]? = some A) : Ch a A U' := ⟨h.1.keep hal hk, h.2⟩
/-- what place i of a char[]'s cell holds -/
def cv (A : Cell) (i : Nat) : Int32 := match A.slots[i]? with | some (.int x) => x | _ => 0
theorem Ch.get {a : Addr} {A : Cell} {U : State} (h : Ch a A U) {i : Nat} (hi : i < A.slots.size) : A.slots[i]? = some (.int (cv A i)) := by
  have e := Array.getElem?_eq_getElem hi
  have f := h.2 i _ e
  unfold cv; rw [e]
  generalize A.slots[i] = v at f
  cases v <;> simp [fits] at f ⊢
/-- the byte that i2b leaves of a char -/
def lo8 (x : Int32) : Int32 := x.toInt8.toInt32
theorem fits_lo8 (y : Int32) : fits .byte (.int (lo8 y)) = true := by
  have h1 := y.toInt8.le_toInt
  have h2 := y.toInt8.toInt_lt
  simp only [lo8, fits, Bool.and_eq_true, decide_eq_true_eq, Int32.le_iff_toInt_le, Int8.toInt_toInt32, show (-128 : Int32).toInt = -128 from by decide, show (127 : Int32).toInt = 127 from by decide]
  omega
/-- A' is A but that each place j of lo .. hi - 1 holds f j -/
def Laid (A A' : Cell) (lo hi : Nat) (f : Nat → Value) : Prop := A'.cls = A.cls ∧ A'.vm = A.vm ∧ A'.slots.size = A.slots.size ∧ ∀ i, A'.slots[i]? = if lo ≤ i ∧ i < hi then some (f i) else A.slots[i]?
theorem Laid.zero (A : Cell) (lo : Nat) (f : Nat → Value) : Laid A A lo (lo + 0) f := ⟨rfl, rfl, rfl, fun i => by rw [if_neg (by omega)]⟩
theorem Laid.step {A Ak : Cell} {lo k : Nat} {f : Nat → Value} {v : Value} (h : Laid A Ak lo k f) (hlo : lo ≤ k) (hk : k < Ak.slots.size) (hv : v = f k) : Laid A (Ak.setSlot k v) lo (k + 1) f := by
  refine ⟨h.1, h.2.1, by simpa [Cell.setSlot] using h.2.2.1, fun i => ?_⟩
  by_cases e : k = i
  · subst e; rw [Cell.slots_setSlot_self v hk, if_pos (by omega), hv]
  · rw [Cell.slots_setSlot_ne v e, h.2.2.2 i]
    by_cases q : lo ≤ i ∧ i < k
    · rw [if_pos q, if_pos (by omega)]
    · rw [if_neg q, if_neg (by omega)]
def U16 : String := "java/lang/StringUTF16"
namespace Cmp5
def yN : MethodName := ⟨"java/lang/StringUTF16", "compress", "([CI[BII)I"⟩
abbrev yB : ByteArray := jdk_52_method_21_code
theorem d0 : decode yB 0 = .ok (.iconst 0, 1) := by decide +kernel
theorem d1 : decode yB 1 = .ok (.istore 5, 2) := by decide +kernel
theorem d3 : decode yB 3 = .ok (.iload 5, 2) := by decide +kernel
theorem d5 : decode yB 5 = .ok (.iload 4, 2) := by decide +kernel
theorem d7 : decode yB 7 = .ok (.if_icmp (.ge) 37, 3) := by decide +kernel
theorem d10 : decode yB 10 = .ok (.aload_n 0, 1) := by decide +kernel
theorem d11 : decode yB 11 = .ok (.iload_n 1, 1) := by decide +kernel
theorem d12 : decode yB 12 = .ok (.caload, 1) := by decide +kernel
theorem d13 : decode yB 13 = .ok (.istore 6, 2) := by decide +kernel
theorem d15 : decode yB 15 = .ok (.iload 6, 2) := by decide +kernel
theorem d17 : decode yB 17 = .ok (.sipush 255, 3) := by decide +kernel
theorem d20 : decode yB 20 = .ok (.if_icmp (.le) 6, 3) := by decide +kernel
theorem d26 : decode yB 26 = .ok (.aload_n 2, 1) := by decide +kernel
theorem d27 : decode yB 27 = .ok (.iload_n 3, 1) := by decide +kernel
theorem d28 : decode yB 28 = .ok (.iload 6, 2) := by decide +kernel
theorem d30 : decode yB 30 = .ok (.i2b, 1) := by decide +kernel
theorem d31 : decode yB 31 = .ok (.bastore, 1) := by decide +kernel
theorem d32 : decode yB 32 = .ok (.iinc 1 1, 3) := by decide +kernel
theorem d35 : decode yB 35 = .ok (.iinc 3 1, 3) := by decide +kernel
theorem d38 : decode yB 38 = .ok (.iinc 5 1, 3) := by decide +kernel
theorem d41 : decode yB 41 = .ok (.goto (-38), 3) := by decide +kernel
theorem d44 : decode yB 44 = .ok (.iload 4, 2) := by decide +kernel
theorem d46 : decode yB 46 = .ok (.ireturn, 1) := by decide +kernel
def site : List Cond := []
def tab : Cond := tabOf yN yB 7 (some .int) site
def P (b : Addr) (A : Cell) (d : Addr) (B : Cell) (o q len : Nat) (args : Array Value) (s : State) : Prop := args = #[.ref b, .int (Int32.ofNat o), .ref d, .int (Int32.ofNat q), .int (Int32.ofNat len)] ∧ Ch b A s ∧ Arr .byte d B s ∧ b ≠ d ∧ o + len ≤ A.slots.size ∧ q + len ≤ B.slots.size ∧ ∀ i, i < len → ¬ 255 < cv A (o + i)
def E (b : Addr) (A : Cell) (d : Addr) (B : Cell) (o q len : Nat) (r : Option Value) (s u : State) : Prop := r = some (.int (Int32.ofNat len)) ∧ ∃ B', Put d B' s u ∧ Laid B B' q (q + len) (fun j => Value.int (lo8 (cv A (o + (j - q)))))
/-- no char of the range above 255: len; the places written hold each char's low byte -/
theorem law (l : Launch) (b : Addr) (A : Cell) (d : Addr) (B : Cell) (o q len : Nat) : Law l yN 5 5 0 0 yB 7 (some .int) site (P b A d B o q len) (E b A d B o q len) (copyLocs d q len) 0 0 := by
  refine Law.of_walk (plainFor_of_name (by decide +kernel)) (by decide +kernel) (by decide +kernel) (by decide) (fun _ _ h => by rw [h.1]; rfl) (fun _ U U' hal hh h => ⟨h.1, h.2.1.mv hal hh, h.2.2.1.mv hal hh, h.2.2.2⟩) (fun r U U' V V' h1 hal h2 h => ⟨h.1, h.2.elim fun B' q => ⟨B', q.1.mv h1 h2, q.2⟩⟩) ?_
  intro p e s m args below meth c s₁ X0 hexec hbytes hml hret hlk hnm hown hh0 W hP
  obtain ⟨rfl, hA, hB, hne, l1, l2, hp⟩ := hP
  have c1 : Steps p.tables e below (s₁.setTop (entryFrame m #[.ref b, .int (Int32.ofNat o), .ref d, .int (Int32.ofNat q), .int (Int32.ofNat len)] 7)) (s₁.setTop (mkF m 0 #[.val (.ref b), .val (.int (Int32.ofNat o)), .val (.ref d), .val (.int (Int32.ofNat q)), .val (.int (Int32.ofNat len)), .unset, .unset] [])) := entry rfl
  have hA0 := hA.1.mv X0.warmed.alike hh0
  have hB0 := hB.mv X0.warmed.alike hh0
  have a31 := hA.1.2.2.2
  have c2 : Steps p.tables e below (s₁.setTop (entryFrame m #[.ref b, .int (Int32.ofNat o), .ref d, .int (Int32.ofNat q), .int (Int32.ofNat len)] 7)) (s₁.setTop (mkF m 3 #[.val (.ref b), .val (.int (Int32.ofNat o)), .val (.ref d), .val (.int (Int32.ofNat q)), .val (.int (Int32.ofNat len)), .val (.int 0), .unset] [])) := c1.trans (by
    refine iconstV X0.here hexec rfl 0 (hb hbytes d0) (by decide) ?_
    refine XS.istore X0.here hexec rfl (hb hbytes d1) rfl rfl ?_
    exact Steps.refl _)
  have loop : ∀ (r i : Nat), i + r = len → ∀ (z : Slot), (z = .unset ∨ ∃ w, z = .val w ∧ w.category = 1) → ∀ (Tl : State) (Bk : Cell), Stand p l e { frames := 0, locals := 0, cells := 0, slots := 0 } s m #[.ref b, .int (Int32.ofNat o), .ref d, .int (Int32.ofNat q), .int (Int32.ofNat len)] below meth c Tl ([] ++ copyLocs d q i) 0 0 → Put d Bk s₁ Tl → Laid B Bk q (q + i) (fun j => Value.int (lo8 (cv A (o + (j - q))))) →
      Steps p.tables e below (s₁.setTop (entryFrame m #[.ref b, .int (Int32.ofNat o), .ref d, .int (Int32.ofNat q), .int (Int32.ofNat len)] 7)) (Tl.setTop (mkF m 3 #[.val (.ref b), .val (.int (Int32.ofNat (o + i))), .val (.ref d), .val (.int (Int32.ofNat (q + i))), .val (.int (Int32.ofNat len)), .val (.int (Int32.ofNat i)), z] [])) → ∃ (T' : State) (B' : Cell) (z' : Slot), Stand p l e { frames := 0, locals := 0, cells := 0, slots := 0 } s m #[.ref b, .int (Int32.ofNat o), .ref d, .int (Int32.ofNat q), .int (Int32.ofNat len)] below meth c T' ([] ++ copyLocs d q len) 0 0 ∧ Put d B' s₁ T' ∧ Laid B B' q (q + len) (fun j => Value.int (lo8 (cv A (o + (j - q))))) ∧
      Steps p.tables e below (s₁.setTop (entryFrame m #[.ref b, .int (Int32.ofNat o), .ref d, .int (Int32.ofNat q), .int (Int32.ofNat len)] 7)) (T'.setTop (mkF m 3 #[.val (.ref b), .val (.int (Int32.ofNat (o + len))), .val (.ref d), .val (.int (Int32.ofNat (q + len))), .val (.int (Int32.ofNat len)), .val (.int (Int32.ofNat len)), z'] [])) := by
    intro r
    induction r with
    | zero =>
      intro i hi z hz Tl Bk Xl pl fl cl
      have hil : i = len := by omega
      rw [hil] at Xl fl cl
      exact ⟨Tl, Bk, z, Xl, pl, fl, cl⟩
    | succ r ih =>
      intro i hi z hz Tl Bk Xl pl fl cl
      have all := X0.warmed.alike.symm.trans Xl.warmed.alike
      have hAl := hA0.keep all (pl.other hne hA0.1)
      have hBk := hB0.like all pl.1 fl.1 fl.2.1 fl.2.2.1
      have hlt : q + i < Bk.slots.size := by rw [fl.2.2.1]; omega
      have c3 : Steps p.tables e below (s₁.setTop (entryFrame m #[.ref b, .int (Int32.ofNat o), .ref d, .int (Int32.ofNat q), .int (Int32.ofNat len)] 7)) (Tl.setTop (mkF m 12 #[.val (.ref b), .val (.int (Int32.ofNat (o + i))), .val (.ref d), .val (.int (Int32.ofNat (q + i))), .val (.int (Int32.ofNat len)), .val (.int (Int32.ofNat i)), z] [.int (Int32.ofNat (o + i)), .ref b])) := cl.trans (by
        refine XS.iload Xl.here hexec rfl (hb hbytes d3) rfl ?_
        refine XS.iload Xl.here hexec rfl (hb hbytes d5) rfl ?_
        refine XS.icmpNo Xl.here hexec rfl (hb hbytes d7) rfl (ii_ge_f (lt32 (by omega) (by omega))) ?_
        refine XS.aloadN Xl.here hexec rfl (hb hbytes d10) rfl rfl ?_
        refine XS.iloadN Xl.here hexec rfl (hb hbytes d11) rfl ?_
        exact Steps.refl _)
      have c4 : Steps p.tables e below (s₁.setTop (entryFrame m #[.ref b, .int (Int32.ofNat o), .ref d, .int (Int32.ofNat q), .int (Int32.ofNat len)] 7)) (Tl.setTop (mkF m 13 #[.val (.ref b), .val (.int (Int32.ofNat (o + i))), .val (.ref d), .val (.int (Int32.ofNat (q + i))), .val (.int (Int32.ofNat len)), .val (.int (Int32.ofNat i)), z] [.int (cv A (o + i))])) := c3.trans (by
        refine Xl.aget hexec hAl rfl (hA.get (i := o + i) (by omega)) rfl rfl (hb hbytes d12) ?_
        exact Steps.refl _)
      have c5 : Steps p.tables e below (s₁.setTop (entryFrame m #[.ref b, .int (Int32.ofNat o), .ref d, .int (Int32.ofNat q), .int (Int32.ofNat len)] 7)) (Tl.setTop (mkF m 15 #[.val (.ref b), .val (.int (Int32.ofNat (o + i))), .val (.ref d), .val (.int (Int32.ofNat (q + i))), .val (.int (Int32.ofNat len)), .val (.int (Int32.ofNat i)), .val (.int (cv A (o + i)))] [])) := c4.trans (by
        refine XS.istoreS Xl.here hexec rfl (hb hbytes d13) rfl rfl hz ?_
        exact Steps.refl _)
      have c6 : Steps p.tables e below (s₁.setTop (entryFrame m #[.ref b, .int (Int32.ofNat o), .ref d, .int (Int32.ofNat q), .int (Int32.ofNat len)] 7)) (Tl.setTop (mkF m 31 #[.val (.ref b), .val (.int (Int32.ofNat (o + i))), .val (.ref d), .val (.int (Int32.ofNat (q + i))), .val (.int (Int32.ofNat len)), .val (.int (Int32.ofNat i)), .val (.int (cv A (o + i)))] [.int (lo8 (cv A (o + i))), .int (Int32.ofNat (q + i)), .ref d])) := c5.trans (by
        refine XS.iload Xl.here hexec rfl (hb hbytes d15) rfl ?_
        refine sipushV Xl.here hexec rfl 255 (hb hbytes d17) (by decide) ?_
        refine XS.icmpYes Xl.here hexec rfl (pc0 := 20) rfl (hb hbytes d20) rfl (ii_le_t (hp i (by omega))) (by decide) rfl ?_
        refine XS.aloadN Xl.here hexec rfl (hb hbytes d26) rfl rfl ?_
        refine XS.iloadN Xl.here hexec rfl (hb hbytes d27) rfl ?_
        refine XS.iload Xl.here hexec rfl (hb hbytes d28) rfl ?_
        refine i2b Xl.here hexec rfl (hb hbytes d30) rfl ?_
        exact Steps.refl _)
      obtain ⟨T7, X7, p7, st7⟩ := Xl.aput hexec hBk rfl hlt rfl (fits_lo8 (cv A (o + i))) (g := (mkF m 31 #[.val (.ref b), .val (.int (Int32.ofNat (o + i))), .val (.ref d), .val (.int (Int32.ofNat (q + i))), .val (.int (Int32.ofNat len)), .val (.int (Int32.ofNat i)), .val (.int (cv A (o + i)))] [.int (lo8 (cv A (o + i))), .int (Int32.ofNat (q + i)), .ref d])) rfl (rest := []) rfl (hb hbytes d31)
      have c8 : Steps p.tables e below (s₁.setTop (entryFrame m #[.ref b, .int (Int32.ofNat o), .ref d, .int (Int32.ofNat q), .int (Int32.ofNat len)] 7)) (T7.setTop (mkF m 32 #[.val (.ref b), .val (.int (Int32.ofNat (o + i))), .val (.ref d), .val (.int (Int32.ofNat (q + i))), .val (.int (Int32.ofNat len)), .val (.int (Int32.ofNat i)), .val (.int (cv A (o + i)))] [])) := c6.trans (st7 _ (Steps.refl _))
      have c9 : Steps p.tables e below (s₁.setTop (entryFrame m #[.ref b, .int (Int32.ofNat o), .ref d, .int (Int32.ofNat q), .int (Int32.ofNat len)] 7)) (T7.setTop (mkF m 3 #[.val (.ref b), .val (.int (Int32.ofNat (o + i) + 1)), .val (.ref d), .val (.int (Int32.ofNat (q + i) + 1)), .val (.int (Int32.ofNat len)), .val (.int (Int32.ofNat i + 1)), .val (.int (cv A (o + i)))] [])) := c8.trans (by
        refine iincV X7.here hexec rfl 1 (hb hbytes d32) (by decide) rfl rfl ?_
        refine iincV X7.here hexec rfl 1 (hb hbytes d35) (by decide) rfl rfl ?_
        refine iincV X7.here hexec rfl 1 (hb hbytes d38) (by decide) rfl rfl ?_
        refine XS.goto X7.here hexec rfl (pc0 := 41) rfl (hb hbytes d41) (by decide) rfl ?_
        exact Steps.refl _)
      have c10 : Steps p.tables e below (s₁.setTop (entryFrame m #[.ref b, .int (Int32.ofNat o), .ref d, .int (Int32.ofNat q), .int (Int32.ofNat len)] 7)) (T7.setTop (mkF m 3 #[.val (.ref b), .val (.int (Int32.ofNat (o + (i + 1)))), .val (.ref d), .val (.int (Int32.ofNat (q + (i + 1)))), .val (.int (Int32.ofNat len)), .val (.int (Int32.ofNat (i + 1))), .val (.int (cv A (o + i)))] [])) := by
        have := c9
        rw [succ32, succ32, succ32] at this
        exact this
      exact ih (i + 1) (by omega) _ (Or.inr ⟨_, rfl, rfl⟩) T7 _ (by rw [copyLocs_step, ← List.append_assoc]; exact X7) (pl.trans p7) (fl.step (by omega) hlt (by simp)) c10
  obtain ⟨T9, B9, z9, X9, p9, f9, g9⟩ := loop len 0 (by omega) .unset (Or.inl rfl) s₁ B (by simpa [copyLocs] using X0) ⟨hB0.1, fun _ _ => rfl, rfl⟩ (Laid.zero _ _ _) c2
  have c11 : Steps p.tables e below (s₁.setTop (entryFrame m #[.ref b, .int (Int32.ofNat o), .ref d, .int (Int32.ofNat q), .int (Int32.ofNat len)] 7)) (T9.setTop (mkF m 46 #[.val (.ref b), .val (.int (Int32.ofNat (o + len))), .val (.ref d), .val (.int (Int32.ofNat (q + len))), .val (.int (Int32.ofNat len)), .val (.int (Int32.ofNat len)), z9] [.int (Int32.ofNat len)])) := g9.trans (by
    refine XS.iload X9.here hexec rfl (hb hbytes d3) rfl ?_
    refine XS.iload X9.here hexec rfl (hb hbytes d5) rfl ?_
    refine XS.icmpYes X9.here hexec rfl (pc0 := 7) rfl (hb hbytes d7) rfl (ii_ge_t (nlt32 (by omega) (Nat.le_refl _))) (by decide) rfl ?_
    refine XS.iload X9.here hexec rfl (hb hbytes d44) rfl ?_
    exact Steps.refl _)
  exact ⟨T9, some (.int (Int32.ofNat len)), _, _, _, X9, by simp, rfl, rfl, (fun h => by cases h), ⟨rfl, B9, p9.from hh0, f9⟩, fun fs hl => c11.trans (X9.ireturnOut hexec hret rfl (Or.inl rfl) (hb hbytes d46) hl)⟩
end Cmp5
namespace Cmp3
def yN : MethodName := ⟨"java/lang/StringUTF16", "compress", "([CII)[B"⟩
abbrev yB : ByteArray := jdk_52_method_16_code
theorem d0 : decode yB 0 = .ok (.iload_n 2, 1) := by decide +kernel
theorem d1 : decode yB 1 = .ok (.newarray .byte, 2) := by decide +kernel
theorem d3 : decode yB 3 = .ok (.astore_n 3, 1) := by decide +kernel
theorem d4 : decode yB 4 = .ok (.aload_n 0, 1) := by decide +kernel
theorem d5 : decode yB 5 = .ok (.iload_n 1, 1) := by decide +kernel
theorem d6 : decode yB 6 = .ok (.aload_n 3, 1) := by decide +kernel
theorem d7 : decode yB 7 = .ok (.iconst 0, 1) := by decide +kernel
theorem d8 : decode yB 8 = .ok (.iload_n 2, 1) := by decide +kernel
theorem d9 : decode yB 9 = .ok (.invokestatic 115, 3) := by decide +kernel
theorem d12 : decode yB 12 = .ok (.istore 4, 2) := by decide +kernel
theorem d14 : decode yB 14 = .ok (.iload 4, 2) := by decide +kernel
theorem d16 : decode yB 16 = .ok (.iload_n 2, 1) := by decide +kernel
theorem d17 : decode yB 17 = .ok (.if_icmp (.eq) 40, 3) := by decide +kernel
theorem d57 : decode yB 57 = .ok (.aload_n 3, 1) := by decide +kernel
theorem d58 : decode yB 58 = .ok (.areturn, 1) := by decide +kernel
def site : List Cond := [.arrayClass .byte, Cmp5.tab] ++ staticW U16 115 Cmp5.yN
def tab : Cond := tabOf yN yB 6 (some (.array .byte)) site
def P (b : Addr) (A : Cell) (o len : Nat) (args : Array Value) (s : State) : Prop := args = #[.ref b, .int (Int32.ofNat o), .int (Int32.ofNat len)] ∧ Ch b A s ∧ o + len ≤ A.slots.size ∧ len ≤ 536870912 ∧ ∀ i, i < len → ¬ 255 < cv A (o + i)
def E (b : Addr) (A : Cell) (o len : Nat) (r : Option Value) (s u : State) : Prop := NewArr .byte "[B" len (fun j => .int (lo8 (cv A (o + j)))) r s u ∧ u.heap.size = s.heap.size + 1
/-- no char of the range above 255: a new byte[] of their low bytes -/
theorem law (l : Launch) (b : Addr) (A : Cell) (o len : Nat) : Law l yN 3 3 1 18 yB 6 (some (.array .byte)) site (P b A o len) (E b A o len) [] 1 len := by
  refine Law.of_walk (plainFor_of_name (by decide +kernel)) (by decide +kernel) (by decide +kernel) (by decide) (fun _ _ h => by rw [h.1]; rfl) (fun _ U U' hal hh h => ⟨h.1, h.2.1.mv hal hh, h.2.2⟩) (fun r U U' V V' h1 hal h2 h => ⟨NewArr.mv r U U' V V' h1 hal h2 h.1, by rw [h1, h2]; exact h.2⟩) ?_
  intro p e s m args below meth c s₁ X0 hexec hbytes hml hret hlk hnm hown hh0 W hP
  obtain ⟨rfl, hA, l1, l2, hp⟩ := hP
  have a31 := hA.1.2.2.2
  have c1 : Steps p.tables e below (s₁.setTop (entryFrame m #[.ref b, .int (Int32.ofNat o), .int (Int32.ofNat len)] 6)) (s₁.setTop (mkF m 0 #[.val (.ref b), .val (.int (Int32.ofNat o)), .val (.int (Int32.ofNat len)), .unset, .unset, .unset] [])) := entry rfl
  have c2 : Steps p.tables e below (s₁.setTop (entryFrame m #[.ref b, .int (Int32.ofNat o), .int (Int32.ofNat len)] 6)) (s₁.setTop (mkF m 1 #[.val (.ref b), .val (.int (Int32.ofNat o)), .val (.int (Int32.ofNat len)), .unset, .unset, .unset] [.int (Int32.ofNat len)])) := c1.trans (by
    refine XS.iloadN X0.here hexec rfl (hb hbytes d0) rfl ?_
    exact Steps.refl _)
  obtain ⟨T3, B3, X3, ba3, bs3, bv3, bh3, bf3, st3⟩ := X0.anew hexec (atype := .byte) (wk W (.arrayClass .byte)) rfl (by show len * 1 ≤ _; omega) (by omega) (g := (mkF m 1 #[.val (.ref b), .val (.int (Int32.ofNat o)), .val (.int (Int32.ofNat len)), .unset, .unset, .unset] [.int (Int32.ofNat len)])) rfl (hb hbytes d1) (rest := []) rfl (Nat.le_refl _) (by show 0 + len ≤ len; omega)
  rw [hh0] at ba3 st3
  have kp3 : XT.Kept s T3 := (XT.Kept.of_eq hh0).push bh3
  have hA3 := hA.keep X3.warmed.alike (kp3 _ _ hA.1.1)
  have hne : b ≠ s.heap.size := hA.1.ne
  have c4 : Steps p.tables e below (s₁.setTop (entryFrame m #[.ref b, .int (Int32.ofNat o), .int (Int32.ofNat len)] 6)) (T3.setTop (mkF m 3 #[.val (.ref b), .val (.int (Int32.ofNat o)), .val (.int (Int32.ofNat len)), .unset, .unset, .unset] [.ref s.heap.size])) := c2.trans (st3 _ (Steps.refl _))
  have c5 : Steps p.tables e below (s₁.setTop (entryFrame m #[.ref b, .int (Int32.ofNat o), .int (Int32.ofNat len)] 6)) (T3.setTop (mkF m 9 #[.val (.ref b), .val (.int (Int32.ofNat o)), .val (.int (Int32.ofNat len)), .val (.ref s.heap.size), .unset, .unset] [.int (Int32.ofNat len), .int 0, .ref s.heap.size, .int (Int32.ofNat o), .ref b])) := c4.trans (by
    refine XS.astoreN X3.here hexec rfl (hb hbytes d3) rfl rfl rfl ?_
    refine XS.aloadN X3.here hexec rfl (hb hbytes d4) rfl rfl ?_
    refine XS.iloadN X3.here hexec rfl (hb hbytes d5) rfl ?_
    refine XS.aloadN X3.here hexec rfl (hb hbytes d6) rfl rfl ?_
    refine iconstV X3.here hexec rfl 0 (hb hbytes d7) (by decide) ?_
    refine XS.iloadN X3.here hexec rfl (hb hbytes d8) rfl ?_
    exact Steps.refl _)
  obtain ⟨v6, T6, X6, E6, g6⟩ := X3.callS hexec (Cmp5.law l b A s.heap.size B3 o 0 len) hown (wks W (staticW U16 115 Cmp5.yN)) (wk W Cmp5.tab) (W := 0) (Nat.le_of_ble_eq_true rfl) (Nat.le_of_ble_eq_true rfl) (Nat.le_refl _) (by show 0 + len + 0 ≤ len; omega) (g := (mkF m 9 #[.val (.ref b), .val (.int (Int32.ofNat o)), .val (.int (Int32.ofNat len)), .val (.ref s.heap.size), .unset, .unset] [.int (Int32.ofNat len), .int (Int32.ofNat 0), .ref s.heap.size, .int (Int32.ofNat o), .ref b])) rfl (by rw [hml]; rfl) c5 (argsL := [.ref b, .int (Int32.ofNat o), .ref s.heap.size, .int (Int32.ofNat 0), .int (Int32.ofNat len)]) (rest := []) rfl rfl (by show 2 * 0 + 0 ≤ _; decide) (hb hbytes d9) (⟨rfl, hA3, ba3, hne, l1, by rw [bs3]; simp, hp⟩)
  obtain ⟨rfl, B6, p6, f6⟩ := E6
  have c7 : Steps p.tables e below (s₁.setTop (entryFrame m #[.ref b, .int (Int32.ofNat o), .int (Int32.ofNat len)] 6)) (T6.setTop (mkF m 12 #[.val (.ref b), .val (.int (Int32.ofNat o)), .val (.int (Int32.ofNat len)), .val (.ref s.heap.size), .unset, .unset] [.int (Int32.ofNat len)])) := g6
  have c8 : Steps p.tables e below (s₁.setTop (entryFrame m #[.ref b, .int (Int32.ofNat o), .int (Int32.ofNat len)] 6)) (T6.setTop (mkF m 58 #[.val (.ref b), .val (.int (Int32.ofNat o)), .val (.int (Int32.ofNat len)), .val (.ref s.heap.size), .val (.int (Int32.ofNat len)), .unset] [.ref s.heap.size])) := c7.trans (by
    refine XS.istore X6.here hexec rfl (hb hbytes d12) rfl rfl ?_
    refine XS.iload X6.here hexec rfl (hb hbytes d14) rfl ?_
    refine XS.iloadN X6.here hexec rfl (hb hbytes d16) rfl ?_
    refine XS.icmpYes X6.here hexec rfl (pc0 := 17) rfl (hb hbytes d17) rfl (ii_eq_t rfl) (by decide) rfl ?_
    refine XS.aloadN X6.here hexec rfl (hb hbytes d57) rfl rfl ?_
    exact Steps.refl _)
  have X8 := X6.wide (L' := []) (cells' := 1) (slots' := len) (fun x hx hlt => by
    simp only [List.nil_append, copyLocs, List.mem_map, List.mem_range] at hx
    obtain ⟨i, -, rfl⟩ := hx
    exact absurd hlt (Nat.lt_irrefl _)) (Nat.le_refl _) (by omega)
  exact ⟨T6, some (.ref s.heap.size), _, _, _, X8, rfl, rfl, rfl, (fun h => by cases h), ⟨⟨rfl, B6, ba3.like (X3.warmed.alike.symm.trans X6.warmed.alike) p6.1 f6.1 f6.2.1 f6.2.2.1, f6.2.1.trans bv3, by rw [X6.warmed.alike.findClass, f6.1]; exact bf3, by rw [f6.2.2.1, bs3]; simp, fun j hj => by rw [f6.2.2.2 j, if_pos (by omega)]; rfl, kp3.put p6 (Nat.le_refl _)⟩, by rw [p6.2.2, bh3, hh0]; simp⟩, fun fs hl => c8.trans (X8.areturnOut hexec rfl hret rfl (hb hbytes d58) hl)⟩
end Cmp3
namespace CodL
def yN : MethodName := ⟨"java/lang/StringUTF16", "coderFromArrayLen", "([BI)B"⟩
abbrev yB : ByteArray := jdk_52_method_15_code
theorem d0 : decode yB 0 = .ok (.iload_n 1, 1) := by decide +kernel
theorem d1 : decode yB 1 = .ok (.aload_n 0, 1) := by decide +kernel
theorem d2 : decode yB 2 = .ok (.arraylength, 1) := by decide +kernel
theorem d3 : decode yB 3 = .ok (.isub, 1) := by decide +kernel
theorem d4 : decode yB 4 = .ok (.bipush 31, 2) := by decide +kernel
theorem d6 : decode yB 6 = .ok (.iushr, 1) := by decide +kernel
theorem d7 : decode yB 7 = .ok (.i2b, 1) := by decide +kernel
theorem d8 : decode yB 8 = .ok (.ireturn, 1) := by decide +kernel
def site : List Cond := []
def tab : Cond := tabOf yN yB 2 (some .byte) site
def P (d : Addr) (B : Cell) (args : Array Value) (s : State) : Prop := args = #[.ref d, .int (Int32.ofNat B.slots.size)] ∧ Arr .byte d B s
def E (r : Option Value) (s u : State) : Prop := XT.PureE (some (.int 0)) r s u
/-- an array as long as the number of chars: LATIN1 -/
theorem law (l : Launch) (d : Addr) (B : Cell) : Law l yN 2 2 0 0 yB 2 (some .byte) site (P d B) E [] 0 0 := by
  refine Law.of_walk (plainFor_of_name (by decide +kernel)) (by decide +kernel) (by decide +kernel) (by decide) (fun _ _ h => by rw [h.1]; rfl) (fun _ U U' hal hh h => ⟨h.1, h.2.mv hal hh⟩) (fun r U U' V V' h1 hal h2 h => XT.PureE.mv r U U' V V' h1 hal h2 h) ?_
  intro p e s m args below meth c s₁ X0 hexec hbytes hml hret hlk hnm hown hh0 W hP
  obtain ⟨rfl, hB⟩ := hP
  have hB0 := hB.mv X0.warmed.alike hh0
  have c1 : Steps p.tables e below (s₁.setTop (entryFrame m #[.ref d, .int (Int32.ofNat B.slots.size)] 2)) (s₁.setTop (mkF m 0 #[.val (.ref d), .val (.int (Int32.ofNat B.slots.size))] [])) := entry rfl
  have c2 : Steps p.tables e below (s₁.setTop (entryFrame m #[.ref d, .int (Int32.ofNat B.slots.size)] 2)) (s₁.setTop (mkF m 2 #[.val (.ref d), .val (.int (Int32.ofNat B.slots.size))] [.ref d, .int (Int32.ofNat B.slots.size)])) := c1.trans (by
    refine XS.iloadN X0.here hexec rfl (hb hbytes d0) rfl ?_
    refine XS.aloadN X0.here hexec rfl (hb hbytes d1) rfl rfl ?_
    exact Steps.refl _)
  have c3 : Steps p.tables e below (s₁.setTop (entryFrame m #[.ref d, .int (Int32.ofNat B.slots.size)] 2)) (s₁.setTop (mkF m 8 #[.val (.ref d), .val (.int (Int32.ofNat B.slots.size))] [.int (lo8 (ushr (Int32.ofNat B.slots.size - Int32.ofNat B.slots.size) 31))])) := c2.trans (by
    refine X0.alen hexec hB0 rfl rfl (hb hbytes d2) ?_
    refine XS.isub X0.here hexec rfl (hb hbytes d3) rfl ?_
    refine bipushV X0.here hexec rfl 31 (hb hbytes d4) (by decide) ?_
    refine iushr X0.here hexec rfl (hb hbytes d6) rfl ?_
    refine i2b X0.here hexec rfl (hb hbytes d7) rfl ?_
    exact Steps.refl _)
  have e0 : lo8 (ushr (Int32.ofNat B.slots.size - Int32.ofNat B.slots.size) 31) = 0 := by rw [Int32.sub_self]; decide
  rw [e0] at c3
  exact ⟨s₁, some (.int 0), _, _, _, X0, rfl, rfl, rfl, (fun h => by cases h), ⟨rfl, hh0⟩, fun fs hl => c3.trans (X0.ireturnOut hexec hret rfl (Or.inr (Or.inr (Or.inl rfl))) (hb hbytes d8) hl)⟩
end CodL
/-- the String at a is Latin-1 over a new byte[] (the heap's one new cell): the low bytes of the len chars of A from o on; every cell but a is kept -/
def Got (a : Addr) (D : Cell) (fV fC : Field) (A : Cell) (o len : Nat) (r : Option Value) (s u : State) : Prop := r = none ∧ ∃ D' V : Cell, Blank "java/lang/String" a D' u ∧ Same D D' [fV.slot, fC.slot] ∧ D'.slots[fV.slot]? = some (.ref s.heap.size) ∧ D'.slots[fC.slot]? = some (.int 0) ∧ Arr .byte s.heap.size V u ∧ V.vm = .none ∧ u.vm.findClass "[B" = some V.cls ∧ V.slots.size = len ∧ (∀ j, j < len → V.slots[j]? = some (.int (lo8 (cv A (o + j))))) ∧ (∀ (y : Addr) (c : Cell), y ≠ a → s.heap[y]? = some c → u.heap[y]? = some c) ∧ u.heap.size = s.heap.size + 1
theorem Got.mv {a : Addr} {D A : Cell} {fV fC : Field} {o len : Nat} : ∀ r (U U' V V' : State), U'.heap = U.heap → V.vm.Alike V'.vm → V'.heap = V.heap → Got a D fV fC A o len r U V → Got a D fV fC A o len r U' V' :=
  fun r U U' V V' h1 hal h2 ⟨e0, D', X, a1, a2, a3, a4, a5, a6, a7, a8, a9, a10, a11⟩ => ⟨e0, D', X, a1.mv hal h2, a2, by rw [h1]; exact a3, a4, by rw [h1]; exact a5.mv hal h2, a6, by rw [hal.findClass]; exact a7, a8, a9, by rw [h1, h2]; exact a10, by rw [h1, h2]; exact a11⟩
namespace New4
def yN : MethodName := ⟨"java/lang/String", "<init>", "([CIILjava/lang/Void;)V"⟩
abbrev yB : ByteArray := jdk_42_method_149_code
theorem d0 : decode yB 0 = .ok (.aload_n 0, 1) := by decide +kernel
theorem d1 : decode yB 1 = .ok (.invokespecial 1, 3) := by decide +kernel
theorem d4 : decode yB 4 = .ok (.iload_n 3, 1) := by decide +kernel
theorem d5 : decode yB 5 = .ok (.ifCond (.ne) 22, 3) := by decide +kernel
theorem d27 : decode yB 27 = .ok (.getstatic 38, 3) := by decide +kernel
theorem d30 : decode yB 30 = .ok (.ifCond (.eq) 28, 3) := by decide +kernel
theorem d33 : decode yB 33 = .ok (.aload_n 1, 1) := by decide +kernel
theorem d34 : decode yB 34 = .ok (.iload_n 2, 1) := by decide +kernel
theorem d35 : decode yB 35 = .ok (.iload_n 3, 1) := by decide +kernel
theorem d36 : decode yB 36 = .ok (.invokestatic 177, 3) := by decide +kernel
theorem d39 : decode yB 39 = .ok (.astore 5, 2) := by decide +kernel
theorem d41 : decode yB 41 = .ok (.aload_n 0, 1) := by decide +kernel
theorem d42 : decode yB 42 = .ok (.aload 5, 2) := by decide +kernel
theorem d44 : decode yB 44 = .ok (.iload_n 3, 1) := by decide +kernel
theorem d45 : decode yB 45 = .ok (.invokestatic 47, 3) := by decide +kernel
theorem d48 : decode yB 48 = .ok (.putfield 15, 3) := by decide +kernel
theorem d51 : decode yB 51 = .ok (.aload_n 0, 1) := by decide +kernel
theorem d52 : decode yB 52 = .ok (.aload 5, 2) := by decide +kernel
theorem d54 : decode yB 54 = .ok (.putfield 9, 3) := by decide +kernel
theorem d57 : decode yB 57 = .ok (.return_, 1) := by decide +kernel
def site : List Cond := [.fieldLink "java/lang/String" 38 "java/lang/String" "COMPACT_STRINGS" "Z", Cmp3.tab, CodL.tab, .laysFinal "java/lang/String" "java/lang/String" "value" "[B", .fieldLink "java/lang/String" 9 "java/lang/String" "value" "[B", .laysFinal "java/lang/String" "java/lang/String" "coder" "B", .fieldLink "java/lang/String" 15 "java/lang/String" "coder" "B"] ++ objW "java/lang/String" 1 ++ staticW "java/lang/String" 177 Cmp3.yN ++ staticW "java/lang/String" 47 CodL.yN
def tab : Cond := tabOf yN yB 6 none site
def P (a : Addr) (D : Cell) (fV fC : Field) (b : Addr) (A : Cell) (z : Int32) (o len : Nat) (args : Array Value) (s : State) : Prop := args = #[.ref a, .ref b, .int (Int32.ofNat o), .int (Int32.ofNat len), .null] ∧ Blank "java/lang/String" a D s ∧ Found "java/lang/String" "value" "[B" fV s ∧ Found "java/lang/String" "coder" "B" fC s ∧ Ch b A s ∧ StaticIs s "java/lang/String" "COMPACT_STRINGS" "Z" (.int z) ∧ ¬ z = 0 ∧ 0 < len ∧ o + len ≤ A.slots.size ∧ len ≤ 536870912 ∧ ∀ i, i < len → ¬ 255 < cv A (o + i)
def E (a : Addr) (D : Cell) (fV fC : Field) (A : Cell) (o len : Nat) (r : Option Value) (s u : State) : Prop := Got a D fV fC A o len r s u
/-- len > 0, no char of the range above 255: a Latin-1 String of their low bytes -/
theorem law (l : Launch) (a : Addr) (D : Cell) (fV fC : Field) (b : Addr) (A : Cell) (z : Int32) (o len : Nat) : Law l yN 5 4 2 35 yB 6 none site (P a D fV fC b A z o len) (E a D fV fC A o len) [⟨a, fC.slot⟩, ⟨a, fV.slot⟩] 1 len := by
  refine Law.of_walk (plainFor_of_name (by decide +kernel)) (by decide +kernel) (by decide +kernel) (by decide) (fun _ _ h => by rw [h.1]; rfl) (fun _ U U' hal hh h => ⟨h.1, h.2.1.mv hal hh, h.2.2.1.al hal, h.2.2.2.1.al hal, h.2.2.2.2.1.mv hal hh, h.2.2.2.2.2.1.there hal hh, h.2.2.2.2.2.2⟩) (fun r U U' V V' h1 hal h2 h => Got.mv r U U' V V' h1 hal h2 h) ?_
  intro p e s m args below meth c s₁ X0 hexec hbytes hml hret hlk hnm hown hh0 W hP
  obtain ⟨rfl, hB, f1, f2, hA, s1, hz, l0, l1, l2, hp⟩ := hP
  have a31 := hA.1.2.2.2
  have c1 : Steps p.tables e below (s₁.setTop (entryFrame m #[.ref a, .ref b, .int (Int32.ofNat o), .int (Int32.ofNat len), .null] 6)) (s₁.setTop (mkF m 0 #[.val (.ref a), .val (.ref b), .val (.int (Int32.ofNat o)), .val (.int (Int32.ofNat len)), .val .null, .unset] [])) := entry rfl
  have c2 : Steps p.tables e below (s₁.setTop (entryFrame m #[.ref a, .ref b, .int (Int32.ofNat o), .int (Int32.ofNat len), .null] 6)) (s₁.setTop (mkF m 1 #[.val (.ref a), .val (.ref b), .val (.int (Int32.ofNat o)), .val (.int (Int32.ofNat len)), .val .null, .unset] [.ref a])) := c1.trans (by
    refine XS.aloadN X0.here hexec rfl (hb hbytes d0) rfl rfl ?_
    exact Steps.refl _)
  obtain ⟨T3, X3, q3, st3⟩ := X0.oinit hexec hown (wks W (objW "java/lang/String" 1)) (g := (mkF m 1 #[.val (.ref a), .val (.ref b), .val (.int (Int32.ofNat o)), .val (.int (Int32.ofNat len)), .val .null, .unset] [.ref a])) rfl (by rw [hml]; rfl) (rest := []) rfl (hb hbytes d1) (W := 0) (by show 2 * 0 + 0 ≤ _; decide) (Nat.le_of_ble_eq_true rfl) (Nat.le_of_ble_eq_true rfl)
  have hh3 := q3.trans hh0
  have c4 : Steps p.tables e below (s₁.setTop (entryFrame m #[.ref a, .ref b, .int (Int32.ofNat o), .int (Int32.ofNat len), .null] 6)) (T3.setTop (mkF m 27 #[.val (.ref a), .val (.ref b), .val (.int (Int32.ofNat o)), .val (.int (Int32.ofNat len)), .val .null, .unset] [])) := (c2.trans (st3 _ (Steps.refl _))).trans (by
    refine XS.iloadN X3.here hexec rfl (hb hbytes d4) rfl ?_
    refine XS.ifYes X3.here hexec rfl (pc0 := 5) rfl (hb hbytes d5) rfl (i0_ne_t (nz32 (by omega) l0)) (by decide) rfl ?_
    exact Steps.refl _)
  obtain ⟨T5, X5, q5, st5⟩ := X3.sget hexec hown (wk W (.fieldLink "java/lang/String" 38 "java/lang/String" "COMPACT_STRINGS" "Z")) s1 (fun _ _ h => by rw [hh3]; exact h) (g := (mkF m 27 #[.val (.ref a), .val (.ref b), .val (.int (Int32.ofNat o)), .val (.int (Int32.ofNat len)), .val .null, .unset] [])) rfl (hb hbytes d27)
  have hh5 := q5.trans hh3
  have c6 : Steps p.tables e below (s₁.setTop (entryFrame m #[.ref a, .ref b, .int (Int32.ofNat o), .int (Int32.ofNat len), .null] 6)) (T5.setTop (mkF m 30 #[.val (.ref a), .val (.ref b), .val (.int (Int32.ofNat o)), .val (.int (Int32.ofNat len)), .val .null, .unset] [.int z])) := c4.trans (st5 _ (Steps.refl _))
  have c7 : Steps p.tables e below (s₁.setTop (entryFrame m #[.ref a, .ref b, .int (Int32.ofNat o), .int (Int32.ofNat len), .null] 6)) (T5.setTop (mkF m 36 #[.val (.ref a), .val (.ref b), .val (.int (Int32.ofNat o)), .val (.int (Int32.ofNat len)), .val .null, .unset] [.int (Int32.ofNat len), .int (Int32.ofNat o), .ref b])) := c6.trans (by
    refine XS.ifNo X5.here hexec rfl (hb hbytes d30) rfl (i0_eq_f hz) ?_
    refine XS.aloadN X5.here hexec rfl (hb hbytes d33) rfl rfl ?_
    refine XS.iloadN X5.here hexec rfl (hb hbytes d34) rfl ?_
    refine XS.iloadN X5.here hexec rfl (hb hbytes d35) rfl ?_
    exact Steps.refl _)
  obtain ⟨v8, T8, X8, E8, g8⟩ := X5.callS hexec (Cmp3.law l b A o len) hown (wks W (staticW "java/lang/String" 177 Cmp3.yN)) (wk W Cmp3.tab) (W := 0) (Nat.le_of_ble_eq_true rfl) (Nat.le_of_ble_eq_true rfl) (Nat.le_refl _) (by show 0 + len ≤ len; omega) (g := (mkF m 36 #[.val (.ref a), .val (.ref b), .val (.int (Int32.ofNat o)), .val (.int (Int32.ofNat len)), .val .null, .unset] [.int (Int32.ofNat len), .int (Int32.ofNat o), .ref b])) rfl (by rw [hml]; rfl) c7 (argsL := [.ref b, .int (Int32.ofNat o), .int (Int32.ofNat len)]) (rest := []) rfl rfl (by show 2 * 0 + 0 ≤ _; decide) (hb hbytes d36) (⟨rfl, hA.mv X5.warmed.alike hh5, l1, l2, hp⟩)
  obtain ⟨e8, z8⟩ := E8
  obtain ⟨rfl, N, n1, n2, n3, n4, n5, n6⟩ := NewArr.mv _ T5 s _ _ hh5.symm (Vm.Alike.refl _) rfl e8
  rw [hh5] at z8
  have hB1 := hB.keep X8.warmed.alike (n6 _ _ hB.1)
  have hne : s.heap.size ≠ a := (Nat.ne_of_lt (Array.getElem?_eq_some_iff.mp hB.1).1).symm
  have c9 : Steps p.tables e below (s₁.setTop (entryFrame m #[.ref a, .ref b, .int (Int32.ofNat o), .int (Int32.ofNat len), .null] 6)) (T8.setTop (mkF m 39 #[.val (.ref a), .val (.ref b), .val (.int (Int32.ofNat o)), .val (.int (Int32.ofNat len)), .val .null, .unset] [.ref s.heap.size])) := g8
  have c10 : Steps p.tables e below (s₁.setTop (entryFrame m #[.ref a, .ref b, .int (Int32.ofNat o), .int (Int32.ofNat len), .null] 6)) (T8.setTop (mkF m 45 #[.val (.ref a), .val (.ref b), .val (.int (Int32.ofNat o)), .val (.int (Int32.ofNat len)), .val .null, .val (.ref s.heap.size)] [.int (Int32.ofNat N.slots.size), .ref s.heap.size, .ref a])) := by
    have hc : Steps p.tables e below (s₁.setTop (entryFrame m #[.ref a, .ref b, .int (Int32.ofNat o), .int (Int32.ofNat len), .null] 6)) (T8.setTop (mkF m 45 #[.val (.ref a), .val (.ref b), .val (.int (Int32.ofNat o)), .val (.int (Int32.ofNat len)), .val .null, .val (.ref s.heap.size)] [.int (Int32.ofNat len), .ref s.heap.size, .ref a])) := c9.trans (by
      refine XS.astore X8.here hexec rfl (hb hbytes d39) rfl rfl rfl ?_
      refine XS.aloadN X8.here hexec rfl (hb hbytes d41) rfl rfl ?_
      refine XS.aload X8.here hexec rfl (hb hbytes d42) rfl rfl ?_
      refine XS.iloadN X8.here hexec rfl (hb hbytes d44) rfl ?_
      exact Steps.refl _)
    rw [n4]; exact hc
  obtain ⟨v11, T11, X11, E11, g11⟩ := X8.callS hexec (CodL.law l s.heap.size N) hown (wks W (staticW "java/lang/String" 47 CodL.yN)) (wk W CodL.tab) (W := 1) (Nat.le_of_ble_eq_true rfl) (Nat.le_of_ble_eq_true rfl) (Nat.le_refl _) (by show 0 + len + 0 ≤ len; omega) (g := (mkF m 45 #[.val (.ref a), .val (.ref b), .val (.int (Int32.ofNat o)), .val (.int (Int32.ofNat len)), .val .null, .val (.ref s.heap.size)] [.int (Int32.ofNat N.slots.size), .ref s.heap.size, .ref a])) rfl (by rw [hml]; rfl) c10 (argsL := [.ref s.heap.size, .int (Int32.ofNat N.slots.size)]) (rest := [.ref a]) rfl rfl (by show 2 * 0 + (1 + 0) ≤ _; decide) (hb hbytes d45) (⟨rfl, n1⟩)
  obtain ⟨rfl, q11⟩ := E11
  have hB11 := hB1.mv (X8.warmed.alike.symm.trans X11.warmed.alike) q11
  have c12 : Steps p.tables e below (s₁.setTop (entryFrame m #[.ref a, .ref b, .int (Int32.ofNat o), .int (Int32.ofNat len), .null] 6)) (T11.setTop (mkF m 48 #[.val (.ref a), .val (.ref b), .val (.int (Int32.ofNat o)), .val (.int (Int32.ofNat len)), .val .null, .val (.ref s.heap.size)] [.int 0, .ref a])) := g11
  obtain ⟨T13, X13, p13, bl13, sl13, st13⟩ := X11.finit hexec hown (wk W (.fieldLink "java/lang/String" 15 "java/lang/String" "coder" "B")) (Or.inr ⟨_, (wk W (.laysFinal "java/lang/String" "java/lang/String" "coder" "B"))⟩) (Or.inl ⟨rfl, hnm⟩) f2 (Or.inl rfl) hB11 (t := .byte) (by decide +kernel) rfl (g := (mkF m 48 #[.val (.ref a), .val (.ref b), .val (.int (Int32.ofNat o)), .val (.int (Int32.ofNat len)), .val .null, .val (.ref s.heap.size)] [.int 0, .ref a])) rfl (rest := []) rfl (hb hbytes d48)
  have c14 : Steps p.tables e below (s₁.setTop (entryFrame m #[.ref a, .ref b, .int (Int32.ofNat o), .int (Int32.ofNat len), .null] 6)) (T13.setTop (mkF m 54 #[.val (.ref a), .val (.ref b), .val (.int (Int32.ofNat o)), .val (.int (Int32.ofNat len)), .val .null, .val (.ref s.heap.size)] [.ref s.heap.size, .ref a])) := (c12.trans (st13 _ (Steps.refl _))).trans (by
    refine XS.aloadN X13.here hexec rfl (hb hbytes d51) rfl rfl ?_
    refine XS.aload X13.here hexec rfl (hb hbytes d52) rfl rfl ?_
    exact Steps.refl _)
  obtain ⟨T15, X15, p15, bl15, sl15, st15⟩ := X13.finit hexec hown (wk W (.fieldLink "java/lang/String" 9 "java/lang/String" "value" "[B")) (Or.inr ⟨_, (wk W (.laysFinal "java/lang/String" "java/lang/String" "value" "[B"))⟩) (Or.inl ⟨rfl, hnm⟩) f1 (Or.inl rfl) bl13 (t := (.array .byte)) (by decide +kernel) rfl (g := (mkF m 54 #[.val (.ref a), .val (.ref b), .val (.int (Int32.ofNat o)), .val (.int (Int32.ofNat len)), .val .null, .val (.ref s.heap.size)] [.ref s.heap.size, .ref a])) rfl (rest := []) rfl (hb hbytes d54)
  have c16 : Steps p.tables e below (s₁.setTop (entryFrame m #[.ref a, .ref b, .int (Int32.ofNat o), .int (Int32.ofNat len), .null] 6)) (T15.setTop (mkF m 57 #[.val (.ref a), .val (.ref b), .val (.int (Int32.ofNat o)), .val (.int (Int32.ofNat len)), .val .null, .val (.ref s.heap.size)] [])) := c14.trans (st15 _ (Steps.refl _))
  have ap := apart (Or.inr ⟨_, (wk W (.laysFinal "java/lang/String" "java/lang/String" "value" "[B"))⟩) (Or.inr ⟨_, (wk W (.laysFinal "java/lang/String" "java/lang/String" "coder" "B"))⟩) f1 f2 (t₁ := .array .byte) (t₂ := .byte) (by decide +kernel) (by decide +kernel) (by decide)
  have al := X8.warmed.alike.symm.trans X15.warmed.alike
  have n7 : T11.heap[s.heap.size]? = some N := by rw [q11]; exact n1.1
  exact ⟨T15, none, _, _, _, X15, by simp, rfl, by omega, (fun _ => rfl), ⟨rfl, _, N, bl15, ((Same.refl D _).set _ (by simp)).set _ (by simp), sl15, (Cell.slots_setSlot_ne _ ap).trans sl13, n1.keep al (p15.other hne (p13.other hne n7)), n2, by rw [al.findClass]; exact n3, n4, n5, fun y c h1 h2 => p15.other h1 (p13.other h1 (by rw [q11]; exact n6 y c h2)), by rw [p15.2.2, p13.2.2, q11]; exact z8⟩, fun fs hl => c16.trans (X15.returnOut hexec hret (hb hbytes d57) hl)⟩
end New4
namespace New1
def yN : MethodName := ⟨"java/lang/String", "<init>", "([C)V"⟩
abbrev yB : ByteArray := jdk_42_method_3_code
theorem d0 : decode yB 0 = .ok (.aload_n 0, 1) := by decide +kernel
theorem d1 : decode yB 1 = .ok (.aload_n 1, 1) := by decide +kernel
theorem d2 : decode yB 2 = .ok (.iconst 0, 1) := by decide +kernel
theorem d3 : decode yB 3 = .ok (.aload_n 1, 1) := by decide +kernel
theorem d4 : decode yB 4 = .ok (.arraylength, 1) := by decide +kernel
theorem d5 : decode yB 5 = .ok (.aconst_null, 1) := by decide +kernel
theorem d6 : decode yB 6 = .ok (.invokespecial 27, 3) := by decide +kernel
theorem d9 : decode yB 9 = .ok (.return_, 1) := by decide +kernel
def site : List Cond := [New4.tab] ++ initW "java/lang/String" 27 New4.yN
def tab : Cond := tabOf yN yB 2 none site
def P (a : Addr) (D : Cell) (fV fC : Field) (b : Addr) (A : Cell) (z : Int32) (args : Array Value) (s : State) : Prop := args = #[.ref a, .ref b] ∧ Blank "java/lang/String" a D s ∧ Found "java/lang/String" "value" "[B" fV s ∧ Found "java/lang/String" "coder" "B" fC s ∧ Ch b A s ∧ StaticIs s "java/lang/String" "COMPACT_STRINGS" "Z" (.int z) ∧ ¬ z = 0 ∧ 0 < A.slots.size ∧ A.slots.size ≤ 536870912 ∧ ∀ i, i < A.slots.size → ¬ 255 < cv A i
def E (a : Addr) (D : Cell) (fV fC : Field) (A : Cell) (r : Option Value) (s u : State) : Prop := Got a D fV fC A 0 A.slots.size r s u
/-- new String(chars), not empty, no char above 255: a Latin-1 String of their low bytes -/
theorem law (l : Launch) (a : Addr) (D : Cell) (fV fC : Field) (b : Addr) (A : Cell) (z : Int32) : Law l yN 2 1 3 52 yB 2 none site (P a D fV fC b A z) (E a D fV fC A) [⟨a, fC.slot⟩, ⟨a, fV.slot⟩] 1 A.slots.size := by
  refine Law.of_walk (plainFor_of_name (by decide +kernel)) (by decide +kernel) (by decide +kernel) (by decide) (fun _ _ h => by rw [h.1]; rfl) (fun _ U U' hal hh h => ⟨h.1, h.2.1.mv hal hh, h.2.2.1.al hal, h.2.2.2.1.al hal, h.2.2.2.2.1.mv hal hh, h.2.2.2.2.2.1.there hal hh, h.2.2.2.2.2.2⟩) (fun r U U' V V' h1 hal h2 h => Got.mv r U U' V V' h1 hal h2 h) ?_
  intro p e s m args below meth c s₁ X0 hexec hbytes hml hret hlk hnm hown hh0 W hP
  obtain ⟨rfl, hB, f1, f2, hA, s1, hz, l0, l2, hp⟩ := hP
  have c1 : Steps p.tables e below (s₁.setTop (entryFrame m #[.ref a, .ref b] 2)) (s₁.setTop (mkF m 0 #[.val (.ref a), .val (.ref b)] [])) := entry rfl
  have c2 : Steps p.tables e below (s₁.setTop (entryFrame m #[.ref a, .ref b] 2)) (s₁.setTop (mkF m 6 #[.val (.ref a), .val (.ref b)] [.null, .int (Int32.ofNat A.slots.size), .int 0, .ref b, .ref a])) := c1.trans (by
    refine XS.aloadN X0.here hexec rfl (hb hbytes d0) rfl rfl ?_
    refine XS.aloadN X0.here hexec rfl (hb hbytes d1) rfl rfl ?_
    refine iconstV X0.here hexec rfl 0 (hb hbytes d2) (by decide) ?_
    refine XS.aloadN X0.here hexec rfl (hb hbytes d3) rfl rfl ?_
    refine X0.alen hexec (hA.1.mv X0.warmed.alike hh0) rfl rfl (hb hbytes d4) ?_
    refine XS.aconstNull X0.here hexec rfl (hb hbytes d5) ?_
    exact Steps.refl _)
  obtain ⟨v3, T3, X3, E3, g3⟩ := X0.callN hexec (New4.law l a D fV fC b A z 0 A.slots.size) rfl hown (wks W (initW "java/lang/String" 27 New4.yN)) (W New4.tab (by simp only [site, List.mem_cons, List.mem_append, true_or, or_true])) (W := 0) (Nat.le_of_ble_eq_true rfl) (Nat.le_of_ble_eq_true rfl) (Nat.le_refl _) (by show 0 + A.slots.size ≤ A.slots.size; omega) (g := (mkF m 6 #[.val (.ref a), .val (.ref b)] [.null, .int (Int32.ofNat A.slots.size), .int (Int32.ofNat 0), .ref b, .ref a])) rfl (by rw [hml]; rfl) c2 (argsL := [.ref b, .int (Int32.ofNat 0), .int (Int32.ofNat A.slots.size), .null]) (rest := []) rfl rfl (by show 2 * 0 + 0 ≤ _; decide) (hb hbytes d6) (⟨rfl, hB.mv X0.warmed.alike hh0, f1.al X0.warmed.alike, f2.al X0.warmed.alike, hA.mv X0.warmed.alike hh0, s1.there X0.warmed.alike hh0, hz, l0, by omega, l2, fun i hi => by rw [Nat.zero_add]; exact hp i hi⟩)
  have e0 := Got.mv _ s₁ s _ _ hh0.symm (Vm.Alike.refl _) rfl E3
  obtain rfl := e0.1
  have c4 : Steps p.tables e below (s₁.setTop (entryFrame m #[.ref a, .ref b] 2)) (T3.setTop (mkF m 9 #[.val (.ref a), .val (.ref b)] [])) := g3
  exact ⟨T3, none, _, _, _, X3, by simp, rfl, by omega, (fun _ => rfl), e0, fun fs hl => c4.trans (X3.returnOut hexec hret (hb hbytes d9) hl)⟩
theorem pays {l : Launch} {R : Room} {p : Program} {e : Env} {below : List Frame} {s : State} {sargs : Array Value} {len W : Nat} (a : Addr) (D : Cell) (fV fC : Field) (b : Addr) (A : Cell) (z : Int32) (htab : tab.before sargs s = true) (hfr : 4 ≤ R.frames) (hlo : W + 65 ≤ R.locals) :
    Back l R p e below s sargs yN len W (fun A₁ a₁ => A₁.cells + 1 ≤ R.cells ∧ A₁.slots + A.slots.size ≤ R.slots ∧ P a D fV fC b A z a₁ A₁.U) (fun A₁ _ v₁ B₁ => E a D fV fC A v₁ A₁.U B₁.U ∧ B₁.locs = A₁.locs ++ [⟨a, fC.slot⟩, ⟨a, fV.slot⟩] ∧ B₁.cells = A₁.cells + 1 ∧ B₁.slots = A₁.slots + A.slots.size) :=
  (law l a D fV fC b A z).pays htab hfr (by omega)
end New1
/-- the byte, read back as charAt reads it, is the char -/
theorem lo8_mask {x : Int32} (h0 : ¬ x < 0) (h1 : ¬ 255 < x) : lo8 x &&& 255 = x := by
  have t : ∀ k : Fin 256, lo8 (Int32.ofNat k.val) &&& 255 = Int32.ofNat k.val := by decide +kernel
  rw [Int32.lt_iff_toInt_lt] at h0 h1
  have e0 : (0 : Int32).toInt = 0 := rfl
  have e1 : (255 : Int32).toInt = 255 := rfl
  obtain ⟨k, hk⟩ : ∃ k : Nat, x.toInt = k := ⟨x.toInt.toNat, by omega⟩
  have hx : x = Int32.ofNat k := Int32.toInt_inj.mp (by rw [hk, Int32.toInt_ofNat_small (by omega)])
  rw [hx]
  exact t ⟨k, by omega⟩
end StrChars
namespace StrChars.Road
open Jvm Sem ClassFile Op Lib Jvm.Stand Jvm.Free Jvm.Free.XT
open Jvm.Lib.Cold (StaticIs)
abbrev ST : String := "java/lang/String"
/-- every table word that New1's law asks, flat -/
abbrev words : List Jvm.Cond := [.code New1.yN New1.yB 2 none, .initialized ST, .methodLink ST 27 New4.yN, .instanceMethod New4.yN,
  .code New4.yN New4.yB 6 none, .fieldLink ST 38 ST "COMPACT_STRINGS" "Z", .laysFinal ST ST "value" "[B", .fieldLink ST 9 ST "value" "[B", .laysFinal ST ST "coder" "B", .fieldLink ST 15 ST "coder" "B",
  .methodLink ST 1 Lib.objectInit, .instanceMethod Lib.objectInit, .code Lib.objectInit ⟨#[0xb1]⟩ 1 none, .methodLink ST 177 Cmp3.yN, .static Cmp3.yN, .methodLink ST 47 CodL.yN, .static CodL.yN,
  .code Cmp3.yN Cmp3.yB 6 (some (.array .byte)), .initialized U16, .arrayClass .byte, .methodLink U16 115 Cmp5.yN, .static Cmp5.yN, .code Cmp5.yN Cmp5.yB 7 (some .int), .code CodL.yN CodL.yB 2 (some .byte)]
theorem tab_of {a : Array Value} {s : State} (h : ∀ w ∈ words, w.before a s = true) : New1.tab.before a s = true := by
  have h5 : Cmp5.tab.before a s = true := unparts (wk h (.code Cmp5.yN Cmp5.yB 7 (some .int))) (wks h (.initialized Cmp5.yN.cls :: Cmp5.site))
  have hc : CodL.tab.before a s = true := unparts (wk h (.code CodL.yN CodL.yB 2 (some .byte))) (wks h (.initialized CodL.yN.cls :: CodL.site))
  have q5 : ∀ w ∈ Cmp5.tab :: words, w.before a s = true := fun w hw => (List.mem_cons.mp hw).elim (fun e => e ▸ h5) (h w)
  have h3 : Cmp3.tab.before a s = true := unparts (wk q5 (.code Cmp3.yN Cmp3.yB 6 (some (.array .byte)))) (wks q5 (.initialized Cmp3.yN.cls :: Cmp3.site))
  have q3 : ∀ w ∈ Cmp3.tab :: CodL.tab :: words, w.before a s = true := fun w hw => (List.mem_cons.mp hw).elim (fun e => e ▸ h3) fun hw => (List.mem_cons.mp hw).elim (fun e => e ▸ hc) (h w)
  have h4 : New4.tab.before a s = true := unparts (wk q3 (.code New4.yN New4.yB 6 none)) (wks q3 (.initialized New4.yN.cls :: New4.site))
  have q4 : ∀ w ∈ New4.tab :: words, w.before a s = true := fun w hw => (List.mem_cons.mp hw).elim (fun e => e ▸ h4) (h w)
  exact unparts (wk q4 (.code New1.yN New1.yB 2 none)) (wks q4 (.initialized New1.yN.cls :: New1.site))
/-- the words ride from the start Z to the walk's own state -/
theorem moved {Z s : State} {a0 args : Array Value} (hZ : Z.Warmed39 s.vm) (hw : ∀ d ∈ words, d.before a0 Z = true) : ∀ d ∈ words, d.before args s = true := fun d hd => by
  have q := hw d hd
  have t : ∀ d ∈ words, d = .arrayClass .byte ∨ (d.onTables && d.keepsFace) = true := by decide +kernel
  rcases t d hd with rfl | t
  · exact RoadKit.mvA hZ q
  · exact RoadKit.mv hZ q t
/-- WHAT COMES BACK, over the tables of the start Z: h the heap at the call, h' behind it -/
def Q (Z : State) (x : Addr) (A : Cell) (h : Heap) (v : Option Value) (h' : Heap) (L : List Loc) : Prop := v = none ∧ (∀ y ∈ L, y.base = x) ∧ RoadKit.Keep h h' [x] ∧ h'.size = h.size + 1 ∧ RoadKit.Exa Z h' x ST ∧ RoadKit.Fld Z h' x ST "value" "[B" (.ref h.size) ∧ RoadKit.Fld Z h' x ST "coder" "B" (.int 0) ∧
  (∃ V : Cell, RoadKit.Arr Z h' h.size V .byte ∧ V.vm = .none ∧ Z.vm.findClass "[B" = some V.cls ∧ V.slots.size = A.slots.size ∧ ∀ j, j < A.slots.size → V.slots[j]? = some (.int (lo8 (cv A j)))) ∧
  ∀ (O n d : String) (w : Value), RoadKit.Fld Z h x O n d w → RoadKit.slotOf Z O n d ≠ RoadKit.slotOf Z ST "value" "[B" → RoadKit.slotOf Z O n d ≠ RoadKit.slotOf Z ST "coder" "B" → RoadKit.Fld Z h' x O n d w
/-- **new String(chars) AT A CALL, IN THE ROAD'S FORM**: for specialBack behind newO: x the fresh String, b the char[] with the cell A -/
theorem back {p : Program} {l : Launch} {e : Env} {R : Room} {s : State} {args : Array Value} {below : List Frame} {len W : Nat} {Z : State} {a0 : Array Value} {h : Heap} (hZ : Z.Warmed39 s.vm) (hw : ∀ d ∈ words, d.before a0 Z = true) {kI : Nat} (wi : (Jvm.Cond.instantiable ST kI).before a0 Z = true)
    {x b : Addr} {A : Cell} {z : Int32} {v0 c0 : Value} (E : RoadKit.Exa Z h x ST) (V : RoadKit.Fld Z h x ST "value" "[B" v0) (C : RoadKit.Fld Z h x ST "coder" "B" c0) (K : RoadKit.Arr Z h b A .char) (hty : Typed .char A) (S : RoadKit.Sta Z h ST "COMPACT_STRINGS" "Z" (.int z)) (hz : ¬ z = 0)
    (l0 : 0 < A.slots.size) (l2 : A.slots.size ≤ 536870912) (hp : ∀ i, i < A.slots.size → ¬ 255 < cv A i) (hfr : 4 ≤ R.frames) (hlo : W + 65 ≤ R.locals) :
    Back l R p e below s args New1.yN len W (fun P a => a = #[.ref x, .ref b] ∧ P.U.heap = h ∧ P.cells + 1 ≤ R.cells ∧ P.slots + A.slots.size ≤ R.slots)
      (fun P _ v B => ∃ L, Q Z x A h v B.U.heap L ∧ B.locs = P.locs ++ L ∧ B.cells = P.cells + 1 ∧ B.slots = P.slots + A.slots.size) := by
  intro m meth c P g ig mk a X hg hsize hdg hW hn hp'
  obtain ⟨rfl, rfl, r1, r2⟩ := hp'
  have al : Z.vm.Alike P.U.vm := hZ.alike.trans X.warmed.alike
  obtain ⟨D, cfV, kV, iV, fV, hD, gV, stV, knV, obV, asV, slV⟩ := id V
  obtain ⟨D', cfC, kC, iC, fC, hD', gC, stC, -, -, asC, slC⟩ := id C
  cases hD.symm.trans hD'
  obtain ⟨D2, kD, e1, e2, e3, e4, e5⟩ := id E
  cases hD.symm.trans e1
  obtain ⟨c2, k2, i1, i2, i3, -⟩ := Cond.instantiable_spec wi
  cases e2.symm.trans i1
  cases e3.symm.trans i2
  obtain ⟨kU, u1, u2⟩ := al.2.2 _ _ e3
  have hB : Blank ST x D P.U := ⟨hD, ⟨knV, fun q hq => by rw [hq] at obV; cases obV⟩, by rw [al.findClass]; exact e2, kU, u1, by rw [u2]; exact i3, by rw [u2]; exact e5 i3⟩
  have F1 : Found ST "value" "[B" fV P.U := ⟨SBG.found_only al ⟨cfV, kV, iV, gV⟩, stV⟩
  have F2 : Found ST "coder" "B" fC P.U := ⟨SBG.found_only al ⟨cfC, kC, iC, gC⟩, stC⟩
  have hA : Ch b A P.U := ⟨⟨K.1, State.isArrayOf_alike al K.2.1, K.2.2, by omega⟩, hty⟩
  have hS : StaticIs P.U ST "COMPACT_STRINGS" "Z" (.int z) := by
    obtain ⟨cfS, iS, kS, fS, st, cS, t1, t2, t3, t4, t5, t6, t7⟩ := S
    exact StaticIs.there (s := { Z with heap := P.U.heap }) ⟨cfS, iS, kS, fS, st, cS, t1, t2, t3, t4, t5, (fun q => by rw [q] at t6; cases t6), t7⟩ al rfl
  obtain ⟨v, B, X', ⟨⟨hv, E', V', q1, q2, q3, q4, q5, q6, q7, q8, q9, q10, q11⟩, hl, hc, hs⟩, st⟩ := New1.pays x D fV fC b A z (tab_of (moved hZ hw)) hfr hlo m meth c P g ig mk _ X hg hsize hdg hW hn ⟨r1, r2, rfl, hB, F1, F2, hA, hS, hz, l0, l2, hp⟩
  have al' : Z.vm.Alike B.U.vm := hZ.alike.trans X'.warmed.alike
  have hsz : E'.slots.size = D.slots.size := by
    obtain ⟨-, -, -, kB, w1, w2, w3⟩ := q1
    obtain ⟨kB', y1, y2⟩ := al'.2.2 _ _ e3
    rw [q2.2.1] at w1
    cases w1.symm.trans y1
    rw [w3, e5 i3, y2]
  refine ⟨v, B, X', ⟨_, ⟨hv, ?_, ⟨by omega, fun y cy hy hn' => q10 y cy (by simpa using hn') hy, fun y cy hy => ?_⟩, q11, ⟨E', _, q1.1, by rw [q2.2.1]; exact e2, by rw [q2.2.1]; exact e3, by rw [q2.1]; exact obV, fun _ => by rw [hsz]; exact e5 i3⟩,
    ⟨E', cfV, kV, iV, fV, q1.1, gV, stV, by rw [q2.1]; exact knV, by rw [q2.1]; exact obV, by rw [q2.2.1]; exact asV, q3⟩, ⟨E', cfC, kC, iC, fC, q1.1, gC, stC, by rw [q2.1]; exact knV, by rw [q2.1]; exact obV, by rw [q2.2.1]; exact asC, q4⟩,
    ⟨V', ⟨q5.1, State.isArrayOf_alike al'.symm q5.2.1, q5.2.2.1⟩, q6, by rw [← al'.findClass]; exact q7, q8, fun j hj => by have := q9 j hj; rwa [Nat.zero_add] at this⟩, fun O n d w F n1 n2 => ?_⟩, hl, hc, hs⟩, st⟩
  · intro y hy
    simp only [List.mem_cons, List.not_mem_nil, or_false] at hy
    rcases hy with rfl | rfl <;> rfl
  · by_cases q : y = x
    · subst q
      cases hD.symm.trans hy
      exact ⟨E', q1.1, q2.2.1, q2.1, hsz⟩
    · exact ⟨cy, q10 y cy q hy, rfl, rfl, rfl⟩
  · obtain ⟨D3, cf, k, i, f, g1, g2, g3, g4, g5, g6, g7⟩ := F
    cases hD.symm.trans g1
    simp only [RoadKit.slotOf, g2, gV, gC, Option.map_some, Option.getD_some] at n1 n2
    exact ⟨E', cf, k, i, f, q1.1, g2, g3, by rw [q2.1]; exact g4, by rw [q2.1]; exact g5, by rw [q2.2.1]; exact g6, by rw [q2.2.2 f.slot (by simp [n1, n2])]; exact g7⟩
end StrChars.Road
namespace StrChars.Road
open Jvm Sem ClassFile Op Lib Jvm.Stand Jvm.Free Jvm.Free.XT
/-- WHAT COMES BACK, the byte[] as a list of values -/
def QA (Z : State) (x : Addr) (zn : Int32) (cs : List Int32) (h : Heap) (v : Option Value) (h' : Heap) (L : List Loc) : Prop := v = none ∧ (∀ y ∈ L, y.base = x) ∧ RoadKit.Keep h h' [x] ∧ h'.size = h.size + 1 ∧ RoadKit.Exa Z h' x ST ∧ RoadKit.Fld Z h' x ST "value" "[B" (.ref h.size) ∧ RoadKit.Fld Z h' x ST "coder" "B" (.int 0) ∧
  (∃ kb, Z.vm.findClass "[B" = some kb ∧ RoadKit.Arv Z h' h.size kb .byte zn (cs.map fun c => .int (lo8 c)) (.int 0)) ∧
  ∀ (O n d : String) (w : Value), RoadKit.Fld Z h x O n d w → RoadKit.slotOf Z O n d ≠ RoadKit.slotOf Z ST "value" "[B" → RoadKit.slotOf Z O n d ≠ RoadKit.slotOf Z ST "coder" "B" → RoadKit.Fld Z h' x O n d w
/-- **new String(chars) AT A CALL, THE ARRAYS AS LISTS**: the char[] at b holds cs, not empty, no char above 255 -/
theorem backArv {p : Program} {l : Launch} {e : Env} {R : Room} {s : State} {args : Array Value} {below : List Frame} {len W : Nat} {Z : State} {a0 : Array Value} {h : Heap} (hZ : Z.Warmed39 s.vm) (hw : ∀ d ∈ words, d.before a0 Z = true) {kI : Nat} (wi : (Jvm.Cond.instantiable ST kI).before a0 Z = true)
    {x b : Addr} {k : ClassId} {zn z : Int32} {cs : List Int32} {dv v0 c0 : Value} (E : RoadKit.Exa Z h x ST) (V : RoadKit.Fld Z h x ST "value" "[B" v0) (C : RoadKit.Fld Z h x ST "coder" "B" c0) (K : RoadKit.Arv Z h b k .char zn (cs.map Value.int) dv) (S : RoadKit.Sta Z h ST "COMPACT_STRINGS" "Z" (.int z)) (hz : ¬ z = 0)
    (hlen : zn.toNatClampNeg = cs.length) (h0 : 0 < cs.length) (hbig : cs.length ≤ 536870912) (hall : ∀ c ∈ cs, ¬ 255 < c) (hfr : 4 ≤ R.frames) (hlo : W + 65 ≤ R.locals) :
    Back l R p e below s args New1.yN len W (fun P a => a = #[.ref x, .ref b] ∧ P.U.heap = h ∧ P.cells + 1 ≤ R.cells ∧ P.slots + cs.length ≤ R.slots)
      (fun P _ v B => ∃ L, QA Z x zn cs h v B.U.heap L ∧ B.locs = P.locs ++ L ∧ B.cells = P.cells + 1 ∧ B.slots = P.slots + cs.length) := by
  obtain ⟨A, K1, K2, K3, K4, K5, K6⟩ := K
  have e : A.slots.size = cs.length := K3.trans hlen
  have hat : ∀ (i : Nat) (hi : i < cs.length), A.slots[i]? = some (.int cs[i]) := fun i hi => by rw [K5 i (by omega)]; simp [List.getD_eq_getElem?_getD, hi]
  have hcv : ∀ (i : Nat) (hi : i < cs.length), cv A i = cs[i] := fun i hi => by unfold cv; rw [hat i hi]
  have hty : Typed .char A := fun i v hv => by
    have hi : i < A.slots.size := (Array.getElem?_eq_some_iff.mp hv).1
    have q := K5 i hi
    rw [hv] at q
    rw [Option.some.inj q]
    exact K6 i hi
  refine Back.mono (back hZ hw wi E V C K1 hty S hz (by omega) (by omega) (fun i hi => by rw [hcv i (by omega)]; exact hall _ (List.getElem_mem _)) hfr hlo) (fun P a hp => ⟨hp.1, hp.2.1, hp.2.2.1, by rw [e]; exact hp.2.2.2⟩) (fun P a v B hp hq => ?_)
  obtain ⟨L, ⟨q1, q2, q3, q4, q5, q6, q7, ⟨V', v1, v2, v3, v4, v5⟩, q9⟩, hl, hc, hs⟩ := hq
  refine ⟨L, ⟨q1, q2, q3, q4, q5, q6, q7, ⟨V'.cls, v3, V', v1, rfl, by rw [v4, e, hlen], K4, fun i hi => ?_, fun i hi => ?_⟩, q9⟩, hl, hc, by rw [hs, e]⟩
  · have hi' : i < cs.length := by omega
    rw [v5 i (by omega), hcv i hi']; simp [List.getD_eq_getElem?_getD, hi']
  · have hi' : i < cs.length := by omega
    simp only [List.getD_eq_getElem?_getD, List.getElem?_map, List.getElem?_eq_getElem hi', Option.map_some, Option.getD_some]
    exact fits_lo8 _
end StrChars.Road
namespace StrChars.Road
open Jvm Sem ClassFile Op Lib Jvm.Stand Jvm.Free Jvm.Free.XT
/-- WHAT COMES BACK, in the writer's own shape -/
def QV (Z : State) (x : Addr) (N : Int32) (bs : List Int32) (h : Heap) (n0 : Nat) (v : Option Value) (h' : Heap) (L : List Loc) : Prop := v = none ∧ RoadKit.Fr n0 L ∧ RoadKit.Keep h h' [x] ∧ RoadKit.Exa Z h' x ST ∧ RoadKit.Fld Z h' x ST "coder" "B" (.int 0) ∧
  ∃ (t : Addr) (kb : ClassId), n0 ≤ t ∧ h.size ≤ t ∧ ¬ t = x ∧ RoadKit.Fld Z h' x ST "value" "[B" (.ref t) ∧ RoadKit.Arv Z h' t kb .byte N (bs.map Value.int) (.int 0)
/-- **new String(chars) AT A CALL, FOR THE WRITER**: a char[] of n known ints, each 0 to 255 -/
theorem backV {p : Program} {l : Launch} {e : Env} {R : Room} {s : State} {args : Array Value} {below : List Frame} {len W : Nat} {Z : State} {a0 : Array Value} {h : Heap} (hZ : Z.Warmed39 s.vm) (hw : ∀ d ∈ words, d.before a0 Z = true) {kI : Nat} (wi : (Jvm.Cond.instantiable ST kI).before a0 Z = true)
    {x b : Addr} {kC : ClassId} {cs bs : List Int32} {d v0 c0 : Value} {z N : Int32} {n n0 : Nat} (hx0 : n0 ≤ x) (hh0 : n0 ≤ h.size) (E : RoadKit.Exa Z h x ST) (V : RoadKit.Fld Z h x ST "value" "[B" v0) (C : RoadKit.Fld Z h x ST "coder" "B" c0) (K : RoadKit.Arv Z h b kC .char N (cs.map Value.int) d) (S : RoadKit.Sta Z h ST "COMPACT_STRINGS" "Z" (.int z)) (hz : ¬ z = 0)
    (hn : cs.length = n) (hN : N = Int32.ofNat n) (l0 : 0 < n) (l2 : n ≤ 4000) (hp : ∀ c ∈ cs, ¬ c < 0 ∧ ¬ (255 : Int32) < c) (hb : bs = cs.map (fun c => c.toInt8.toInt32)) (hfr : 4 ≤ R.frames) (hlo : W + 65 ≤ R.locals) :
    Back l R p e below s args (⟨"java/lang/String", "<init>", "([C)V"⟩ : MethodName) len W (fun P a => a = #[.ref x, .ref b] ∧ P.U.heap = h ∧ P.cells + 1 ≤ R.cells ∧ P.slots + n ≤ R.slots)
      (fun P _ v B => ∃ L, QV Z x N bs h n0 v B.U.heap L ∧ B.locs = P.locs ++ L ∧ B.cells = P.cells + 1 ∧ B.slots = P.slots + n) := by
  subst hn hN hb
  refine Back.mono (backArv hZ hw wi E V C K S hz (n32 (by omega)) l0 (by omega) (fun c hc => (hp c hc).2) hfr hlo) (fun P a hp => hp) (fun P a v B hp hq => ?_)
  obtain ⟨L, ⟨q1, q2, q3, q4, q5, q6, q7, ⟨kb, v1, v2⟩, q9⟩, hl, hc, hs⟩ := hq
  exact ⟨L, ⟨q1, fun y hy => by rw [q2 y hy]; exact hx0, q3, q5, q7, h.size, kb, hh0, Nat.le_refl _, Nat.ne_of_gt E.lt, q6, by rw [List.map_map]; exact v2⟩, hl, hc, hs⟩
end StrChars.Road
namespace StrChars
open Jvm Sem ClassFile Op Lib Jvm.Stand Jvm.Free.XT Jvm.Free.ALB Jvm.Free.JM Jvm.Free
open Jvm.Lib.Cold (StaticIs)
def hi8 (x : Int32) : Int32 := lo8 (x >>> ((8 : Int32) &&& 31))
/-- what StringUTF16.getChar makes of two bytes -/
def pairCh (u v : Int32) : Int32 := (((u &&& 255) <<< ((0 : Int32) &&& 31)) ||| ((v &&& 255) <<< ((8 : Int32) &&& 31))).toUInt32.toUInt16.toUInt32.toInt32
theorem lo8_and (x : Int32) : (lo8 x &&& 255).toBitVec.toNat = x.toBitVec.toNat % 256 := by
  have h : (lo8 x).toBitVec = (x.toBitVec.signExtend 8).signExtend 32 := by rw [lo8, Int8.toBitVec_toInt32, Int32.toBitVec_toInt8]
  rw [Int32.toBitVec_and, BitVec.toNat_and, h]
  have e : ((x.toBitVec.signExtend 8).signExtend 32).toNat % 256 = x.toBitVec.toNat % 256 := by
    rw [BitVec.toNat_signExtend]
    have hlt := x.toBitVec.isLt
    simp only [BitVec.toNat_setWidth, BitVec.toNat_signExtend]
    split <;> split <;> omega
  rw [← e]
  exact Nat.and_two_pow_sub_one_eq_mod _ 8
theorem pair_says {c : Int32} (h0 : ¬ c < 0) (h1 : ¬ 65535 < c) : pairCh (lo8 c) (hi8 c) = c := by
  rw [Int32.lt_iff_toInt_lt] at h0 h1
  have e0 : (0 : Int32).toInt = 0 := rfl
  have e1 : (65535 : Int32).toInt = 65535 := rfl
  have hc : c.toInt = c.toBitVec.toNat := by
    have := c.toBitVec.isLt
    have e : c.toInt = c.toBitVec.toInt := rfl
    rw [e] at h0 h1
    rw [e]
    rw [BitVec.toInt_eq_toNat_cond] at h0 h1 ⊢
    split at h0 <;> split <;> omega
  have hn : c.toBitVec.toNat < 65536 := by omega
  have a1 := lo8_and c
  have a2 : (hi8 c &&& 255).toBitVec.toNat = c.toBitVec.toNat / 256 := by
    rw [hi8, lo8_and]
    have e : ((8 : Int32) &&& 31) = 8 := by decide
    rw [e, Int32.toBitVec_shiftRight]
    have e2 : ((8 : Int32).toBitVec.smod 32) = 8#32 := by decide
    rw [e2, BitVec.sshiftRight_eq', BitVec.toNat_sshiftRight_of_msb_false (by rw [BitVec.msb_eq_false_iff_two_mul_lt]; omega)]
    show c.toBitVec.toNat >>> 8 % 256 = _
    rw [Nat.shiftRight_eq_div_pow]
    omega
  unfold pairCh
  apply Int32.toBitVec_inj.mp
  apply BitVec.eq_of_toNat_eq
  have f0 : ((0 : Int32) &&& 31) = 0 := by decide
  have f8 : ((8 : Int32) &&& 31) = 8 := by decide
  rw [f0, f8]
  have g : (((lo8 c &&& 255) <<< (0 : Int32)) ||| ((hi8 c &&& 255) <<< (8 : Int32))).toBitVec.toNat = c.toBitVec.toNat := by
    rw [Int32.toBitVec_or, Int32.toBitVec_shiftLeft, Int32.toBitVec_shiftLeft]
    have s0 : ((0 : Int32).toBitVec.smod 32) = 0#32 := by decide
    have s8 : ((8 : Int32).toBitVec.smod 32) = 8#32 := by decide
    rw [s0, s8, BitVec.toNat_or]
    simp only [BitVec.shiftLeft_eq', BitVec.toNat_shiftLeft, a1, a2]
    show (c.toBitVec.toNat % 256) <<< 0 % 2 ^ 32 ||| (c.toBitVec.toNat / 256) <<< 8 % 2 ^ 32 = _
    rw [Nat.shiftLeft_zero, Nat.mod_eq_of_lt (show c.toBitVec.toNat % 256 < 2 ^ 32 by omega), Nat.mod_eq_of_lt (show (c.toBitVec.toNat / 256) <<< 8 < 2 ^ 32 by rw [Nat.shiftLeft_eq]; omega), Nat.or_comm, ← Nat.shiftLeft_add_eq_or_of_lt (by omega), Nat.shiftLeft_eq]
    omega
  show BitVec.toNat (((((lo8 c &&& 255) <<< (0 : Int32)) ||| ((hi8 c &&& 255) <<< (8 : Int32))).toBitVec.setWidth 16).setWidth 32) = _
  rw [BitVec.toNat_setWidth, BitVec.toNat_setWidth, g]
  omega
end StrChars
namespace StrChars
open Jvm Sem ClassFile Op Lib Jvm.Stand Jvm.Free.XT Jvm.Free.ALB Jvm.Free.JM Jvm.Free
open Jvm.Lib.Cold (StaticIs)
/-- the array's cell V codes the n chars f 0 .. f (n - 1) by the coder cd, as the JDK does: coder 1 just where some char is above 255 -/
def Cod (cd : Int32) (n : Nat) (f : Nat → Int32) (V : Cell) : Prop := (cd = 0 ∧ V.slots.size = n ∧ ∀ j, j < n → V.slots[j]? = some (.int (lo8 (f j))) ∧ ¬ 255 < f j) ∨ (cd = 1 ∧ V.slots.size = 2 * n ∧ (∀ j, j < n → V.slots[2 * j]? = some (.int (lo8 (f j))) ∧ V.slots[2 * j + 1]? = some (.int (hi8 (f j)))) ∧ ∃ j, j < n ∧ 255 < f j)
/-- **x is a String of the n chars f 0 .. f (n - 1)**, Latin-1 or UTF-16; its array at t has the cell V -/
def Txt (x t : Addr) (V : Cell) (cd : Int32) (n : Nat) (f : Nat → Int32) (U : State) : Prop := Exact "java/lang/String" x U ∧ Has x "java/lang/String" "value" "[B" (.ref t) U ∧ Has x "java/lang/String" "coder" "B" (.int cd) U ∧ XT.Arr .byte t V U ∧ Cod cd n f V ∧ ∀ j, j < n → ¬ f j < 0 ∧ ¬ 65535 < f j
theorem Txt.mv {x t : Addr} {V : Cell} {cd : Int32} {n : Nat} {f : Nat → Int32} {U U' : State} (h : Txt x t V cd n f U) (hal : U.vm.Alike U'.vm) (hh : U'.heap = U.heap) : Txt x t V cd n f U' := ⟨h.1.mv hal hh, h.2.1.mv hal hh, h.2.2.1.mv hal hh, h.2.2.2.1.mv hal hh, h.2.2.2.2⟩
end StrChars
namespace StrChars.Road
open Jvm Sem ClassFile Op Lib Jvm.Stand Jvm.Free Jvm.Free.XT
open Jvm.Lib.Cold (StaticIs)
theorem consq {a : Array Value} {s : State} {c : Jvm.Cond} {L : List Jvm.Cond} (h0 : c.before a s = true) (h : ∀ w ∈ L, w.before a s = true) : ∀ w ∈ c :: L, w.before a s = true := fun w hw => (List.mem_cons.mp hw).elim (fun e => e ▸ h0) (h w)
/-- the bytes of the chars cs, low before high -/
def wideBytes : List Int32 → List Value
  | [] => []
  | c :: cs => .int (lo8 c) :: .int (hi8 c) :: wideBytes cs
theorem wide_lo (d : Value) : ∀ (cs : List Int32) (j : Nat), j < cs.length → (wideBytes cs).getD (2 * j) d = .int (lo8 (cs.getD j 0))
  | [], j, h => absurd h (Nat.not_lt_zero j)
  | c :: cs, 0, _ => rfl
  | c :: cs, j + 1, h => by
    have q := wide_lo d cs j (by simpa using h)
    rw [show 2 * (j + 1) = 2 * j + 1 + 1 from by omega]
    simpa [wideBytes] using q
theorem wide_hi (d : Value) : ∀ (cs : List Int32) (j : Nat), j < cs.length → (wideBytes cs).getD (2 * j + 1) d = .int (hi8 (cs.getD j 0))
  | [], j, h => absurd h (Nat.not_lt_zero j)
  | c :: cs, 0, _ => rfl
  | c :: cs, j + 1, h => by
    have q := wide_hi d cs j (by simpa using h)
    rw [show 2 * (j + 1) + 1 = 2 * j + 1 + 1 + 1 from by omega]
    simpa [wideBytes] using q
theorem low_at (d : Value) (cs : List Int32) (j : Nat) (h : j < cs.length) : (cs.map fun c => Value.int (lo8 c)).getD j d = .int (lo8 (cs.getD j 0)) := by
  simp [List.getD_eq_getElem?_getD, h]
/-- an array of N2 bytes vs codes the chars cs by the coder cd -/
def CodA (cs : List Int32) (cd N2 : Int32) (vs : List Value) : Prop := (cd = 0 ∧ N2 = Int32.ofNat cs.length ∧ vs = (cs.map fun c => Value.int (lo8 c)) ∧ ∀ c ∈ cs, ¬ 255 < c) ∨ (cd = 1 ∧ N2 = Int32.ofNat (2 * cs.length) ∧ vs = wideBytes cs ∧ ∃ c ∈ cs, 255 < c)
theorem CodA.cod {cs : List Int32} {cd N2 : Int32} {vs : List Value} {V : Cell} (h : CodA cs cd N2 vs) (hn : 2 * cs.length < 2 ^ 31) (hs : V.slots.size = N2.toNatClampNeg) (hv : RoadKit.Has V vs (.int 0)) : Cod cd cs.length (fun j => cs.getD j 0) V := by
  rcases h with ⟨rfl, rfl, rfl, h⟩ | ⟨rfl, rfl, rfl, c, hc, hw⟩
  · rw [n32 (by omega)] at hs
    exact Or.inl ⟨rfl, hs, fun j hj => ⟨by rw [hv j (by omega), low_at _ _ _ hj], by
      have e : cs.getD j 0 = cs[j] := by simp [List.getD_eq_getElem?_getD, hj]
      show ¬ 255 < cs.getD j 0
      rw [e]; exact h _ (List.getElem_mem _)⟩⟩
  · rw [n32 (by omega)] at hs
    obtain ⟨j, hj, rfl⟩ := List.getElem_of_mem hc
    exact Or.inr ⟨rfl, hs, fun j hj => ⟨by rw [hv _ (by omega), wide_lo _ _ _ hj], by rw [hv _ (by omega), wide_hi _ _ _ hj]⟩, j, hj, by
      have e : cs.getD j 0 = cs[j] := by simp [List.getD_eq_getElem?_getD, hj]
      show 255 < cs.getD j 0
      rw [e]; exact hw⟩
/-- an object of exactly java/lang/String, its two fields found: as the laws ask it -/
theorem strObj {Z U : State} {a0 : Array Value} {kI : Nat} (wi : (Jvm.Cond.instantiable ST kI).before a0 Z = true) (al : Z.vm.Alike U.vm) {x : Addr} {v0 c0 : Value} (E : RoadKit.Exa Z U.heap x ST) (V : RoadKit.Fld Z U.heap x ST "value" "[B" v0) (C : RoadKit.Fld Z U.heap x ST "coder" "B" c0) :
    ∃ (D : Cell) (fV fC : Field), Blank ST x D U ∧ Found ST "value" "[B" fV U ∧ Found ST "coder" "B" fC U ∧ D.slots[fV.slot]? = some v0 ∧ D.slots[fC.slot]? = some c0 ∧ RoadKit.slotOf Z ST "value" "[B" = fV.slot ∧ RoadKit.slotOf Z ST "coder" "B" = fC.slot := by
  obtain ⟨D, cfV, kV, iV, fV, hD, gV, stV, knV, obV, asV, slV⟩ := V
  obtain ⟨D', cfC, kC, iC, fC, hD', gC, stC, -, -, asC, slC⟩ := C
  cases hD.symm.trans hD'
  obtain ⟨D2, kD, e1, e2, e3, e4, e5⟩ := E
  cases hD.symm.trans e1
  obtain ⟨c2, k2, i1, i2, i3, -⟩ := Cond.instantiable_spec wi
  cases e2.symm.trans i1
  cases e3.symm.trans i2
  obtain ⟨kU, u1, u2⟩ := al.2.2 _ _ e3
  exact ⟨D, fV, fC, ⟨hD, ⟨knV, fun q hq => by rw [hq] at obV; cases obV⟩, by rw [al.findClass]; exact e2, kU, u1, by rw [u2]; exact i3, by rw [u2]; exact e5 i3⟩, ⟨SBG.found_only al ⟨cfV, kV, iV, gV⟩, stV⟩, ⟨SBG.found_only al ⟨cfC, kC, iC, gC⟩, stC⟩, slV, slC, by simp [RoadKit.slotOf, gV], by simp [RoadKit.slotOf, gC]⟩
theorem sta_is {Z U : State} (al : Z.vm.Alike U.vm) {C n d : String} {v : Value} (S : RoadKit.Sta Z U.heap C n d v) : StaticIs U C n d v := by
  obtain ⟨cfS, iS, kS, fS, st, cS, t1, t2, t3, t4, t5, t6, t7⟩ := S
  exact StaticIs.there (s := { Z with heap := U.heap }) ⟨cfS, iS, kS, fS, st, cS, t1, t2, t3, t4, t5, (fun q => by rw [q] at t6; cases t6), t7⟩ al rfl
end StrChars.Road
namespace StrChars
open Jvm Sem ClassFile Op Lib Jvm.Stand Jvm.Free.XT Jvm.Free.ALB Jvm.Free.JM Jvm.Free
open Jvm.Lib.Cold (StaticIs)
/-- what place i of a byte[]'s cell holds -/
def yv (A : Cell) (i : Nat) : Int32 := match A.slots[i]? with | some (.int x) => x | _ => 0
theorem yv_get {a : Addr} {A : Cell} {U : State} (h : XT.Arr .byte a A U) (ht : Typed .byte A) {i : Nat} (hi : i < A.slots.size) : A.slots[i]? = some (.int (yv A i)) := by
  have e := Array.getElem?_eq_getElem hi
  have f := ht i _ e
  unfold yv; rw [e]
  generalize A.slots[i] = v at f
  cases v <;> simp [fits] at f ⊢
/-- the two arrays are equal, place for place -/
def EqC (A B : Cell) : Prop := A.slots.size = B.slots.size ∧ ∀ i, i < A.slots.size → yv A i = yv B i
/-- a boolean that says whether p -/
def Says01 (q : Prop) (r : Option Value) (s u : State) : Prop := ∃ v : Int32, r = some (.int v) ∧ u.heap = s.heap ∧ ((v = 1 ∧ q) ∨ (v = 0 ∧ ¬ q))
theorem Says01.mv {q : Prop} : ∀ r (U U' V V' : State), U'.heap = U.heap → V.vm.Alike V'.vm → V'.heap = V.heap → Says01 q r U V → Says01 q r U' V' :=
  fun r U U' V V' h1 _ h2 ⟨v, a, b, c⟩ => ⟨v, a, by rw [h1, h2]; exact b, c⟩
namespace LEq
def yN : MethodName := ⟨"java/lang/StringLatin1", "equals", "([B[B)Z"⟩
abbrev yB : ByteArray := jdk_43_method_13_code
theorem d0 : decode yB 0 = .ok (.aload_n 0, 1) := by decide +kernel
theorem d1 : decode yB 1 = .ok (.arraylength, 1) := by decide +kernel
theorem d2 : decode yB 2 = .ok (.aload_n 1, 1) := by decide +kernel
theorem d3 : decode yB 3 = .ok (.arraylength, 1) := by decide +kernel
theorem d4 : decode yB 4 = .ok (.if_icmp (.ne) 30, 3) := by decide +kernel
theorem d7 : decode yB 7 = .ok (.iconst 0, 1) := by decide +kernel
theorem d8 : decode yB 8 = .ok (.istore_n 2, 1) := by decide +kernel
theorem d9 : decode yB 9 = .ok (.iload_n 2, 1) := by decide +kernel
theorem d10 : decode yB 10 = .ok (.aload_n 0, 1) := by decide +kernel
theorem d11 : decode yB 11 = .ok (.arraylength, 1) := by decide +kernel
theorem d12 : decode yB 12 = .ok (.if_icmp (.ge) 20, 3) := by decide +kernel
theorem d15 : decode yB 15 = .ok (.aload_n 0, 1) := by decide +kernel
theorem d16 : decode yB 16 = .ok (.iload_n 2, 1) := by decide +kernel
theorem d17 : decode yB 17 = .ok (.baload, 1) := by decide +kernel
theorem d18 : decode yB 18 = .ok (.aload_n 1, 1) := by decide +kernel
theorem d19 : decode yB 19 = .ok (.iload_n 2, 1) := by decide +kernel
theorem d20 : decode yB 20 = .ok (.baload, 1) := by decide +kernel
theorem d21 : decode yB 21 = .ok (.if_icmp (.eq) 5, 3) := by decide +kernel
theorem d24 : decode yB 24 = .ok (.iconst 0, 1) := by decide +kernel
theorem d25 : decode yB 25 = .ok (.ireturn, 1) := by decide +kernel
theorem d26 : decode yB 26 = .ok (.iinc 2 1, 3) := by decide +kernel
theorem d29 : decode yB 29 = .ok (.goto (-20), 3) := by decide +kernel
theorem d32 : decode yB 32 = .ok (.iconst 1, 1) := by decide +kernel
theorem d33 : decode yB 33 = .ok (.ireturn, 1) := by decide +kernel
theorem d34 : decode yB 34 = .ok (.iconst 0, 1) := by decide +kernel
theorem d35 : decode yB 35 = .ok (.ireturn, 1) := by decide +kernel
def site : List Cond := []
def tab : Cond := tabOf yN yB 3 (some .boolean) site
def P (a : Addr) (A : Cell) (b : Addr) (B : Cell) (args : Array Value) (s : State) : Prop := args = #[.ref a, .ref b] ∧ XT.Arr .byte a A s ∧ Typed .byte A ∧ XT.Arr .byte b B s ∧ Typed .byte B
/-- whether two byte[] are equal, place for place -/
theorem law (l : Launch) (a : Addr) (A : Cell) (b : Addr) (B : Cell) : Law l yN 2 2 0 0 yB 3 (some .boolean) site (P a A b B) (Says01 (EqC A B)) [] 0 0 := by
  refine Law.of_walk (plainFor_of_name (by decide +kernel)) (by decide +kernel) (by decide +kernel) (by decide) (fun _ _ h => by rw [h.1]; rfl) (fun _ U U' hal hh h => ⟨h.1, h.2.1.mv hal hh, h.2.2.1, h.2.2.2.1.mv hal hh, h.2.2.2.2⟩) (fun r U U' V V' h1 hal h2 h => Says01.mv r U U' V V' h1 hal h2 h) ?_
  intro p e s m args below meth c s₁ X0 hexec hbytes hml hret hlk hnm hown hh0 W hP
  obtain ⟨rfl, hA, tA, hB, tB⟩ := hP
  have a31 := hA.2.2.2
  have b31 := hB.2.2.2
  have hA0 := hA.mv X0.warmed.alike hh0
  have hB0 := hB.mv X0.warmed.alike hh0
  have c1 : Steps p.tables e below (s₁.setTop (entryFrame m #[.ref a, .ref b] 3)) (s₁.setTop (mkF m 0 #[.val (.ref a), .val (.ref b), .unset] [])) := entry rfl
  have c2 : Steps p.tables e below (s₁.setTop (entryFrame m #[.ref a, .ref b] 3)) (s₁.setTop (mkF m 4 #[.val (.ref a), .val (.ref b), .unset] [.int (Int32.ofNat B.slots.size), .int (Int32.ofNat A.slots.size)])) := c1.trans (by
    refine XS.aloadN X0.here hexec rfl (hb hbytes d0) rfl rfl ?_
    refine X0.alen hexec hA0 rfl rfl (hb hbytes d1) ?_
    refine XS.aloadN X0.here hexec rfl (hb hbytes d2) rfl rfl ?_
    refine X0.alen hexec hB0 rfl rfl (hb hbytes d3) ?_
    exact Steps.refl _)
  by_cases hs : A.slots.size = B.slots.size
  · have c3 : Steps p.tables e below (s₁.setTop (entryFrame m #[.ref a, .ref b] 3)) (s₁.setTop (mkF m 9 #[.val (.ref a), .val (.ref b), .val (.int 0)] [])) := c2.trans (by
      refine XS.icmpNo X0.here hexec rfl (hb hbytes d4) rfl (ii_ne_f (by rw [hs])) ?_
      refine iconstV X0.here hexec rfl 0 (hb hbytes d7) (by decide) ?_
      refine XS.istoreN X0.here hexec rfl (hb hbytes d8) rfl rfl ?_
      exact Steps.refl _)
    have loop : ∀ (r i : Nat), i + r = A.slots.size → (∀ j, j < i → yv A j = yv B j) → Steps p.tables e below (s₁.setTop (entryFrame m #[.ref a, .ref b] 3)) (s₁.setTop (mkF m 9 #[.val (.ref a), .val (.ref b), .val (.int (Int32.ofNat i))] [])) → ∃ (pc : Nat) (Ls : Array Slot) (v : Int32), (pc = 25 ∨ pc = 33) ∧ ((v = 1 ∧ EqC A B) ∨ (v = 0 ∧ ¬ EqC A B)) ∧ Steps p.tables e below (s₁.setTop (entryFrame m #[.ref a, .ref b] 3)) (s₁.setTop (mkF m pc Ls [.int v])) := by
      intro r
      induction r with
      | zero =>
        intro i hi he cl
        exact ⟨33, _, 1, Or.inr rfl, Or.inl ⟨rfl, hs, fun j hj => he j (by omega)⟩, cl.trans (by
          refine XS.iloadN X0.here hexec rfl (hb hbytes d9) rfl ?_
          refine XS.aloadN X0.here hexec rfl (hb hbytes d10) rfl rfl ?_
          refine X0.alen hexec hA0 rfl rfl (hb hbytes d11) ?_
          refine XS.icmpYes X0.here hexec rfl (pc0 := 12) rfl (hb hbytes d12) rfl (ii_ge_t (nlt32 (by omega) (by omega))) (by decide) rfl ?_
          refine iconstV X0.here hexec rfl 1 (hb hbytes d32) (by decide) ?_
          exact Steps.refl _)⟩
      | succ r ih =>
        intro i hi he cl
        have c4 : Steps p.tables e below (s₁.setTop (entryFrame m #[.ref a, .ref b] 3)) (s₁.setTop (mkF m 21 #[.val (.ref a), .val (.ref b), .val (.int (Int32.ofNat i))] [.int (yv B i), .int (yv A i)])) := cl.trans (by
          refine XS.iloadN X0.here hexec rfl (hb hbytes d9) rfl ?_
          refine XS.aloadN X0.here hexec rfl (hb hbytes d10) rfl rfl ?_
          refine X0.alen hexec hA0 rfl rfl (hb hbytes d11) ?_
          refine XS.icmpNo X0.here hexec rfl (hb hbytes d12) rfl (ii_ge_f (lt32 (by omega) (by omega))) ?_
          refine XS.aloadN X0.here hexec rfl (hb hbytes d15) rfl rfl ?_
          refine XS.iloadN X0.here hexec rfl (hb hbytes d16) rfl ?_
          refine X0.aget hexec hA0 rfl (yv_get hA tA (i := i) (by omega)) rfl rfl (hb hbytes d17) ?_
          refine XS.aloadN X0.here hexec rfl (hb hbytes d18) rfl rfl ?_
          refine XS.iloadN X0.here hexec rfl (hb hbytes d19) rfl ?_
          refine X0.aget hexec hB0 rfl (yv_get hB tB (i := i) (by omega)) rfl rfl (hb hbytes d20) ?_
          exact Steps.refl _)
        by_cases hv : yv A i = yv B i
        · have c5 : Steps p.tables e below (s₁.setTop (entryFrame m #[.ref a, .ref b] 3)) (s₁.setTop (mkF m 9 #[.val (.ref a), .val (.ref b), .val (.int (Int32.ofNat i + 1))] [])) := c4.trans (by
            refine XS.icmpYes X0.here hexec rfl (pc0 := 21) rfl (hb hbytes d21) rfl (ii_eq_t hv) (by decide) rfl ?_
            refine iincV X0.here hexec rfl 1 (hb hbytes d26) (by decide) rfl rfl ?_
            refine XS.goto X0.here hexec rfl (pc0 := 29) rfl (hb hbytes d29) (by decide) rfl ?_
            exact Steps.refl _)
          rw [succ32] at c5
          exact ih (i + 1) (by omega) (fun j hj => by
            by_cases e : j = i
            · rw [e]; exact hv
            · exact he j (by omega)) c5
        · exact ⟨25, _, 0, Or.inl rfl, Or.inr ⟨rfl, fun q => hv (q.2 i (by omega))⟩, c4.trans (by
            refine XS.icmpNo X0.here hexec rfl (hb hbytes d21) rfl (ii_eq_f hv) ?_
            refine iconstV X0.here hexec rfl 0 (hb hbytes d24) (by decide) ?_
            exact Steps.refl _)⟩
    obtain ⟨pc, Ls, v, hpc, hv, cz⟩ := loop A.slots.size 0 (by omega) (fun j hj => absurd hj (Nat.not_lt_zero j)) c3
    have nv : narrow .boolean (.int v) = .int v := by rcases hv with ⟨rfl, -⟩ | ⟨rfl, -⟩ <;> rfl
    rcases hpc with rfl | rfl
    · exact ⟨s₁, some (.int v), _, _, _, X0, rfl, rfl, rfl, (fun h => by cases h), ⟨v, rfl, hh0, hv⟩, fun fs hl => cz.trans (X0.ireturnOut hexec hret nv (Or.inr (Or.inl rfl)) (hb hbytes d25) hl)⟩
    · exact ⟨s₁, some (.int v), _, _, _, X0, rfl, rfl, rfl, (fun h => by cases h), ⟨v, rfl, hh0, hv⟩, fun fs hl => cz.trans (X0.ireturnOut hexec hret nv (Or.inr (Or.inl rfl)) (hb hbytes d33) hl)⟩
  · have c3 : Steps p.tables e below (s₁.setTop (entryFrame m #[.ref a, .ref b] 3)) (s₁.setTop (mkF m 35 #[.val (.ref a), .val (.ref b), .unset] [.int 0])) := c2.trans (by
      refine XS.icmpYes X0.here hexec rfl (pc0 := 4) rfl (hb hbytes d4) rfl (ii_ne_t (ne32 a31 b31 hs)) (by decide) rfl ?_
      refine iconstV X0.here hexec rfl 0 (hb hbytes d34) (by decide) ?_
      exact Steps.refl _)
    exact ⟨s₁, some (.int 0), _, _, _, X0, rfl, rfl, rfl, (fun h => by cases h), ⟨0, rfl, hh0, Or.inr ⟨rfl, fun q => hs q.1⟩⟩, fun fs hl => c3.trans (X0.ireturnOut hexec hret rfl (Or.inr (Or.inl rfl)) (hb hbytes d35) hl)⟩
end LEq
theorem Cod.ty {cd : Int32} {n : Nat} {f : Nat → Int32} {V : Cell} (h : Cod cd n f V) : Typed .byte V := fun i v hv => by
  have hi : i < V.slots.size := (Array.getElem?_eq_some_iff.mp hv).1
  rcases h with ⟨-, k1, k2⟩ | ⟨-, k1, k2, -⟩
  · rw [(k2 i (by omega)).1] at hv; cases hv; exact fits_lo8 _
  · rcases Nat.mod_two_eq_zero_or_one i with e | e
    · obtain ⟨j, rfl⟩ : ∃ j, i = 2 * j := ⟨i / 2, by omega⟩
      rw [(k2 j (by omega)).1] at hv; cases hv; exact fits_lo8 _
    · obtain ⟨j, rfl⟩ : ∃ j, i = 2 * j + 1 := ⟨i / 2, by omega⟩
      rw [(k2 j (by omega)).2] at hv; cases hv; exact fits_lo8 _
/-- the same text -/
def SameT (n : Nat) (f : Nat → Int32) (k : Nat) (g : Nat → Int32) : Prop := n = k ∧ ∀ j, j < n → f j = g j
theorem lo8_inj {x y : Int32} (h0 : ¬ x < 0) (h1 : ¬ 255 < x) (k0 : ¬ y < 0) (k1 : ¬ 255 < y) (h : lo8 x = lo8 y) : x = y := by
  rw [← lo8_mask h0 h1, ← lo8_mask k0 k1, h]
/-- arrays coded by one coder are equal just where the texts are -/
theorem Cod.eqv {cd : Int32} {n k : Nat} {f g : Nat → Int32} {V V' : Cell} (h : Cod cd n f V) (h' : Cod cd k g V') (hf : ∀ j, j < n → ¬ f j < 0 ∧ ¬ 65535 < f j) (hg : ∀ j, j < k → ¬ g j < 0 ∧ ¬ 65535 < g j) : EqC V V' ↔ SameT n f k g := by
  have yvv : ∀ {W : Cell} {i : Nat} {x : Int32}, W.slots[i]? = some (.int x) → yv W i = x := fun q => by unfold yv; rw [q]
  rcases h with ⟨rfl, k1, k2⟩ | ⟨rfl, k1, k2, -⟩
  · rcases h' with ⟨-, m1, m2⟩ | ⟨e, -⟩
    · constructor
      · rintro ⟨e1, e2⟩
        refine ⟨by omega, fun j hj => ?_⟩
        have q := e2 j (by omega)
        rw [yvv (k2 j hj).1, yvv (m2 j (by omega)).1] at q
        exact lo8_inj (hf j hj).1 (k2 j hj).2 (hg j (by omega)).1 (m2 j (by omega)).2 q
      · rintro ⟨rfl, e2⟩
        refine ⟨by omega, fun j hj => ?_⟩
        rw [yvv (k2 j (by omega)).1, yvv (m2 j (by omega)).1, e2 j (by omega)]
    · exact absurd e (by decide)
  · rcases h' with ⟨e, -⟩ | ⟨-, m1, m2, -⟩
    · exact absurd e (by decide)
    · constructor
      · rintro ⟨e1, e2⟩
        refine ⟨by omega, fun j hj => ?_⟩
        have q1 := e2 (2 * j) (by omega)
        have q2 := e2 (2 * j + 1) (by omega)
        rw [yvv (k2 j hj).1, yvv (m2 j (by omega)).1] at q1
        rw [yvv (k2 j hj).2, yvv (m2 j (by omega)).2] at q2
        rw [← pair_says (hf j hj).1 (hf j hj).2, ← pair_says (hg j (by omega)).1 (hg j (by omega)).2, q1, q2]
      · rintro ⟨rfl, e2⟩
        refine ⟨by omega, fun i hi => ?_⟩
        rcases Nat.mod_two_eq_zero_or_one i with e | e
        · obtain ⟨j, rfl⟩ : ∃ j, i = 2 * j := ⟨i / 2, by omega⟩
          rw [yvv (k2 j (by omega)).1, yvv (m2 j (by omega)).1, e2 j (by omega)]
        · obtain ⟨j, rfl⟩ : ∃ j, i = 2 * j + 1 := ⟨i / 2, by omega⟩
          rw [yvv (k2 j (by omega)).2, yvv (m2 j (by omega)).2, e2 j (by omega)]
/-- two codings differ: so do the texts -/
theorem Cod.dif {cd cd' : Int32} {n k : Nat} {f g : Nat → Int32} {V V' : Cell} (h : Cod cd n f V) (h' : Cod cd' k g V') (hne : ¬ cd = cd') : ¬ SameT n f k g := by
  rintro ⟨rfl, e⟩
  rcases h with ⟨rfl, -, k2⟩ | ⟨rfl, -, -, j, hj, hw⟩
  · rcases h' with ⟨rfl, -⟩ | ⟨-, -, -, j, hj, hw⟩
    · exact hne rfl
    · exact (k2 j hj).2 (by rw [e j hj]; exact hw)
  · rcases h' with ⟨-, -, m2⟩ | ⟨rfl, -⟩
    · exact (m2 j hj).2 (by rw [← e j hj]; exact hw)
    · exact hne rfl
/-- an object of exactly C is an instance of C -/
theorem cinst {p : Program} {l : Launch} {e : Env} {R : Room} {s : State} {m : MethodId} {args : Array Value} {below : List Frame} {meth : Method} {c : Code} {T : State} {locs : List Loc} {cells slots : Nat} (X : Stand p l e R s m args below meth c T locs cells slots) (hexec : p.tables.exec = Jvm.exec) {own C : String} {index : Nat} (hown : s.vm.findClass own = some m.cls) (hlink : (Cond.classLink own index C).before args s = true) {a : Addr} (hE : Exact C a T)
    {g : JFrame} (hg : g.method = m) {rest : List Value} (hstack : g.stack = .ref a :: rest) (hdg : decode c.code g.pc = .ok (.instanceof index, 3)) :
    ∃ T', Stand p l e R s m args below meth c T' locs cells slots ∧ T'.heap = T.heap ∧ ∀ target, Steps p.tables e below (T'.setTop { g with pc := g.pc + 3, stack := .int 1 :: rest }) target → Steps p.tables e below (T.setTop g) target := by
  obtain ⟨cB, h1, D, h2, h3, h4⟩ := hE
  have h1' : s.vm.findClass C = some cB := by rw [← X.warmed.alike.findClass]; exact h1
  obtain ⟨vm', X', st⟩ := X.instanceofYes hexec hown hlink h2 h4 h1' (by rw [h3]; exact Jvm.Free.SB.assignable_self _ _) hg hstack hdg
  exact ⟨_, X', rfl, st⟩
theorem cself {p : Program} {l : Launch} {e : Env} {R : Room} {s : State} {m : MethodId} {args : Array Value} {below : List Frame} {meth : Method} {c : Code} {T : State} {locs : List Loc} {cells slots : Nat} (X : Stand p l e R s m args below meth c T locs cells slots) (hexec : p.tables.exec = Jvm.exec) {own C : String} {index : Nat} (hown : s.vm.findClass own = some m.cls) (hlink : (Cond.classLink own index C).before args s = true) {a : Addr} (hE : Exact C a T)
    {g : JFrame} (hg : g.method = m) {rest : List Value} (hstack : g.stack = .ref a :: rest) (hdg : decode c.code g.pc = .ok (.checkcast index, 3)) :
    ∃ T', Stand p l e R s m args below meth c T' locs cells slots ∧ T'.heap = T.heap ∧ ∀ target, Steps p.tables e below (T'.setTop { g with pc := g.pc + 3, stack := .ref a :: rest }) target → Steps p.tables e below (T.setTop g) target := by
  obtain ⟨cB, h1, D, h2, h3, h4⟩ := hE
  have h1' : s.vm.findClass C = some cB := by rw [← X.warmed.alike.findClass]; exact h1
  obtain ⟨vm', X', st⟩ := X.checkcastYes hexec hown hlink h2 h4 h1' (by rw [h3]; exact Jvm.Free.SB.assignable_self _ _) hg hstack hdg
  exact ⟨_, X', rfl, fun t h => st t (by rw [← hstack] at h; exact h)⟩
namespace SEq
def yN : MethodName := ⟨"java/lang/String", "equals", "(Ljava/lang/Object;)Z"⟩
abbrev yB : ByteArray := jdk_42_method_66_code
theorem d0 : decode yB 0 = .ok (.aload_n 0, 1) := by decide +kernel
theorem d1 : decode yB 1 = .ok (.aload_n 1, 1) := by decide +kernel
theorem d2 : decode yB 2 = .ok (.if_acmp (.ne) 5, 3) := by decide +kernel
theorem d5 : decode yB 5 = .ok (.iconst 1, 1) := by decide +kernel
theorem d6 : decode yB 6 = .ok (.ireturn, 1) := by decide +kernel
theorem d7 : decode yB 7 = .ok (.aload_n 1, 1) := by decide +kernel
theorem d8 : decode yB 8 = .ok (.instanceof 10, 3) := by decide +kernel
theorem d11 : decode yB 11 = .ok (.ifCond (.eq) 43, 3) := by decide +kernel
theorem d14 : decode yB 14 = .ok (.aload_n 1, 1) := by decide +kernel
theorem d15 : decode yB 15 = .ok (.checkcast 10, 3) := by decide +kernel
theorem d18 : decode yB 18 = .ok (.astore_n 2, 1) := by decide +kernel
theorem d19 : decode yB 19 = .ok (.getstatic 38, 3) := by decide +kernel
theorem d22 : decode yB 22 = .ok (.ifCond (.eq) 14, 3) := by decide +kernel
theorem d25 : decode yB 25 = .ok (.aload_n 0, 1) := by decide +kernel
theorem d26 : decode yB 26 = .ok (.getfield 15, 3) := by decide +kernel
theorem d29 : decode yB 29 = .ok (.aload_n 2, 1) := by decide +kernel
theorem d30 : decode yB 30 = .ok (.getfield 15, 3) := by decide +kernel
theorem d33 : decode yB 33 = .ok (.if_icmp (.ne) 21, 3) := by decide +kernel
theorem d36 : decode yB 36 = .ok (.aload_n 0, 1) := by decide +kernel
theorem d37 : decode yB 37 = .ok (.getfield 9, 3) := by decide +kernel
theorem d40 : decode yB 40 = .ok (.aload_n 2, 1) := by decide +kernel
theorem d41 : decode yB 41 = .ok (.getfield 9, 3) := by decide +kernel
theorem d44 : decode yB 44 = .ok (.invokestatic 541, 3) := by decide +kernel
theorem d47 : decode yB 47 = .ok (.ifCond (.eq) 7, 3) := by decide +kernel
theorem d50 : decode yB 50 = .ok (.iconst 1, 1) := by decide +kernel
theorem d51 : decode yB 51 = .ok (.goto 4, 3) := by decide +kernel
theorem d54 : decode yB 54 = .ok (.iconst 0, 1) := by decide +kernel
theorem d55 : decode yB 55 = .ok (.ireturn, 1) := by decide +kernel
def site : List Cond := [.classLink "java/lang/String" 10 "java/lang/String", .fieldLink "java/lang/String" 38 "java/lang/String" "COMPACT_STRINGS" "Z", .fieldLink "java/lang/String" 15 "java/lang/String" "coder" "B", .fieldLink "java/lang/String" 9 "java/lang/String" "value" "[B", LEq.tab] ++ staticW "java/lang/String" 541 LEq.yN
def tab : Cond := tabOf yN yB 3 (some .boolean) site
def P (x t : Addr) (V : Cell) (cd : Int32) (n : Nat) (f : Nat → Int32) (y t' : Addr) (V' : Cell) (cd' : Int32) (k : Nat) (g : Nat → Int32) (z : Int32) (args : Array Value) (s : State) : Prop := args = #[.ref x, .ref y] ∧ Txt x t V cd n f s ∧ Txt y t' V' cd' k g s ∧ StaticIs s "java/lang/String" "COMPACT_STRINGS" "Z" (.int z) ∧ ¬ z = 0
/-- equals(Object) of two Strings: whether the texts are the same -/
theorem law (l : Launch) (x t : Addr) (V : Cell) (cd : Int32) (n : Nat) (f : Nat → Int32) (y t' : Addr) (V' : Cell) (cd' : Int32) (k : Nat) (g : Nat → Int32) (z : Int32) : Law l yN 2 1 1 14 yB 3 (some .boolean) site (P x t V cd n f y t' V' cd' k g z) (Says01 (SameT n f k g)) [] 0 0 := by
  refine Law.of_walk (plainFor_of_name (by decide +kernel)) (by decide +kernel) (by decide +kernel) (by decide) (fun _ _ h => by rw [h.1]; rfl) (fun _ U U' hal hh h => ⟨h.1, h.2.1.mv hal hh, h.2.2.1.mv hal hh, h.2.2.2.1.there hal hh, h.2.2.2.2⟩) (fun r U U' V V' h1 hal h2 h => Says01.mv r U U' V V' h1 hal h2 h) ?_
  intro p e s m args below meth c s₁ X0 hexec hbytes hml hret hlk hnm hown hh0 W hP
  obtain ⟨rfl, hx, hy, s1, hz⟩ := hP
  have c1 : Steps p.tables e below (s₁.setTop (entryFrame m #[.ref x, .ref y] 3)) (s₁.setTop (mkF m 2 #[.val (.ref x), .val (.ref y), .unset] [.ref y, .ref x])) := Steps.trans (entry rfl) (by
    show Steps p.tables e below (s₁.setTop (mkF m 0 #[.val (.ref x), .val (.ref y), .unset] [])) _
    refine XS.aloadN X0.here hexec rfl (hb hbytes d0) rfl rfl ?_
    refine XS.aloadN X0.here hexec rfl (hb hbytes d1) rfl rfl ?_
    exact Steps.refl _)
  by_cases hxy : x = y
  · have c2 : Steps p.tables e below (s₁.setTop (entryFrame m #[.ref x, .ref y] 3)) (s₁.setTop (mkF m 6 #[.val (.ref x), .val (.ref y), .unset] [.int 1])) := c1.trans (by
      refine acmpNo X0.here hexec rfl (hb hbytes d2) rfl rfl rfl (by simp [acmp, hxy]) ?_
      refine iconstV X0.here hexec rfl 1 (hb hbytes d5) (by decide) ?_
      exact Steps.refl _)
    subst hxy
    have ec : cd = cd' := by
      obtain ⟨D, fd, a1, a2, a3⟩ := hx.2.2.1
      obtain ⟨D', fd', b1, b2, b3⟩ := hy.2.2.1
      cases a1.symm.trans b1
      obtain ⟨q1, q2, q3, q4⟩ := a2.1
      obtain ⟨r1, r2, r3, r4⟩ := b2.1
      cases q4.symm.trans r4
      cases a3.symm.trans b3; rfl
    have et : t = t' := by
      obtain ⟨D, fd, a1, a2, a3⟩ := hx.2.1
      obtain ⟨D', fd', b1, b2, b3⟩ := hy.2.1
      cases a1.symm.trans b1
      obtain ⟨q1, q2, q3, q4⟩ := a2.1
      obtain ⟨r1, r2, r3, r4⟩ := b2.1
      cases q4.symm.trans r4
      cases a3.symm.trans b3; rfl
    subst ec et
    have ev : V = V' := by cases hx.2.2.2.1.1.symm.trans hy.2.2.2.1.1; rfl
    subst ev
    have hs : SameT n f k g := (Cod.eqv hx.2.2.2.2.1 hy.2.2.2.2.1 hx.2.2.2.2.2 hy.2.2.2.2.2).mp ⟨rfl, fun _ _ => rfl⟩
    exact ⟨s₁, some (.int 1), _, _, _, X0, rfl, rfl, rfl, (fun h => by cases h), ⟨1, rfl, hh0, Or.inl ⟨rfl, hs⟩⟩, fun fs hl => c2.trans (X0.ireturnOut hexec hret rfl (Or.inr (Or.inl rfl)) (hb hbytes d6) hl)⟩
  · have c2 : Steps p.tables e below (s₁.setTop (entryFrame m #[.ref x, .ref y] 3)) (s₁.setTop (mkF m 8 #[.val (.ref x), .val (.ref y), .unset] [.ref y])) := c1.trans (by
      refine acmpYes X0.here hexec rfl (pc0 := 2) rfl (hb hbytes d2) rfl rfl rfl (by simp [acmp, hxy]) (by decide) rfl ?_
      refine XS.aloadN X0.here hexec rfl (hb hbytes d7) rfl rfl ?_
      exact Steps.refl _)
    obtain ⟨T3, X3, q3, st3⟩ := cinst X0 hexec hown (wk W (.classLink "java/lang/String" 10 "java/lang/String")) (hy.mv X0.warmed.alike hh0).1 (g := (mkF m 8 #[.val (.ref x), .val (.ref y), .unset] [.ref y])) rfl (rest := []) rfl (hb hbytes d8)
    have hh3 := q3.trans hh0
    have c4 : Steps p.tables e below (s₁.setTop (entryFrame m #[.ref x, .ref y] 3)) (T3.setTop (mkF m 15 #[.val (.ref x), .val (.ref y), .unset] [.ref y])) := (c2.trans (st3 _ (Steps.refl _))).trans (by
      refine XS.ifNo X3.here hexec rfl (hb hbytes d11) rfl (i0_eq_f (by decide)) ?_
      refine XS.aloadN X3.here hexec rfl (hb hbytes d14) rfl rfl ?_
      exact Steps.refl _)
    obtain ⟨T5, X5, q5, st5⟩ := cself X3 hexec hown (wk W (.classLink "java/lang/String" 10 "java/lang/String")) (hy.mv X3.warmed.alike hh3).1 (g := (mkF m 15 #[.val (.ref x), .val (.ref y), .unset] [.ref y])) rfl (rest := []) rfl (hb hbytes d15)
    have hh5 := q5.trans hh3
    have c6 : Steps p.tables e below (s₁.setTop (entryFrame m #[.ref x, .ref y] 3)) (T5.setTop (mkF m 19 #[.val (.ref x), .val (.ref y), .val (.ref y)] [])) := (c4.trans (st5 _ (Steps.refl _))).trans (by
      refine XS.astoreN X5.here hexec rfl (hb hbytes d18) rfl rfl rfl ?_
      exact Steps.refl _)
    obtain ⟨T7, X7, q7, st7⟩ := X5.sget hexec hown (wk W (.fieldLink "java/lang/String" 38 "java/lang/String" "COMPACT_STRINGS" "Z")) s1 (fun _ _ h => by rw [hh5]; exact h) (g := (mkF m 19 #[.val (.ref x), .val (.ref y), .val (.ref y)] [])) rfl (hb hbytes d19)
    have hh7 := q7.trans hh5
    have c8 : Steps p.tables e below (s₁.setTop (entryFrame m #[.ref x, .ref y] 3)) (T7.setTop (mkF m 26 #[.val (.ref x), .val (.ref y), .val (.ref y)] [.ref x])) := (c6.trans (st7 _ (Steps.refl _))).trans (by
      refine XS.ifNo X7.here hexec rfl (hb hbytes d22) rfl (i0_eq_f hz) ?_
      refine XS.aloadN X7.here hexec rfl (hb hbytes d25) rfl rfl ?_
      exact Steps.refl _)
    obtain ⟨T9, X9, q9, st9⟩ := X7.hget hexec hown (wk W (.fieldLink "java/lang/String" 15 "java/lang/String" "coder" "B")) (hx.mv X7.warmed.alike hh7).2.2.1 (g := (mkF m 26 #[.val (.ref x), .val (.ref y), .val (.ref y)] [.ref x])) rfl (rest := []) rfl (hb hbytes d26)
    have hh9 := q9.trans hh7
    have c10 : Steps p.tables e below (s₁.setTop (entryFrame m #[.ref x, .ref y] 3)) (T9.setTop (mkF m 30 #[.val (.ref x), .val (.ref y), .val (.ref y)] [.ref y, .int cd])) := (c8.trans (st9 _ (Steps.refl _))).trans (by
      refine XS.aloadN X9.here hexec rfl (hb hbytes d29) rfl rfl ?_
      exact Steps.refl _)
    obtain ⟨T11, X11, q11, st11⟩ := X9.hget hexec hown (wk W (.fieldLink "java/lang/String" 15 "java/lang/String" "coder" "B")) (hy.mv X9.warmed.alike hh9).2.2.1 (g := (mkF m 30 #[.val (.ref x), .val (.ref y), .val (.ref y)] [.ref y, .int cd])) rfl (rest := [.int cd]) rfl (hb hbytes d30)
    have hh11 := q11.trans hh9
    have c12 : Steps p.tables e below (s₁.setTop (entryFrame m #[.ref x, .ref y] 3)) (T11.setTop (mkF m 33 #[.val (.ref x), .val (.ref y), .val (.ref y)] [.int cd', .int cd])) := c10.trans (st11 _ (Steps.refl _))
    by_cases hcd : cd = cd'
    · subst hcd
      have c13 : Steps p.tables e below (s₁.setTop (entryFrame m #[.ref x, .ref y] 3)) (T11.setTop (mkF m 37 #[.val (.ref x), .val (.ref y), .val (.ref y)] [.ref x])) := c12.trans (by
        refine XS.icmpNo X11.here hexec rfl (hb hbytes d33) rfl (ii_ne_f rfl) ?_
        refine XS.aloadN X11.here hexec rfl (hb hbytes d36) rfl rfl ?_
        exact Steps.refl _)
      obtain ⟨T14, X14, q14, st14⟩ := X11.hget hexec hown (wk W (.fieldLink "java/lang/String" 9 "java/lang/String" "value" "[B")) (hx.mv X11.warmed.alike hh11).2.1 (g := (mkF m 37 #[.val (.ref x), .val (.ref y), .val (.ref y)] [.ref x])) rfl (rest := []) rfl (hb hbytes d37)
      have hh14 := q14.trans hh11
      have c15 : Steps p.tables e below (s₁.setTop (entryFrame m #[.ref x, .ref y] 3)) (T14.setTop (mkF m 41 #[.val (.ref x), .val (.ref y), .val (.ref y)] [.ref y, .ref t])) := (c13.trans (st14 _ (Steps.refl _))).trans (by
        refine XS.aloadN X14.here hexec rfl (hb hbytes d40) rfl rfl ?_
        exact Steps.refl _)
      obtain ⟨T16, X16, q16, st16⟩ := X14.hget hexec hown (wk W (.fieldLink "java/lang/String" 9 "java/lang/String" "value" "[B")) (hy.mv X14.warmed.alike hh14).2.1 (g := (mkF m 41 #[.val (.ref x), .val (.ref y), .val (.ref y)] [.ref y, .ref t])) rfl (rest := [.ref t]) rfl (hb hbytes d41)
      have hh16 := q16.trans hh14
      have c17 : Steps p.tables e below (s₁.setTop (entryFrame m #[.ref x, .ref y] 3)) (T16.setTop (mkF m 44 #[.val (.ref x), .val (.ref y), .val (.ref y)] [.ref t', .ref t])) := c15.trans (st16 _ (Steps.refl _))
      obtain ⟨v18, T18, X18, E18, g18⟩ := X16.callS hexec (LEq.law l t V t' V') hown (wks W (staticW "java/lang/String" 541 LEq.yN)) (wk W LEq.tab) (W := 0) (Nat.le_of_ble_eq_true rfl) (Nat.le_of_ble_eq_true rfl) (Nat.le_refl _) (Nat.le_refl _) (g := (mkF m 44 #[.val (.ref x), .val (.ref y), .val (.ref y)] [.ref t', .ref t])) rfl (by rw [hml]; rfl) c17 (argsL := [.ref t, .ref t']) (rest := []) rfl rfl (by show 2 * 0 + 0 ≤ _; decide) (hb hbytes d44) (⟨rfl, hx.2.2.2.1.mv X16.warmed.alike hh16, hx.2.2.2.2.1.ty, hy.2.2.2.1.mv X16.warmed.alike hh16, hy.2.2.2.2.1.ty⟩)
      obtain ⟨v, rfl, q18, hv⟩ := E18
      have iff := Cod.eqv hx.2.2.2.2.1 hy.2.2.2.2.1 hx.2.2.2.2.2 hy.2.2.2.2.2
      rcases hv with ⟨rfl, he⟩ | ⟨rfl, he⟩
      · have c19 : Steps p.tables e below (s₁.setTop (entryFrame m #[.ref x, .ref y] 3)) (T18.setTop (mkF m 55 #[.val (.ref x), .val (.ref y), .val (.ref y)] [.int 1])) := Steps.trans g18 (by
          refine XS.ifNo X18.here hexec rfl (hb hbytes d47) rfl (i0_eq_f (by decide)) ?_
          refine iconstV X18.here hexec rfl 1 (hb hbytes d50) (by decide) ?_
          refine XS.goto X18.here hexec rfl (pc0 := 51) rfl (hb hbytes d51) (by decide) rfl ?_
          exact Steps.refl _)
        exact ⟨T18, some (.int 1), _, _, _, X18, rfl, rfl, rfl, (fun h => by cases h), ⟨1, rfl, q18.trans hh16, Or.inl ⟨rfl, iff.mp he⟩⟩, fun fs hl => c19.trans (X18.ireturnOut hexec hret rfl (Or.inr (Or.inl rfl)) (hb hbytes d55) hl)⟩
      · have c19 : Steps p.tables e below (s₁.setTop (entryFrame m #[.ref x, .ref y] 3)) (T18.setTop (mkF m 55 #[.val (.ref x), .val (.ref y), .val (.ref y)] [.int 0])) := Steps.trans g18 (by
          refine XS.ifYes X18.here hexec rfl (pc0 := 47) rfl (hb hbytes d47) rfl (i0_eq_t rfl) (by decide) rfl ?_
          refine iconstV X18.here hexec rfl 0 (hb hbytes d54) (by decide) ?_
          exact Steps.refl _)
        exact ⟨T18, some (.int 0), _, _, _, X18, rfl, rfl, rfl, (fun h => by cases h), ⟨0, rfl, q18.trans hh16, Or.inr ⟨rfl, fun q => he (iff.mpr q)⟩⟩, fun fs hl => c19.trans (X18.ireturnOut hexec hret rfl (Or.inr (Or.inl rfl)) (hb hbytes d55) hl)⟩
    · have c13 : Steps p.tables e below (s₁.setTop (entryFrame m #[.ref x, .ref y] 3)) (T11.setTop (mkF m 55 #[.val (.ref x), .val (.ref y), .val (.ref y)] [.int 0])) := c12.trans (by
        refine XS.icmpYes X11.here hexec rfl (pc0 := 33) rfl (hb hbytes d33) rfl (ii_ne_t hcd) (by decide) rfl ?_
        refine iconstV X11.here hexec rfl 0 (hb hbytes d54) (by decide) ?_
        exact Steps.refl _)
      exact ⟨T11, some (.int 0), _, _, _, X11, rfl, rfl, rfl, (fun h => by cases h), ⟨0, rfl, hh11, Or.inr ⟨rfl, Cod.dif hx.2.2.2.2.1 hy.2.2.2.2.1 hcd⟩⟩, fun fs hl => c13.trans (X11.ireturnOut hexec hret rfl (Or.inr (Or.inl rfl)) (hb hbytes d55) hl)⟩
theorem pays {l : Launch} {R : Room} {p : Program} {e : Env} {below : List Frame} {s : State} {sargs : Array Value} {len W : Nat} (x t : Addr) (V : Cell) (cd : Int32) (n : Nat) (f : Nat → Int32) (y t' : Addr) (V' : Cell) (cd' : Int32) (k : Nat) (g : Nat → Int32) (z : Int32) (htab : tab.before sargs s = true) (hfr : 2 ≤ R.frames) (hlo : W + 28 ≤ R.locals) :
    Back l R p e below s sargs yN len W (fun A₁ a₁ => A₁.cells + 0 ≤ R.cells ∧ A₁.slots + 0 ≤ R.slots ∧ P x t V cd n f y t' V' cd' k g z a₁ A₁.U) (fun A₁ _ v₁ B₁ => Says01 (SameT n f k g) v₁ A₁.U B₁.U ∧ B₁.locs = A₁.locs ++ [] ∧ B₁.cells = A₁.cells + 0 ∧ B₁.slots = A₁.slots + 0) :=
  (law l x t V cd n f y t' V' cd' k g z).pays htab hfr (by omega)
end SEq
end StrChars
namespace StrChars.Road
open Jvm Sem ClassFile Op Lib Jvm.Stand Jvm.Free Jvm.Free.XT
open Jvm.Lib.Cold (StaticIs)
/-- the words of String.equals(Object) -/
abbrev wordsEq : List Jvm.Cond := [.code SEq.yN SEq.yB 3 (some .boolean), .initialized ST, .classLink ST 10 ST, .fieldLink ST 38 ST "COMPACT_STRINGS" "Z", .fieldLink ST 15 ST "coder" "B", .fieldLink ST 9 ST "value" "[B", .methodLink ST 541 LEq.yN, .static LEq.yN, .code LEq.yN LEq.yB 3 (some .boolean), .initialized "java/lang/StringLatin1"]
theorem tabEq_of {a : Array Value} {s : State} (h : ∀ w ∈ wordsEq, w.before a s = true) : SEq.tab.before a s = true := by
  have hl : LEq.tab.before a s = true := unparts (wk h (.code LEq.yN LEq.yB 3 (some .boolean))) (wks h (.initialized LEq.yN.cls :: LEq.site))
  have q := consq hl h
  exact unparts (wk q (.code SEq.yN SEq.yB 3 (some .boolean))) (wks q (.initialized SEq.yN.cls :: SEq.site))
theorem movedEq {Z s : State} {a0 args : Array Value} (hZ : Z.Warmed39 s.vm) (hw : ∀ d ∈ wordsEq, d.before a0 Z = true) : ∀ d ∈ wordsEq, d.before args s = true := fun d hd => by
  have t : ∀ d ∈ wordsEq, (d.onTables && d.keepsFace) = true := by decide +kernel
  exact RoadKit.mv hZ (hw d hd) (t d hd)
/-- the road's facts of a String, as the laws ask it -/
theorem txt_of {Z U : State} {a0 : Array Value} {kI : Nat} (wi : (Jvm.Cond.instantiable ST kI).before a0 Z = true) (al : Z.vm.Alike U.vm) {x t : Addr} {kb : ClassId} {cs : List Int32} {cd N2 : Int32} {vs : List Value} (E : RoadKit.Exa Z U.heap x ST) (V : RoadKit.Fld Z U.heap x ST "value" "[B" (.ref t)) (C : RoadKit.Fld Z U.heap x ST "coder" "B" (.int cd)) (K : RoadKit.Arv Z U.heap t kb .byte N2 vs (.int 0)) (hc : CodA cs cd N2 vs) (hb : ∀ c ∈ cs, ¬ c < 0 ∧ ¬ (65535 : Int32) < c) (l2 : cs.length ≤ 4000) :
    ∃ A, Txt x t A cd cs.length (fun j => cs.getD j 0) U := by
  obtain ⟨A, K1, K2, K3, K4, K5, K6⟩ := K
  have hcod := hc.cod (by omega) K3 K5
  obtain ⟨D, fV, fC, hB, F1, F2, g1, g2, -, -⟩ := strObj wi al E V C
  exact ⟨A, ⟨_, hB.2.2.1, D, hB.1, rfl, by cases q : D.vm <;> first | rfl | exact absurd q (hB.2.1.2 _)⟩, Has.of hB F1 g1, Has.of hB F2 g2, ⟨K1.1, State.isArrayOf_alike al K1.2.1, K1.2.2, by rcases hcod with ⟨-, q, -⟩ | ⟨-, q, -⟩ <;> omega⟩, hcod, fun j hj => by
    have e : cs.getD j 0 = cs[j] := by simp [List.getD_eq_getElem?_getD, hj]
    show ¬ cs.getD j 0 < 0 ∧ ¬ 65535 < cs.getD j 0
    rw [e]; exact hb _ (List.getElem_mem _)⟩
theorem same_list (cs ds : List Int32) : SameT cs.length (fun j => cs.getD j 0) ds.length (fun j => ds.getD j 0) ↔ cs = ds := by
  constructor
  · rintro ⟨e, q⟩
    refine List.ext_getElem e fun j h1 h2 => ?_
    have := q j h1
    simpa [List.getD_eq_getElem?_getD, h1, h2] using this
  · rintro rfl
    exact ⟨rfl, fun _ _ => rfl⟩
/-- **equals(Object) OF TWO SUCH STRINGS**: 1 just where the chars are the same -/
theorem eqW {p : Program} {l : Launch} {e : Env} {R : Room} {s : State} {args : Array Value} {below : List Frame} {len W : Nat} {Z : State} {a0 : Array Value} {h : Heap} (hZ : Z.Warmed39 s.vm) (hw : ∀ d ∈ wordsEq, d.before a0 Z = true) {kI : Nat} (wi : (Jvm.Cond.instantiable ST kI).before a0 Z = true)
    {x t : Addr} {kb : ClassId} {cs : List Int32} {cd N2 : Int32} {vs : List Value} (E : RoadKit.Exa Z h x ST) (V : RoadKit.Fld Z h x ST "value" "[B" (.ref t)) (C : RoadKit.Fld Z h x ST "coder" "B" (.int cd)) (K : RoadKit.Arv Z h t kb .byte N2 vs (.int 0)) (hc : CodA cs cd N2 vs) (hb : ∀ c ∈ cs, ¬ c < 0 ∧ ¬ (65535 : Int32) < c) (l2 : cs.length ≤ 4000)
    {y t' : Addr} {kb' : ClassId} {ds : List Int32} {cd' N2' : Int32} {vs' : List Value} (E' : RoadKit.Exa Z h y ST) (V' : RoadKit.Fld Z h y ST "value" "[B" (.ref t')) (C' : RoadKit.Fld Z h y ST "coder" "B" (.int cd')) (K' : RoadKit.Arv Z h t' kb' .byte N2' vs' (.int 0)) (hc' : CodA ds cd' N2' vs') (hb' : ∀ c ∈ ds, ¬ c < 0 ∧ ¬ (65535 : Int32) < c) (l2' : ds.length ≤ 4000)
    {z : Int32} (S : RoadKit.Sta Z h ST "COMPACT_STRINGS" "Z" (.int z)) (hz : ¬ z = 0) (hfr : 2 ≤ R.frames) (hlo : W + 28 ≤ R.locals) :
    Back l R p e below s args (⟨"java/lang/String", "equals", "(Ljava/lang/Object;)Z"⟩ : MethodName) len W (fun P a => a = #[.ref x, .ref y] ∧ P.U.heap = h ∧ P.cells + 0 ≤ R.cells ∧ P.slots + 0 ≤ R.slots)
      (fun P _ v B => ∃ L, (((v = some (.int 1) ∧ cs = ds) ∨ (v = some (.int 0) ∧ ¬ cs = ds)) ∧ L = [] ∧ B.U.heap = h) ∧ B.locs = P.locs ++ L ∧ B.cells = P.cells + 0 ∧ B.slots = P.slots + 0) := by
  intro m meth c P g ig mk a X hg hsize hdg hW hn hp'
  obtain ⟨rfl, rfl, r1, r2⟩ := hp'
  have al : Z.vm.Alike P.U.vm := hZ.alike.trans X.warmed.alike
  obtain ⟨A, hx⟩ := txt_of wi al E V C K hc hb l2
  obtain ⟨A', hy⟩ := txt_of wi al E' V' C' K' hc' hb' l2'
  obtain ⟨v, B, X', ⟨⟨w, hv, hh, hq⟩, hl, hk, hs⟩, st⟩ := SEq.pays x t A cd cs.length (fun j => cs.getD j 0) y t' A' cd' ds.length (fun j => ds.getD j 0) z (tabEq_of (movedEq hZ hw)) hfr hlo m meth c P g ig mk _ X hg hsize hdg hW hn ⟨r1, r2, rfl, hx, hy, sta_is al S, hz⟩
  refine ⟨v, B, X', ⟨[], ⟨?_, rfl, hh⟩, hl, hk, hs⟩, st⟩
  rcases hq with ⟨rfl, q⟩ | ⟨rfl, q⟩
  · exact Or.inl ⟨hv, (same_list cs ds).mp q⟩
  · exact Or.inr ⟨hv, fun e => q ((same_list cs ds).mpr e)⟩
end StrChars.Road
namespace StrChars.Road
open Jvm Sem ClassFile Op Lib Jvm.Stand Jvm.Free Jvm.Free.XT
open Jvm.Lib.Cold (StaticIs)
/-- what backV says of its String, as the contracts of this text ask it: cs's low bytes, coder 0 -/
theorem codOf {cs : List Int32} {n : Nat} (hn : cs.length = n) (hb : ∀ c ∈ cs, ¬ 255 < c) : CodA cs 0 (Int32.ofNat n) ((cs.map lo8).map Value.int) := Or.inl ⟨rfl, by rw [hn], by simp [List.map_map, Function.comp_def], hb⟩
end StrChars.Road
end Jvm.Pilot.@@N@@
namespace Jvm.Pilot.@@N@@
open Jvm Jvm.ClassFile Sem Op Lib Jvm.Free Jvm.Stand Jvm.LawKit Jvm.RoadKit Bundle Jvm.Pilot.@@N@@.Jvm.D
def own_Done (p : Program) (e : Env) (below : List Frame) (P : Outcome → State → Prop) (S : State) : Prop := ∃ s₂ o, Steps p.tables e below S s₂ ∧ s₂.status = .running ∧ Ended s₂ below o ∧ P o s₂
section Own
variable {p : Program} {e : Env} {below : List Frame} {P : Outcome → State → Prop} {S S' : State}
theorem own_open (d : own_Done p e below P S) : ∃ s₂ o, Steps p.tables e below S s₂ ∧ s₂.status = .running ∧ Ended s₂ below o ∧ P o s₂ := d
theorem own_via (k : ∀ t, Steps p.tables e below S' t → Steps p.tables e below S t) (d : own_Done p e below P S') : own_Done p e below P S := by
  obtain ⟨s₂, o, h1, h2⟩ := d
  exact ⟨s₂, o, k _ h1, h2⟩
theorem own_tr (k : Steps p.tables e below S S') (d : own_Done p e below P S') : own_Done p e below P S := own_via (fun _ h => k.trans h) d
theorem own_ret {l : Launch} {R : Room} {s : State} {m : MethodId} {args : Array Value} {meth : Method} {c : Code} {T : State} {locs : List Loc} {cells slots : Nat} {Q : Option Value → Heap → List Loc → Prop} {C N : Nat} (X : Stand p l e R s m args below meth c T locs cells slots) {v : Option Value} (hv : meth.sig.returnType = none → v = none) (hlocks : meth.locks = false) (hq : Q v T.heap locs) (hc : cells ≤ C) (hs : slots ≤ N)
    (k : ∀ fs, (∀ (f : JFrame) (acts : List Action), f.method = m → f.locked = none → f.entered = [] → (doReturn e (T.setTop f) acts v).1 = T.setFrames fs) → Steps p.tables e below S (T.setFrames fs)) :
    own_Done p e below (fun o U' => ∃ v L, o = .returned v ∧ Q v U'.heap L ∧ FrameEnd s o U' L C N) S := by
  obtain ⟨fs, hr, hrun, hended, hW, hsame⟩ := X.leave hv hlocks
  exact ⟨_, _, k fs hr, hrun, hended, v, locs, rfl, hq, ⟨_, rfl⟩, hW, hsame.mono hc hs⟩
theorem own_nface {args : Array Value} {s : State} {C : String} {y z : MethodName} (hsel : (Cond.selects C y y).before args s = true) (e : z.cls = y.cls) : NotFace s z := fun r0 h0 => by
  obtain ⟨c2, r2, m2, q1, q2, q3, q4, kP, hkP, hkPi⟩ := Cond.selects_spec hsel
  have e1 := findClass_of_methodNamed h0
  have e2 := findClass_of_methodNamed q3
  rw [e] at e1
  have e3 : r0.cls = m2.cls := Option.some.inj (e1.symm.trans e2)
  exact ⟨kP, by rw [e3]; exact hkP, hkPi⟩
theorem own_sameM {args : Array Value} {s : State} {y : MethodName} (h1 : (Cond.instanceMethod y).before args s = true) (hnf : NotFace s y) (hy : y.cls ≠ "java/lang/invoke/MethodHandle" ∧ y.cls ≠ "java/lang/invoke/VarHandle") : (Cond.sameMethod y.cls y.cls y.name y.desc).before args s = true := by
  obtain ⟨mk, meth, hn, hm, -, -⟩ := Cond.instanceMethod_spec h1
  have e1 := findClass_of_methodNamed hn
  have e2 := State.methodFound?_of_named hn hy
  obtain ⟨k, hk, hi⟩ := hnf _ hn
  have e3 : s.methodNamed? ⟨y.cls, y.name, y.desc⟩ = some mk := hn
  simp [Cond.before, Cond.holds, Cond.value, e1, e2, e3, hk, hi]
theorem own_declares {args : Array Value} {s : State} {y : MethodName} {bytes : ByteArray} {maxL : Nat} {ret : Option FieldType} (h1 : (Cond.instanceMethod y).before args s = true) (h2 : (Cond.code y bytes maxL ret).before args s = true) : (Cond.declares y).before args s = true := by
  obtain ⟨mk, meth, hn, hm, hst, -⟩ := Cond.instanceMethod_spec h1
  obtain ⟨meth', c, hm', -, -, -, -, -, -, hsig⟩ := Cond.code_spec hn h2
  cases hm.symm.trans hm'
  simp [Cond.before, Cond.holds, Cond.value, hn, hm, hst, hsig]
theorem own_ltA {a : Addr} {n : Nat} (h : n > a) : a < n := h
theorem own_shr0 (x : Int32) : x >>> ((0 : Int32) &&& 31) = x := by rw [show ((0 : Int32) &&& 31) = 0 from by decide]; simp
theorem own_shl0 (x : Int32) : x <<< ((0 : Int32) &&& 31) = x := by rw [show ((0 : Int32) &&& 31) = 0 from by decide]; simp
theorem own_sub0 (x : Int32) : x - (0 : Int32) = x := by simp
abbrev own_cp (vd vs : List Value) (dp sp nn : Int32) : List Value := vd.take dp.toNatClampNeg ++ ((List.range nn.toNatClampNeg).map fun i => vs.getD (sp.toNatClampNeg + i) (.int (0 : Int32))) ++ vd.drop (dp.toNatClampNeg + nn.toNatClampNeg)
theorem own_inst {Z : State} {h : Heap} {a : Addr} {C own K : String} {idx : Nat} {a0 : Array Value} {d : ClassId} (E : Exa Z h a C) (w : (Cond.classLink own idx K).before a0 Z = true) (hd : Z.vm.findClass own = some d) : Ins Z h a K true ∨ ∃ c t, Z.vm.findClass C = some c ∧ Z.vm.findClass K = some t ∧ Z.vm.assignable c t = false := by
  obtain ⟨cell, k, h1, h2, h3, h4, h5⟩ := E
  obtain ⟨cT, hT, -⟩ := Cond.classLink_spec hd w {} rfl
  cases hb : Z.vm.assignable cell.cls cT
  · exact Or.inr ⟨cell.cls, cT, h2, hT, hb⟩
  · exact Or.inl ⟨cell, cT, h1, hT, by simp [h4, hb]⟩
end Own
abbrev mt0 : MethodName := (⟨"java/lang/String", "<init>", "([CIILjava/lang/Void;)V"⟩ : MethodName)
theorem pn_java_lang_String : plainName "java/lang/String" = true := by first | (simp [plainName, overriddenIn]; done) | decide +kernel
theorem ef_own_new4e (m : MethodId) (x0 : Addr) (x1 : Addr) (x2 : Int32) (x3 : Int32) : entryFrame m #[(.ref x0), (.ref x1), (.int x2), (.int x3), .null] 6 = mkF m 0 #[.val (.ref x0), .val (.ref x1), .val (.int x2), .val (.int x3), .val .null, .unset] [] := by first | (simp [entryFrame, mkF, argsToLocals, Value.category]; done) | rfl
theorem d3_0 : decode jdk_42_method_149_code 0 = .ok (.aload_n 0, 1) := by decide +kernel
theorem d3_1 : decode jdk_42_method_149_code 1 = .ok (.invokespecial 1, 3) := by decide +kernel
theorem wd18 {Z : State} {a0 : Array Value} (hw : ∀ d ∈ tables_1, d.before a0 Z = true) : ((Jvm.Cond.methodLink "java/lang/String" (1 : Nat) ({ cls := "java/lang/Object", name := "<init>", desc := "()V" } : Jvm.MethodName)) : Jvm.Cond).before a0 Z = true := hw _ (List.mem_of_getElem? (i := 18) rfl)
theorem wd19 {Z : State} {a0 : Array Value} (hw : ∀ d ∈ tables_1, d.before a0 Z = true) : ((Jvm.Cond.instanceMethod ({ cls := "java/lang/Object", name := "<init>", desc := "()V" } : Jvm.MethodName)) : Jvm.Cond).before a0 Z = true := hw _ (List.mem_of_getElem? (i := 19) rfl)
theorem wd20 {Z : State} {a0 : Array Value} (hw : ∀ d ∈ tables_1, d.before a0 Z = true) : ((Jvm.Cond.code ({ cls := "java/lang/Object", name := "<init>", desc := "()V" } : Jvm.MethodName) object_method_1_code (1 : Nat) (Option.none : Option Jvm.ClassFile.FieldType)) : Jvm.Cond).before a0 Z = true := hw _ (List.mem_of_getElem? (i := 20) rfl)
theorem d3_4 : decode jdk_42_method_149_code 4 = .ok (.iload_n 3, 1) := by decide +kernel
theorem d3_5 : decode jdk_42_method_149_code 5 = .ok (.ifCond .ne 22, 3) := by decide +kernel
theorem d3_8 : decode jdk_42_method_149_code 8 = .ok (.aload_n 0, 1) := by decide +kernel
theorem d3_9 : decode jdk_42_method_149_code 9 = .ok (.ldc 7, 2) := by decide +kernel
theorem wd37 {Z : State} {a0 : Array Value} (hw : ∀ d ∈ tables_1, d.before a0 Z = true) : ((Jvm.Cond.stringLink "java/lang/String" (7 : Nat) "") : Jvm.Cond).before a0 Z = true := hw _ (List.mem_of_getElem? (i := 37) rfl)
theorem d3_11 : decode jdk_42_method_149_code 11 = .ok (.getfield 9, 3) := by decide +kernel
theorem wd35 {Z : State} {a0 : Array Value} (hw : ∀ d ∈ tables_1, d.before a0 Z = true) : ((Jvm.Cond.fieldLink "java/lang/String" (9 : Nat) "java/lang/String" "value" "[B") : Jvm.Cond).before a0 Z = true := hw _ (List.mem_of_getElem? (i := 35) rfl)
theorem d3_14 : decode jdk_42_method_149_code 14 = .ok (.putfield 9, 3) := by decide +kernel
theorem wd8 {Z : State} {a0 : Array Value} (hw : ∀ d ∈ tables_1, d.before a0 Z = true) : ((Jvm.Cond.instantiable "java/lang/String" (4 : Nat)) : Jvm.Cond).before a0 Z = true := hw _ (List.mem_of_getElem? (i := 8) rfl)
theorem wd36 {Z : State} {a0 : Array Value} (hw : ∀ d ∈ tables_1, d.before a0 Z = true) : ((Jvm.Cond.laysFinal "java/lang/String" "java/lang/String" "value" "[B") : Jvm.Cond).before a0 Z = true := hw _ (List.mem_of_getElem? (i := 36) rfl)
theorem d3_17 : decode jdk_42_method_149_code 17 = .ok (.aload_n 0, 1) := by decide +kernel
theorem d3_18 : decode jdk_42_method_149_code 18 = .ok (.ldc 7, 2) := by decide +kernel
theorem d3_20 : decode jdk_42_method_149_code 20 = .ok (.getfield 15, 3) := by decide +kernel
theorem wd33 {Z : State} {a0 : Array Value} (hw : ∀ d ∈ tables_1, d.before a0 Z = true) : ((Jvm.Cond.fieldLink "java/lang/String" (15 : Nat) "java/lang/String" "coder" "B") : Jvm.Cond).before a0 Z = true := hw _ (List.mem_of_getElem? (i := 33) rfl)
theorem d3_23 : decode jdk_42_method_149_code 23 = .ok (.putfield 15, 3) := by decide +kernel
theorem wd34 {Z : State} {a0 : Array Value} (hw : ∀ d ∈ tables_1, d.before a0 Z = true) : ((Jvm.Cond.laysFinal "java/lang/String" "java/lang/String" "coder" "B") : Jvm.Cond).before a0 Z = true := hw _ (List.mem_of_getElem? (i := 34) rfl)
theorem d3_26 : decode jdk_42_method_149_code 26 = .ok (.return_, 1) := by decide +kernel
abbrev mt1 : MethodName := (⟨"java/lang/String", "<init>", "([C)V"⟩ : MethodName)
theorem ef_own_new1e (m : MethodId) (x0 : Addr) (x1 : Addr) : entryFrame m #[(.ref x0), (.ref x1)] 2 = mkF m 0 #[.val (.ref x0), .val (.ref x1)] [] := by first | (simp [entryFrame, mkF, argsToLocals, Value.category]; done) | rfl
theorem d2_0 : decode jdk_42_method_3_code 0 = .ok (.aload_n 0, 1) := by decide +kernel
theorem d2_1 : decode jdk_42_method_3_code 1 = .ok (.aload_n 1, 1) := by decide +kernel
theorem d2_2 : decode jdk_42_method_3_code 2 = .ok (.iconst 0, 1) := by decide +kernel
theorem d2_3 : decode jdk_42_method_3_code 3 = .ok (.aload_n 1, 1) := by decide +kernel
theorem d2_4 : decode jdk_42_method_3_code 4 = .ok (.arraylength, 1) := by decide +kernel
theorem d2_5 : decode jdk_42_method_3_code 5 = .ok (.aconst_null, 1) := by decide +kernel
theorem d2_6 : decode jdk_42_method_3_code 6 = .ok (.invokespecial 27, 3) := by decide +kernel
theorem wd14 {Z : State} {a0 : Array Value} (hw : ∀ d ∈ tables_1, d.before a0 Z = true) : ((Jvm.Cond.methodLink "java/lang/String" (27 : Nat) ({ cls := "java/lang/String", name := "<init>", desc := "([CIILjava/lang/Void;)V" } : Jvm.MethodName)) : Jvm.Cond).before a0 Z = true := hw _ (List.mem_of_getElem? (i := 14) rfl)
theorem wd17 {Z : State} {a0 : Array Value} (hw : ∀ d ∈ tables_1, d.before a0 Z = true) : ((Jvm.Cond.code ({ cls := "java/lang/String", name := "<init>", desc := "([CIILjava/lang/Void;)V" } : Jvm.MethodName) jdk_42_method_149_code (6 : Nat) (Option.none : Option Jvm.ClassFile.FieldType)) : Jvm.Cond).before a0 Z = true := hw _ (List.mem_of_getElem? (i := 17) rfl)
theorem wd9 {Z : State} {a0 : Array Value} (hw : ∀ d ∈ tables_1, d.before a0 Z = true) : ((Jvm.Cond.initialized "java/lang/String") : Jvm.Cond).before a0 Z = true := hw _ (List.mem_of_getElem? (i := 9) rfl)
theorem pd___CIILjava_lang_Void__V_1938 : parseMethodDescriptor "([CIILjava/lang/Void;)V" = some ⟨[(.array .char), .int, .int, (.object "java/lang/Void")], none⟩ := by decide +kernel
theorem wd15 {Z : State} {a0 : Array Value} (hw : ∀ d ∈ tables_1, d.before a0 Z = true) : ((Jvm.Cond.instanceMethod ({ cls := "java/lang/String", name := "<init>", desc := "([CIILjava/lang/Void;)V" } : Jvm.MethodName)) : Jvm.Cond).before a0 Z = true := hw _ (List.mem_of_getElem? (i := 15) rfl)
theorem d2_9 : decode jdk_42_method_3_code 9 = .ok (.return_, 1) := by decide +kernel
abbrev mt2 : MethodName := (⟨"java/lang/Record", "<init>", "()V"⟩ : MethodName)
theorem pn_java_lang_Record : plainName "java/lang/Record" = true := by first | (simp [plainName, overriddenIn]; done) | decide +kernel
theorem ef_own_rec (m : MethodId) (x0 : Addr) : entryFrame m #[(.ref x0)] 1 = mkF m 0 #[.val (.ref x0)] [] := by first | (simp [entryFrame, mkF, argsToLocals, Value.category]; done) | rfl
theorem d9_0 : decode jdk_30_method_1_code 0 = .ok (.aload_n 0, 1) := by decide +kernel
theorem d9_1 : decode jdk_30_method_1_code 1 = .ok (.invokespecial 1, 3) := by decide +kernel
theorem wd51 {Z : State} {a0 : Array Value} (hw : ∀ d ∈ tables_1, d.before a0 Z = true) : ((Jvm.Cond.methodLink "java/lang/Record" (1 : Nat) ({ cls := "java/lang/Object", name := "<init>", desc := "()V" } : Jvm.MethodName)) : Jvm.Cond).before a0 Z = true := hw _ (List.mem_of_getElem? (i := 51) rfl)
theorem d9_4 : decode jdk_30_method_1_code 4 = .ok (.return_, 1) := by decide +kernel
abbrev mt3 : MethodName := (⟨"com/example/coruna/coruna/io/MarkupIsStartTagPinLaw", "mk", "(ICCC)Ljava/lang/String;"⟩ : MethodName)
theorem pn_com_example_coruna_coruna_io_MarkupIsStartTagPinLaw : plainName "com/example/coruna/coruna/io/MarkupIsStartTagPinLaw" = true := by first | (simp [plainName, overriddenIn]; done) | decide +kernel
theorem ef_own_mk (m : MethodId) (x0 : Int32) (x1 : Int32) (x2 : Int32) (x3 : Int32) : entryFrame m #[(.int x0), (.int x1), (.int x2), (.int x3)] 4 = mkF m 0 #[.val (.int x0), .val (.int x1), .val (.int x2), .val (.int x3)] [] := by first | (simp [entryFrame, mkF, argsToLocals, Value.category]; done) | rfl
theorem d1_0 : decode method_2_code 0 = .ok (.iload_n 0, 1) := by decide +kernel
theorem d1_1 : decode method_2_code 1 = .ok (.ifCond .ne 14, 3) := by decide +kernel
theorem d1_4 : decode method_2_code 4 = .ok (.new 7, 3) := by decide +kernel
theorem wd7 {Z : State} {a0 : Array Value} (hw : ∀ d ∈ tables_1, d.before a0 Z = true) : ((Jvm.Cond.classLink "com/example/coruna/coruna/io/MarkupIsStartTagPinLaw" (7 : Nat) "java/lang/String") : Jvm.Cond).before a0 Z = true := hw _ (List.mem_of_getElem? (i := 7) rfl)
theorem d1_7 : decode method_2_code 7 = .ok (.dup, 1) := by decide +kernel
theorem d1_8 : decode method_2_code 8 = .ok (.iconst 0, 1) := by decide +kernel
theorem d1_9 : decode method_2_code 9 = .ok (.newarray .char, 2) := by decide +kernel
theorem wd10 {Z : State} {a0 : Array Value} (hw : ∀ d ∈ tables_1, d.before a0 Z = true) : ((Jvm.Cond.arrayClass Jvm.ClassFile.FieldType.char) : Jvm.Cond).before a0 Z = true := hw _ (List.mem_of_getElem? (i := 10) rfl)
theorem d1_11 : decode method_2_code 11 = .ok (.invokespecial 9, 3) := by decide +kernel
theorem wd11 {Z : State} {a0 : Array Value} (hw : ∀ d ∈ tables_1, d.before a0 Z = true) : ((Jvm.Cond.methodLink "com/example/coruna/coruna/io/MarkupIsStartTagPinLaw" (9 : Nat) ({ cls := "java/lang/String", name := "<init>", desc := "([C)V" } : Jvm.MethodName)) : Jvm.Cond).before a0 Z = true := hw _ (List.mem_of_getElem? (i := 11) rfl)
theorem wd13 {Z : State} {a0 : Array Value} (hw : ∀ d ∈ tables_1, d.before a0 Z = true) : ((Jvm.Cond.code ({ cls := "java/lang/String", name := "<init>", desc := "([C)V" } : Jvm.MethodName) jdk_42_method_3_code (2 : Nat) (Option.none : Option Jvm.ClassFile.FieldType)) : Jvm.Cond).before a0 Z = true := hw _ (List.mem_of_getElem? (i := 13) rfl)
theorem pd___C_V_325 : parseMethodDescriptor "([C)V" = some ⟨[(.array .char)], none⟩ := by decide +kernel
theorem wd12 {Z : State} {a0 : Array Value} (hw : ∀ d ∈ tables_1, d.before a0 Z = true) : ((Jvm.Cond.instanceMethod ({ cls := "java/lang/String", name := "<init>", desc := "([C)V" } : Jvm.MethodName)) : Jvm.Cond).before a0 Z = true := hw _ (List.mem_of_getElem? (i := 12) rfl)
theorem d1_14 : decode method_2_code 14 = .ok (.areturn, 1) := by decide +kernel
theorem d1_15 : decode method_2_code 15 = .ok (.iload_n 0, 1) := by decide +kernel
theorem d1_16 : decode method_2_code 16 = .ok (.iconst 1, 1) := by decide +kernel
theorem d1_17 : decode method_2_code 17 = .ok (.if_icmp .ne 18, 3) := by decide +kernel
theorem d1_20 : decode method_2_code 20 = .ok (.new 7, 3) := by decide +kernel
theorem d1_23 : decode method_2_code 23 = .ok (.dup, 1) := by decide +kernel
theorem d1_24 : decode method_2_code 24 = .ok (.iconst 1, 1) := by decide +kernel
theorem d1_25 : decode method_2_code 25 = .ok (.newarray .char, 2) := by decide +kernel
theorem d1_27 : decode method_2_code 27 = .ok (.dup, 1) := by decide +kernel
theorem d1_28 : decode method_2_code 28 = .ok (.iconst 0, 1) := by decide +kernel
theorem d1_29 : decode method_2_code 29 = .ok (.iload_n 1, 1) := by decide +kernel
theorem d1_30 : decode method_2_code 30 = .ok (.castore, 1) := by decide +kernel
theorem d1_31 : decode method_2_code 31 = .ok (.invokespecial 9, 3) := by decide +kernel
theorem own_mw {Z : State} {a0 : Array Value} (hw : ∀ d ∈ tables_1, d.before a0 Z = true) : ∀ d ∈ StrChars.Road.words, d.before a0 Z = true := fun d hd => hw d ((by decide +kernel : ∀ d ∈ StrChars.Road.words, d ∈ tables_1) d hd)
theorem d1_34 : decode method_2_code 34 = .ok (.areturn, 1) := by decide +kernel
theorem d1_35 : decode method_2_code 35 = .ok (.iload_n 0, 1) := by decide +kernel
theorem d1_36 : decode method_2_code 36 = .ok (.iconst 2, 1) := by decide +kernel
theorem d1_37 : decode method_2_code 37 = .ok (.if_icmp .ne 22, 3) := by decide +kernel
theorem d1_40 : decode method_2_code 40 = .ok (.new 7, 3) := by decide +kernel
theorem d1_43 : decode method_2_code 43 = .ok (.dup, 1) := by decide +kernel
theorem d1_44 : decode method_2_code 44 = .ok (.iconst 2, 1) := by decide +kernel
theorem d1_45 : decode method_2_code 45 = .ok (.newarray .char, 2) := by decide +kernel
theorem d1_47 : decode method_2_code 47 = .ok (.dup, 1) := by decide +kernel
theorem d1_48 : decode method_2_code 48 = .ok (.iconst 0, 1) := by decide +kernel
theorem d1_49 : decode method_2_code 49 = .ok (.iload_n 1, 1) := by decide +kernel
theorem d1_50 : decode method_2_code 50 = .ok (.castore, 1) := by decide +kernel
theorem d1_51 : decode method_2_code 51 = .ok (.dup, 1) := by decide +kernel
theorem d1_52 : decode method_2_code 52 = .ok (.iconst 1, 1) := by decide +kernel
theorem d1_53 : decode method_2_code 53 = .ok (.iload_n 2, 1) := by decide +kernel
theorem d1_54 : decode method_2_code 54 = .ok (.castore, 1) := by decide +kernel
theorem d1_55 : decode method_2_code 55 = .ok (.invokespecial 9, 3) := by decide +kernel
theorem d1_58 : decode method_2_code 58 = .ok (.areturn, 1) := by decide +kernel
theorem d1_59 : decode method_2_code 59 = .ok (.new 7, 3) := by decide +kernel
theorem d1_62 : decode method_2_code 62 = .ok (.dup, 1) := by decide +kernel
theorem d1_63 : decode method_2_code 63 = .ok (.iconst 3, 1) := by decide +kernel
theorem d1_64 : decode method_2_code 64 = .ok (.newarray .char, 2) := by decide +kernel
theorem d1_66 : decode method_2_code 66 = .ok (.dup, 1) := by decide +kernel
theorem d1_67 : decode method_2_code 67 = .ok (.iconst 0, 1) := by decide +kernel
theorem d1_68 : decode method_2_code 68 = .ok (.iload_n 1, 1) := by decide +kernel
theorem d1_69 : decode method_2_code 69 = .ok (.castore, 1) := by decide +kernel
theorem d1_70 : decode method_2_code 70 = .ok (.dup, 1) := by decide +kernel
theorem d1_71 : decode method_2_code 71 = .ok (.iconst 1, 1) := by decide +kernel
theorem d1_72 : decode method_2_code 72 = .ok (.iload_n 2, 1) := by decide +kernel
theorem d1_73 : decode method_2_code 73 = .ok (.castore, 1) := by decide +kernel
theorem d1_74 : decode method_2_code 74 = .ok (.dup, 1) := by decide +kernel
theorem d1_75 : decode method_2_code 75 = .ok (.iconst 2, 1) := by decide +kernel
theorem d1_76 : decode method_2_code 76 = .ok (.iload_n 3, 1) := by decide +kernel
theorem d1_77 : decode method_2_code 77 = .ok (.castore, 1) := by decide +kernel
theorem d1_78 : decode method_2_code 78 = .ok (.invokespecial 9, 3) := by decide +kernel
theorem d1_81 : decode method_2_code 81 = .ok (.areturn, 1) := by decide +kernel
abbrev mt4 : MethodName := (⟨"com/example/coruna/coruna/io/Markup", "<init>", "(Lcom/example/coruna/coruna/io/Markup$Kind;Ljava/lang/String;J)V"⟩ : MethodName)
theorem pn_com_example_coruna_coruna_io_Markup : plainName "com/example/coruna/coruna/io/Markup" = true := by first | (simp [plainName, overriddenIn]; done) | decide +kernel
theorem ef_own_mkinit (m : MethodId) (x0 : Addr) (x1 : Addr) (x2 : Addr) (x3 : Int64) : entryFrame m #[(.ref x0), (.ref x1), (.ref x2), (.long x3)] 5 = mkF m 0 #[.val (.ref x0), .val (.ref x1), .val (.ref x2), .val (.long x3), .second] [] := by first | (simp [entryFrame, mkF, argsToLocals, Value.category]; done) | rfl
theorem d8_0 : decode prog_18_method_1_code 0 = .ok (.aload_n 0, 1) := by decide +kernel
theorem d8_1 : decode prog_18_method_1_code 1 = .ok (.invokespecial 1, 3) := by decide +kernel
theorem wd46 {Z : State} {a0 : Array Value} (hw : ∀ d ∈ tables_1, d.before a0 Z = true) : ((Jvm.Cond.methodLink "com/example/coruna/coruna/io/Markup" (1 : Nat) ({ cls := "java/lang/Record", name := "<init>", desc := "()V" } : Jvm.MethodName)) : Jvm.Cond).before a0 Z = true := hw _ (List.mem_of_getElem? (i := 46) rfl)
theorem wd50 {Z : State} {a0 : Array Value} (hw : ∀ d ∈ tables_1, d.before a0 Z = true) : ((Jvm.Cond.code ({ cls := "java/lang/Record", name := "<init>", desc := "()V" } : Jvm.MethodName) jdk_30_method_1_code (1 : Nat) (Option.none : Option Jvm.ClassFile.FieldType)) : Jvm.Cond).before a0 Z = true := hw _ (List.mem_of_getElem? (i := 50) rfl)
theorem wd49 {Z : State} {a0 : Array Value} (hw : ∀ d ∈ tables_1, d.before a0 Z = true) : ((Jvm.Cond.initialized "java/lang/Record") : Jvm.Cond).before a0 Z = true := hw _ (List.mem_of_getElem? (i := 49) rfl)
theorem pd___V_167 : parseMethodDescriptor "()V" = some ⟨[], none⟩ := by decide +kernel
theorem wd47 {Z : State} {a0 : Array Value} (hw : ∀ d ∈ tables_1, d.before a0 Z = true) : ((Jvm.Cond.instanceMethod ({ cls := "java/lang/Record", name := "<init>", desc := "()V" } : Jvm.MethodName)) : Jvm.Cond).before a0 Z = true := hw _ (List.mem_of_getElem? (i := 47) rfl)
theorem d8_4 : decode prog_18_method_1_code 4 = .ok (.aload_n 0, 1) := by decide +kernel
theorem d8_5 : decode prog_18_method_1_code 5 = .ok (.aload_n 1, 1) := by decide +kernel
theorem d8_6 : decode prog_18_method_1_code 6 = .ok (.putfield 7, 3) := by decide +kernel
theorem wd52 {Z : State} {a0 : Array Value} (hw : ∀ d ∈ tables_1, d.before a0 Z = true) : ((Jvm.Cond.fieldLink "com/example/coruna/coruna/io/Markup" (7 : Nat) "com/example/coruna/coruna/io/Markup" "kind" "Lcom/example/coruna/coruna/io/Markup$Kind;") : Jvm.Cond).before a0 Z = true := hw _ (List.mem_of_getElem? (i := 52) rfl)
theorem wd41 {Z : State} {a0 : Array Value} (hw : ∀ d ∈ tables_1, d.before a0 Z = true) : ((Jvm.Cond.instantiable "com/example/coruna/coruna/io/Markup" (3 : Nat)) : Jvm.Cond).before a0 Z = true := hw _ (List.mem_of_getElem? (i := 41) rfl)
theorem wd53 {Z : State} {a0 : Array Value} (hw : ∀ d ∈ tables_1, d.before a0 Z = true) : ((Jvm.Cond.laysFinal "com/example/coruna/coruna/io/Markup" "com/example/coruna/coruna/io/Markup" "kind" "Lcom/example/coruna/coruna/io/Markup$Kind;") : Jvm.Cond).before a0 Z = true := hw _ (List.mem_of_getElem? (i := 53) rfl)
theorem d8_9 : decode prog_18_method_1_code 9 = .ok (.aload_n 0, 1) := by decide +kernel
theorem d8_10 : decode prog_18_method_1_code 10 = .ok (.aload_n 2, 1) := by decide +kernel
theorem d8_11 : decode prog_18_method_1_code 11 = .ok (.putfield 13, 3) := by decide +kernel
theorem wd54 {Z : State} {a0 : Array Value} (hw : ∀ d ∈ tables_1, d.before a0 Z = true) : ((Jvm.Cond.fieldLink "com/example/coruna/coruna/io/Markup" (13 : Nat) "com/example/coruna/coruna/io/Markup" "value" "Ljava/lang/String;") : Jvm.Cond).before a0 Z = true := hw _ (List.mem_of_getElem? (i := 54) rfl)
theorem wd55 {Z : State} {a0 : Array Value} (hw : ∀ d ∈ tables_1, d.before a0 Z = true) : ((Jvm.Cond.laysFinal "com/example/coruna/coruna/io/Markup" "com/example/coruna/coruna/io/Markup" "value" "Ljava/lang/String;") : Jvm.Cond).before a0 Z = true := hw _ (List.mem_of_getElem? (i := 55) rfl)
theorem d8_14 : decode prog_18_method_1_code 14 = .ok (.aload_n 0, 1) := by decide +kernel
theorem d8_15 : decode prog_18_method_1_code 15 = .ok (.lload_n 3, 1) := by decide +kernel
theorem d8_16 : decode prog_18_method_1_code 16 = .ok (.putfield 17, 3) := by decide +kernel
theorem wd56 {Z : State} {a0 : Array Value} (hw : ∀ d ∈ tables_1, d.before a0 Z = true) : ((Jvm.Cond.fieldLink "com/example/coruna/coruna/io/Markup" (17 : Nat) "com/example/coruna/coruna/io/Markup" "line" "J") : Jvm.Cond).before a0 Z = true := hw _ (List.mem_of_getElem? (i := 56) rfl)
theorem wd57 {Z : State} {a0 : Array Value} (hw : ∀ d ∈ tables_1, d.before a0 Z = true) : ((Jvm.Cond.laysFinal "com/example/coruna/coruna/io/Markup" "com/example/coruna/coruna/io/Markup" "line" "J") : Jvm.Cond).before a0 Z = true := hw _ (List.mem_of_getElem? (i := 57) rfl)
theorem d8_19 : decode prog_18_method_1_code 19 = .ok (.return_, 1) := by decide +kernel
abbrev mt5 : MethodName := (⟨"com/example/coruna/coruna/io/Markup", "isStartTag", "(Ljava/lang/String;)Z"⟩ : MethodName)
theorem ef_own_isTag (m : MethodId) (x0 : Addr) (x1 : Addr) : entryFrame m #[(.ref x0), (.ref x1)] 2 = mkF m 0 #[.val (.ref x0), .val (.ref x1)] [] := by first | (simp [entryFrame, mkF, argsToLocals, Value.category]; done) | rfl
theorem d10_0 : decode prog_18_method_2_code 0 = .ok (.aload_n 0, 1) := by decide +kernel
theorem d10_1 : decode prog_18_method_2_code 1 = .ok (.getfield 7, 3) := by decide +kernel
theorem d10_4 : decode prog_18_method_2_code 4 = .ok (.getstatic 21, 3) := by decide +kernel
theorem wd63 {Z : State} {a0 : Array Value} (hw : ∀ d ∈ tables_1, d.before a0 Z = true) : ((Jvm.Cond.fieldLink "com/example/coruna/coruna/io/Markup" (21 : Nat) "com/example/coruna/coruna/io/Markup$Kind" "START_TAG" "Lcom/example/coruna/coruna/io/Markup$Kind;") : Jvm.Cond).before a0 Z = true := hw _ (List.mem_of_getElem? (i := 63) rfl)
theorem d10_7 : decode prog_18_method_2_code 7 = .ok (.if_acmp .ne 18, 3) := by decide +kernel
theorem d10_10 : decode prog_18_method_2_code 10 = .ok (.aload_n 0, 1) := by decide +kernel
theorem d10_11 : decode prog_18_method_2_code 11 = .ok (.getfield 13, 3) := by decide +kernel
theorem d10_14 : decode prog_18_method_2_code 14 = .ok (.aload_n 1, 1) := by decide +kernel
theorem d10_15 : decode prog_18_method_2_code 15 = .ok (.invokevirtual 26, 3) := by decide +kernel
theorem wd64 {Z : State} {a0 : Array Value} (hw : ∀ d ∈ tables_1, d.before a0 Z = true) : ((Jvm.Cond.methodLink "com/example/coruna/coruna/io/Markup" (26 : Nat) ({ cls := "java/lang/String", name := "equals", desc := "(Ljava/lang/Object;)Z" } : Jvm.MethodName)) : Jvm.Cond).before a0 Z = true := hw _ (List.mem_of_getElem? (i := 64) rfl)
theorem own_mwe {Z : State} {a0 : Array Value} (hw : ∀ d ∈ tables_1, d.before a0 Z = true) : ∀ d ∈ StrChars.Road.wordsEq, d.before a0 Z = true := fun d hd => hw d ((by decide +kernel : ∀ d ∈ StrChars.Road.wordsEq, d ∈ tables_1) d hd)
theorem wd68 {Z : State} {a0 : Array Value} (hw : ∀ d ∈ tables_1, d.before a0 Z = true) : ((Jvm.Cond.code ({ cls := "java/lang/String", name := "equals", desc := "(Ljava/lang/Object;)Z" } : Jvm.MethodName) jdk_42_method_66_code (3 : Nat) (Option.some Jvm.ClassFile.FieldType.boolean)) : Jvm.Cond).before a0 Z = true := hw _ (List.mem_of_getElem? (i := 68) rfl)
theorem pd__Ljava_lang_Object__Z_1835 : parseMethodDescriptor "(Ljava/lang/Object;)Z" = some ⟨[(.object "java/lang/Object")], some .boolean⟩ := by decide +kernel
theorem wd67 {Z : State} {a0 : Array Value} (hw : ∀ d ∈ tables_1, d.before a0 Z = true) : ((Jvm.Cond.selects "java/lang/String" ({ cls := "java/lang/String", name := "equals", desc := "(Ljava/lang/Object;)Z" } : Jvm.MethodName) ({ cls := "java/lang/String", name := "equals", desc := "(Ljava/lang/Object;)Z" } : Jvm.MethodName)) : Jvm.Cond).before a0 Z = true := hw _ (List.mem_of_getElem? (i := 67) rfl)
abbrev mt6 : MethodName := (⟨"java/lang/String", "equals", "(Ljava/lang/Object;)Z"⟩ : MethodName)
theorem wd65 {Z : State} {a0 : Array Value} (hw : ∀ d ∈ tables_1, d.before a0 Z = true) : ((Jvm.Cond.declares ({ cls := "java/lang/String", name := "equals", desc := "(Ljava/lang/Object;)Z" } : Jvm.MethodName)) : Jvm.Cond).before a0 Z = true := hw _ (List.mem_of_getElem? (i := 65) rfl)
theorem wd66 {Z : State} {a0 : Array Value} (hw : ∀ d ∈ tables_1, d.before a0 Z = true) : ((Jvm.Cond.instanceMethod ({ cls := "java/lang/String", name := "equals", desc := "(Ljava/lang/Object;)Z" } : Jvm.MethodName)) : Jvm.Cond).before a0 Z = true := hw _ (List.mem_of_getElem? (i := 66) rfl)
theorem d10_18 : decode prog_18_method_2_code 18 = .ok (.ifCond .eq 7, 3) := by decide +kernel
theorem d10_21 : decode prog_18_method_2_code 21 = .ok (.iconst 1, 1) := by decide +kernel
theorem d10_22 : decode prog_18_method_2_code 22 = .ok (.goto 4, 3) := by decide +kernel
theorem d10_26 : decode prog_18_method_2_code 26 = .ok (.ireturn, 1) := by decide +kernel
theorem d10_25 : decode prog_18_method_2_code 25 = .ok (.iconst 0, 1) := by decide +kernel
theorem ef_own_law (m : MethodId) (x0 : Int32) (x1 : Int32) (x2 : Int32) (x3 : Int32) (x4 : Int64) : entryFrame m #[(.int x0), (.int x1), (.int x2), (.int x3), (.long x4)] maxLocals = mkF m 0 #[.val (.int x0), .val (.int x1), .val (.int x2), .val (.int x3), .val (.long x4), .second, .unset, .unset, .unset, .unset, .unset, .unset, .unset, .unset, .unset, .unset, .unset, .unset, .unset, .unset, .unset, .unset] [] := by first | (simp [entryFrame, mkF, argsToLocals, Value.category, maxLocals]; done) | rfl
theorem wd76 {Z : State} {a0 : Array Value} (hw : ∀ d ∈ tables_1, d.before a0 Z = true) : ((Jvm.Cond.fieldLink "com/example/coruna/coruna/io/MarkupIsStartTagPinLaw" (12 : Nat) "com/example/coruna/coruna/io/Markup$Kind" "END_TAG" "Lcom/example/coruna/coruna/io/Markup$Kind;") : Jvm.Cond).before a0 Z = true := hw _ (List.mem_of_getElem? (i := 76) rfl)
theorem wd74 {Z : State} {a0 : Array Value} (hw : ∀ d ∈ tables_1, d.before a0 Z = true) : ((Jvm.Cond.fieldLink "com/example/coruna/coruna/io/MarkupIsStartTagPinLaw" (18 : Nat) "com/example/coruna/coruna/io/Markup$Kind" "TEXT" "Lcom/example/coruna/coruna/io/Markup$Kind;") : Jvm.Cond).before a0 Z = true := hw _ (List.mem_of_getElem? (i := 74) rfl)
theorem wd0 {Z : State} {a0 : Array Value} (hw : ∀ d ∈ tables_1, d.before a0 Z = true) : ((Jvm.Cond.fieldLink "com/example/coruna/coruna/io/MarkupIsStartTagPinLaw" (21 : Nat) "com/example/coruna/coruna/io/Markup$Kind" "START_TAG" "Lcom/example/coruna/coruna/io/Markup$Kind;") : Jvm.Cond).before a0 Z = true := hw _ (List.mem_of_getElem? (i := 0) rfl)
theorem wd3 {Z : State} {a0 : Array Value} (hw : ∀ d ∈ tables_1, d.before a0 Z = true) : ((Jvm.Cond.methodLink "com/example/coruna/coruna/io/MarkupIsStartTagPinLaw" (24 : Nat) ({ cls := "com/example/coruna/coruna/io/MarkupIsStartTagPinLaw", name := "mk", desc := "(ICCC)Ljava/lang/String;" } : Jvm.MethodName)) : Jvm.Cond).before a0 Z = true := hw _ (List.mem_of_getElem? (i := 3) rfl)
theorem wd6 {Z : State} {a0 : Array Value} (hw : ∀ d ∈ tables_1, d.before a0 Z = true) : ((Jvm.Cond.code ({ cls := "com/example/coruna/coruna/io/MarkupIsStartTagPinLaw", name := "mk", desc := "(ICCC)Ljava/lang/String;" } : Jvm.MethodName) method_2_code (4 : Nat) (Option.some (Jvm.ClassFile.FieldType.object "java/lang/String"))) : Jvm.Cond).before a0 Z = true := hw _ (List.mem_of_getElem? (i := 6) rfl)
theorem wd5 {Z : State} {a0 : Array Value} (hw : ∀ d ∈ tables_1, d.before a0 Z = true) : ((Jvm.Cond.initialized "com/example/coruna/coruna/io/MarkupIsStartTagPinLaw") : Jvm.Cond).before a0 Z = true := hw _ (List.mem_of_getElem? (i := 5) rfl)
theorem pd__ICCC_Ljava_lang_String__2051 : parseMethodDescriptor "(ICCC)Ljava/lang/String;" = some ⟨[.int, .char, .char, .char], some (.object "java/lang/String")⟩ := by decide +kernel
theorem wd4 {Z : State} {a0 : Array Value} (hw : ∀ d ∈ tables_1, d.before a0 Z = true) : ((Jvm.Cond.static ({ cls := "com/example/coruna/coruna/io/MarkupIsStartTagPinLaw", name := "mk", desc := "(ICCC)Ljava/lang/String;" } : Jvm.MethodName)) : Jvm.Cond).before a0 Z = true := hw _ (List.mem_of_getElem? (i := 4) rfl)
theorem wd40 {Z : State} {a0 : Array Value} (hw : ∀ d ∈ tables_1, d.before a0 Z = true) : ((Jvm.Cond.classLink "com/example/coruna/coruna/io/MarkupIsStartTagPinLaw" (30 : Nat) "com/example/coruna/coruna/io/Markup") : Jvm.Cond).before a0 Z = true := hw _ (List.mem_of_getElem? (i := 40) rfl)
theorem wd42 {Z : State} {a0 : Array Value} (hw : ∀ d ∈ tables_1, d.before a0 Z = true) : ((Jvm.Cond.initialized "com/example/coruna/coruna/io/Markup") : Jvm.Cond).before a0 Z = true := hw _ (List.mem_of_getElem? (i := 42) rfl)
theorem wd43 {Z : State} {a0 : Array Value} (hw : ∀ d ∈ tables_1, d.before a0 Z = true) : ((Jvm.Cond.methodLink "com/example/coruna/coruna/io/MarkupIsStartTagPinLaw" (32 : Nat) ({ cls := "com/example/coruna/coruna/io/Markup", name := "<init>", desc := "(Lcom/example/coruna/coruna/io/Markup$Kind;Ljava/lang/String;J)V" } : Jvm.MethodName)) : Jvm.Cond).before a0 Z = true := hw _ (List.mem_of_getElem? (i := 43) rfl)
theorem wd45 {Z : State} {a0 : Array Value} (hw : ∀ d ∈ tables_1, d.before a0 Z = true) : ((Jvm.Cond.code ({ cls := "com/example/coruna/coruna/io/Markup", name := "<init>", desc := "(Lcom/example/coruna/coruna/io/Markup$Kind;Ljava/lang/String;J)V" } : Jvm.MethodName) prog_18_method_1_code (5 : Nat) (Option.none : Option Jvm.ClassFile.FieldType)) : Jvm.Cond).before a0 Z = true := hw _ (List.mem_of_getElem? (i := 45) rfl)
theorem pd__Lcom_example_coruna_coruna_io_Markup_Kind_Ljava_lang_String_J_V_5936 : parseMethodDescriptor "(Lcom/example/coruna/coruna/io/Markup$Kind;Ljava/lang/String;J)V" = some ⟨[(.object "com/example/coruna/coruna/io/Markup$Kind"), (.object "java/lang/String"), .long], none⟩ := by decide +kernel
theorem wd44 {Z : State} {a0 : Array Value} (hw : ∀ d ∈ tables_1, d.before a0 Z = true) : ((Jvm.Cond.instanceMethod ({ cls := "com/example/coruna/coruna/io/Markup", name := "<init>", desc := "(Lcom/example/coruna/coruna/io/Markup$Kind;Ljava/lang/String;J)V" } : Jvm.MethodName)) : Jvm.Cond).before a0 Z = true := hw _ (List.mem_of_getElem? (i := 44) rfl)
theorem wd58 {Z : State} {a0 : Array Value} (hw : ∀ d ∈ tables_1, d.before a0 Z = true) : ((Jvm.Cond.methodLink "com/example/coruna/coruna/io/MarkupIsStartTagPinLaw" (35 : Nat) ({ cls := "com/example/coruna/coruna/io/Markup", name := "isStartTag", desc := "(Ljava/lang/String;)Z" } : Jvm.MethodName)) : Jvm.Cond).before a0 Z = true := hw _ (List.mem_of_getElem? (i := 58) rfl)
theorem wd62 {Z : State} {a0 : Array Value} (hw : ∀ d ∈ tables_1, d.before a0 Z = true) : ((Jvm.Cond.code ({ cls := "com/example/coruna/coruna/io/Markup", name := "isStartTag", desc := "(Ljava/lang/String;)Z" } : Jvm.MethodName) prog_18_method_2_code (2 : Nat) (Option.some Jvm.ClassFile.FieldType.boolean)) : Jvm.Cond).before a0 Z = true := hw _ (List.mem_of_getElem? (i := 62) rfl)
theorem pd__Ljava_lang_String__Z_1867 : parseMethodDescriptor "(Ljava/lang/String;)Z" = some ⟨[(.object "java/lang/String")], some .boolean⟩ := by decide +kernel
theorem wd61 {Z : State} {a0 : Array Value} (hw : ∀ d ∈ tables_1, d.before a0 Z = true) : ((Jvm.Cond.selects "com/example/coruna/coruna/io/Markup" ({ cls := "com/example/coruna/coruna/io/Markup", name := "isStartTag", desc := "(Ljava/lang/String;)Z" } : Jvm.MethodName) ({ cls := "com/example/coruna/coruna/io/Markup", name := "isStartTag", desc := "(Ljava/lang/String;)Z" } : Jvm.MethodName)) : Jvm.Cond).before a0 Z = true := hw _ (List.mem_of_getElem? (i := 61) rfl)
theorem wd59 {Z : State} {a0 : Array Value} (hw : ∀ d ∈ tables_1, d.before a0 Z = true) : ((Jvm.Cond.declares ({ cls := "com/example/coruna/coruna/io/Markup", name := "isStartTag", desc := "(Ljava/lang/String;)Z" } : Jvm.MethodName)) : Jvm.Cond).before a0 Z = true := hw _ (List.mem_of_getElem? (i := 59) rfl)
theorem wd60 {Z : State} {a0 : Array Value} (hw : ∀ d ∈ tables_1, d.before a0 Z = true) : ((Jvm.Cond.instanceMethod ({ cls := "com/example/coruna/coruna/io/Markup", name := "isStartTag", desc := "(Ljava/lang/String;)Z" } : Jvm.MethodName)) : Jvm.Cond).before a0 Z = true := hw _ (List.mem_of_getElem? (i := 60) rfl)
theorem wd1 {Z : State} {a0 : Array Value} (hw : ∀ d ∈ tables_1, d.before a0 Z = true) : ((Jvm.Cond.initialized "com/example/coruna/coruna/io/Markup$Kind") : Jvm.Cond).before a0 Z = true := hw _ (List.mem_of_getElem? (i := 1) rfl)
theorem wd2 {Z : State} {a0 : Array Value} (hw : ∀ d ∈ tables_1, d.before a0 Z = true) : ((Jvm.Cond.laysStatic "com/example/coruna/coruna/io/Markup$Kind" "START_TAG" "Lcom/example/coruna/coruna/io/Markup$Kind;") : Jvm.Cond).before a0 Z = true := hw _ (List.mem_of_getElem? (i := 2) rfl)
theorem wd75 {Z : State} {a0 : Array Value} (hw : ∀ d ∈ tables_1, d.before a0 Z = true) : ((Jvm.Cond.laysStatic "com/example/coruna/coruna/io/Markup$Kind" "TEXT" "Lcom/example/coruna/coruna/io/Markup$Kind;") : Jvm.Cond).before a0 Z = true := hw _ (List.mem_of_getElem? (i := 75) rfl)
theorem wd77 {Z : State} {a0 : Array Value} (hw : ∀ d ∈ tables_1, d.before a0 Z = true) : ((Jvm.Cond.laysStatic "com/example/coruna/coruna/io/Markup$Kind" "END_TAG" "Lcom/example/coruna/coruna/io/Markup$Kind;") : Jvm.Cond).before a0 Z = true := hw _ (List.mem_of_getElem? (i := 77) rfl)
theorem wd26 {Z : State} {a0 : Array Value} (hw : ∀ d ∈ tables_1, d.before a0 Z = true) : ((Jvm.Cond.arrayClass Jvm.ClassFile.FieldType.byte) : Jvm.Cond).before a0 Z = true := hw _ (List.mem_of_getElem? (i := 26) rfl)
abbrev own_EL : List (String × Nat) := [("java/lang/String", 7)]
theorem own_EW {Z : State} {a0 : Array Value} (hw : ∀ d ∈ tables_1, d.before a0 Z = true) : EW Z a0 own_EL := (EW.cons (wd37 hw) (by decide) EW.nil)
theorem own_wS {Z : State} {a0 : Array Value} (hw : ∀ d ∈ tables_1, d.before a0 Z = true) : ∀ a ∈ Bundle.stringAtoms, a.before a0 Z = true := fun d hd => hw d ((by decide +kernel : ∀ d ∈ Bundle.stringAtoms, d ∈ tables_1) d hd)
theorem own_safeNull {Z : State} {EL : List (String × Nat)} {vm : Vm} {h : Heap} {a : Addr} (hal : Z.vm.Alike vm) (E : Exa Z h a "java/lang/String") (F : Fld Z h a "java/lang/String" "value" "[B" .null) : Safe Z EL vm h a := fun B => by
  obtain ⟨p, -, u, a', -, q, -, G, rfl | rfl⟩ := B
  · obtain ⟨cell, cf, k, i, f, h1, h2, -, -, -, -, h7⟩ := F
    cases (show h[q.sa]? = some q.sC from G.ha).symm.trans h1
    obtain ⟨cS, ⟨⟨-, -, -, ⟨c1, k1, i1, g1, -⟩, -, -, -, g2, -⟩, -⟩, -⟩ := G
    obtain ⟨k', g3⟩ := ff_back (U := Wst Z vm h) hal g1
    cases g3.symm.trans h2
    rw [g2] at h7
    cases h7
  · obtain ⟨cell, k, e1, e2, -⟩ := E
    cases (show h[q.sd]? = some q.SA from G.hd).symm.trans e1
    obtain ⟨cS, -, -, f, -⟩ := G
    have f' : Z.vm.findClass "[B" = some q.SA.cls := by rw [← hal.findClass]; exact f
    exact ids_ne e2 f' (by decide) rfl
section OwnW
variable {p : Program} {l : Launch} {e : Env} {R : Room} {s : State} {m : MethodId} {args : Array Value} {below : List Frame} {meth : Method} {c : Code} {T : State} {locs : List Loc} {cells slots : Nat} {Z : State} {a0 : Array Value} {h : Heap} {vm0 : Vm} {EL : List (String × Nat)}
theorem own_retW {S : State} {Q : Option Value → Vm → Heap → List Loc → Prop} {C N k0 : Nat} (X : Stand p l e R (s.setVm vm0) m args below meth c T locs cells slots) (hS : s.Since vm0 k0) (hk : k0 ≤ T.heap.size) {v : Option Value} (hv : meth.sig.returnType = none → v = none) (hlocks : meth.locks = false) (hq : Q v T.vm T.heap locs) (hR : CHr Z EL s.vm s.heap T.vm T.heap) (hc : cells ≤ C) (hs : slots ≤ N)
    (k : ∀ fs, (∀ (f : JFrame) (acts : List Action), f.method = m → f.locked = none → f.entered = [] → (doReturn e (T.setTop f) acts v).1 = T.setFrames fs) → Steps p.tables e below S (T.setFrames fs)) :
    own_Done p e below (fun o U' => ∃ v L, o = .returned v ∧ Q v U'.vm U'.heap L ∧ CHr Z EL s.vm s.heap U'.vm U'.heap ∧ ReturnedEndW s o U' L C N) S := by
  obtain ⟨fs, hr, hrun, hended, h1, h2, h3, h4⟩ := X.leaveW hS hk hv hlocks
  exact ⟨_, _, k fs hr, hrun, hended, v, locs, rfl, hq, hR, h1, h2, h3, h4.mono hc hs⟩
theorem own_backW {y : MethodName} {bytes : ByteArray} {maxL : Nat} {ret : Option FieldType} {rm : Room} {len W : Nat} {as' : Array Value} {SL : List Addr} {Q : Option Value → Vm → Heap → List Loc → Prop}
    (hM : MetFree l y (head1 [Cond.code y bytes maxL ret] rm) (fun a U => a = as' ∧ Z.Warmed39 U.vm ∧ U.heap = h ∧ CHv Z EL U.vm h ∧ ∀ x ∈ SL, Safe Z EL U.vm h x) (fun _ _ _ _ _ => True) (fun _ U o U' => ∃ v L, o = .returned v ∧ Q v U'.vm U'.heap L ∧ CHr Z EL U.vm U.heap U'.vm U'.heap ∧ ReturnedEndW U o U' L rm.cells rm.slots))
    (hZ : Z.Warmed39 vm0) (wc : (Cond.code y bytes maxL ret).before a0 Z = true) (wz : (Cond.initialized y.cls).before a0 Z = true) (hf : rm.frames + 1 ≤ R.frames) (hl : W + (maxL + 11) + rm.locals ≤ R.locals) (hEL : EW Z a0 EL) (H : CHv Z EL vm0 h) (hSL : ∀ x ∈ SL, x < h.size ∧ Safe Z EL vm0 h x) :
    BackS l R p e below (s.setVm vm0) args y len W (fun A a => a = as' ∧ A.U.heap = h ∧ A.cells + rm.cells ≤ R.cells ∧ A.slots + rm.slots ≤ R.slots)
      (fun A _ v B => ∃ L, (Q v B.U.vm B.U.heap L ∧ CHr Z EL vm0 h B.U.vm B.U.heap) ∧ B.locs = A.locs ++ L ∧ B.cells = A.cells + rm.cells ∧ B.slots = A.slots + rm.slots) :=
  BackS.of_freeW (bytes := bytes) (maxL := maxL) (ret := ret) (E := fun _ first o t L k n => k = rm.cells ∧ n = rm.slots ∧ (∃ v, o = .returned v ∧ Q v t.vm t.heap L) ∧ CHr Z EL first.vm first.heap t.vm t.heap) hM hf hl
    (fun m meth c A a Y hp => have hU : Z.Warmed39 A.U.vm := wtrans (s := s.setVm vm0) hZ Y.warmed
      ⟨by show (Cond.and _ .tt).before a A.U = true; rw [Cond.before_and, mv hU wc]; rfl, mv hU wc, mv hU wz, hp.2.2.1, hp.2.2.2⟩)
    (fun m meth c A a g mk Y hp => have A1 := CHv.at Y hZ hEL H
      ⟨hp.1, wtrans (s := s.setVm vm0) hZ Y.warmed, hp.2.1, A1.1, fun x hx => A1.safe (hSL x hx).1 (hSL x hx).2⟩)
    (fun _ _ _ _ _ _ _ _ _ => trivial)
    (fun _ _ _ _ ⟨v, L, h1, h2, h3, h4⟩ => ⟨L, _, _, h4, rfl, rfl, ⟨v, h1, h2⟩, h3⟩)
    (fun m meth c A a g mk v t L k n Y hp _ _ q => by
      obtain ⟨e1, e2, ⟨v', e3, e4⟩, e5⟩ := q
      cases e3
      subst e1 e2
      have e6 : CHr Z EL A.U.vm h t.vm t.heap := by rw [← hp.2.1]; exact e5
      exact ⟨L, ⟨e4, (CHv.at Y hZ hEL H).trans e6⟩, rfl, rfl, rfl⟩)
end OwnW
theorem own_and255 (y : Int32) : ¬ (y &&& (255 : Int32)).toUInt32.toUInt16.toUInt32.toInt32 < 0 ∧ ¬ (255 : Int32) < (y &&& (255 : Int32)).toUInt32.toUInt16.toUInt32.toInt32 := by
  have t : ∀ k : Fin 256, ¬ (Int32.ofNat k.val).toUInt32.toUInt16.toUInt32.toInt32 < 0 ∧ ¬ (255 : Int32) < (Int32.ofNat k.val).toUInt32.toUInt16.toUInt32.toInt32 := by decide +kernel
  have h : (y &&& 255).toBitVec.toNat < 256 := by
    simp only [Int32.toBitVec_and, BitVec.toNat_and]
    exact Nat.lt_succ_of_le Nat.and_le_right
  have e : y &&& 255 = Int32.ofNat (y &&& 255).toBitVec.toNat := by
    apply Int32.toBitVec_inj.mp
    apply BitVec.eq_of_toNat_eq
    simp only [Int32.toBitVec_ofNat', BitVec.toNat_ofNat]
    omega
  rw [e]
  exact t ⟨_, h⟩
theorem own_cases256 {c : Int32} (h : ¬ c < 0 ∧ ¬ (255 : Int32) < c) : ∃ k : Fin 256, c = Int32.ofNat k.val := by
  have h1 : 0 ≤ c.toInt := by have := h.1; rw [Int32.lt_iff_toInt_lt] at this; simpa using this
  have h2 : c.toInt ≤ 255 := by have := h.2; rw [Int32.lt_iff_toInt_lt] at this; have e : (255 : Int32).toInt = 255 := rfl; omega
  refine ⟨⟨c.toInt.toNat, by omega⟩, ?_⟩
  apply Int32.toInt_inj.mp
  rw [Int32.toInt_ofNat_small (by show c.toInt.toNat < 2 ^ 31; omega)]
  show c.toInt = (c.toInt.toNat : Int)
  omega
theorem own_narc {c : Int32} (h : ¬ c < 0 ∧ ¬ (255 : Int32) < c) : nar .char c = c := by
  obtain ⟨k, rfl⟩ := own_cases256 h
  have t : ∀ k : Fin 256, nar .char (Int32.ofNat k.val) = Int32.ofNat k.val := by decide +kernel
  exact t k
theorem own_fitc {c : Int32} (h : ¬ c < 0 ∧ ¬ (255 : Int32) < c) : fits .char (.int c) = true := by
  have q := fits_nar_char c
  rw [own_narc h] at q
  exact q
theorem own_up (cs : List Int32) (h : ∀ c ∈ cs, ¬ c < 0 ∧ ¬ (255 : Int32) < c) : ∀ c ∈ cs, ¬ c < 0 ∧ ¬ (65535 : Int32) < c := fun c hc => ⟨(h c hc).1, fun q => (h c hc).2 (by rw [Int32.lt_iff_toInt_lt] at q ⊢; have e1 : (65535 : Int32).toInt = 65535 := rfl; have e2 : (255 : Int32).toInt = 255 := rfl; omega)⟩
theorem own_ord {args : Array Value} {s : State} {u : Term} {w : Addr} {C n d : String} {k : Int32} (ev : u.eval args s none [] s = some (.ref w)) (h : (Cond.eq (Term.field u C n d) (Term.int k)).value args s none s [] = some true) : s.fieldOf? w C n d = some (.int k) := by
  simp only [Cond.value, fld_at ev, Term.int_eval] at h
  rcases hv : s.fieldOf? w C n d with _ | v
  · rw [hv] at h; simp at h
  · rw [hv] at h
    cases v <;> simp at h
    subst h
    rfl
def own_cs (n c0 c1 c2 : Int32) : List Int32 := if n = 0 then [] else if n = 1 then [c0] else if n = 2 then [c0, c1] else [c0, c1, c2]
theorem own_cs_mem {n c0 c1 c2 : Int32} (r0 : ¬ c0 < 0 ∧ ¬ (255 : Int32) < c0) (r1 : ¬ c1 < 0 ∧ ¬ (255 : Int32) < c1) (r2 : ¬ c2 < 0 ∧ ¬ (255 : Int32) < c2) : ∀ c ∈ own_cs n c0 c1 c2, ¬ c < 0 ∧ ¬ (255 : Int32) < c := by
  intro c hc
  unfold own_cs at hc
  split at hc
  · simp at hc
  · split at hc
    · simp only [List.mem_cons, List.not_mem_nil, or_false] at hc; subst hc; exact r0
    · split at hc
      · simp only [List.mem_cons, List.not_mem_nil, or_false] at hc; rcases hc with rfl | rfl; exact r0; exact r1
      · simp only [List.mem_cons, List.not_mem_nil, or_false] at hc; rcases hc with rfl | rfl | rfl; exact r0; exact r1; exact r2
theorem own_cs_len (n c0 c1 c2 : Int32) : (own_cs n c0 c1 c2).length ≤ 4000 := by
  unfold own_cs
  repeat' split
  all_goals simp
theorem own_fin {p0 p3 p3' kk vl nl v0 v1 v2 n0' n1' n2' ze zx zr : Int32} {zk wE wT wS : Addr} (hk : kk = (p0 &&& (3 : Int32))) (hv : vl = (p3 &&& (3 : Int32))) (hn : nl = (p3' &&& (3 : Int32)))
    (hzk : zk = (if kk = (1 : Int32) then wE else (if kk = (2 : Int32) then wT else wS)))
    (hze : ze = (if vl = nl then (if vl < (1 : Int32) then (if vl < (2 : Int32) then (if vl < (3 : Int32) then (1 : Int32) else (if v2 = n2' then (1 : Int32) else (0 : Int32))) else (if v1 = n1' then (if vl < (3 : Int32) then (1 : Int32) else (if v2 = n2' then (1 : Int32) else (0 : Int32))) else (0 : Int32))) else (if v0 = n0' then (if vl < (2 : Int32) then (if vl < (3 : Int32) then (1 : Int32) else (if v2 = n2' then (1 : Int32) else (0 : Int32))) else (if v1 = n1' then (if vl < (3 : Int32) then (1 : Int32) else (if v2 = n2' then (1 : Int32) else (0 : Int32))) else (0 : Int32))) else (0 : Int32))) else (0 : Int32)))
    (hzx : zx = (if kk = (0 : Int32) then (if ze = (0 : Int32) then (0 : Int32) else (1 : Int32)) else (if kk = (3 : Int32) then (if ze = (0 : Int32) then (0 : Int32) else (1 : Int32)) else (0 : Int32))))
    (hES : ¬ (wE = wS)) (hTS : ¬ (wT = wS))
    (hzr : zr = (if zk = wS then (if own_cs vl v0 v1 v2 = own_cs nl n0' n1' n2' then (1 : Int32) else (0 : Int32)) else (0 : Int32))) : zr = zx := by
  have k4 : ∀ q : Int32, (q &&& 3) = 0 ∨ (q &&& 3) = 1 ∨ (q &&& 3) = 2 ∨ (q &&& 3) = 3 := fun q => by
    have e := c_mask q 3 2 (by decide) (by decide)
    have h1 : 0 ≤ q.toInt % (2 ^ 2 : Nat) := Int.emod_nonneg _ (by decide)
    have h2 : q.toInt % (2 ^ 2 : Nat) < (2 ^ 2 : Nat) := Int.emod_lt_of_pos _ (by decide)
    have t : ∀ z : Int32, z.toInt = 0 ∨ z.toInt = 1 ∨ z.toInt = 2 ∨ z.toInt = 3 → z = 0 ∨ z = 1 ∨ z = 2 ∨ z = 3 := fun z hz => by
      rcases hz with hz | hz | hz | hz
      · exact Or.inl (Int32.toInt_inj.mp hz)
      · exact Or.inr (Or.inl (Int32.toInt_inj.mp hz))
      · exact Or.inr (Or.inr (Or.inl (Int32.toInt_inj.mp hz)))
      · exact Or.inr (Or.inr (Or.inr (Int32.toInt_inj.mp hz)))
    exact t _ (by omega)
  have hk4 := k4 p0
  have hv4 := k4 p3
  have hn4 := k4 p3'
  rw [← hk] at hk4
  rw [← hv] at hv4
  rw [← hn] at hn4
  clear hk hv hn
  subst hzr hzx hze hzk
  rcases hk4 with rfl | rfl | rfl | rfl <;> rcases hv4 with rfl | rfl | rfl | rfl <;> rcases hn4 with rfl | rfl | rfl | rfl <;> simp [own_cs, hES, hTS] <;> (try (repeat' split)) <;> simp_all
def Q_own_new4e (Z : State) (a : Addr) (bc : Addr) (h0 : Heap) (n0 : Nat) (v : Option Value) (vm : Vm) (h : Heap) (L : List Loc) : Prop := ∃ tb : Addr, ∃ kb : ClassId, v = none ∧ Fr n0 L ∧ Keep h0 h [a] ∧ Fld Z h a "java/lang/String" "value" "[B" (.ref tb) ∧ Fld Z h a "java/lang/String" "coder" "B" (.int (0 : Int32)) ∧ Arv Z h tb kb .byte (0 : Int32) [] (.int (0 : Int32))
set_option maxRecDepth 65536 in
set_option maxHeartbeats 40000000 in
theorem own_new4e (l : Launch) (Z : State) (a0 : Array Value) (hw : ∀ d ∈ tables_1, d.before a0 Z = true) (ws : List Jvm.Cond) (a : Addr) (bc : Addr) (h0 : Heap) (n0 : Nat) (O0 : Old Z n0 h0) (f0_E_a : Exa Z h0 a "java/lang/String") (f0_F_a_value : Fld Z h0 a "java/lang/String" "value" "[B" .null) (f0_F_a_coder : Fld Z h0 a "java/lang/String" "coder" "B" (.int (0 : Int32))) (g_a : n0 ≤ a) :
    MetFree l mt0 (head1 (Jvm.Cond.code mt0 jdk_42_method_149_code 6 none :: ws) ({ frames := 1, cells := 4, slots := 8, locals := 12 } : Room)) (fun aq U => aq = #[(.ref a), (.ref bc), (.int (0 : Int32)), (.int (0 : Int32)), .null] ∧ Z.Warmed39 U.vm ∧ U.heap = h0 ∧ CHv Z own_EL U.vm h0 ∧ ∀ x ∈ ([] : List Addr), Safe Z own_EL U.vm h0 x) (fun _ _ _ _ _ => True) (fun _ U o U' => ∃ v L, o = .returned v ∧ Q_own_new4e Z a bc h0 n0 v U'.vm U'.heap L ∧ CHr Z own_EL U.vm U.heap U'.vm U'.heap ∧ ReturnedEndW U o U' L ({ frames := 1, cells := 4, slots := 8, locals := 12 } : Room).cells ({ frames := 1, cells := 4, slots := 8, locals := 12 } : Room).slots) := by
  refine MetFree.of_bodySF (plainFor_of_name pn_java_lang_String) hisR ?_
  intro p e s m args below meth c s₁ Bd hml0 hP hK
  obtain ⟨rfl, hZ, hh, hCH, hSL⟩ := hP
  have hx := Bd.exec
  have hby := Bd.bytes
  have hml : c.maxLocals = 6 := hml0
  have hown : s.vm.findClass "java/lang/String" = some m.cls := findClass_of_methodNamed Bd.named
  have hnm := (name_of_methodNamed Bd.named Bd.method).1
  have X0 : Stand p l e ({ frames := 1, cells := 4, slots := 8, locals := 12 } : Room) (s.setVm s.vm) m #[(.ref a), (.ref bc), (.int (0 : Int32)), (.int (0 : Int32)), .null] below meth c s₁ [] 0 0 := Stand.of_body Bd
  have e0 : s₁.heap = h0 := by rw [← hh, Bd.state]; rfl
  have N0 := Fr.nil n0
  have zO := O0.1
  have zO2 := O0.2.1
  have fl_E_a : h0.size > a := f0_E_a.lt
  have fl_F_a_value : h0.size > a := f0_F_a_value.lt
  have fl_F_a_coder : h0.size > a := f0_F_a_coder.lt
  refine own_open (own_via (S' := s₁.setTop (mkF m 0 #[.val (.ref a), .val (.ref bc), .val (.int (0 : Int32)), .val (.int (0 : Int32)), .val .null, .unset] [])) (fun t k => castTop (ef_own_new4e m a bc (0 : Int32) (0 : Int32)) k) ?_)
  have hEL := own_EW hw
  have hS0 : s.Since s.vm h0.size := (State.WarmedH.refl s).since _
  have R0 : CHr Z own_EL s.vm h0 s.vm h0 := CHr.refl hCH
  have K0 : Keep h0 h0 [a] := Keep.refl _ _
  refine own_via (S' := s₁.setTop (mkF m 1 #[.val (.ref a), .val (.ref bc), .val (.int (0 : Int32)), .val (.int (0 : Int32)), .val .null, .unset] [(.ref a)])) (fun t k => XS.aloadN X0.here hx rfl (hb hby d3_0) rfl rfl k) ?_
  obtain ⟨T1, X1, e1, st1⟩ := initO X0 hx hZ hown (wd18 hw) (wd19 hw) (wd20 hw) e0 (g := (mkF m 1 #[.val (.ref a), .val (.ref bc), .val (.int (0 : Int32)), .val (.int (0 : Int32)), .val .null, .unset] [(.ref a)])) rfl (by rw [hml]; rfl) rfl (hb hby d3_1) (by decide) (W := 0) (by show 2 * 0 + _ ≤ _; exact Nat.le_of_eq rfl) (by decide)
  refine own_via (S' := T1.setTop (mkF m 4 #[.val (.ref a), .val (.ref bc), .val (.int (0 : Int32)), .val (.int (0 : Int32)), .val .null, .unset] [])) st1 ?_
  refine own_via (S' := T1.setTop (mkF m 5 #[.val (.ref a), .val (.ref bc), .val (.int (0 : Int32)), .val (.int (0 : Int32)), .val .null, .unset] [(.int (0 : Int32))])) (fun t k => XS.iloadN X1.here hx rfl (hb hby d3_4) rfl k) ?_
  refine own_via (S' := T1.setTop (mkF m 8 #[.val (.ref a), .val (.ref bc), .val (.int (0 : Int32)), .val (.int (0 : Int32)), .val .null, .unset] [])) (fun t k => XS.ifNo X1.here hx rfl (hb hby d3_5) rfl ((if0 _ _).trans (teq (by decide : (0 : Int32) = (0 : Int32))).2) k) ?_
  refine own_via (S' := T1.setTop (mkF m 9 #[.val (.ref a), .val (.ref bc), .val (.int (0 : Int32)), .val (.int (0 : Int32)), .val .null, .unset] [(.ref a)])) (fun t k => XS.aloadN X1.here hx rfl (hb hby d3_8) rfl rfl k) ?_
  obtain ⟨b2, T2, h2, kk2, t2, kb2, X2, e2, E2, hS2, hk2, hZ, hown, f2_0, f2_1, f2_2, f2_3, lta2, ltb2, R2q, hLit2, hsn2, st2⟩ := ldcCH X1 hx hZ hown (wd37 hw) (own_wS hw) e1 hS0 (by omega) hEL (List.mem_of_getElem? (i := 0) rfl) R0.1 (vs := []) (z := (0 : Int32)) ⟨by decide, rfl⟩ (by decide) rfl (g := (mkF m 9 #[.val (.ref a), .val (.ref bc), .val (.int (0 : Int32)), .val (.int (0 : Int32)), .val .null, .unset] [(.ref a)])) rfl (hb hby d3_9) (n := 0) (by decide) (by decide) (by decide) (by decide)
  have sz3 : h0.size ≤ h2.size := E2.1
  have O4 : Old Z n0 h2 := O0.ext E2
  have R5 : CHr Z own_EL s.vm h0 T2.vm h2 := R0.trans R2q
  have K6 : Keep h0 h2 [a] := K0.ext E2
  have lt_b2 : h2.size > b2 := lta2
  have lt_t2 : h2.size > t2 := ltb2
  have cx7 : Exa Z h2 a "java/lang/String" := (f0_E_a.ext E2)
  have cx8 : Fld Z h2 a "java/lang/String" "value" "[B" .null := (f0_F_a_value.ext E2)
  have ne_a_b2 : a ≠ b2 := (hsn2 _ (own_safeNull hZ.alike cx7 cx8)).1
  have ne_a_t2 : a ≠ t2 := (hsn2 _ (own_safeNull hZ.alike cx7 cx8)).2
  refine own_via (S' := T2.setTop (mkF m 11 #[.val (.ref a), .val (.ref bc), .val (.int (0 : Int32)), .val (.int (0 : Int32)), .val .null, .unset] [(.ref b2), (.ref a)])) st2 ?_
  obtain ⟨T9, X9, e9, st9⟩ := getF X2 hx hZ hown (host := "") (Or.inl (wd35 hw)) Via.refl e2 f2_2 (g := (mkF m 11 #[.val (.ref a), .val (.ref bc), .val (.int (0 : Int32)), .val (.int (0 : Int32)), .val .null, .unset] [(.ref b2), (.ref a)])) rfl rfl (hb hby d3_11)
  refine own_via (S' := T9.setTop (mkF m 14 #[.val (.ref a), .val (.ref bc), .val (.int (0 : Int32)), .val (.int (0 : Int32)), .val .null, .unset] [(.ref t2), (.ref a)])) st9 ?_
  obtain ⟨T10, h10, X10, e10, W10, st10⟩ := putF X9 hx hZ hown (host := "") (Or.inl (wd35 hw)) Via.refl e9 cx8 cx7 (Or.inr ⟨(wd36 hw), rfl, hnm⟩) (wd8 hw) (ty := (.array .byte)) (by decide) rfl rfl (g := (mkF m 14 #[.val (.ref a), .val (.ref bc), .val (.int (0 : Int32)), .val (.int (0 : Int32)), .val .null, .unset] [(.ref t2), (.ref a)])) rfl rfl (hb hby d3_14)
  have sf10 : Safe Z own_EL T2.vm h2 a := (own_safeNull hZ.alike cx7 cx8)
  have sz11 : h2.size ≤ h10.size := Nat.le_of_eq W10.size.symm
  have R12 : CHr Z own_EL s.vm h0 T2.vm h10 := R5.trans (CHr.wr W10 sf10 R5.1)
  have O13 : Old Z n0 h10 := O4.wr W10 (by omega : n0 ≤ a)
  have N10 := Fr.snoc X10 N0 (by omega : n0 ≤ a)
  have K14 : Keep h0 h10 [a] := K6.wr W10 (Or.inl (List.mem_of_getElem? (i := 0) rfl))
  have Fw10 : Fld Z h10 a "java/lang/String" "value" "[B" (.ref t2) := Fld.same W10 cx8
  refine own_via (S' := T10.setTop (mkF m 17 #[.val (.ref a), .val (.ref bc), .val (.int (0 : Int32)), .val (.int (0 : Int32)), .val .null, .unset] [])) st10 ?_
  refine own_via (S' := T10.setTop (mkF m 18 #[.val (.ref a), .val (.ref bc), .val (.int (0 : Int32)), .val (.int (0 : Int32)), .val .null, .unset] [(.ref a)])) (fun t k => XS.aloadN X10.here hx rfl (hb hby d3_17) rfl rfl k) ?_
  obtain ⟨b15, T15, h15, kk15, t15, kb15, X15, e15, E15, hS15, hk15, hZ, hown, f15_0, f15_1, f15_2, f15_3, lta15, ltb15, R15q, hLit15, hsn15, st15⟩ := ldcCH X10 hx hZ hown (wd37 hw) (own_wS hw) e10 hS2 (by omega) hEL (List.mem_of_getElem? (i := 0) rfl) R12.1 (vs := []) (z := (0 : Int32)) ⟨by decide, rfl⟩ (by decide) rfl (g := (mkF m 18 #[.val (.ref a), .val (.ref bc), .val (.int (0 : Int32)), .val (.int (0 : Int32)), .val .null, .unset] [(.ref a)])) rfl (hb hby d3_18) (n := 0) (by decide) (by decide) (by decide) (by decide)
  have sz16 : h10.size ≤ h15.size := E15.1
  have O17 : Old Z n0 h15 := O13.ext E15
  have R18 : CHr Z own_EL s.vm h0 T15.vm h15 := R12.trans R15q
  have K19 : Keep h0 h15 [a] := K14.ext E15
  have lt_b15 : h15.size > b15 := lta15
  have lt_t15 : h15.size > t15 := ltb15
  have cx20 : Safe Z own_EL T15.vm h15 a := (CHr.safe R15q (own_ltA (by omega)) (Safe.wr W10 sf10 R5.1 sf10))
  have ne_a_b15 : a ≠ b15 := (hsn15 _ cx20).1
  have ne_a_t15 : a ≠ t15 := (hsn15 _ cx20).2
  refine own_via (S' := T15.setTop (mkF m 20 #[.val (.ref a), .val (.ref bc), .val (.int (0 : Int32)), .val (.int (0 : Int32)), .val .null, .unset] [(.ref b15), (.ref a)])) st15 ?_
  obtain ⟨T21, X21, e21, st21⟩ := getF X15 hx hZ hown (host := "") (Or.inl (wd33 hw)) Via.refl e15 f15_1 (g := (mkF m 20 #[.val (.ref a), .val (.ref bc), .val (.int (0 : Int32)), .val (.int (0 : Int32)), .val .null, .unset] [(.ref b15), (.ref a)])) rfl rfl (hb hby d3_20)
  refine own_via (S' := T21.setTop (mkF m 23 #[.val (.ref a), .val (.ref bc), .val (.int (0 : Int32)), .val (.int (0 : Int32)), .val .null, .unset] [(.int (0 : Int32)), (.ref a)])) st21 ?_
  have cx22 : Exa Z h15 a "java/lang/String" := ((Exa.wr W10 cx7).ext E15)
  have cx23 : Fld Z h15 a "java/lang/String" "coder" "B" (.int (0 : Int32)) := ((Fld.other W10 (f0_F_a_coder.ext E2) (Or.inr (slot_ne (Or.inr (wd34 hw)) (Or.inr (wd36 hw)) (by decide) (t := .byte) (t' := (.array .byte)) (by decide) (by decide)))).ext E15)
  obtain ⟨T24, h24, X24, e24, W24, st24⟩ := putFN X21 hx hZ hown (wd33 hw) Via.refl e21 cx23 cx22 (Or.inr ⟨(wd34 hw), rfl, hnm⟩) (wd8 hw) (ty := .byte) (v' := (.int (0 : Int32))) (by decide) rfl rfl (g := (mkF m 23 #[.val (.ref a), .val (.ref bc), .val (.int (0 : Int32)), .val (.int (0 : Int32)), .val .null, .unset] [(.int (0 : Int32)), (.ref a)])) rfl rfl (hb hby d3_23)
  have sz25 : h15.size ≤ h24.size := Nat.le_of_eq W24.size.symm
  have R26 : CHr Z own_EL s.vm h0 T15.vm h24 := R18.trans (CHr.wr W24 cx20 R18.1)
  have O27 : Old Z n0 h24 := O17.wr W24 (by omega : n0 ≤ a)
  have N24 := Fr.snoc X24 N10 (by omega : n0 ≤ a)
  have K28 : Keep h0 h24 [a] := K19.wr W24 (Or.inl (List.mem_of_getElem? (i := 0) rfl))
  have Fw24 : Fld Z h24 a "java/lang/String" "coder" "B" (.int (0 : Int32)) := Fld.same W24 cx23
  refine own_via (S' := T24.setTop (mkF m 26 #[.val (.ref a), .val (.ref bc), .val (.int (0 : Int32)), .val (.int (0 : Int32)), .val .null, .unset] [])) st24 ?_
  have cx29 : Fld Z h24 a "java/lang/String" "value" "[B" (.ref t2) := (Fld.other W24 (Fw10.ext E15) (Or.inr (slot_ne (Or.inr (wd36 hw)) (Or.inr (wd34 hw)) (by decide) (t := (.array .byte)) (t' := .byte) (by decide) (by decide))))
  have cx30 : Arv Z h24 t2 kb2 .byte (0 : Int32) [] (.int (0 : Int32)) := (((f2_3.other W10 (Ne.symm ne_a_t2)).ext E15).other W24 (Ne.symm ne_a_t2))
  have RTR26 : CHr Z own_EL s.vm h0 T24.vm h24 := R26.trans (CHv.at X24 hZ hEL R26.1)
  have RXR26 : CHr Z own_EL s.vm s.heap T24.vm T24.heap := by rw [hh, e24]; exact RTR26
  refine own_retW (Q := Q_own_new4e Z a bc h0 n0) (C := ({ frames := 1, cells := 4, slots := 8, locals := 12 } : Room).cells) (N := ({ frames := 1, cells := 4, slots := 8, locals := 12 } : Room).slots) X24 hS15 (by rw [e24]; omega) (v := none) (fun _ => rfl) Bd.notSynchronized ?_ RXR26 (by decide) (by decide) (fun fs hr => X24.returnOut hx Bd.returns (hb hby d3_26) hr)
  show Q_own_new4e Z a bc h0 n0 _ T24.vm T24.heap _
  rw [e24]
  exact ⟨t2, kb2, rfl, N24, K28, cx29, Fw24, cx30⟩
def Q_own_new1e (Z : State) (a : Addr) (bc : Addr) (kc : ClassId) (h0 : Heap) (n0 : Nat) (v : Option Value) (vm : Vm) (h : Heap) (L : List Loc) : Prop := ∃ tb : Addr, ∃ kb : ClassId, v = none ∧ Fr n0 L ∧ Keep h0 h [a] ∧ Fld Z h a "java/lang/String" "value" "[B" (.ref tb) ∧ Fld Z h a "java/lang/String" "coder" "B" (.int (0 : Int32)) ∧ Arv Z h tb kb .byte (0 : Int32) [] (.int (0 : Int32))
set_option maxRecDepth 65536 in
set_option maxHeartbeats 40000000 in
theorem own_new1e (l : Launch) (Z : State) (a0 : Array Value) (hw : ∀ d ∈ tables_1, d.before a0 Z = true) (ws : List Jvm.Cond) (a : Addr) (bc : Addr) (kc : ClassId) (h0 : Heap) (n0 : Nat) (O0 : Old Z n0 h0) (f0_E_a : Exa Z h0 a "java/lang/String") (f0_F_a_value : Fld Z h0 a "java/lang/String" "value" "[B" .null) (f0_F_a_coder : Fld Z h0 a "java/lang/String" "coder" "B" (.int (0 : Int32))) (f0_A_bc : Arv Z h0 bc kc .char (0 : Int32) [] (.int (0 : Int32))) (g_a : n0 ≤ a) :
    MetFree l mt1 (head1 (Jvm.Cond.code mt1 jdk_42_method_3_code 2 none :: ws) ({ frames := 2, cells := 4, slots := 8, locals := 29 } : Room)) (fun aq U => aq = #[(.ref a), (.ref bc)] ∧ Z.Warmed39 U.vm ∧ U.heap = h0 ∧ CHv Z own_EL U.vm h0 ∧ ∀ x ∈ ([] : List Addr), Safe Z own_EL U.vm h0 x) (fun _ _ _ _ _ => True) (fun _ U o U' => ∃ v L, o = .returned v ∧ Q_own_new1e Z a bc kc h0 n0 v U'.vm U'.heap L ∧ CHr Z own_EL U.vm U.heap U'.vm U'.heap ∧ ReturnedEndW U o U' L ({ frames := 2, cells := 4, slots := 8, locals := 29 } : Room).cells ({ frames := 2, cells := 4, slots := 8, locals := 29 } : Room).slots) := by
  refine MetFree.of_bodySF (plainFor_of_name pn_java_lang_String) hisR ?_
  intro p e s m args below meth c s₁ Bd hml0 hP hK
  obtain ⟨rfl, hZ, hh, hCH, hSL⟩ := hP
  have hx := Bd.exec
  have hby := Bd.bytes
  have hml : c.maxLocals = 2 := hml0
  have hown : s.vm.findClass "java/lang/String" = some m.cls := findClass_of_methodNamed Bd.named
  have hnm := (name_of_methodNamed Bd.named Bd.method).1
  have X0 : Stand p l e ({ frames := 2, cells := 4, slots := 8, locals := 29 } : Room) (s.setVm s.vm) m #[(.ref a), (.ref bc)] below meth c s₁ [] 0 0 := Stand.of_body Bd
  have e0 : s₁.heap = h0 := by rw [← hh, Bd.state]; rfl
  have N0 := Fr.nil n0
  have zO := O0.1
  have zO2 := O0.2.1
  have fl_E_a : h0.size > a := f0_E_a.lt
  have fl_F_a_value : h0.size > a := f0_F_a_value.lt
  have fl_F_a_coder : h0.size > a := f0_F_a_coder.lt
  have fl_A_bc : h0.size > bc := f0_A_bc.lt
  refine own_open (own_via (S' := s₁.setTop (mkF m 0 #[.val (.ref a), .val (.ref bc)] [])) (fun t k => castTop (ef_own_new1e m a bc) k) ?_)
  have hEL := own_EW hw
  have hS0 : s.Since s.vm h0.size := (State.WarmedH.refl s).since _
  have R0 : CHr Z own_EL s.vm h0 s.vm h0 := CHr.refl hCH
  have K0 : Keep h0 h0 [a] := Keep.refl _ _
  have ne_a_bc : a ≠ bc := Exa.neArv f0_E_a f0_A_bc (wd8 hw)
  refine own_via (S' := s₁.setTop (mkF m 1 #[.val (.ref a), .val (.ref bc)] [(.ref a)])) (fun t k => XS.aloadN X0.here hx rfl (hb hby d2_0) rfl rfl k) ?_
  refine own_via (S' := s₁.setTop (mkF m 2 #[.val (.ref a), .val (.ref bc)] [(.ref bc), (.ref a)])) (fun t k => XS.aloadN X0.here hx rfl (hb hby d2_1) rfl rfl k) ?_
  refine own_via (S' := s₁.setTop (mkF m 3 #[.val (.ref a), .val (.ref bc)] [(.int (0 : Int32)), (.ref bc), (.ref a)])) (fun t k => XS.iconst X0.here hx rfl (hb hby d2_2) k) ?_
  refine own_via (S' := s₁.setTop (mkF m 4 #[.val (.ref a), .val (.ref bc)] [(.ref bc), (.int (0 : Int32)), (.ref bc), (.ref a)])) (fun t k => XS.aloadN X0.here hx rfl (hb hby d2_3) rfl rfl k) ?_
  obtain ⟨cl1, Ar1, -, S1, N1, -, -⟩ := id f0_A_bc
  refine own_via (S' := s₁.setTop (mkF m 5 #[.val (.ref a), .val (.ref bc)] [(.int (0 : Int32)), (.int (0 : Int32)), (.ref bc), (.ref a)])) (fun t k => X0.arraylength hx (by first | (rw [e0]; exact Ar1.1) | exact Ar1.1) (State.isArrayOf_alike hZ.alike Ar1.2.1) (g := (mkF m 4 #[.val (.ref a), .val (.ref bc)] [(.ref bc), (.int (0 : Int32)), (.ref bc), (.ref a)])) rfl rfl (hb hby d2_4) _ (by rw [len_of S1 N1]; exact k)) ?_
  refine own_via (S' := s₁.setTop (mkF m 6 #[.val (.ref a), .val (.ref bc)] [.null, (.int (0 : Int32)), (.int (0 : Int32)), (.ref bc), (.ref a)])) (fun t k => XS.aconstNull X0.here hx rfl (hb hby d2_5) k) ?_
  have hk2 : h0.size ≤ s₁.heap.size := by rw [e0]; omega
  obtain ⟨_, _, ⟨T2, Lp2, kp2, np2⟩, -, X2, hS2, hgr2, ⟨Lc2, ⟨hQ2, R2q⟩, l2, y2, z2⟩, st2⟩ := X0.specialBackS hx (y := mt0) rfl hown (mvT hZ (wd14 hw)) (mvT hZ (wd15 hw)) (mvT hZ (wd17 hw)) (by decide) (own_backW (SL := []) (W := 0) (own_new4e l Z a0 hw [] a bc h0 n0 O0 f0_E_a f0_F_a_value f0_F_a_coder (by first | assumption | exact Ne.symm (by assumption) | omega | exact Nat.ne_of_lt (by omega) | exact Nat.ne_of_gt (by omega) | decide | exact Nat.le_of_ble_eq_true rfl)) hZ (wd17 hw) (wd9 hw) (by decide) (by decide) hEL R0.1 all0) (g := (mkF m 6 #[.val (.ref a), .val (.ref bc)] [.null, (.int (0 : Int32)), (.int (0 : Int32)), (.ref bc), (.ref a)])) rfl (by rw [hml]; rfl) (Steps.refl _) (a := a) (argsL := [(.ref bc), (.int (0 : Int32)), (.int (0 : Int32)), .null]) (rest := []) (lenOf pd___CIILjava_lang_Void__V_1938 rfl) rfl (by show 2 * 0 + _ ≤ _; exact Nat.le_of_eq rfl) (hb hby d2_6) (fun _ _ => ⟨rfl, e0, (by decide : 0 + 4 ≤ _), (by decide : 0 + 8 ≤ _)⟩)
  dsimp only [Pt.U, Pt.locs, Pt.cells, Pt.slots] at X2 l2 y2 z2 st2 hQ2 hS2 hgr2 R2q
  subst Lp2 kp2 np2
  obtain ⟨X2, hSn2, hZ, hown⟩ := rebS hS0 hk2 X2 hS2 hgr2 hZ hown
  obtain ⟨tb2, kb2, rfl, N2q, K2q, f2_0, f2_1, f2_2⟩ := hQ2
  have N2 := Fr.app N0 N2q
  have sz3 : h0.size ≤ T2.heap.size := K2q.1
  have R4 : CHr Z own_EL s.vm h0 T2.vm T2.heap := R0.trans R2q
  have O5 : Old Z n0 T2.heap := O0.keep K2q (allS (by omega : n0 ≤ a) all0)
  have K6 : Keep h0 T2.heap [a] := K0.trans K2q (allS (P := fun x => x ∈ [a] ∨ h0.size ≤ x) (Or.inl (List.mem_of_getElem? (i := 0) rfl)) all0)
  have lt7_tb2 : T2.heap.size > tb2 := f2_2.lt
  refine own_tr (S' := T2.setTop (mkF m 9 #[.val (.ref a), .val (.ref bc)] [])) st2 ?_
  have RTR4 : CHr Z own_EL s.vm h0 T2.vm T2.heap := R4.trans (CHv.at X2 hZ hEL R4.1)
  have RXR4 : CHr Z own_EL s.vm s.heap T2.vm T2.heap := by rw [hh]; exact RTR4
  refine own_retW (Q := Q_own_new1e Z a bc kc h0 n0) (C := ({ frames := 2, cells := 4, slots := 8, locals := 29 } : Room).cells) (N := ({ frames := 2, cells := 4, slots := 8, locals := 29 } : Room).slots) X2 hSn2 (by omega) (v := none) (fun _ => rfl) Bd.notSynchronized ?_ RXR4 (by decide) (by decide) (fun fs hr => X2.returnOut hx Bd.returns (hb hby d2_9) hr)
  show Q_own_new1e Z a bc kc h0 n0 _ T2.vm T2.heap _
  exact ⟨tb2, kb2, rfl, N2, K6, f2_0, f2_1, f2_2⟩
def Q_own_rec (Z : State) (a : Addr) (h0 : Heap) (n0 : Nat) (v : Option Value) (h : Heap) (L : List Loc) : Prop := v = none ∧ L = [] ∧ h = h0
set_option maxRecDepth 65536 in
set_option maxHeartbeats 40000000 in
theorem own_rec (l : Launch) (Z : State) (a0 : Array Value) (hw : ∀ d ∈ tables_1, d.before a0 Z = true) (ws : List Jvm.Cond) (a : Addr) (h0 : Heap) (n0 : Nat) (O0 : Old Z n0 h0) :
    MetFree l mt2 (head1 (Jvm.Cond.code mt2 jdk_30_method_1_code 1 none :: ws) ({ frames := 1, cells := 0, slots := 0, locals := 12 } : Room)) (fun aq U => aq = #[(.ref a)] ∧ Z.Warmed39 U.vm ∧ U.heap = h0) (fun _ _ _ _ _ => True) (fun _ U o U' => ∃ v L, o = .returned v ∧ Q_own_rec Z a h0 n0 v U'.heap L ∧ FrameEnd U o U' L ({ frames := 1, cells := 0, slots := 0, locals := 12 } : Room).cells ({ frames := 1, cells := 0, slots := 0, locals := 12 } : Room).slots) := by
  refine MetFree.of_bodySF (plainFor_of_name pn_java_lang_Record) hisR ?_
  intro p e s m args below meth c s₁ Bd hml0 hP hK
  obtain ⟨rfl, hZ, hh⟩ := hP
  have hx := Bd.exec
  have hby := Bd.bytes
  have hml : c.maxLocals = 1 := hml0
  have hown : s.vm.findClass "java/lang/Record" = some m.cls := findClass_of_methodNamed Bd.named
  have hnm := (name_of_methodNamed Bd.named Bd.method).1
  have X0 : Stand p l e ({ frames := 1, cells := 0, slots := 0, locals := 12 } : Room) s m #[(.ref a)] below meth c s₁ [] 0 0 := Stand.of_body Bd
  have e0 : s₁.heap = h0 := by rw [← hh, Bd.state]; rfl
  have N0 := Fr.nil n0
  have zO := O0.1
  have zO2 := O0.2.1
  refine own_open (own_via (S' := s₁.setTop (mkF m 0 #[.val (.ref a)] [])) (fun t k => castTop (ef_own_rec m a) k) ?_)
  refine own_via (S' := s₁.setTop (mkF m 1 #[.val (.ref a)] [(.ref a)])) (fun t k => XS.aloadN X0.here hx rfl (hb hby d9_0) rfl rfl k) ?_
  obtain ⟨T1, X1, e1, st1⟩ := initO X0 hx hZ hown (wd51 hw) (wd19 hw) (wd20 hw) e0 (g := (mkF m 1 #[.val (.ref a)] [(.ref a)])) rfl (by rw [hml]; rfl) rfl (hb hby d9_1) (by decide) (W := 0) (by show 2 * 0 + _ ≤ _; exact Nat.le_of_eq rfl) (by decide)
  refine own_via (S' := T1.setTop (mkF m 4 #[.val (.ref a)] [])) st1 ?_
  refine own_ret (Q := Q_own_rec Z a h0 n0) (C := ({ frames := 1, cells := 0, slots := 0, locals := 12 } : Room).cells) (N := ({ frames := 1, cells := 0, slots := 0, locals := 12 } : Room).slots) X1 (v := none) (fun _ => rfl) Bd.notSynchronized ?_ (by decide) (by decide) (fun fs hr => X1.returnOut hx Bd.returns (hb hby d9_4) hr)
  show Q_own_rec Z a h0 n0 _ T1.heap _
  rw [e1]
  exact ⟨rfl, rfl, rfl⟩
def Q_own_mk (Z : State) (n1 : Int32) (c0 : Int32) (c1 : Int32) (c2 : Int32) (zc : Int32) (h0 : Heap) (n0 : Nat) (v : Option Value) (vm : Vm) (h : Heap) (L : List Loc) : Prop := ∃ b : Addr, ∃ tb : Addr, ∃ kb : ClassId, v = some (.ref b) ∧ Fr n0 L ∧ Keep h0 h [] ∧ Exa Z h b "java/lang/String" ∧ Fld Z h b "java/lang/String" "coder" "B" (.int (0 : Int32)) ∧ Fld Z h b "java/lang/String" "value" "[B" (.ref tb) ∧ Arv Z h tb kb .byte (Int32.ofNat (own_cs n1 c0 c1 c2).length) (((own_cs n1 c0 c1 c2).map fun c => c.toInt8.toInt32).map Value.int) (.int (0 : Int32))
set_option maxRecDepth 65536 in
set_option maxHeartbeats 40000000 in
theorem own_mk (l : Launch) (Z : State) (a0 : Array Value) (hw : ∀ d ∈ tables_1, d.before a0 Z = true) (ws : List Jvm.Cond) (n1 : Int32) (c0 : Int32) (c1 : Int32) (c2 : Int32) (zc : Int32) (h0 : Heap) (n0 : Nat) (O0 : Old Z n0 h0) (zf_S_java_lang_String_COMPACT_STRINGS : Sta Z Z.heap "java/lang/String" "COMPACT_STRINGS" "Z" (.int zc)) (hzc : ¬ (zc = (0 : Int32))) (r0 : ¬ c0 < 0 ∧ ¬ (255 : Int32) < c0) (r1 : ¬ c1 < 0 ∧ ¬ (255 : Int32) < c1) (r2 : ¬ c2 < 0 ∧ ¬ (255 : Int32) < c2) :
    MetFree l mt3 (head1 (Jvm.Cond.code mt3 method_2_code 4 (some (.object "java/lang/String")) :: ws) ({ frames := 4, cells := 6, slots := 12, locals := 66 } : Room)) (fun aq U => aq = #[(.int n1), (.int c0), (.int c1), (.int c2)] ∧ Z.Warmed39 U.vm ∧ U.heap = h0 ∧ CHv Z own_EL U.vm h0 ∧ ∀ x ∈ ([] : List Addr), Safe Z own_EL U.vm h0 x) (fun _ _ _ _ _ => True) (fun _ U o U' => ∃ v L, o = .returned v ∧ Q_own_mk Z n1 c0 c1 c2 zc h0 n0 v U'.vm U'.heap L ∧ CHr Z own_EL U.vm U.heap U'.vm U'.heap ∧ ReturnedEndW U o U' L ({ frames := 4, cells := 6, slots := 12, locals := 66 } : Room).cells ({ frames := 4, cells := 6, slots := 12, locals := 66 } : Room).slots) := by
  refine MetFree.of_bodySF (plainFor_of_name pn_com_example_coruna_coruna_io_MarkupIsStartTagPinLaw) hisR ?_
  intro p e s m args below meth c s₁ Bd hml0 hP hK
  obtain ⟨rfl, hZ, hh, hCH, hSL⟩ := hP
  have hx := Bd.exec
  have hby := Bd.bytes
  have hml : c.maxLocals = 4 := hml0
  have hown : s.vm.findClass "com/example/coruna/coruna/io/MarkupIsStartTagPinLaw" = some m.cls := findClass_of_methodNamed Bd.named
  have hnm := (name_of_methodNamed Bd.named Bd.method).1
  have X0 : Stand p l e ({ frames := 4, cells := 6, slots := 12, locals := 66 } : Room) (s.setVm s.vm) m #[(.int n1), (.int c0), (.int c1), (.int c2)] below meth c s₁ [] 0 0 := Stand.of_body Bd
  have e0 : s₁.heap = h0 := by rw [← hh, Bd.state]; rfl
  have N0 := Fr.nil n0
  have zO := O0.1
  have zO2 := O0.2.1
  refine own_open (own_via (S' := s₁.setTop (mkF m 0 #[.val (.int n1), .val (.int c0), .val (.int c1), .val (.int c2)] [])) (fun t k => castTop (ef_own_mk m n1 c0 c1 c2) k) ?_)
  have hEL := own_EW hw
  have hS0 : s.Since s.vm h0.size := (State.WarmedH.refl s).since _
  have R0 : CHr Z own_EL s.vm h0 s.vm h0 := CHr.refl hCH
  have K0 : Keep h0 h0 [] := Keep.refl _ _
  refine own_via (S' := s₁.setTop (mkF m 1 #[.val (.int n1), .val (.int c0), .val (.int c1), .val (.int c2)] [(.int n1)])) (fun t k => XS.iloadN X0.here hx rfl (hb hby d1_0) rfl k) ?_
  by_cases hc1_1 : n1 = (0 : Int32)
  · -- yes
    refine own_via (S' := s₁.setTop (mkF m 4 #[.val (.int n1), .val (.int c0), .val (.int c1), .val (.int c2)] [])) (fun t k => XS.ifNo X0.here hx rfl (hb hby d1_1) rfl ((if0 _ _).trans (teq hc1_1).2) k) ?_
    obtain ⟨T2, h2, X2, e2, E2, A2, D2, -, st2⟩ := newO X0 hx hZ hown (wd7 hw) (wd8 hw) (wd9 hw) e0 (g := (mkF m 4 #[.val (.int n1), .val (.int c0), .val (.int c1), .val (.int c2)] [])) rfl (hb hby d1_4) (by decide) (by decide)
    obtain ⟨b2, g2⟩ : ∃ z, z = h0.size := ⟨_, rfl⟩
    rw [← g2] at A2 D2 st2
    have lt_b2 : h2.size > b2 := A2.lt
    have sz3 : h0.size ≤ h2.size := E2.1
    have O4 : Old Z n0 h2 := O0.ext E2
    have R5 : CHr Z own_EL s.vm h0 s.vm h2 := R0.trans (CHr.ext E2 R0.1)
    have SF_b2 : Safe Z own_EL s.vm h2 b2 := Safe.ext E2 R0.1 (Safe.new (Nat.le_of_eq g2.symm))
    have K6 : Keep h0 h2 [] := K0.ext E2
    have F2_coder : Fld Z h2 b2 "java/lang/String" "coder" "B" (.int (0 : Int32)) := D2 (Or.inr (wd34 hw)) (ty := .byte) (by decide)
    have F2_value : Fld Z h2 b2 "java/lang/String" "value" "[B" .null := D2 (Or.inr (wd36 hw)) (ty := (.array .byte)) (by decide)
    refine own_via (S' := T2.setTop (mkF m 7 #[.val (.int n1), .val (.int c0), .val (.int c1), .val (.int c2)] [(.ref b2)])) st2 ?_
    refine own_via (S' := T2.setTop (mkF m 8 #[.val (.int n1), .val (.int c0), .val (.int c1), .val (.int c2)] [(.ref b2), (.ref b2)])) (fun t k => XS.dup X2.here hx rfl (hb hby d1_7) rfl rfl k) ?_
    refine own_via (S' := T2.setTop (mkF m 9 #[.val (.int n1), .val (.int c0), .val (.int c1), .val (.int c2)] [(.int (0 : Int32)), (.ref b2), (.ref b2)])) (fun t k => XS.iconst X2.here hx rfl (hb hby d1_8) k) ?_
    obtain ⟨T7, h7, k7, X7, e7, E7, A7, st7⟩ := newP (aty := .char) X2 hx hZ (wd10 hw) e2 (g := (mkF m 9 #[.val (.int n1), .val (.int c0), .val (.int c1), .val (.int c2)] [(.int (0 : Int32)), (.ref b2), (.ref b2)])) rfl (hb hby d1_9) rfl (by decide : ¬ ((0 : Int32) < (0 : Int32))) (cap := 0) (by decide) (by decide) (by decide) (by decide)
    obtain ⟨b7, g7⟩ : ∃ z, z = h2.size := ⟨_, rfl⟩
    rw [← g7] at A7 st7
    have lt_b7 : h7.size > b7 := A7.lt
    have sz8 : h2.size ≤ h7.size := E7.1
    have O9 : Old Z n0 h7 := O4.ext E7
    have R10 : CHr Z own_EL s.vm h0 s.vm h7 := R5.trans (CHr.ext E7 R5.1)
    have K11 : Keep h0 h7 [] := K6.ext E7
    have V7 : Arv Z h7 b7 k7 .char (0 : Int32) [] (.int (0 : Int32)) := (Arv.new A7 (by decide)).pad (pad_rep [] (.int (0 : Int32)) 0)
    refine own_via (S' := T7.setTop (mkF m 11 #[.val (.int n1), .val (.int c0), .val (.int c1), .val (.int c2)] [(.ref b7), (.ref b2), (.ref b2)])) st7 ?_
    have cx13 : Exa Z h7 b2 "java/lang/String" := (A2.ext E7)
    have cx14 : Fld Z h7 b2 "java/lang/String" "value" "[B" .null := (F2_value.ext E7)
    have cx15 : Fld Z h7 b2 "java/lang/String" "coder" "B" (.int (0 : Int32)) := (F2_coder.ext E7)
    have hk12 : h0.size ≤ T7.heap.size := by rw [e7]; omega
    obtain ⟨_, _, ⟨T12, Lp12, kp12, np12⟩, -, X12, hS12, hgr12, ⟨Lc12, ⟨hQ12, R12q⟩, l12, y12, z12⟩, st12⟩ := X7.specialBackS hx (y := mt1) rfl hown (mvT hZ (wd11 hw)) (mvT hZ (wd12 hw)) (mvT hZ (wd13 hw)) (by decide) (own_backW (SL := []) (W := 1) (own_new1e l Z a0 hw [] b2 b7 k7 h7 n0 O9 cx13 cx14 cx15 V7 (by first | assumption | exact Ne.symm (by assumption) | omega | exact Nat.ne_of_lt (by omega) | exact Nat.ne_of_gt (by omega) | decide | exact Nat.le_of_ble_eq_true rfl)) hZ (wd13 hw) (wd9 hw) (by decide) (by decide) hEL R10.1 all0) (g := (mkF m 11 #[.val (.int n1), .val (.int c0), .val (.int c1), .val (.int c2)] [(.ref b7), (.ref b2), (.ref b2)])) rfl (by rw [hml]; rfl) (Steps.refl _) (a := b2) (argsL := [(.ref b7)]) (rest := [(.ref b2)]) (lenOf pd___C_V_325 rfl) rfl (by show 2 * 0 + _ ≤ _; exact Nat.le_of_eq rfl) (hb hby d1_11) (fun _ _ => ⟨rfl, e7, (by decide : 2 + 4 ≤ _), (by decide : 4 + 8 ≤ _)⟩)
    dsimp only [Pt.U, Pt.locs, Pt.cells, Pt.slots] at X12 l12 y12 z12 st12 hQ12 hS12 hgr12 R12q
    subst Lp12 kp12 np12
    obtain ⟨X12, hSn12, hZ, hown⟩ := rebS hS0 hk12 X12 hS12 hgr12 hZ hown
    obtain ⟨tb12, kb12, rfl, N12q, K12q, f12_0, f12_1, f12_2⟩ := hQ12
    have N12 := Fr.app N0 N12q
    have sz16 : h7.size ≤ T12.heap.size := K12q.1
    have R17 : CHr Z own_EL s.vm h0 T12.vm T12.heap := R10.trans R12q
    have O18 : Old Z n0 T12.heap := O9.keep K12q (allS (by omega : n0 ≤ b2) all0)
    have K19 : Keep h0 T12.heap [] := K11.trans K12q (allS (P := fun x => x ∈ [] ∨ h0.size ≤ x) (Or.inr (by omega)) all0)
    have lt20_tb12 : T12.heap.size > tb12 := f12_2.lt
    refine own_tr (S' := T12.setTop (mkF m 14 #[.val (.int n1), .val (.int c0), .val (.int c1), .val (.int c2)] [(.ref b2)])) st12 ?_
    have cx21 : Exa Z T12.heap b2 "java/lang/String" := (cx13.keep K12q)
    have RTR17 : CHr Z own_EL s.vm h0 T12.vm T12.heap := R17.trans (CHv.at X12 hZ hEL R17.1)
    have RXR17 : CHr Z own_EL s.vm s.heap T12.vm T12.heap := by rw [hh]; exact RTR17
    refine own_retW (Q := Q_own_mk Z n1 c0 c1 c2 zc h0 n0) (C := ({ frames := 4, cells := 6, slots := 12, locals := 66 } : Room).cells) (N := ({ frames := 4, cells := 6, slots := 12, locals := 66 } : Room).slots) X12 hSn12 (by omega) (v := some (.ref b2)) (fun h => by rw [Bd.returns] at h; cases h) Bd.notSynchronized ?_ RXR17 (by decide) (by decide) (fun fs hr => retOut X12 hx Bd.returns rfl (Or.inr (Or.inr (Or.inr (Or.inr ⟨rfl, rfl, rfl⟩)))) (hb hby d1_14) hr)
    show Q_own_mk Z n1 c0 c1 c2 zc h0 n0 _ T12.vm T12.heap _
    exact ⟨b2, tb12, kb12, rfl, N12, K19, cx21, f12_1, f12_0, (by rw [show (own_cs n1 c0 c1 c2) = [] from by simp [own_cs, hc1_1]]; exact f12_2)⟩
  · -- no
    refine own_via (S' := s₁.setTop (mkF m 15 #[.val (.int n1), .val (.int c0), .val (.int c1), .val (.int c2)] [])) (fun t k => XS.ifYes X0.here hx rfl (pc0 := 1) (pc' := 15) rfl (hb hby d1_1) rfl ((if0 _ _).trans (feq hc1_1).2) (by decide) (by decide) k) ?_
    refine own_via (S' := s₁.setTop (mkF m 16 #[.val (.int n1), .val (.int c0), .val (.int c1), .val (.int c2)] [(.int n1)])) (fun t k => XS.iloadN X0.here hx rfl (hb hby d1_15) rfl k) ?_
    refine own_via (S' := s₁.setTop (mkF m 17 #[.val (.int n1), .val (.int c0), .val (.int c1), .val (.int c2)] [(.int (1 : Int32)), (.int n1)])) (fun t k => XS.iconst X0.here hx rfl (hb hby d1_16) k) ?_
    by_cases hc17_22 : n1 = (1 : Int32)
    · -- yes
      refine own_via (S' := s₁.setTop (mkF m 20 #[.val (.int n1), .val (.int c0), .val (.int c1), .val (.int c2)] [])) (fun t k => XS.icmpNo X0.here hx rfl (hb hby d1_17) rfl (teq hc17_22).2 k) ?_
      obtain ⟨T23, h23, X23, e23, E23, A23, D23, -, st23⟩ := newO X0 hx hZ hown (wd7 hw) (wd8 hw) (wd9 hw) e0 (g := (mkF m 20 #[.val (.int n1), .val (.int c0), .val (.int c1), .val (.int c2)] [])) rfl (hb hby d1_20) (by decide) (by decide)
      obtain ⟨b23, g23⟩ : ∃ z, z = h0.size := ⟨_, rfl⟩
      rw [← g23] at A23 D23 st23
      have lt_b23 : h23.size > b23 := A23.lt
      have sz24 : h0.size ≤ h23.size := E23.1
      have O25 : Old Z n0 h23 := O0.ext E23
      have R26 : CHr Z own_EL s.vm h0 s.vm h23 := R0.trans (CHr.ext E23 R0.1)
      have SF_b23 : Safe Z own_EL s.vm h23 b23 := Safe.ext E23 R0.1 (Safe.new (Nat.le_of_eq g23.symm))
      have K27 : Keep h0 h23 [] := K0.ext E23
      have F23_coder : Fld Z h23 b23 "java/lang/String" "coder" "B" (.int (0 : Int32)) := D23 (Or.inr (wd34 hw)) (ty := .byte) (by decide)
      have F23_value : Fld Z h23 b23 "java/lang/String" "value" "[B" .null := D23 (Or.inr (wd36 hw)) (ty := (.array .byte)) (by decide)
      refine own_via (S' := T23.setTop (mkF m 23 #[.val (.int n1), .val (.int c0), .val (.int c1), .val (.int c2)] [(.ref b23)])) st23 ?_
      refine own_via (S' := T23.setTop (mkF m 24 #[.val (.int n1), .val (.int c0), .val (.int c1), .val (.int c2)] [(.ref b23), (.ref b23)])) (fun t k => XS.dup X23.here hx rfl (hb hby d1_23) rfl rfl k) ?_
      refine own_via (S' := T23.setTop (mkF m 25 #[.val (.int n1), .val (.int c0), .val (.int c1), .val (.int c2)] [(.int (1 : Int32)), (.ref b23), (.ref b23)])) (fun t k => XS.iconst X23.here hx rfl (hb hby d1_24) k) ?_
      obtain ⟨T28, h28, k28, X28, e28, E28, A28, st28⟩ := newP (aty := .char) X23 hx hZ (wd10 hw) e23 (g := (mkF m 25 #[.val (.int n1), .val (.int c0), .val (.int c1), .val (.int c2)] [(.int (1 : Int32)), (.ref b23), (.ref b23)])) rfl (hb hby d1_25) rfl (by decide : ¬ ((1 : Int32) < (0 : Int32))) (cap := 1) (by decide) (by decide) (by decide) (by decide)
      obtain ⟨b28, g28⟩ : ∃ z, z = h23.size := ⟨_, rfl⟩
      rw [← g28] at A28 st28
      have lt_b28 : h28.size > b28 := A28.lt
      have sz29 : h23.size ≤ h28.size := E28.1
      have O30 : Old Z n0 h28 := O25.ext E28
      have R31 : CHr Z own_EL s.vm h0 s.vm h28 := R26.trans (CHr.ext E28 R26.1)
      have K32 : Keep h0 h28 [] := K27.ext E28
      have V28 : Arv Z h28 b28 k28 .char (1 : Int32) [(.int (0 : Int32))] (.int (0 : Int32)) := (Arv.new A28 (by decide)).pad (pad_rep [] (.int (0 : Int32)) 1)
      refine own_via (S' := T28.setTop (mkF m 27 #[.val (.int n1), .val (.int c0), .val (.int c1), .val (.int c2)] [(.ref b28), (.ref b23), (.ref b23)])) st28 ?_
      refine own_via (S' := T28.setTop (mkF m 28 #[.val (.int n1), .val (.int c0), .val (.int c1), .val (.int c2)] [(.ref b28), (.ref b28), (.ref b23), (.ref b23)])) (fun t k => XS.dup X28.here hx rfl (hb hby d1_27) rfl rfl k) ?_
      refine own_via (S' := T28.setTop (mkF m 29 #[.val (.int n1), .val (.int c0), .val (.int c1), .val (.int c2)] [(.int (0 : Int32)), (.ref b28), (.ref b28), (.ref b23), (.ref b23)])) (fun t k => XS.iconst X28.here hx rfl (hb hby d1_28) k) ?_
      refine own_via (S' := T28.setTop (mkF m 30 #[.val (.int n1), .val (.int c0), .val (.int c1), .val (.int c2)] [(.int c0), (.int (0 : Int32)), (.ref b28), (.ref b28), (.ref b23), (.ref b23)])) (fun t k => XS.iloadN X28.here hx rfl (hb hby d1_29) rfl k) ?_
      obtain ⟨cl33, Ar33, q33, S33, M33, H33, U33⟩ := id V28
      obtain ⟨T33, h33, X33, e33, W33, st33⟩ := stC X28 hx hZ e28 Ar33 (j := (0 : Int32)) (inb_of S33 ⟨by decide, by decide⟩) (g := (mkF m 30 #[.val (.int n1), .val (.int c0), .val (.int c1), .val (.int c2)] [(.int c0), (.int (0 : Int32)), (.ref b28), (.ref b28), (.ref b23), (.ref b23)])) rfl rfl (hb hby d1_30)
      have sf33 : Safe Z own_EL s.vm h28 b28 := (Safe.arv hZ.alike V28 (by decide))
      have sz34 : h28.size ≤ h33.size := Nat.le_of_eq W33.size.symm
      have R35 : CHr Z own_EL s.vm h0 s.vm h33 := R31.trans (CHr.wr W33 sf33 R31.1)
      have O36 : Old Z n0 h33 := O30.wr W33 (by omega : n0 ≤ b28)
      have N33 := Fr.snoc X33 N0 (by omega : n0 ≤ b28)
      have K37 : Keep h0 h33 [] := K32.wr W33 (Or.inr (by omega : h0.size ≤ b28))
      rw [own_narc r0] at W33
      have V33 : Arv Z h33 b28 k28 .char (1 : Int32) [(.int c0)] (.int (0 : Int32)) := Arv.set Ar33 q33 S33 M33 H33 U33 (own_fitc r0) W33 0 rfl (Nat.le_of_ble_eq_true rfl)
      refine own_via (S' := T33.setTop (mkF m 31 #[.val (.int n1), .val (.int c0), .val (.int c1), .val (.int c2)] [(.ref b28), (.ref b23), (.ref b23)])) st33 ?_
      have cx39 : Exa Z h33 b23 "java/lang/String" := (Exa.wr W33 (A23.ext E28))
      have ne_b23_b28 : b23 ≠ b28 := by first | exact (Exa.neArv cx39 V33 (wd8 hw)) | exact Nat.ne_of_lt (by omega) | exact Nat.ne_of_gt (by omega)
      have cx40 : Fld Z h33 b23 "java/lang/String" "value" "[B" .null := (Fld.other W33 (F23_value.ext E28) (Or.inl ne_b23_b28))
      have cx41 : Fld Z h33 b23 "java/lang/String" "coder" "B" (.int (0 : Int32)) := (Fld.other W33 (F23_coder.ext E28) (Or.inl ne_b23_b28))
      have cx42 : Sta Z h33 "java/lang/String" "COMPACT_STRINGS" "Z" (.int zc) := zf_S_java_lang_String_COMPACT_STRINGS.ext O36.2
      have hws38 := own_mw hw
      have hp38 : ∀ c ∈ ([c0] : List Int32), ¬ c < 0 ∧ ¬ (255 : Int32) < c := by
        intro c hc
        simp only [List.mem_cons, List.not_mem_nil, or_false] at hc
        rcases hc with rfl
        · exact r0
      obtain ⟨_, _, ⟨T38, Lp38, kp38, np38⟩, -, X38, ⟨Lc38, hQ38, l38, y38, z38⟩, st38⟩ := X33.specialBack hx (y := mt1) rfl hown (mvT hZ (wd11 hw)) (mvT hZ (wd12 hw)) (mvT hZ (wd13 hw)) (by decide) (StrChars.Road.backV (W := 1) hZ hws38 (kI := 4) (wd8 hw) (cs := ([c0] : List Int32)) (bs := (([c0] : List Int32)).map (fun c => c.toInt8.toInt32)) (n := 1) (by omega : n0 ≤ b23) (by omega : n0 ≤ h33.size) cx39 cx40 cx41 V33 cx42 hzc rfl rfl (by decide) (by decide) hp38 rfl (by decide) (by decide)) (g := (mkF m 31 #[.val (.int n1), .val (.int c0), .val (.int c1), .val (.int c2)] [(.ref b28), (.ref b23), (.ref b23)])) rfl (by rw [hml]; rfl) (Steps.refl _) (a := b23) (argsL := [(.ref b28)]) (rest := [(.ref b23)]) (lenOf pd___C_V_325 rfl) rfl (by show 2 * 0 + _ ≤ _; exact Nat.le_of_eq rfl) (hb hby d1_31) (fun _ _ => ⟨rfl, e33, (by decide : 2 + 1 ≤ _), (by decide : 5 + 1 ≤ _)⟩)
      dsimp only [Pt.U, Pt.locs, Pt.cells, Pt.slots] at X38 l38 y38 z38 st38 hQ38
      subst Lp38 kp38 np38
      obtain ⟨rfl, N38q, K38q, f38_0, f38_1, t38, kb38, tg38, tg38', tn38, f38_2, f38_3⟩ := hQ38
      have N38 := Fr.app N33 N38q
      have cx43 : Safe Z own_EL s.vm h33 b23 := (Safe.wr W33 sf33 R31.1 (Safe.ext E28 R26.1 SF_b23))
      have sf38 : ∀ x ∈ ([b23] : List Addr), Safe Z own_EL s.vm h33 x := (sfS cx43 sf0)
      have sz44 : h33.size ≤ T38.heap.size := K38q.1
      have R45 : CHr Z own_EL s.vm h0 s.vm T38.heap := R35.trans (CHr.keep K38q sf38 R35.1)
      have O46 : Old Z n0 T38.heap := O36.keep K38q (allS (by omega : n0 ≤ b23) all0)
      have K47 : Keep h0 T38.heap [] := K37.trans K38q (allS (P := fun x => x ∈ [] ∨ h0.size ≤ x) (Or.inr (by omega)) all0)
      have lt_t38 : T38.heap.size > t38 := f38_3.lt
      refine own_tr (S' := T38.setTop (mkF m 34 #[.val (.int n1), .val (.int c0), .val (.int c1), .val (.int c2)] [(.ref b23)])) st38 ?_
      have RTR45 : CHr Z own_EL s.vm h0 T38.vm T38.heap := R45.trans (CHv.at X38 hZ hEL R45.1)
      have RXR45 : CHr Z own_EL s.vm s.heap T38.vm T38.heap := by rw [hh]; exact RTR45
      refine own_retW (Q := Q_own_mk Z n1 c0 c1 c2 zc h0 n0) (C := ({ frames := 4, cells := 6, slots := 12, locals := 66 } : Room).cells) (N := ({ frames := 4, cells := 6, slots := 12, locals := 66 } : Room).slots) X38 hS0 (by omega) (v := some (.ref b23)) (fun h => by rw [Bd.returns] at h; cases h) Bd.notSynchronized ?_ RXR45 (by decide) (by decide) (fun fs hr => retOut X38 hx Bd.returns rfl (Or.inr (Or.inr (Or.inr (Or.inr ⟨rfl, rfl, rfl⟩)))) (hb hby d1_34) hr)
      show Q_own_mk Z n1 c0 c1 c2 zc h0 n0 _ T38.vm T38.heap _
      exact ⟨b23, t38, kb38, rfl, N38, K47, f38_0, f38_1, f38_2, (by rw [show (own_cs n1 c0 c1 c2) = [c0] from by simp [own_cs, hc1_1, hc17_22]]; exact f38_3)⟩
    · -- no
      refine own_via (S' := s₁.setTop (mkF m 35 #[.val (.int n1), .val (.int c0), .val (.int c1), .val (.int c2)] [])) (fun t k => XS.icmpYes X0.here hx rfl (pc0 := 17) (pc' := 35) rfl (hb hby d1_17) rfl (feq hc17_22).2 (by decide) (by decide) k) ?_
      refine own_via (S' := s₁.setTop (mkF m 36 #[.val (.int n1), .val (.int c0), .val (.int c1), .val (.int c2)] [(.int n1)])) (fun t k => XS.iloadN X0.here hx rfl (hb hby d1_35) rfl k) ?_
      refine own_via (S' := s₁.setTop (mkF m 37 #[.val (.int n1), .val (.int c0), .val (.int c1), .val (.int c2)] [(.int (2 : Int32)), (.int n1)])) (fun t k => XS.iconst X0.here hx rfl (hb hby d1_36) k) ?_
      by_cases hc37_48 : n1 = (2 : Int32)
      · -- yes
        refine own_via (S' := s₁.setTop (mkF m 40 #[.val (.int n1), .val (.int c0), .val (.int c1), .val (.int c2)] [])) (fun t k => XS.icmpNo X0.here hx rfl (hb hby d1_37) rfl (teq hc37_48).2 k) ?_
        obtain ⟨T49, h49, X49, e49, E49, A49, D49, -, st49⟩ := newO X0 hx hZ hown (wd7 hw) (wd8 hw) (wd9 hw) e0 (g := (mkF m 40 #[.val (.int n1), .val (.int c0), .val (.int c1), .val (.int c2)] [])) rfl (hb hby d1_40) (by decide) (by decide)
        obtain ⟨b49, g49⟩ : ∃ z, z = h0.size := ⟨_, rfl⟩
        rw [← g49] at A49 D49 st49
        have lt_b49 : h49.size > b49 := A49.lt
        have sz50 : h0.size ≤ h49.size := E49.1
        have O51 : Old Z n0 h49 := O0.ext E49
        have R52 : CHr Z own_EL s.vm h0 s.vm h49 := R0.trans (CHr.ext E49 R0.1)
        have SF_b49 : Safe Z own_EL s.vm h49 b49 := Safe.ext E49 R0.1 (Safe.new (Nat.le_of_eq g49.symm))
        have K53 : Keep h0 h49 [] := K0.ext E49
        have F49_coder : Fld Z h49 b49 "java/lang/String" "coder" "B" (.int (0 : Int32)) := D49 (Or.inr (wd34 hw)) (ty := .byte) (by decide)
        have F49_value : Fld Z h49 b49 "java/lang/String" "value" "[B" .null := D49 (Or.inr (wd36 hw)) (ty := (.array .byte)) (by decide)
        refine own_via (S' := T49.setTop (mkF m 43 #[.val (.int n1), .val (.int c0), .val (.int c1), .val (.int c2)] [(.ref b49)])) st49 ?_
        refine own_via (S' := T49.setTop (mkF m 44 #[.val (.int n1), .val (.int c0), .val (.int c1), .val (.int c2)] [(.ref b49), (.ref b49)])) (fun t k => XS.dup X49.here hx rfl (hb hby d1_43) rfl rfl k) ?_
        refine own_via (S' := T49.setTop (mkF m 45 #[.val (.int n1), .val (.int c0), .val (.int c1), .val (.int c2)] [(.int (2 : Int32)), (.ref b49), (.ref b49)])) (fun t k => XS.iconst X49.here hx rfl (hb hby d1_44) k) ?_
        obtain ⟨T54, h54, k54, X54, e54, E54, A54, st54⟩ := newP (aty := .char) X49 hx hZ (wd10 hw) e49 (g := (mkF m 45 #[.val (.int n1), .val (.int c0), .val (.int c1), .val (.int c2)] [(.int (2 : Int32)), (.ref b49), (.ref b49)])) rfl (hb hby d1_45) rfl (by decide : ¬ ((2 : Int32) < (0 : Int32))) (cap := 2) (by decide) (by decide) (by decide) (by decide)
        obtain ⟨b54, g54⟩ : ∃ z, z = h49.size := ⟨_, rfl⟩
        rw [← g54] at A54 st54
        have lt_b54 : h54.size > b54 := A54.lt
        have sz55 : h49.size ≤ h54.size := E54.1
        have O56 : Old Z n0 h54 := O51.ext E54
        have R57 : CHr Z own_EL s.vm h0 s.vm h54 := R52.trans (CHr.ext E54 R52.1)
        have K58 : Keep h0 h54 [] := K53.ext E54
        have V54 : Arv Z h54 b54 k54 .char (2 : Int32) [(.int (0 : Int32)), (.int (0 : Int32))] (.int (0 : Int32)) := (Arv.new A54 (by decide)).pad (pad_rep [] (.int (0 : Int32)) 2)
        refine own_via (S' := T54.setTop (mkF m 47 #[.val (.int n1), .val (.int c0), .val (.int c1), .val (.int c2)] [(.ref b54), (.ref b49), (.ref b49)])) st54 ?_
        refine own_via (S' := T54.setTop (mkF m 48 #[.val (.int n1), .val (.int c0), .val (.int c1), .val (.int c2)] [(.ref b54), (.ref b54), (.ref b49), (.ref b49)])) (fun t k => XS.dup X54.here hx rfl (hb hby d1_47) rfl rfl k) ?_
        refine own_via (S' := T54.setTop (mkF m 49 #[.val (.int n1), .val (.int c0), .val (.int c1), .val (.int c2)] [(.int (0 : Int32)), (.ref b54), (.ref b54), (.ref b49), (.ref b49)])) (fun t k => XS.iconst X54.here hx rfl (hb hby d1_48) k) ?_
        refine own_via (S' := T54.setTop (mkF m 50 #[.val (.int n1), .val (.int c0), .val (.int c1), .val (.int c2)] [(.int c0), (.int (0 : Int32)), (.ref b54), (.ref b54), (.ref b49), (.ref b49)])) (fun t k => XS.iloadN X54.here hx rfl (hb hby d1_49) rfl k) ?_
        obtain ⟨cl59, Ar59, q59, S59, M59, H59, U59⟩ := id V54
        obtain ⟨T59, h59, X59, e59, W59, st59⟩ := stC X54 hx hZ e54 Ar59 (j := (0 : Int32)) (inb_of S59 ⟨by decide, by decide⟩) (g := (mkF m 50 #[.val (.int n1), .val (.int c0), .val (.int c1), .val (.int c2)] [(.int c0), (.int (0 : Int32)), (.ref b54), (.ref b54), (.ref b49), (.ref b49)])) rfl rfl (hb hby d1_50)
        have sf59 : Safe Z own_EL s.vm h54 b54 := (Safe.arv hZ.alike V54 (by decide))
        have sz60 : h54.size ≤ h59.size := Nat.le_of_eq W59.size.symm
        have R61 : CHr Z own_EL s.vm h0 s.vm h59 := R57.trans (CHr.wr W59 sf59 R57.1)
        have O62 : Old Z n0 h59 := O56.wr W59 (by omega : n0 ≤ b54)
        have N59 := Fr.snoc X59 N0 (by omega : n0 ≤ b54)
        have K63 : Keep h0 h59 [] := K58.wr W59 (Or.inr (by omega : h0.size ≤ b54))
        rw [own_narc r0] at W59
        have V59 : Arv Z h59 b54 k54 .char (2 : Int32) [(.int c0), (.int (0 : Int32))] (.int (0 : Int32)) := Arv.set Ar59 q59 S59 M59 H59 U59 (own_fitc r0) W59 0 rfl (Nat.le_of_ble_eq_true rfl)
        refine own_via (S' := T59.setTop (mkF m 51 #[.val (.int n1), .val (.int c0), .val (.int c1), .val (.int c2)] [(.ref b54), (.ref b49), (.ref b49)])) st59 ?_
        refine own_via (S' := T59.setTop (mkF m 52 #[.val (.int n1), .val (.int c0), .val (.int c1), .val (.int c2)] [(.ref b54), (.ref b54), (.ref b49), (.ref b49)])) (fun t k => XS.dup X59.here hx rfl (hb hby d1_51) rfl rfl k) ?_
        refine own_via (S' := T59.setTop (mkF m 53 #[.val (.int n1), .val (.int c0), .val (.int c1), .val (.int c2)] [(.int (1 : Int32)), (.ref b54), (.ref b54), (.ref b49), (.ref b49)])) (fun t k => XS.iconst X59.here hx rfl (hb hby d1_52) k) ?_
        refine own_via (S' := T59.setTop (mkF m 54 #[.val (.int n1), .val (.int c0), .val (.int c1), .val (.int c2)] [(.int c1), (.int (1 : Int32)), (.ref b54), (.ref b54), (.ref b49), (.ref b49)])) (fun t k => XS.iloadN X59.here hx rfl (hb hby d1_53) rfl k) ?_
        obtain ⟨cl64, Ar64, q64, S64, M64, H64, U64⟩ := id V59
        obtain ⟨T64, h64, X64, e64, W64, st64⟩ := stC X59 hx hZ e59 Ar64 (j := (1 : Int32)) (inb_of S64 ⟨by decide, by decide⟩) (g := (mkF m 54 #[.val (.int n1), .val (.int c0), .val (.int c1), .val (.int c2)] [(.int c1), (.int (1 : Int32)), (.ref b54), (.ref b54), (.ref b49), (.ref b49)])) rfl rfl (hb hby d1_54)
        have sf64 : Safe Z own_EL s.vm h59 b54 := (Safe.arv hZ.alike V59 (by decide))
        have sz65 : h59.size ≤ h64.size := Nat.le_of_eq W64.size.symm
        have R66 : CHr Z own_EL s.vm h0 s.vm h64 := R61.trans (CHr.wr W64 sf64 R61.1)
        have O67 : Old Z n0 h64 := O62.wr W64 (by omega : n0 ≤ b54)
        have N64 := Fr.snoc X64 N59 (by omega : n0 ≤ b54)
        have K68 : Keep h0 h64 [] := K63.wr W64 (Or.inr (by omega : h0.size ≤ b54))
        rw [own_narc r1] at W64
        have V64 : Arv Z h64 b54 k54 .char (2 : Int32) [(.int c0), (.int c1)] (.int (0 : Int32)) := Arv.set Ar64 q64 S64 M64 H64 U64 (own_fitc r1) W64 1 rfl (Nat.le_of_ble_eq_true rfl)
        refine own_via (S' := T64.setTop (mkF m 55 #[.val (.int n1), .val (.int c0), .val (.int c1), .val (.int c2)] [(.ref b54), (.ref b49), (.ref b49)])) st64 ?_
        have cx70 : Exa Z h64 b49 "java/lang/String" := (Exa.wr W64 (Exa.wr W59 (A49.ext E54)))
        have ne_b49_b54 : b49 ≠ b54 := by first | exact (Exa.neArv cx70 V64 (wd8 hw)) | exact Nat.ne_of_lt (by omega) | exact Nat.ne_of_gt (by omega)
        have cx71 : Fld Z h64 b49 "java/lang/String" "value" "[B" .null := (Fld.other W64 (Fld.other W59 (F49_value.ext E54) (Or.inl ne_b49_b54)) (Or.inl ne_b49_b54))
        have cx72 : Fld Z h64 b49 "java/lang/String" "coder" "B" (.int (0 : Int32)) := (Fld.other W64 (Fld.other W59 (F49_coder.ext E54) (Or.inl ne_b49_b54)) (Or.inl ne_b49_b54))
        have cx73 : Sta Z h64 "java/lang/String" "COMPACT_STRINGS" "Z" (.int zc) := zf_S_java_lang_String_COMPACT_STRINGS.ext O67.2
        have hws69 := own_mw hw
        have hp69 : ∀ c ∈ ([c0, c1] : List Int32), ¬ c < 0 ∧ ¬ (255 : Int32) < c := by
          intro c hc
          simp only [List.mem_cons, List.not_mem_nil, or_false] at hc
          rcases hc with rfl | rfl
          · exact r0
          · exact r1
        obtain ⟨_, _, ⟨T69, Lp69, kp69, np69⟩, -, X69, ⟨Lc69, hQ69, l69, y69, z69⟩, st69⟩ := X64.specialBack hx (y := mt1) rfl hown (mvT hZ (wd11 hw)) (mvT hZ (wd12 hw)) (mvT hZ (wd13 hw)) (by decide) (StrChars.Road.backV (W := 1) hZ hws69 (kI := 4) (wd8 hw) (cs := ([c0, c1] : List Int32)) (bs := (([c0, c1] : List Int32)).map (fun c => c.toInt8.toInt32)) (n := 2) (by omega : n0 ≤ b49) (by omega : n0 ≤ h64.size) cx70 cx71 cx72 V64 cx73 hzc rfl rfl (by decide) (by decide) hp69 rfl (by decide) (by decide)) (g := (mkF m 55 #[.val (.int n1), .val (.int c0), .val (.int c1), .val (.int c2)] [(.ref b54), (.ref b49), (.ref b49)])) rfl (by rw [hml]; rfl) (Steps.refl _) (a := b49) (argsL := [(.ref b54)]) (rest := [(.ref b49)]) (lenOf pd___C_V_325 rfl) rfl (by show 2 * 0 + _ ≤ _; exact Nat.le_of_eq rfl) (hb hby d1_55) (fun _ _ => ⟨rfl, e64, (by decide : 2 + 1 ≤ _), (by decide : 6 + 2 ≤ _)⟩)
        dsimp only [Pt.U, Pt.locs, Pt.cells, Pt.slots] at X69 l69 y69 z69 st69 hQ69
        subst Lp69 kp69 np69
        obtain ⟨rfl, N69q, K69q, f69_0, f69_1, t69, kb69, tg69, tg69', tn69, f69_2, f69_3⟩ := hQ69
        have N69 := Fr.app N64 N69q
        have cx74 : Safe Z own_EL s.vm h64 b49 := (Safe.wr W64 sf64 R61.1 (Safe.wr W59 sf59 R57.1 (Safe.ext E54 R52.1 SF_b49)))
        have sf69 : ∀ x ∈ ([b49] : List Addr), Safe Z own_EL s.vm h64 x := (sfS cx74 sf0)
        have sz75 : h64.size ≤ T69.heap.size := K69q.1
        have R76 : CHr Z own_EL s.vm h0 s.vm T69.heap := R66.trans (CHr.keep K69q sf69 R66.1)
        have O77 : Old Z n0 T69.heap := O67.keep K69q (allS (by omega : n0 ≤ b49) all0)
        have K78 : Keep h0 T69.heap [] := K68.trans K69q (allS (P := fun x => x ∈ [] ∨ h0.size ≤ x) (Or.inr (by omega)) all0)
        have lt_t69 : T69.heap.size > t69 := f69_3.lt
        refine own_tr (S' := T69.setTop (mkF m 58 #[.val (.int n1), .val (.int c0), .val (.int c1), .val (.int c2)] [(.ref b49)])) st69 ?_
        have RTR76 : CHr Z own_EL s.vm h0 T69.vm T69.heap := R76.trans (CHv.at X69 hZ hEL R76.1)
        have RXR76 : CHr Z own_EL s.vm s.heap T69.vm T69.heap := by rw [hh]; exact RTR76
        refine own_retW (Q := Q_own_mk Z n1 c0 c1 c2 zc h0 n0) (C := ({ frames := 4, cells := 6, slots := 12, locals := 66 } : Room).cells) (N := ({ frames := 4, cells := 6, slots := 12, locals := 66 } : Room).slots) X69 hS0 (by omega) (v := some (.ref b49)) (fun h => by rw [Bd.returns] at h; cases h) Bd.notSynchronized ?_ RXR76 (by decide) (by decide) (fun fs hr => retOut X69 hx Bd.returns rfl (Or.inr (Or.inr (Or.inr (Or.inr ⟨rfl, rfl, rfl⟩)))) (hb hby d1_58) hr)
        show Q_own_mk Z n1 c0 c1 c2 zc h0 n0 _ T69.vm T69.heap _
        exact ⟨b49, t69, kb69, rfl, N69, K78, f69_0, f69_1, f69_2, (by rw [show (own_cs n1 c0 c1 c2) = [c0, c1] from by simp [own_cs, hc1_1, hc17_22, hc37_48]]; exact f69_3)⟩
      · -- no
        refine own_via (S' := s₁.setTop (mkF m 59 #[.val (.int n1), .val (.int c0), .val (.int c1), .val (.int c2)] [])) (fun t k => XS.icmpYes X0.here hx rfl (pc0 := 37) (pc' := 59) rfl (hb hby d1_37) rfl (feq hc37_48).2 (by decide) (by decide) k) ?_
        obtain ⟨T79, h79, X79, e79, E79, A79, D79, -, st79⟩ := newO X0 hx hZ hown (wd7 hw) (wd8 hw) (wd9 hw) e0 (g := (mkF m 59 #[.val (.int n1), .val (.int c0), .val (.int c1), .val (.int c2)] [])) rfl (hb hby d1_59) (by decide) (by decide)
        obtain ⟨b79, g79⟩ : ∃ z, z = h0.size := ⟨_, rfl⟩
        rw [← g79] at A79 D79 st79
        have lt_b79 : h79.size > b79 := A79.lt
        have sz80 : h0.size ≤ h79.size := E79.1
        have O81 : Old Z n0 h79 := O0.ext E79
        have R82 : CHr Z own_EL s.vm h0 s.vm h79 := R0.trans (CHr.ext E79 R0.1)
        have SF_b79 : Safe Z own_EL s.vm h79 b79 := Safe.ext E79 R0.1 (Safe.new (Nat.le_of_eq g79.symm))
        have K83 : Keep h0 h79 [] := K0.ext E79
        have F79_coder : Fld Z h79 b79 "java/lang/String" "coder" "B" (.int (0 : Int32)) := D79 (Or.inr (wd34 hw)) (ty := .byte) (by decide)
        have F79_value : Fld Z h79 b79 "java/lang/String" "value" "[B" .null := D79 (Or.inr (wd36 hw)) (ty := (.array .byte)) (by decide)
        refine own_via (S' := T79.setTop (mkF m 62 #[.val (.int n1), .val (.int c0), .val (.int c1), .val (.int c2)] [(.ref b79)])) st79 ?_
        refine own_via (S' := T79.setTop (mkF m 63 #[.val (.int n1), .val (.int c0), .val (.int c1), .val (.int c2)] [(.ref b79), (.ref b79)])) (fun t k => XS.dup X79.here hx rfl (hb hby d1_62) rfl rfl k) ?_
        refine own_via (S' := T79.setTop (mkF m 64 #[.val (.int n1), .val (.int c0), .val (.int c1), .val (.int c2)] [(.int (3 : Int32)), (.ref b79), (.ref b79)])) (fun t k => XS.iconst X79.here hx rfl (hb hby d1_63) k) ?_
        obtain ⟨T84, h84, k84, X84, e84, E84, A84, st84⟩ := newP (aty := .char) X79 hx hZ (wd10 hw) e79 (g := (mkF m 64 #[.val (.int n1), .val (.int c0), .val (.int c1), .val (.int c2)] [(.int (3 : Int32)), (.ref b79), (.ref b79)])) rfl (hb hby d1_64) rfl (by decide : ¬ ((3 : Int32) < (0 : Int32))) (cap := 3) (by decide) (by decide) (by decide) (by decide)
        obtain ⟨b84, g84⟩ : ∃ z, z = h79.size := ⟨_, rfl⟩
        rw [← g84] at A84 st84
        have lt_b84 : h84.size > b84 := A84.lt
        have sz85 : h79.size ≤ h84.size := E84.1
        have O86 : Old Z n0 h84 := O81.ext E84
        have R87 : CHr Z own_EL s.vm h0 s.vm h84 := R82.trans (CHr.ext E84 R82.1)
        have K88 : Keep h0 h84 [] := K83.ext E84
        have V84 : Arv Z h84 b84 k84 .char (3 : Int32) [(.int (0 : Int32)), (.int (0 : Int32)), (.int (0 : Int32))] (.int (0 : Int32)) := (Arv.new A84 (by decide)).pad (pad_rep [] (.int (0 : Int32)) 3)
        refine own_via (S' := T84.setTop (mkF m 66 #[.val (.int n1), .val (.int c0), .val (.int c1), .val (.int c2)] [(.ref b84), (.ref b79), (.ref b79)])) st84 ?_
        refine own_via (S' := T84.setTop (mkF m 67 #[.val (.int n1), .val (.int c0), .val (.int c1), .val (.int c2)] [(.ref b84), (.ref b84), (.ref b79), (.ref b79)])) (fun t k => XS.dup X84.here hx rfl (hb hby d1_66) rfl rfl k) ?_
        refine own_via (S' := T84.setTop (mkF m 68 #[.val (.int n1), .val (.int c0), .val (.int c1), .val (.int c2)] [(.int (0 : Int32)), (.ref b84), (.ref b84), (.ref b79), (.ref b79)])) (fun t k => XS.iconst X84.here hx rfl (hb hby d1_67) k) ?_
        refine own_via (S' := T84.setTop (mkF m 69 #[.val (.int n1), .val (.int c0), .val (.int c1), .val (.int c2)] [(.int c0), (.int (0 : Int32)), (.ref b84), (.ref b84), (.ref b79), (.ref b79)])) (fun t k => XS.iloadN X84.here hx rfl (hb hby d1_68) rfl k) ?_
        obtain ⟨cl89, Ar89, q89, S89, M89, H89, U89⟩ := id V84
        obtain ⟨T89, h89, X89, e89, W89, st89⟩ := stC X84 hx hZ e84 Ar89 (j := (0 : Int32)) (inb_of S89 ⟨by decide, by decide⟩) (g := (mkF m 69 #[.val (.int n1), .val (.int c0), .val (.int c1), .val (.int c2)] [(.int c0), (.int (0 : Int32)), (.ref b84), (.ref b84), (.ref b79), (.ref b79)])) rfl rfl (hb hby d1_69)
        have sf89 : Safe Z own_EL s.vm h84 b84 := (Safe.arv hZ.alike V84 (by decide))
        have sz90 : h84.size ≤ h89.size := Nat.le_of_eq W89.size.symm
        have R91 : CHr Z own_EL s.vm h0 s.vm h89 := R87.trans (CHr.wr W89 sf89 R87.1)
        have O92 : Old Z n0 h89 := O86.wr W89 (by omega : n0 ≤ b84)
        have N89 := Fr.snoc X89 N0 (by omega : n0 ≤ b84)
        have K93 : Keep h0 h89 [] := K88.wr W89 (Or.inr (by omega : h0.size ≤ b84))
        rw [own_narc r0] at W89
        have V89 : Arv Z h89 b84 k84 .char (3 : Int32) [(.int c0), (.int (0 : Int32)), (.int (0 : Int32))] (.int (0 : Int32)) := Arv.set Ar89 q89 S89 M89 H89 U89 (own_fitc r0) W89 0 rfl (Nat.le_of_ble_eq_true rfl)
        refine own_via (S' := T89.setTop (mkF m 70 #[.val (.int n1), .val (.int c0), .val (.int c1), .val (.int c2)] [(.ref b84), (.ref b79), (.ref b79)])) st89 ?_
        refine own_via (S' := T89.setTop (mkF m 71 #[.val (.int n1), .val (.int c0), .val (.int c1), .val (.int c2)] [(.ref b84), (.ref b84), (.ref b79), (.ref b79)])) (fun t k => XS.dup X89.here hx rfl (hb hby d1_70) rfl rfl k) ?_
        refine own_via (S' := T89.setTop (mkF m 72 #[.val (.int n1), .val (.int c0), .val (.int c1), .val (.int c2)] [(.int (1 : Int32)), (.ref b84), (.ref b84), (.ref b79), (.ref b79)])) (fun t k => XS.iconst X89.here hx rfl (hb hby d1_71) k) ?_
        refine own_via (S' := T89.setTop (mkF m 73 #[.val (.int n1), .val (.int c0), .val (.int c1), .val (.int c2)] [(.int c1), (.int (1 : Int32)), (.ref b84), (.ref b84), (.ref b79), (.ref b79)])) (fun t k => XS.iloadN X89.here hx rfl (hb hby d1_72) rfl k) ?_
        obtain ⟨cl94, Ar94, q94, S94, M94, H94, U94⟩ := id V89
        obtain ⟨T94, h94, X94, e94, W94, st94⟩ := stC X89 hx hZ e89 Ar94 (j := (1 : Int32)) (inb_of S94 ⟨by decide, by decide⟩) (g := (mkF m 73 #[.val (.int n1), .val (.int c0), .val (.int c1), .val (.int c2)] [(.int c1), (.int (1 : Int32)), (.ref b84), (.ref b84), (.ref b79), (.ref b79)])) rfl rfl (hb hby d1_73)
        have sf94 : Safe Z own_EL s.vm h89 b84 := (Safe.arv hZ.alike V89 (by decide))
        have sz95 : h89.size ≤ h94.size := Nat.le_of_eq W94.size.symm
        have R96 : CHr Z own_EL s.vm h0 s.vm h94 := R91.trans (CHr.wr W94 sf94 R91.1)
        have O97 : Old Z n0 h94 := O92.wr W94 (by omega : n0 ≤ b84)
        have N94 := Fr.snoc X94 N89 (by omega : n0 ≤ b84)
        have K98 : Keep h0 h94 [] := K93.wr W94 (Or.inr (by omega : h0.size ≤ b84))
        rw [own_narc r1] at W94
        have V94 : Arv Z h94 b84 k84 .char (3 : Int32) [(.int c0), (.int c1), (.int (0 : Int32))] (.int (0 : Int32)) := Arv.set Ar94 q94 S94 M94 H94 U94 (own_fitc r1) W94 1 rfl (Nat.le_of_ble_eq_true rfl)
        refine own_via (S' := T94.setTop (mkF m 74 #[.val (.int n1), .val (.int c0), .val (.int c1), .val (.int c2)] [(.ref b84), (.ref b79), (.ref b79)])) st94 ?_
        refine own_via (S' := T94.setTop (mkF m 75 #[.val (.int n1), .val (.int c0), .val (.int c1), .val (.int c2)] [(.ref b84), (.ref b84), (.ref b79), (.ref b79)])) (fun t k => XS.dup X94.here hx rfl (hb hby d1_74) rfl rfl k) ?_
        refine own_via (S' := T94.setTop (mkF m 76 #[.val (.int n1), .val (.int c0), .val (.int c1), .val (.int c2)] [(.int (2 : Int32)), (.ref b84), (.ref b84), (.ref b79), (.ref b79)])) (fun t k => XS.iconst X94.here hx rfl (hb hby d1_75) k) ?_
        refine own_via (S' := T94.setTop (mkF m 77 #[.val (.int n1), .val (.int c0), .val (.int c1), .val (.int c2)] [(.int c2), (.int (2 : Int32)), (.ref b84), (.ref b84), (.ref b79), (.ref b79)])) (fun t k => XS.iloadN X94.here hx rfl (hb hby d1_76) rfl k) ?_
        obtain ⟨cl99, Ar99, q99, S99, M99, H99, U99⟩ := id V94
        obtain ⟨T99, h99, X99, e99, W99, st99⟩ := stC X94 hx hZ e94 Ar99 (j := (2 : Int32)) (inb_of S99 ⟨by decide, by decide⟩) (g := (mkF m 77 #[.val (.int n1), .val (.int c0), .val (.int c1), .val (.int c2)] [(.int c2), (.int (2 : Int32)), (.ref b84), (.ref b84), (.ref b79), (.ref b79)])) rfl rfl (hb hby d1_77)
        have sf99 : Safe Z own_EL s.vm h94 b84 := (Safe.arv hZ.alike V94 (by decide))
        have sz100 : h94.size ≤ h99.size := Nat.le_of_eq W99.size.symm
        have R101 : CHr Z own_EL s.vm h0 s.vm h99 := R96.trans (CHr.wr W99 sf99 R96.1)
        have O102 : Old Z n0 h99 := O97.wr W99 (by omega : n0 ≤ b84)
        have N99 := Fr.snoc X99 N94 (by omega : n0 ≤ b84)
        have K103 : Keep h0 h99 [] := K98.wr W99 (Or.inr (by omega : h0.size ≤ b84))
        rw [own_narc r2] at W99
        have V99 : Arv Z h99 b84 k84 .char (3 : Int32) [(.int c0), (.int c1), (.int c2)] (.int (0 : Int32)) := Arv.set Ar99 q99 S99 M99 H99 U99 (own_fitc r2) W99 2 rfl (Nat.le_of_ble_eq_true rfl)
        refine own_via (S' := T99.setTop (mkF m 78 #[.val (.int n1), .val (.int c0), .val (.int c1), .val (.int c2)] [(.ref b84), (.ref b79), (.ref b79)])) st99 ?_
        have cx105 : Exa Z h99 b79 "java/lang/String" := (Exa.wr W99 (Exa.wr W94 (Exa.wr W89 (A79.ext E84))))
        have ne_b79_b84 : b79 ≠ b84 := by first | exact (Exa.neArv cx105 V99 (wd8 hw)) | exact Nat.ne_of_lt (by omega) | exact Nat.ne_of_gt (by omega)
        have cx106 : Fld Z h99 b79 "java/lang/String" "value" "[B" .null := (Fld.other W99 (Fld.other W94 (Fld.other W89 (F79_value.ext E84) (Or.inl ne_b79_b84)) (Or.inl ne_b79_b84)) (Or.inl ne_b79_b84))
        have cx107 : Fld Z h99 b79 "java/lang/String" "coder" "B" (.int (0 : Int32)) := (Fld.other W99 (Fld.other W94 (Fld.other W89 (F79_coder.ext E84) (Or.inl ne_b79_b84)) (Or.inl ne_b79_b84)) (Or.inl ne_b79_b84))
        have cx108 : Sta Z h99 "java/lang/String" "COMPACT_STRINGS" "Z" (.int zc) := zf_S_java_lang_String_COMPACT_STRINGS.ext O102.2
        have hws104 := own_mw hw
        have hp104 : ∀ c ∈ ([c0, c1, c2] : List Int32), ¬ c < 0 ∧ ¬ (255 : Int32) < c := by
          intro c hc
          simp only [List.mem_cons, List.not_mem_nil, or_false] at hc
          rcases hc with rfl | rfl | rfl
          · exact r0
          · exact r1
          · exact r2
        obtain ⟨_, _, ⟨T104, Lp104, kp104, np104⟩, -, X104, ⟨Lc104, hQ104, l104, y104, z104⟩, st104⟩ := X99.specialBack hx (y := mt1) rfl hown (mvT hZ (wd11 hw)) (mvT hZ (wd12 hw)) (mvT hZ (wd13 hw)) (by decide) (StrChars.Road.backV (W := 1) hZ hws104 (kI := 4) (wd8 hw) (cs := ([c0, c1, c2] : List Int32)) (bs := (([c0, c1, c2] : List Int32)).map (fun c => c.toInt8.toInt32)) (n := 3) (by omega : n0 ≤ b79) (by omega : n0 ≤ h99.size) cx105 cx106 cx107 V99 cx108 hzc rfl rfl (by decide) (by decide) hp104 rfl (by decide) (by decide)) (g := (mkF m 78 #[.val (.int n1), .val (.int c0), .val (.int c1), .val (.int c2)] [(.ref b84), (.ref b79), (.ref b79)])) rfl (by rw [hml]; rfl) (Steps.refl _) (a := b79) (argsL := [(.ref b84)]) (rest := [(.ref b79)]) (lenOf pd___C_V_325 rfl) rfl (by show 2 * 0 + _ ≤ _; exact Nat.le_of_eq rfl) (hb hby d1_78) (fun _ _ => ⟨rfl, e99, (by decide : 2 + 1 ≤ _), (by decide : 7 + 3 ≤ _)⟩)
        dsimp only [Pt.U, Pt.locs, Pt.cells, Pt.slots] at X104 l104 y104 z104 st104 hQ104
        subst Lp104 kp104 np104
        obtain ⟨rfl, N104q, K104q, f104_0, f104_1, t104, kb104, tg104, tg104', tn104, f104_2, f104_3⟩ := hQ104
        have N104 := Fr.app N99 N104q
        have cx109 : Safe Z own_EL s.vm h99 b79 := (Safe.wr W99 sf99 R96.1 (Safe.wr W94 sf94 R91.1 (Safe.wr W89 sf89 R87.1 (Safe.ext E84 R82.1 SF_b79))))
        have sf104 : ∀ x ∈ ([b79] : List Addr), Safe Z own_EL s.vm h99 x := (sfS cx109 sf0)
        have sz110 : h99.size ≤ T104.heap.size := K104q.1
        have R111 : CHr Z own_EL s.vm h0 s.vm T104.heap := R101.trans (CHr.keep K104q sf104 R101.1)
        have O112 : Old Z n0 T104.heap := O102.keep K104q (allS (by omega : n0 ≤ b79) all0)
        have K113 : Keep h0 T104.heap [] := K103.trans K104q (allS (P := fun x => x ∈ [] ∨ h0.size ≤ x) (Or.inr (by omega)) all0)
        have lt_t104 : T104.heap.size > t104 := f104_3.lt
        refine own_tr (S' := T104.setTop (mkF m 81 #[.val (.int n1), .val (.int c0), .val (.int c1), .val (.int c2)] [(.ref b79)])) st104 ?_
        have RTR111 : CHr Z own_EL s.vm h0 T104.vm T104.heap := R111.trans (CHv.at X104 hZ hEL R111.1)
        have RXR111 : CHr Z own_EL s.vm s.heap T104.vm T104.heap := by rw [hh]; exact RTR111
        refine own_retW (Q := Q_own_mk Z n1 c0 c1 c2 zc h0 n0) (C := ({ frames := 4, cells := 6, slots := 12, locals := 66 } : Room).cells) (N := ({ frames := 4, cells := 6, slots := 12, locals := 66 } : Room).slots) X104 hS0 (by omega) (v := some (.ref b79)) (fun h => by rw [Bd.returns] at h; cases h) Bd.notSynchronized ?_ RXR111 (by decide) (by decide) (fun fs hr => retOut X104 hx Bd.returns rfl (Or.inr (Or.inr (Or.inr (Or.inr ⟨rfl, rfl, rfl⟩)))) (hb hby d1_81) hr)
        show Q_own_mk Z n1 c0 c1 c2 zc h0 n0 _ T104.vm T104.heap _
        exact ⟨b79, t104, kb104, rfl, N104, K113, f104_0, f104_1, f104_2, (by rw [show (own_cs n1 c0 c1 c2) = [c0, c1, c2] from by simp [own_cs, hc1_1, hc17_22, hc37_48]]; exact f104_3)⟩
def Q_own_mkinit (Z : State) (a : Addr) (kd : Addr) (va : Addr) (q : Int64) (h0 : Heap) (n0 : Nat) (v : Option Value) (h : Heap) (L : List Loc) : Prop := v = none ∧ Fr n0 L ∧ Keep h0 h [a] ∧ Fld Z h a "com/example/coruna/coruna/io/Markup" "kind" "Lcom/example/coruna/coruna/io/Markup$Kind;" (.ref kd) ∧ Fld Z h a "com/example/coruna/coruna/io/Markup" "value" "Ljava/lang/String;" (.ref va)
set_option maxRecDepth 65536 in
set_option maxHeartbeats 40000000 in
theorem own_mkinit (l : Launch) (Z : State) (a0 : Array Value) (hw : ∀ d ∈ tables_1, d.before a0 Z = true) (ws : List Jvm.Cond) (a : Addr) (kd : Addr) (va : Addr) (q : Int64) (h0 : Heap) (n0 : Nat) (O0 : Old Z n0 h0) (f0_E_a : Exa Z h0 a "com/example/coruna/coruna/io/Markup") (f0_F_a_kind : Fld Z h0 a "com/example/coruna/coruna/io/Markup" "kind" "Lcom/example/coruna/coruna/io/Markup$Kind;" .null) (f0_F_a_value : Fld Z h0 a "com/example/coruna/coruna/io/Markup" "value" "Ljava/lang/String;" .null) (f0_F_a_line : Fld Z h0 a "com/example/coruna/coruna/io/Markup" "line" "J" (.long (0 : Int64))) (g_a : n0 ≤ a) :
    MetFree l mt4 (head1 (Jvm.Cond.code mt4 prog_18_method_1_code 5 none :: ws) ({ frames := 2, cells := 0, slots := 0, locals := 24 } : Room)) (fun aq U => aq = #[(.ref a), (.ref kd), (.ref va), (.long q)] ∧ Z.Warmed39 U.vm ∧ U.heap = h0) (fun _ _ _ _ _ => True) (fun _ U o U' => ∃ v L, o = .returned v ∧ Q_own_mkinit Z a kd va q h0 n0 v U'.heap L ∧ FrameEnd U o U' L ({ frames := 2, cells := 0, slots := 0, locals := 24 } : Room).cells ({ frames := 2, cells := 0, slots := 0, locals := 24 } : Room).slots) := by
  refine MetFree.of_bodySF (plainFor_of_name pn_com_example_coruna_coruna_io_Markup) hisR ?_
  intro p e s m args below meth c s₁ Bd hml0 hP hK
  obtain ⟨rfl, hZ, hh⟩ := hP
  have hx := Bd.exec
  have hby := Bd.bytes
  have hml : c.maxLocals = 5 := hml0
  have hown : s.vm.findClass "com/example/coruna/coruna/io/Markup" = some m.cls := findClass_of_methodNamed Bd.named
  have hnm := (name_of_methodNamed Bd.named Bd.method).1
  have X0 : Stand p l e ({ frames := 2, cells := 0, slots := 0, locals := 24 } : Room) s m #[(.ref a), (.ref kd), (.ref va), (.long q)] below meth c s₁ [] 0 0 := Stand.of_body Bd
  have e0 : s₁.heap = h0 := by rw [← hh, Bd.state]; rfl
  have N0 := Fr.nil n0
  have zO := O0.1
  have zO2 := O0.2.1
  have fl_E_a : h0.size > a := f0_E_a.lt
  have fl_F_a_kind : h0.size > a := f0_F_a_kind.lt
  have fl_F_a_value : h0.size > a := f0_F_a_value.lt
  have fl_F_a_line : h0.size > a := f0_F_a_line.lt
  refine own_open (own_via (S' := s₁.setTop (mkF m 0 #[.val (.ref a), .val (.ref kd), .val (.ref va), .val (.long q), .second] [])) (fun t k => castTop (ef_own_mkinit m a kd va q) k) ?_)
  have K0 : Keep h0 h0 [a] := Keep.refl _ _
  refine own_via (S' := s₁.setTop (mkF m 1 #[.val (.ref a), .val (.ref kd), .val (.ref va), .val (.long q), .second] [(.ref a)])) (fun t k => XS.aloadN X0.here hx rfl (hb hby d8_0) rfl rfl k) ?_
  obtain ⟨_, _, ⟨T1, Lp1, kp1, np1⟩, -, X1, ⟨Lc1, hQ1, l1, y1, z1⟩, st1⟩ := X0.specialBack hx (y := mt2) rfl hown (mvT hZ (wd46 hw)) (mvT hZ (wd47 hw)) (mvT hZ (wd50 hw)) (by decide) (backOf (W := 0) (own_rec l Z a0 hw [] a h0 n0 O0) hZ (wd50 hw) (wd49 hw) (by decide) (by decide)) (g := (mkF m 1 #[.val (.ref a), .val (.ref kd), .val (.ref va), .val (.long q), .second] [(.ref a)])) rfl (by rw [hml]; rfl) (Steps.refl _) (a := a) (argsL := []) (rest := []) (lenOf pd___V_167 rfl) rfl (by show 2 * 0 + _ ≤ _; exact Nat.le_of_eq rfl) (hb hby d8_1) (fun _ _ => ⟨rfl, e0, (by decide : 0 + 0 ≤ _), (by decide : 0 + 0 ≤ _)⟩)
  dsimp only [Pt.U, Pt.locs, Pt.cells, Pt.slots] at X1 l1 y1 z1 st1 hQ1
  subst Lp1 kp1 np1
  obtain ⟨rfl, rfl, e1⟩ := hQ1
  try rw [List.append_nil] at X1
  refine own_tr (S' := T1.setTop (mkF m 4 #[.val (.ref a), .val (.ref kd), .val (.ref va), .val (.long q), .second] [])) st1 ?_
  refine own_via (S' := T1.setTop (mkF m 5 #[.val (.ref a), .val (.ref kd), .val (.ref va), .val (.long q), .second] [(.ref a)])) (fun t k => XS.aloadN X1.here hx rfl (hb hby d8_4) rfl rfl k) ?_
  refine own_via (S' := T1.setTop (mkF m 6 #[.val (.ref a), .val (.ref kd), .val (.ref va), .val (.long q), .second] [(.ref kd), (.ref a)])) (fun t k => XS.aloadN X1.here hx rfl (hb hby d8_5) rfl rfl k) ?_
  obtain ⟨T2, h2, X2, e2, W2, st2⟩ := putF X1 hx hZ hown (host := "") (Or.inl (wd52 hw)) Via.refl e1 f0_F_a_kind f0_E_a (Or.inr ⟨(wd53 hw), rfl, hnm⟩) (wd41 hw) (ty := (.object "com/example/coruna/coruna/io/Markup$Kind")) (by decide) rfl rfl (g := (mkF m 6 #[.val (.ref a), .val (.ref kd), .val (.ref va), .val (.long q), .second] [(.ref kd), (.ref a)])) rfl rfl (hb hby d8_6)
  have sz3 : h0.size ≤ h2.size := Nat.le_of_eq W2.size.symm
  have O4 : Old Z n0 h2 := O0.wr W2 (by omega : n0 ≤ a)
  have N2 := Fr.snoc X2 N0 (by omega : n0 ≤ a)
  have K5 : Keep h0 h2 [a] := K0.wr W2 (Or.inl (List.mem_of_getElem? (i := 0) rfl))
  have Fw2 : Fld Z h2 a "com/example/coruna/coruna/io/Markup" "kind" "Lcom/example/coruna/coruna/io/Markup$Kind;" (.ref kd) := Fld.same W2 f0_F_a_kind
  refine own_via (S' := T2.setTop (mkF m 9 #[.val (.ref a), .val (.ref kd), .val (.ref va), .val (.long q), .second] [])) st2 ?_
  refine own_via (S' := T2.setTop (mkF m 10 #[.val (.ref a), .val (.ref kd), .val (.ref va), .val (.long q), .second] [(.ref a)])) (fun t k => XS.aloadN X2.here hx rfl (hb hby d8_9) rfl rfl k) ?_
  refine own_via (S' := T2.setTop (mkF m 11 #[.val (.ref a), .val (.ref kd), .val (.ref va), .val (.long q), .second] [(.ref va), (.ref a)])) (fun t k => XS.aloadN X2.here hx rfl (hb hby d8_10) rfl rfl k) ?_
  have cx6 : Exa Z h2 a "com/example/coruna/coruna/io/Markup" := (Exa.wr W2 f0_E_a)
  have cx7 : Fld Z h2 a "com/example/coruna/coruna/io/Markup" "value" "Ljava/lang/String;" .null := (Fld.other W2 f0_F_a_value (Or.inr (slot_ne (Or.inr (wd55 hw)) (Or.inr (wd53 hw)) (by decide) (t := (.object "java/lang/String")) (t' := (.object "com/example/coruna/coruna/io/Markup$Kind")) (by decide) (by decide))))
  obtain ⟨T8, h8, X8, e8, W8, st8⟩ := putF X2 hx hZ hown (host := "") (Or.inl (wd54 hw)) Via.refl e2 cx7 cx6 (Or.inr ⟨(wd55 hw), rfl, hnm⟩) (wd41 hw) (ty := (.object "java/lang/String")) (by decide) rfl rfl (g := (mkF m 11 #[.val (.ref a), .val (.ref kd), .val (.ref va), .val (.long q), .second] [(.ref va), (.ref a)])) rfl rfl (hb hby d8_11)
  have sz9 : h2.size ≤ h8.size := Nat.le_of_eq W8.size.symm
  have O10 : Old Z n0 h8 := O4.wr W8 (by omega : n0 ≤ a)
  have N8 := Fr.snoc X8 N2 (by omega : n0 ≤ a)
  have K11 : Keep h0 h8 [a] := K5.wr W8 (Or.inl (List.mem_of_getElem? (i := 0) rfl))
  have Fw8 : Fld Z h8 a "com/example/coruna/coruna/io/Markup" "value" "Ljava/lang/String;" (.ref va) := Fld.same W8 cx7
  refine own_via (S' := T8.setTop (mkF m 14 #[.val (.ref a), .val (.ref kd), .val (.ref va), .val (.long q), .second] [])) st8 ?_
  refine own_via (S' := T8.setTop (mkF m 15 #[.val (.ref a), .val (.ref kd), .val (.ref va), .val (.long q), .second] [(.ref a)])) (fun t k => XS.aloadN X8.here hx rfl (hb hby d8_14) rfl rfl k) ?_
  refine own_via (S' := T8.setTop (mkF m 16 #[.val (.ref a), .val (.ref kd), .val (.ref va), .val (.long q), .second] [(.long q), (.ref a)])) (fun t k => XS.lloadN X8.here hx rfl (hb hby d8_15) rfl k) ?_
  have cx12 : Exa Z h8 a "com/example/coruna/coruna/io/Markup" := (Exa.wr W8 cx6)
  have cx13 : Fld Z h8 a "com/example/coruna/coruna/io/Markup" "line" "J" (.long (0 : Int64)) := (Fld.other W8 (Fld.other W2 f0_F_a_line (Or.inr (slot_ne (Or.inr (wd57 hw)) (Or.inr (wd53 hw)) (by decide) (t := .long) (t' := (.object "com/example/coruna/coruna/io/Markup$Kind")) (by decide) (by decide)))) (Or.inr (slot_ne (Or.inr (wd57 hw)) (Or.inr (wd55 hw)) (by decide) (t := .long) (t' := (.object "java/lang/String")) (by decide) (by decide))))
  obtain ⟨T14, h14, X14, e14, W14, st14⟩ := putF X8 hx hZ hown (host := "") (Or.inl (wd56 hw)) Via.refl e8 cx13 cx12 (Or.inr ⟨(wd57 hw), rfl, hnm⟩) (wd41 hw) (ty := .long) (by decide) rfl rfl (g := (mkF m 16 #[.val (.ref a), .val (.ref kd), .val (.ref va), .val (.long q), .second] [(.long q), (.ref a)])) rfl rfl (hb hby d8_16)
  have sz15 : h8.size ≤ h14.size := Nat.le_of_eq W14.size.symm
  have O16 : Old Z n0 h14 := O10.wr W14 (by omega : n0 ≤ a)
  have N14 := Fr.snoc X14 N8 (by omega : n0 ≤ a)
  have K17 : Keep h0 h14 [a] := K11.wr W14 (Or.inl (List.mem_of_getElem? (i := 0) rfl))
  have Fw14 : Fld Z h14 a "com/example/coruna/coruna/io/Markup" "line" "J" (.long q) := Fld.same W14 cx13
  refine own_via (S' := T14.setTop (mkF m 19 #[.val (.ref a), .val (.ref kd), .val (.ref va), .val (.long q), .second] [])) st14 ?_
  have cx18 : Fld Z h14 a "com/example/coruna/coruna/io/Markup" "kind" "Lcom/example/coruna/coruna/io/Markup$Kind;" (.ref kd) := (Fld.other W14 (Fld.other W8 Fw2 (Or.inr (slot_ne (Or.inr (wd53 hw)) (Or.inr (wd55 hw)) (by decide) (t := (.object "com/example/coruna/coruna/io/Markup$Kind")) (t' := (.object "java/lang/String")) (by decide) (by decide)))) (Or.inr (slot_ne (Or.inr (wd53 hw)) (Or.inr (wd57 hw)) (by decide) (t := (.object "com/example/coruna/coruna/io/Markup$Kind")) (t' := .long) (by decide) (by decide))))
  have cx19 : Fld Z h14 a "com/example/coruna/coruna/io/Markup" "value" "Ljava/lang/String;" (.ref va) := (Fld.other W14 Fw8 (Or.inr (slot_ne (Or.inr (wd55 hw)) (Or.inr (wd57 hw)) (by decide) (t := (.object "java/lang/String")) (t' := .long) (by decide) (by decide))))
  refine own_ret (Q := Q_own_mkinit Z a kd va q h0 n0) (C := ({ frames := 2, cells := 0, slots := 0, locals := 24 } : Room).cells) (N := ({ frames := 2, cells := 0, slots := 0, locals := 24 } : Room).slots) X14 (v := none) (fun _ => rfl) Bd.notSynchronized ?_ (by decide) (by decide) (fun fs hr => X14.returnOut hx Bd.returns (hb hby d8_19) hr)
  show Q_own_mkinit Z a kd va q h0 n0 _ T14.heap _
  rw [e14]
  exact ⟨rfl, N14, K17, cx18, cx19⟩
def Q_own_isTag (Z : State) (a : Addr) (nm : Addr) (kd : Addr) (va : Addr) (tv : Addr) (kv : ClassId) (tn : Addr) (kn : ClassId) (cs : List Int32) (ds : List Int32) (zc : Int32) (wS : Addr) (h0 : Heap) (n0 : Nat) (v : Option Value) (h : Heap) (L : List Loc) : Prop := ∃ z : Int32, v = some (.int z) ∧ L = [] ∧ h = h0 ∧ (z = (if kd = wS then (if cs = ds then (1 : Int32) else (0 : Int32)) else (0 : Int32)))
set_option maxRecDepth 65536 in
set_option maxHeartbeats 40000000 in
theorem own_isTag (l : Launch) (Z : State) (a0 : Array Value) (hw : ∀ d ∈ tables_1, d.before a0 Z = true) (ws : List Jvm.Cond) (a : Addr) (nm : Addr) (kd : Addr) (va : Addr) (tv : Addr) (kv : ClassId) (tn : Addr) (kn : ClassId) (cs : List Int32) (ds : List Int32) (zc : Int32) (wS : Addr) (h0 : Heap) (n0 : Nat) (O0 : Old Z n0 h0) (zf_S_com_example_coruna_coruna_io_Markup_Kind_START_TAG : Sta Z Z.heap "com/example/coruna/coruna/io/Markup$Kind" "START_TAG" "Lcom/example/coruna/coruna/io/Markup$Kind;" (.ref wS)) (zf_S_java_lang_String_COMPACT_STRINGS : Sta Z Z.heap "java/lang/String" "COMPACT_STRINGS" "Z" (.int zc)) (f0_F_a_kind : Fld Z h0 a "com/example/coruna/coruna/io/Markup" "kind" "Lcom/example/coruna/coruna/io/Markup$Kind;" (.ref kd)) (f0_F_a_value : Fld Z h0 a "com/example/coruna/coruna/io/Markup" "value" "Ljava/lang/String;" (.ref va)) (f0_E_va : Exa Z h0 va "java/lang/String") (f0_F_va_coder : Fld Z h0 va "java/lang/String" "coder" "B" (.int (0 : Int32))) (f0_F_va_value : Fld Z h0 va "java/lang/String" "value" "[B" (.ref tv)) (f0_A_tv : Arv Z h0 tv kv .byte (Int32.ofNat cs.length) ((cs.map fun c => c.toInt8.toInt32).map Value.int) (.int (0 : Int32))) (f0_E_nm : Exa Z h0 nm "java/lang/String") (f0_F_nm_coder : Fld Z h0 nm "java/lang/String" "coder" "B" (.int (0 : Int32))) (f0_F_nm_value : Fld Z h0 nm "java/lang/String" "value" "[B" (.ref tn)) (f0_A_tn : Arv Z h0 tn kn .byte (Int32.ofNat ds.length) ((ds.map fun c => c.toInt8.toInt32).map Value.int) (.int (0 : Int32))) (hzc : ¬ (zc = (0 : Int32))) (hcs : ∀ c ∈ cs, ¬ c < 0 ∧ ¬ (255 : Int32) < c) (hds : ∀ c ∈ ds, ¬ c < 0 ∧ ¬ (255 : Int32) < c) (lcs : cs.length ≤ 4000) (lds : ds.length ≤ 4000) :
    MetFree l mt5 (head1 (Jvm.Cond.code mt5 prog_18_method_2_code 2 (some .boolean) :: ws) ({ frames := 2, cells := 0, slots := 0, locals := 28 } : Room)) (fun aq U => aq = #[(.ref a), (.ref nm)] ∧ Z.Warmed39 U.vm ∧ U.heap = h0) (fun _ _ _ _ _ => True) (fun _ U o U' => ∃ v L, o = .returned v ∧ Q_own_isTag Z a nm kd va tv kv tn kn cs ds zc wS h0 n0 v U'.heap L ∧ FrameEnd U o U' L ({ frames := 2, cells := 0, slots := 0, locals := 28 } : Room).cells ({ frames := 2, cells := 0, slots := 0, locals := 28 } : Room).slots) := by
  refine MetFree.of_bodySF (plainFor_of_name pn_com_example_coruna_coruna_io_Markup) hisR ?_
  intro p e s m args below meth c s₁ Bd hml0 hP hK
  obtain ⟨rfl, hZ, hh⟩ := hP
  have hx := Bd.exec
  have hby := Bd.bytes
  have hml : c.maxLocals = 2 := hml0
  have hown : s.vm.findClass "com/example/coruna/coruna/io/Markup" = some m.cls := findClass_of_methodNamed Bd.named
  have hnm := (name_of_methodNamed Bd.named Bd.method).1
  have X0 : Stand p l e ({ frames := 2, cells := 0, slots := 0, locals := 28 } : Room) s m #[(.ref a), (.ref nm)] below meth c s₁ [] 0 0 := Stand.of_body Bd
  have e0 : s₁.heap = h0 := by rw [← hh, Bd.state]; rfl
  have N0 := Fr.nil n0
  have zO := O0.1
  have zO2 := O0.2.1
  have fl_F_a_kind : h0.size > a := f0_F_a_kind.lt
  have fl_F_a_value : h0.size > a := f0_F_a_value.lt
  have fl_E_va : h0.size > va := f0_E_va.lt
  have fl_F_va_coder : h0.size > va := f0_F_va_coder.lt
  have fl_F_va_value : h0.size > va := f0_F_va_value.lt
  have fl_A_tv : h0.size > tv := f0_A_tv.lt
  have fl_E_nm : h0.size > nm := f0_E_nm.lt
  have fl_F_nm_coder : h0.size > nm := f0_F_nm_coder.lt
  have fl_F_nm_value : h0.size > nm := f0_F_nm_value.lt
  have fl_A_tn : h0.size > tn := f0_A_tn.lt
  refine own_open (own_via (S' := s₁.setTop (mkF m 0 #[.val (.ref a), .val (.ref nm)] [])) (fun t k => castTop (ef_own_isTag m a nm) k) ?_)
  have ne_va_tv : va ≠ tv := Exa.neArv f0_E_va f0_A_tv (wd8 hw)
  have ne_va_tn : va ≠ tn := Exa.neArv f0_E_va f0_A_tn (wd8 hw)
  have ne_nm_tv : nm ≠ tv := Exa.neArv f0_E_nm f0_A_tv (wd8 hw)
  have ne_nm_tn : nm ≠ tn := Exa.neArv f0_E_nm f0_A_tn (wd8 hw)
  refine own_via (S' := s₁.setTop (mkF m 1 #[.val (.ref a), .val (.ref nm)] [(.ref a)])) (fun t k => XS.aloadN X0.here hx rfl (hb hby d10_0) rfl rfl k) ?_
  obtain ⟨T1, X1, e1, st1⟩ := getF X0 hx hZ hown (host := "") (Or.inl (wd52 hw)) Via.refl e0 f0_F_a_kind (g := (mkF m 1 #[.val (.ref a), .val (.ref nm)] [(.ref a)])) rfl rfl (hb hby d10_1)
  refine own_via (S' := T1.setTop (mkF m 4 #[.val (.ref a), .val (.ref nm)] [(.ref kd)])) st1 ?_
  have cx2 : Sta Z h0 "com/example/coruna/coruna/io/Markup$Kind" "START_TAG" "Lcom/example/coruna/coruna/io/Markup$Kind;" (.ref wS) := zf_S_com_example_coruna_coruna_io_Markup_Kind_START_TAG.ext O0.2
  obtain ⟨T3, X3, e3, st3⟩ := getS2 X1 hx hZ hown (host := "") (Or.inl (wd63 hw)) Via.refl e1 cx2 (g := (mkF m 4 #[.val (.ref a), .val (.ref nm)] [(.ref kd)])) rfl (hb hby d10_4)
  refine own_via (S' := T3.setTop (mkF m 7 #[.val (.ref a), .val (.ref nm)] [(.ref wS), (.ref kd)])) st3 ?_
  by_cases hc7_4 : kd = wS
  · -- yes
    refine own_via (S' := T3.setTop (mkF m 10 #[.val (.ref a), .val (.ref nm)] [])) (fun t k => Jvm.RoadKit.acmp (g := (mkF m 7 #[.val (.ref a), .val (.ref nm)] [(.ref wS), (.ref kd)])) X3 hx rfl rfl rfl (pc0 := 7) (pc' := 10) (same := true) rfl (hb hby d10_7) rfl (decide_eq_true (congrArg Value.ref hc7_4)) (by decide) (by decide) k) ?_
    refine own_via (S' := T3.setTop (mkF m 11 #[.val (.ref a), .val (.ref nm)] [(.ref a)])) (fun t k => XS.aloadN X3.here hx rfl (hb hby d10_10) rfl rfl k) ?_
    obtain ⟨T5, X5, e5, st5⟩ := getF X3 hx hZ hown (host := "") (Or.inl (wd54 hw)) Via.refl e3 f0_F_a_value (g := (mkF m 11 #[.val (.ref a), .val (.ref nm)] [(.ref a)])) rfl rfl (hb hby d10_11)
    refine own_via (S' := T5.setTop (mkF m 14 #[.val (.ref a), .val (.ref nm)] [(.ref va)])) st5 ?_
    refine own_via (S' := T5.setTop (mkF m 15 #[.val (.ref a), .val (.ref nm)] [(.ref nm), (.ref va)])) (fun t k => XS.aloadN X5.here hx rfl (hb hby d10_14) rfl rfl k) ?_
    have hwe6 := own_mwe hw
    have cx7 : Sta Z h0 "java/lang/String" "COMPACT_STRINGS" "Z" (.int zc) := zf_S_java_lang_String_COMPACT_STRINGS.ext O0.2
    obtain ⟨cq6, kq6, q6a, q6b, q6c⟩ := isOf hZ e5 f0_E_va
    obtain ⟨_, _, ⟨T6, Lp6, kp6, np6⟩, -, X6, ⟨Lc6, hQ6, l6, y6, z6⟩, st6⟩ := X5.virtualBack hx (y := mt6) (z := mt6) hown (mvT hZ (wd64 hw)) (mvT hZ (wd65 hw)) (notFace_of_selects (args := #[]) (mvT hZ (wd67 hw))) (mvT hZ (wd67 hw)) (mvT hZ (wd66 hw)) (by decide) (StrChars.Road.eqW (W := 0) hZ hwe6 (kI := 4) (wd8 hw) f0_E_va f0_F_va_value f0_F_va_coder f0_A_tv (StrChars.Road.codOf (cs := cs) rfl (fun c hc => (hcs c hc).2)) (own_up cs hcs) (by omega) f0_E_nm f0_F_nm_value f0_F_nm_coder f0_A_tn (StrChars.Road.codOf (cs := ds) rfl (fun c hc => (hds c hc).2)) (own_up ds hds) (by omega) cx7 hzc (by decide) (by decide)) q6a q6c (g := (mkF m 15 #[.val (.ref a), .val (.ref nm)] [(.ref nm), (.ref va)])) rfl (by rw [hml]; rfl) (Steps.refl _) (argsL := [(.ref nm)]) (rest := []) (lenOf pd__Ljava_lang_Object__Z_1835 rfl) rfl (by show 2 * 0 + _ ≤ _; exact Nat.le_of_eq rfl) (hb hby d10_15) (fun _ _ => ⟨rfl, e5, (by decide : 0 + 0 ≤ _), (by decide : 0 + 0 ≤ _)⟩)
    dsimp only [Pt.U, Pt.locs, Pt.cells, Pt.slots] at X6 l6 y6 z6 st6 hQ6
    subst Lp6 kp6 np6
    obtain ⟨hv6, rfl, e6⟩ := hQ6
    obtain ⟨zq6, hzq6, rfl⟩ : ∃ z : Int32, z = (if cs = ds then (1 : Int32) else (0 : Int32)) ∧ _ = some (Value.int z) := by rcases hv6 with ⟨q1, q2⟩ | ⟨q1, q2⟩; exact ⟨_, (if_pos q2).symm, q1⟩; exact ⟨_, (if_neg q2).symm, q1⟩
    try rw [List.append_nil] at X6
    refine own_tr (S' := T6.setTop (mkF m 18 #[.val (.ref a), .val (.ref nm)] [(.int zq6)])) st6 ?_
    by_cases hz8 : cs = ds
    · -- yes
      obtain rfl : zq6 = (1 : Int32) := hzq6.trans (if_pos hz8)
      refine own_via (S' := T6.setTop (mkF m 21 #[.val (.ref a), .val (.ref nm)] [])) (fun t k => XS.ifNo X6.here hx rfl (hb hby d10_18) rfl ((if0 _ _).trans (feq (by decide : ¬ ((1 : Int32) = (0 : Int32)))).1) k) ?_
      refine own_via (S' := T6.setTop (mkF m 22 #[.val (.ref a), .val (.ref nm)] [(.int (1 : Int32))])) (fun t k => XS.iconst X6.here hx rfl (hb hby d10_21) k) ?_
      refine own_via (S' := T6.setTop (mkF m 26 #[.val (.ref a), .val (.ref nm)] [(.int (1 : Int32))])) (fun t k => XS.goto X6.here hx rfl (pc0 := 22) (pc' := 26) rfl (hb hby d10_22) (by decide) (by decide) k) ?_
      refine own_ret (Q := Q_own_isTag Z a nm kd va tv kv tn kn cs ds zc wS h0 n0) (C := ({ frames := 2, cells := 0, slots := 0, locals := 28 } : Room).cells) (N := ({ frames := 2, cells := 0, slots := 0, locals := 28 } : Room).slots) X6 (v := some (.int (1 : Int32))) (fun h => by rw [Bd.returns] at h; cases h) Bd.notSynchronized ?_ (by decide) (by decide) (fun fs hr => retN X6 hx (t := .boolean) Bd.returns (by simp) (hb hby d10_26) hr)
      show Q_own_isTag Z a nm kd va tv kv tn kn cs ds zc wS h0 n0 _ T6.heap _
      rw [e6]
      exact ⟨(1 : Int32), rfl, rfl, rfl, (((if_pos hc7_4).trans (if_pos hz8))).symm⟩
    · -- no
      obtain rfl : zq6 = (0 : Int32) := hzq6.trans (if_neg hz8)
      refine own_via (S' := T6.setTop (mkF m 25 #[.val (.ref a), .val (.ref nm)] [])) (fun t k => XS.ifYes X6.here hx rfl (pc0 := 18) (pc' := 25) rfl (hb hby d10_18) rfl ((if0 _ _).trans (teq (by decide : (0 : Int32) = (0 : Int32))).1) (by decide) (by decide) k) ?_
      refine own_via (S' := T6.setTop (mkF m 26 #[.val (.ref a), .val (.ref nm)] [(.int (0 : Int32))])) (fun t k => XS.iconst X6.here hx rfl (hb hby d10_25) k) ?_
      refine own_ret (Q := Q_own_isTag Z a nm kd va tv kv tn kn cs ds zc wS h0 n0) (C := ({ frames := 2, cells := 0, slots := 0, locals := 28 } : Room).cells) (N := ({ frames := 2, cells := 0, slots := 0, locals := 28 } : Room).slots) X6 (v := some (.int (0 : Int32))) (fun h => by rw [Bd.returns] at h; cases h) Bd.notSynchronized ?_ (by decide) (by decide) (fun fs hr => retN X6 hx (t := .boolean) Bd.returns (by simp) (hb hby d10_26) hr)
      show Q_own_isTag Z a nm kd va tv kv tn kn cs ds zc wS h0 n0 _ T6.heap _
      rw [e6]
      exact ⟨(0 : Int32), rfl, rfl, rfl, (((if_pos hc7_4).trans (if_neg hz8))).symm⟩
  · -- no
    refine own_via (S' := T3.setTop (mkF m 25 #[.val (.ref a), .val (.ref nm)] [])) (fun t k => Jvm.RoadKit.acmp (g := (mkF m 7 #[.val (.ref a), .val (.ref nm)] [(.ref wS), (.ref kd)])) X3 hx rfl rfl rfl (pc0 := 7) (pc' := 25) (same := false) rfl (hb hby d10_7) rfl (decide_eq_false fun q => hc7_4 (Value.ref.inj q)) (by decide) (by decide) k) ?_
    refine own_via (S' := T3.setTop (mkF m 26 #[.val (.ref a), .val (.ref nm)] [(.int (0 : Int32))])) (fun t k => XS.iconst X3.here hx rfl (hb hby d10_25) k) ?_
    refine own_ret (Q := Q_own_isTag Z a nm kd va tv kv tn kn cs ds zc wS h0 n0) (C := ({ frames := 2, cells := 0, slots := 0, locals := 28 } : Room).cells) (N := ({ frames := 2, cells := 0, slots := 0, locals := 28 } : Room).slots) X3 (v := some (.int (0 : Int32))) (fun h => by rw [Bd.returns] at h; cases h) Bd.notSynchronized ?_ (by decide) (by decide) (fun fs hr => retN X3 hx (t := .boolean) Bd.returns (by simp) (hb hby d10_26) hr)
    show Q_own_isTag Z a nm kd va tv kv tn kn cs ds zc wS h0 n0 _ T3.heap _
    rw [e3]
    exact ⟨(0 : Int32), rfl, rfl, rfl, ((if_neg hc7_4)).symm⟩
def Q_own_law (Z : State) (p0 : Int32) (p1 : Int32) (p2 : Int32) (p3 : Int32) (q0 : Int64) (zc : Int32) (wE : Addr) (wT : Addr) (wS : Addr) (h0 : Heap) (n0 : Nat) (v : Option Value) (vm : Vm) (h : Heap) (L : List Loc) : Prop := v = some (.int (1 : Int32)) ∧ Fr n0 L
set_option maxRecDepth 65536 in
set_option maxHeartbeats 40000000 in
theorem own_law (l : Launch) (Z : State) (a0 : Array Value) (hw : ∀ d ∈ tables_1, d.before a0 Z = true) (ws : List Jvm.Cond) (p0 : Int32) (p1 : Int32) (p2 : Int32) (p3 : Int32) (q0 : Int64) (zc : Int32) (wE : Addr) (wT : Addr) (wS : Addr) (h0 : Heap) (n0 : Nat) (O0 : Old Z n0 h0) (zf_S_java_lang_String_COMPACT_STRINGS : Sta Z Z.heap "java/lang/String" "COMPACT_STRINGS" "Z" (.int zc)) (zf_S_com_example_coruna_coruna_io_Markup_Kind_END_TAG : Sta Z Z.heap "com/example/coruna/coruna/io/Markup$Kind" "END_TAG" "Lcom/example/coruna/coruna/io/Markup$Kind;" (.ref wE)) (zf_S_com_example_coruna_coruna_io_Markup_Kind_TEXT : Sta Z Z.heap "com/example/coruna/coruna/io/Markup$Kind" "TEXT" "Lcom/example/coruna/coruna/io/Markup$Kind;" (.ref wT)) (zf_S_com_example_coruna_coruna_io_Markup_Kind_START_TAG : Sta Z Z.heap "com/example/coruna/coruna/io/Markup$Kind" "START_TAG" "Lcom/example/coruna/coruna/io/Markup$Kind;" (.ref wS)) (hzc : ¬ (zc = (0 : Int32))) (hES : ¬ (wE = wS)) (hTS : ¬ (wT = wS)) :
    MetFree l x (head1 (Jvm.Cond.code x code maxLocals ret :: ws) room_1) (fun aq U => aq = #[(.int p0), (.int p1), (.int p2), (.int p3), (.long q0)] ∧ Z.Warmed39 U.vm ∧ U.heap = h0 ∧ CHv Z own_EL U.vm h0 ∧ ∀ x ∈ ([] : List Addr), Safe Z own_EL U.vm h0 x) (fun _ _ _ _ _ => True) (fun _ U o U' => ∃ v L, o = .returned v ∧ Q_own_law Z p0 p1 p2 p3 q0 zc wE wT wS h0 n0 v U'.vm U'.heap L ∧ CHr Z own_EL U.vm U.heap U'.vm U'.heap ∧ ReturnedEndW U o U' L room_1.cells room_1.slots) := by
  refine MetFree.of_bodySF (plainFor_of_name pn_com_example_coruna_coruna_io_MarkupIsStartTagPinLaw) hisR ?_
  intro p e s m args below meth c s₁ Bd hml0 hP hK
  obtain ⟨rfl, hZ, hh, hCH, hSL⟩ := hP
  have hx := Bd.exec
  have hby := Bd.bytes
  have hml : c.maxLocals = 22 := hml0
  have hown : s.vm.findClass "com/example/coruna/coruna/io/MarkupIsStartTagPinLaw" = some m.cls := findClass_of_methodNamed Bd.named
  have hnm := (name_of_methodNamed Bd.named Bd.method).1
  have X0 : Stand p l e room_1 (s.setVm s.vm) m #[(.int p0), (.int p1), (.int p2), (.int p3), (.long q0)] below meth c s₁ [] 0 0 := Stand.of_body Bd
  have e0 : s₁.heap = h0 := by rw [← hh, Bd.state]; rfl
  have N0 := Fr.nil n0
  have zO := O0.1
  have zO2 := O0.2.1
  refine own_open (own_via (S' := s₁.setTop (mkF m 0 #[.val (.int p0), .val (.int p1), .val (.int p2), .val (.int p3), .val (.long q0), .second, .unset, .unset, .unset, .unset, .unset, .unset, .unset, .unset, .unset, .unset, .unset, .unset, .unset, .unset, .unset, .unset] [])) (fun t k => castTop (ef_own_law m p0 p1 p2 p3 q0) k) ?_)
  have hEL := own_EW hw
  have hS0 : s.Since s.vm h0.size := (State.WarmedH.refl s).since _
  have R0 : CHr Z own_EL s.vm h0 s.vm h0 := CHr.refl hCH
  refine own_via (S' := s₁.setTop (mkF m 1 #[.val (.int p0), .val (.int p1), .val (.int p2), .val (.int p3), .val (.long q0), .second, .unset, .unset, .unset, .unset, .unset, .unset, .unset, .unset, .unset, .unset, .unset, .unset, .unset, .unset, .unset, .unset] [(.int p0)])) (fun t k => XS.iloadN X0.here hx rfl (hb hby at_0) rfl k) ?_
  refine own_via (S' := s₁.setTop (mkF m 2 #[.val (.int p0), .val (.int p1), .val (.int p2), .val (.int p3), .val (.long q0), .second, .unset, .unset, .unset, .unset, .unset, .unset, .unset, .unset, .unset, .unset, .unset, .unset, .unset, .unset, .unset, .unset] [(.int (3 : Int32)), (.int p0)])) (fun t k => XS.iconst X0.here hx rfl (hb hby at_1) k) ?_
  refine own_via (S' := s₁.setTop (mkF m 3 #[.val (.int p0), .val (.int p1), .val (.int p2), .val (.int p3), .val (.long q0), .second, .unset, .unset, .unset, .unset, .unset, .unset, .unset, .unset, .unset, .unset, .unset, .unset, .unset, .unset, .unset, .unset] [(.int (p0 &&& (3 : Int32)))])) (fun t k => XS.iand X0.here hx rfl (hb hby at_2) rfl k) ?_
  refine own_via (S' := s₁.setTop (mkF m 5 #[.val (.int p0), .val (.int p1), .val (.int p2), .val (.int p3), .val (.long q0), .second, .val (.int (p0 &&& (3 : Int32))), .unset, .unset, .unset, .unset, .unset, .unset, .unset, .unset, .unset, .unset, .unset, .unset, .unset, .unset, .unset] [])) (fun t k => XS.istore X0.here hx rfl (hb hby at_3) rfl (l' := #[.val (.int p0), .val (.int p1), .val (.int p2), .val (.int p3), .val (.long q0), .second, .val (.int (p0 &&& (3 : Int32))), .unset, .unset, .unset, .unset, .unset, .unset, .unset, .unset, .unset, .unset, .unset, .unset, .unset, .unset, .unset]) rfl k) ?_
  obtain ⟨kk, hn_kk⟩ : ∃ z : Int32, z = (p0 &&& (3 : Int32)) := ⟨_, rfl⟩
  rw [← hn_kk]
  refine own_via (S' := s₁.setTop (mkF m 7 #[.val (.int p0), .val (.int p1), .val (.int p2), .val (.int p3), .val (.long q0), .second, .val (.int kk), .unset, .unset, .unset, .unset, .unset, .unset, .unset, .unset, .unset, .unset, .unset, .unset, .unset, .unset, .unset] [(.int kk)])) (fun t k => XS.iload X0.here hx rfl (hb hby at_5) rfl k) ?_
  refine own_via (S' := s₁.setTop (mkF m 8 #[.val (.int p0), .val (.int p1), .val (.int p2), .val (.int p3), .val (.long q0), .second, .val (.int kk), .unset, .unset, .unset, .unset, .unset, .unset, .unset, .unset, .unset, .unset, .unset, .unset, .unset, .unset, .unset] [(.int (1 : Int32)), (.int kk)])) (fun t k => XS.iconst X0.here hx rfl (hb hby at_7) k) ?_
  obtain ⟨z1_0, hz1_0⟩ : ∃ z : Addr, z = (if kk = (1 : Int32) then wE else (if kk = (2 : Int32) then wT else wS)) := ⟨_, rfl⟩
  suffices jn1 : ∀ (Tm1 : State), Stand p l e room_1 (s.setVm s.vm) m #[(.int p0), (.int p1), (.int p2), (.int p3), (.long q0)] below meth c Tm1 [] 0 0 → Tm1.heap = h0 → own_Done p e below (fun o U' => ∃ v L, o = .returned v ∧ Q_own_law Z p0 p1 p2 p3 q0 zc wE wT wS h0 n0 v U'.vm U'.heap L ∧ CHr Z own_EL s.vm s.heap U'.vm U'.heap ∧ ReturnedEndW s o U' L room_1.cells room_1.slots) (Tm1.setTop (mkF m 38 #[.val (.int p0), .val (.int p1), .val (.int p2), .val (.int p3), .val (.long q0), .second, .val (.int kk), .val (.ref z1_0), .unset, .unset, .unset, .unset, .unset, .unset, .unset, .unset, .unset, .unset, .unset, .unset, .unset, .unset] [])) by
    by_cases hc8_2 : kk = (1 : Int32)
    · -- yes
      refine own_via (S' := s₁.setTop (mkF m 11 #[.val (.int p0), .val (.int p1), .val (.int p2), .val (.int p3), .val (.long q0), .second, .val (.int kk), .unset, .unset, .unset, .unset, .unset, .unset, .unset, .unset, .unset, .unset, .unset, .unset, .unset, .unset, .unset] [])) (fun t k => XS.icmpNo X0.here hx rfl (hb hby at_8) rfl (teq hc8_2).2 k) ?_
      have cx3 : Sta Z h0 "com/example/coruna/coruna/io/Markup$Kind" "END_TAG" "Lcom/example/coruna/coruna/io/Markup$Kind;" (.ref wE) := zf_S_com_example_coruna_coruna_io_Markup_Kind_END_TAG.ext O0.2
      obtain ⟨T4, X4, e4, st4⟩ := getS2 X0 hx hZ hown (host := "") (Or.inl (wd76 hw)) Via.refl e0 cx3 (g := (mkF m 11 #[.val (.int p0), .val (.int p1), .val (.int p2), .val (.int p3), .val (.long q0), .second, .val (.int kk), .unset, .unset, .unset, .unset, .unset, .unset, .unset, .unset, .unset, .unset, .unset, .unset, .unset, .unset, .unset] [])) rfl (hb hby at_11)
      refine own_via (S' := T4.setTop (mkF m 14 #[.val (.int p0), .val (.int p1), .val (.int p2), .val (.int p3), .val (.long q0), .second, .val (.int kk), .unset, .unset, .unset, .unset, .unset, .unset, .unset, .unset, .unset, .unset, .unset, .unset, .unset, .unset, .unset] [(.ref wE)])) st4 ?_
      refine own_via (S' := T4.setTop (mkF m 16 #[.val (.int p0), .val (.int p1), .val (.int p2), .val (.int p3), .val (.long q0), .second, .val (.int kk), .val (.ref wE), .unset, .unset, .unset, .unset, .unset, .unset, .unset, .unset, .unset, .unset, .unset, .unset, .unset, .unset] [])) (fun t k => XS.astore X4.here hx rfl (hb hby at_14) rfl rfl (l' := #[.val (.int p0), .val (.int p1), .val (.int p2), .val (.int p3), .val (.long q0), .second, .val (.int kk), .val (.ref wE), .unset, .unset, .unset, .unset, .unset, .unset, .unset, .unset, .unset, .unset, .unset, .unset, .unset, .unset]) rfl k) ?_
      refine own_via (S' := T4.setTop (mkF m 38 #[.val (.int p0), .val (.int p1), .val (.int p2), .val (.int p3), .val (.long q0), .second, .val (.int kk), .val (.ref wE), .unset, .unset, .unset, .unset, .unset, .unset, .unset, .unset, .unset, .unset, .unset, .unset, .unset, .unset] [])) (fun t k => XS.goto X4.here hx rfl (pc0 := 16) (pc' := 38) rfl (hb hby at_16) (by decide) (by decide) k) ?_
      have qz1_0 : z1_0 = wE := hz1_0.trans (if_pos hc8_2)
      rw [qz1_0] at jn1
      exact jn1 _ X4 e4
    · -- no
      refine own_via (S' := s₁.setTop (mkF m 19 #[.val (.int p0), .val (.int p1), .val (.int p2), .val (.int p3), .val (.long q0), .second, .val (.int kk), .unset, .unset, .unset, .unset, .unset, .unset, .unset, .unset, .unset, .unset, .unset, .unset, .unset, .unset, .unset] [])) (fun t k => XS.icmpYes X0.here hx rfl (pc0 := 8) (pc' := 19) rfl (hb hby at_8) rfl (feq hc8_2).2 (by decide) (by decide) k) ?_
      refine own_via (S' := s₁.setTop (mkF m 21 #[.val (.int p0), .val (.int p1), .val (.int p2), .val (.int p3), .val (.long q0), .second, .val (.int kk), .unset, .unset, .unset, .unset, .unset, .unset, .unset, .unset, .unset, .unset, .unset, .unset, .unset, .unset, .unset] [(.int kk)])) (fun t k => XS.iload X0.here hx rfl (hb hby at_19) rfl k) ?_
      refine own_via (S' := s₁.setTop (mkF m 22 #[.val (.int p0), .val (.int p1), .val (.int p2), .val (.int p3), .val (.long q0), .second, .val (.int kk), .unset, .unset, .unset, .unset, .unset, .unset, .unset, .unset, .unset, .unset, .unset, .unset, .unset, .unset, .unset] [(.int (2 : Int32)), (.int kk)])) (fun t k => XS.iconst X0.here hx rfl (hb hby at_21) k) ?_
      by_cases hc22_5 : kk = (2 : Int32)
      · -- yes
        refine own_via (S' := s₁.setTop (mkF m 25 #[.val (.int p0), .val (.int p1), .val (.int p2), .val (.int p3), .val (.long q0), .second, .val (.int kk), .unset, .unset, .unset, .unset, .unset, .unset, .unset, .unset, .unset, .unset, .unset, .unset, .unset, .unset, .unset] [])) (fun t k => XS.icmpNo X0.here hx rfl (hb hby at_22) rfl (teq hc22_5).2 k) ?_
        have cx6 : Sta Z h0 "com/example/coruna/coruna/io/Markup$Kind" "TEXT" "Lcom/example/coruna/coruna/io/Markup$Kind;" (.ref wT) := zf_S_com_example_coruna_coruna_io_Markup_Kind_TEXT.ext O0.2
        obtain ⟨T7, X7, e7, st7⟩ := getS2 X0 hx hZ hown (host := "") (Or.inl (wd74 hw)) Via.refl e0 cx6 (g := (mkF m 25 #[.val (.int p0), .val (.int p1), .val (.int p2), .val (.int p3), .val (.long q0), .second, .val (.int kk), .unset, .unset, .unset, .unset, .unset, .unset, .unset, .unset, .unset, .unset, .unset, .unset, .unset, .unset, .unset] [])) rfl (hb hby at_25)
        refine own_via (S' := T7.setTop (mkF m 28 #[.val (.int p0), .val (.int p1), .val (.int p2), .val (.int p3), .val (.long q0), .second, .val (.int kk), .unset, .unset, .unset, .unset, .unset, .unset, .unset, .unset, .unset, .unset, .unset, .unset, .unset, .unset, .unset] [(.ref wT)])) st7 ?_
        refine own_via (S' := T7.setTop (mkF m 30 #[.val (.int p0), .val (.int p1), .val (.int p2), .val (.int p3), .val (.long q0), .second, .val (.int kk), .val (.ref wT), .unset, .unset, .unset, .unset, .unset, .unset, .unset, .unset, .unset, .unset, .unset, .unset, .unset, .unset] [])) (fun t k => XS.astore X7.here hx rfl (hb hby at_28) rfl rfl (l' := #[.val (.int p0), .val (.int p1), .val (.int p2), .val (.int p3), .val (.long q0), .second, .val (.int kk), .val (.ref wT), .unset, .unset, .unset, .unset, .unset, .unset, .unset, .unset, .unset, .unset, .unset, .unset, .unset, .unset]) rfl k) ?_
        refine own_via (S' := T7.setTop (mkF m 38 #[.val (.int p0), .val (.int p1), .val (.int p2), .val (.int p3), .val (.long q0), .second, .val (.int kk), .val (.ref wT), .unset, .unset, .unset, .unset, .unset, .unset, .unset, .unset, .unset, .unset, .unset, .unset, .unset, .unset] [])) (fun t k => XS.goto X7.here hx rfl (pc0 := 30) (pc' := 38) rfl (hb hby at_30) (by decide) (by decide) k) ?_
        have qz1_0 : z1_0 = wT := hz1_0.trans ((if_neg hc8_2).trans (if_pos hc22_5))
        rw [qz1_0] at jn1
        exact jn1 _ X7 e7
      · -- no
        refine own_via (S' := s₁.setTop (mkF m 33 #[.val (.int p0), .val (.int p1), .val (.int p2), .val (.int p3), .val (.long q0), .second, .val (.int kk), .unset, .unset, .unset, .unset, .unset, .unset, .unset, .unset, .unset, .unset, .unset, .unset, .unset, .unset, .unset] [])) (fun t k => XS.icmpYes X0.here hx rfl (pc0 := 22) (pc' := 33) rfl (hb hby at_22) rfl (feq hc22_5).2 (by decide) (by decide) k) ?_
        have cx8 : Sta Z h0 "com/example/coruna/coruna/io/Markup$Kind" "START_TAG" "Lcom/example/coruna/coruna/io/Markup$Kind;" (.ref wS) := zf_S_com_example_coruna_coruna_io_Markup_Kind_START_TAG.ext O0.2
        obtain ⟨T9, X9, e9, st9⟩ := getS2 X0 hx hZ hown (host := "") (Or.inl (wd0 hw)) Via.refl e0 cx8 (g := (mkF m 33 #[.val (.int p0), .val (.int p1), .val (.int p2), .val (.int p3), .val (.long q0), .second, .val (.int kk), .unset, .unset, .unset, .unset, .unset, .unset, .unset, .unset, .unset, .unset, .unset, .unset, .unset, .unset, .unset] [])) rfl (hb hby at_33)
        refine own_via (S' := T9.setTop (mkF m 36 #[.val (.int p0), .val (.int p1), .val (.int p2), .val (.int p3), .val (.long q0), .second, .val (.int kk), .unset, .unset, .unset, .unset, .unset, .unset, .unset, .unset, .unset, .unset, .unset, .unset, .unset, .unset, .unset] [(.ref wS)])) st9 ?_
        refine own_via (S' := T9.setTop (mkF m 38 #[.val (.int p0), .val (.int p1), .val (.int p2), .val (.int p3), .val (.long q0), .second, .val (.int kk), .val (.ref wS), .unset, .unset, .unset, .unset, .unset, .unset, .unset, .unset, .unset, .unset, .unset, .unset, .unset, .unset] [])) (fun t k => XS.astore X9.here hx rfl (hb hby at_36) rfl rfl (l' := #[.val (.int p0), .val (.int p1), .val (.int p2), .val (.int p3), .val (.long q0), .second, .val (.int kk), .val (.ref wS), .unset, .unset, .unset, .unset, .unset, .unset, .unset, .unset, .unset, .unset, .unset, .unset, .unset, .unset]) rfl k) ?_
        have qz1_0 : z1_0 = wS := hz1_0.trans ((if_neg hc8_2).trans (if_neg hc22_5))
        rw [qz1_0] at jn1
        exact jn1 _ X9 e9
  intro Tm1 Xm1 em1
  refine own_via (S' := Tm1.setTop (mkF m 39 #[.val (.int p0), .val (.int p1), .val (.int p2), .val (.int p3), .val (.long q0), .second, .val (.int kk), .val (.ref z1_0), .unset, .unset, .unset, .unset, .unset, .unset, .unset, .unset, .unset, .unset, .unset, .unset, .unset, .unset] [(.int p3)])) (fun t k => XS.iloadN Xm1.here hx rfl (hb hby at_38) rfl k) ?_
  refine own_via (S' := Tm1.setTop (mkF m 40 #[.val (.int p0), .val (.int p1), .val (.int p2), .val (.int p3), .val (.long q0), .second, .val (.int kk), .val (.ref z1_0), .unset, .unset, .unset, .unset, .unset, .unset, .unset, .unset, .unset, .unset, .unset, .unset, .unset, .unset] [(.int (3 : Int32)), (.int p3)])) (fun t k => XS.iconst Xm1.here hx rfl (hb hby at_39) k) ?_
  refine own_via (S' := Tm1.setTop (mkF m 41 #[.val (.int p0), .val (.int p1), .val (.int p2), .val (.int p3), .val (.long q0), .second, .val (.int kk), .val (.ref z1_0), .unset, .unset, .unset, .unset, .unset, .unset, .unset, .unset, .unset, .unset, .unset, .unset, .unset, .unset] [(.int (p3 &&& (3 : Int32)))])) (fun t k => XS.iand Xm1.here hx rfl (hb hby at_40) rfl k) ?_
  refine own_via (S' := Tm1.setTop (mkF m 43 #[.val (.int p0), .val (.int p1), .val (.int p2), .val (.int p3), .val (.long q0), .second, .val (.int kk), .val (.ref z1_0), .val (.int (p3 &&& (3 : Int32))), .unset, .unset, .unset, .unset, .unset, .unset, .unset, .unset, .unset, .unset, .unset, .unset, .unset] [])) (fun t k => XS.istore Xm1.here hx rfl (hb hby at_41) rfl (l' := #[.val (.int p0), .val (.int p1), .val (.int p2), .val (.int p3), .val (.long q0), .second, .val (.int kk), .val (.ref z1_0), .val (.int (p3 &&& (3 : Int32))), .unset, .unset, .unset, .unset, .unset, .unset, .unset, .unset, .unset, .unset, .unset, .unset, .unset]) rfl k) ?_
  obtain ⟨vl, hn_vl⟩ : ∃ z : Int32, z = (p3 &&& (3 : Int32)) := ⟨_, rfl⟩
  rw [← hn_vl]
  refine own_via (S' := Tm1.setTop (mkF m 44 #[.val (.int p0), .val (.int p1), .val (.int p2), .val (.int p3), .val (.long q0), .second, .val (.int kk), .val (.ref z1_0), .val (.int vl), .unset, .unset, .unset, .unset, .unset, .unset, .unset, .unset, .unset, .unset, .unset, .unset, .unset] [(.int p3)])) (fun t k => XS.iloadN Xm1.here hx rfl (hb hby at_43) rfl k) ?_
  refine own_via (S' := Tm1.setTop (mkF m 45 #[.val (.int p0), .val (.int p1), .val (.int p2), .val (.int p3), .val (.long q0), .second, .val (.int kk), .val (.ref z1_0), .val (.int vl), .unset, .unset, .unset, .unset, .unset, .unset, .unset, .unset, .unset, .unset, .unset, .unset, .unset] [(.int (2 : Int32)), (.int p3)])) (fun t k => XS.iconst Xm1.here hx rfl (hb hby at_44) k) ?_
  refine own_via (S' := Tm1.setTop (mkF m 46 #[.val (.int p0), .val (.int p1), .val (.int p2), .val (.int p3), .val (.long q0), .second, .val (.int kk), .val (.ref z1_0), .val (.int vl), .unset, .unset, .unset, .unset, .unset, .unset, .unset, .unset, .unset, .unset, .unset, .unset, .unset] [(.int ((p3.toUInt32 >>> ((2 : Int32) &&& 31).toUInt32).toInt32))])) (fun t k => XS.iushr Xm1.here hx rfl (hb hby at_45) rfl k) ?_
  refine own_via (S' := Tm1.setTop (mkF m 47 #[.val (.int p0), .val (.int p1), .val (.int p2), .val (.int p3), .val (.long q0), .second, .val (.int kk), .val (.ref z1_0), .val (.int vl), .unset, .unset, .unset, .unset, .unset, .unset, .unset, .unset, .unset, .unset, .unset, .unset, .unset] [(.int (3 : Int32)), (.int ((p3.toUInt32 >>> ((2 : Int32) &&& 31).toUInt32).toInt32))])) (fun t k => XS.iconst Xm1.here hx rfl (hb hby at_46) k) ?_
  refine own_via (S' := Tm1.setTop (mkF m 48 #[.val (.int p0), .val (.int p1), .val (.int p2), .val (.int p3), .val (.long q0), .second, .val (.int kk), .val (.ref z1_0), .val (.int vl), .unset, .unset, .unset, .unset, .unset, .unset, .unset, .unset, .unset, .unset, .unset, .unset, .unset] [(.int (((p3.toUInt32 >>> ((2 : Int32) &&& 31).toUInt32).toInt32) &&& (3 : Int32)))])) (fun t k => XS.iand Xm1.here hx rfl (hb hby at_47) rfl k) ?_
  refine own_via (S' := Tm1.setTop (mkF m 50 #[.val (.int p0), .val (.int p1), .val (.int p2), .val (.int p3), .val (.long q0), .second, .val (.int kk), .val (.ref z1_0), .val (.int vl), .val (.int (((p3.toUInt32 >>> ((2 : Int32) &&& 31).toUInt32).toInt32) &&& (3 : Int32))), .unset, .unset, .unset, .unset, .unset, .unset, .unset, .unset, .unset, .unset, .unset, .unset] [])) (fun t k => XS.istore Xm1.here hx rfl (hb hby at_48) rfl (l' := #[.val (.int p0), .val (.int p1), .val (.int p2), .val (.int p3), .val (.long q0), .second, .val (.int kk), .val (.ref z1_0), .val (.int vl), .val (.int (((p3.toUInt32 >>> ((2 : Int32) &&& 31).toUInt32).toInt32) &&& (3 : Int32))), .unset, .unset, .unset, .unset, .unset, .unset, .unset, .unset, .unset, .unset, .unset, .unset]) rfl k) ?_
  obtain ⟨nl, hn_nl⟩ : ∃ z : Int32, z = (((p3.toUInt32 >>> ((2 : Int32) &&& 31).toUInt32).toInt32) &&& (3 : Int32)) := ⟨_, rfl⟩
  rw [← hn_nl]
  refine own_via (S' := Tm1.setTop (mkF m 51 #[.val (.int p0), .val (.int p1), .val (.int p2), .val (.int p3), .val (.long q0), .second, .val (.int kk), .val (.ref z1_0), .val (.int vl), .val (.int nl), .unset, .unset, .unset, .unset, .unset, .unset, .unset, .unset, .unset, .unset, .unset, .unset] [(.int p3)])) (fun t k => XS.iloadN Xm1.here hx rfl (hb hby at_50) rfl k) ?_
  refine own_via (S' := Tm1.setTop (mkF m 52 #[.val (.int p0), .val (.int p1), .val (.int p2), .val (.int p3), .val (.long q0), .second, .val (.int kk), .val (.ref z1_0), .val (.int vl), .val (.int nl), .unset, .unset, .unset, .unset, .unset, .unset, .unset, .unset, .unset, .unset, .unset, .unset] [(.int (4 : Int32)), (.int p3)])) (fun t k => XS.iconst Xm1.here hx rfl (hb hby at_51) k) ?_
  refine own_via (S' := Tm1.setTop (mkF m 53 #[.val (.int p0), .val (.int p1), .val (.int p2), .val (.int p3), .val (.long q0), .second, .val (.int kk), .val (.ref z1_0), .val (.int vl), .val (.int nl), .unset, .unset, .unset, .unset, .unset, .unset, .unset, .unset, .unset, .unset, .unset, .unset] [(.int ((p3.toUInt32 >>> ((4 : Int32) &&& 31).toUInt32).toInt32))])) (fun t k => XS.iushr Xm1.here hx rfl (hb hby at_52) rfl k) ?_
  refine own_via (S' := Tm1.setTop (mkF m 54 #[.val (.int p0), .val (.int p1), .val (.int p2), .val (.int p3), .val (.long q0), .second, .val (.int kk), .val (.ref z1_0), .val (.int vl), .val (.int nl), .unset, .unset, .unset, .unset, .unset, .unset, .unset, .unset, .unset, .unset, .unset, .unset] [(.int (1 : Int32)), (.int ((p3.toUInt32 >>> ((4 : Int32) &&& 31).toUInt32).toInt32))])) (fun t k => XS.iconst Xm1.here hx rfl (hb hby at_53) k) ?_
  refine own_via (S' := Tm1.setTop (mkF m 55 #[.val (.int p0), .val (.int p1), .val (.int p2), .val (.int p3), .val (.long q0), .second, .val (.int kk), .val (.ref z1_0), .val (.int vl), .val (.int nl), .unset, .unset, .unset, .unset, .unset, .unset, .unset, .unset, .unset, .unset, .unset, .unset] [(.int (((p3.toUInt32 >>> ((4 : Int32) &&& 31).toUInt32).toInt32) &&& (1 : Int32)))])) (fun t k => XS.iand Xm1.here hx rfl (hb hby at_54) rfl k) ?_
  obtain ⟨z10_0, hz10_0⟩ : ∃ z : Int32, z = (if (((p3.toUInt32 >>> ((4 : Int32) &&& 31).toUInt32).toInt32) &&& (1 : Int32)) = (0 : Int32) then (1 : Int32) else (0 : Int32)) := ⟨_, rfl⟩
  suffices jn10 : ∀ (Tm10 : State), Stand p l e room_1 (s.setVm s.vm) m #[(.int p0), (.int p1), (.int p2), (.int p3), (.long q0)] below meth c Tm10 [] 0 0 → Tm10.heap = h0 → own_Done p e below (fun o U' => ∃ v L, o = .returned v ∧ Q_own_law Z p0 p1 p2 p3 q0 zc wE wT wS h0 n0 v U'.vm U'.heap L ∧ CHr Z own_EL s.vm s.heap U'.vm U'.heap ∧ ReturnedEndW s o U' L room_1.cells room_1.slots) (Tm10.setTop (mkF m 63 #[.val (.int p0), .val (.int p1), .val (.int p2), .val (.int p3), .val (.long q0), .second, .val (.int kk), .val (.ref z1_0), .val (.int vl), .val (.int nl), .unset, .unset, .unset, .unset, .unset, .unset, .unset, .unset, .unset, .unset, .unset, .unset] [(.int z10_0)])) by
    by_cases hc55_11 : (((p3.toUInt32 >>> ((4 : Int32) &&& 31).toUInt32).toInt32) &&& (1 : Int32)) = (0 : Int32)
    · -- yes
      refine own_via (S' := Tm1.setTop (mkF m 58 #[.val (.int p0), .val (.int p1), .val (.int p2), .val (.int p3), .val (.long q0), .second, .val (.int kk), .val (.ref z1_0), .val (.int vl), .val (.int nl), .unset, .unset, .unset, .unset, .unset, .unset, .unset, .unset, .unset, .unset, .unset, .unset] [])) (fun t k => XS.ifNo Xm1.here hx rfl (hb hby at_55) rfl ((if0 _ _).trans (teq hc55_11).2) k) ?_
      refine own_via (S' := Tm1.setTop (mkF m 59 #[.val (.int p0), .val (.int p1), .val (.int p2), .val (.int p3), .val (.long q0), .second, .val (.int kk), .val (.ref z1_0), .val (.int vl), .val (.int nl), .unset, .unset, .unset, .unset, .unset, .unset, .unset, .unset, .unset, .unset, .unset, .unset] [(.int (1 : Int32))])) (fun t k => XS.iconst Xm1.here hx rfl (hb hby at_58) k) ?_
      refine own_via (S' := Tm1.setTop (mkF m 63 #[.val (.int p0), .val (.int p1), .val (.int p2), .val (.int p3), .val (.long q0), .second, .val (.int kk), .val (.ref z1_0), .val (.int vl), .val (.int nl), .unset, .unset, .unset, .unset, .unset, .unset, .unset, .unset, .unset, .unset, .unset, .unset] [(.int (1 : Int32))])) (fun t k => XS.goto Xm1.here hx rfl (pc0 := 59) (pc' := 63) rfl (hb hby at_59) (by decide) (by decide) k) ?_
      have qz10_0 : z10_0 = (1 : Int32) := hz10_0.trans (if_pos hc55_11)
      rw [qz10_0] at jn10
      exact jn10 _ Xm1 em1
    · -- no
      refine own_via (S' := Tm1.setTop (mkF m 62 #[.val (.int p0), .val (.int p1), .val (.int p2), .val (.int p3), .val (.long q0), .second, .val (.int kk), .val (.ref z1_0), .val (.int vl), .val (.int nl), .unset, .unset, .unset, .unset, .unset, .unset, .unset, .unset, .unset, .unset, .unset, .unset] [])) (fun t k => XS.ifYes Xm1.here hx rfl (pc0 := 55) (pc' := 62) rfl (hb hby at_55) rfl ((if0 _ _).trans (feq hc55_11).2) (by decide) (by decide) k) ?_
      refine own_via (S' := Tm1.setTop (mkF m 63 #[.val (.int p0), .val (.int p1), .val (.int p2), .val (.int p3), .val (.long q0), .second, .val (.int kk), .val (.ref z1_0), .val (.int vl), .val (.int nl), .unset, .unset, .unset, .unset, .unset, .unset, .unset, .unset, .unset, .unset, .unset, .unset] [(.int (0 : Int32))])) (fun t k => XS.iconst Xm1.here hx rfl (hb hby at_62) k) ?_
      have qz10_0 : z10_0 = (0 : Int32) := hz10_0.trans (if_neg hc55_11)
      rw [qz10_0] at jn10
      exact jn10 _ Xm1 em1
  intro Tm10 Xm10 em10
  refine own_via (S' := Tm10.setTop (mkF m 65 #[.val (.int p0), .val (.int p1), .val (.int p2), .val (.int p3), .val (.long q0), .second, .val (.int kk), .val (.ref z1_0), .val (.int vl), .val (.int nl), .val (.int z10_0), .unset, .unset, .unset, .unset, .unset, .unset, .unset, .unset, .unset, .unset, .unset] [])) (fun t k => XS.istore Xm10.here hx rfl (hb hby at_63) rfl (l' := #[.val (.int p0), .val (.int p1), .val (.int p2), .val (.int p3), .val (.long q0), .second, .val (.int kk), .val (.ref z1_0), .val (.int vl), .val (.int nl), .val (.int z10_0), .unset, .unset, .unset, .unset, .unset, .unset, .unset, .unset, .unset, .unset, .unset]) rfl k) ?_
  refine own_via (S' := Tm10.setTop (mkF m 66 #[.val (.int p0), .val (.int p1), .val (.int p2), .val (.int p3), .val (.long q0), .second, .val (.int kk), .val (.ref z1_0), .val (.int vl), .val (.int nl), .val (.int z10_0), .unset, .unset, .unset, .unset, .unset, .unset, .unset, .unset, .unset, .unset, .unset] [(.int p1)])) (fun t k => XS.iloadN Xm10.here hx rfl (hb hby at_65) rfl k) ?_
  refine own_via (S' := Tm10.setTop (mkF m 69 #[.val (.int p0), .val (.int p1), .val (.int p2), .val (.int p3), .val (.long q0), .second, .val (.int kk), .val (.ref z1_0), .val (.int vl), .val (.int nl), .val (.int z10_0), .unset, .unset, .unset, .unset, .unset, .unset, .unset, .unset, .unset, .unset, .unset] [(.int (255 : Int32)), (.int p1)])) (fun t k => XS.sipush Xm10.here hx rfl (hb hby at_66) k) ?_
  refine own_via (S' := Tm10.setTop (mkF m 70 #[.val (.int p0), .val (.int p1), .val (.int p2), .val (.int p3), .val (.long q0), .second, .val (.int kk), .val (.ref z1_0), .val (.int vl), .val (.int nl), .val (.int z10_0), .unset, .unset, .unset, .unset, .unset, .unset, .unset, .unset, .unset, .unset, .unset] [(.int (p1 &&& (255 : Int32)))])) (fun t k => XS.iand Xm10.here hx rfl (hb hby at_69) rfl k) ?_
  refine own_via (S' := Tm10.setTop (mkF m 71 #[.val (.int p0), .val (.int p1), .val (.int p2), .val (.int p3), .val (.long q0), .second, .val (.int kk), .val (.ref z1_0), .val (.int vl), .val (.int nl), .val (.int z10_0), .unset, .unset, .unset, .unset, .unset, .unset, .unset, .unset, .unset, .unset, .unset] [(.int ((p1 &&& (255 : Int32)).toUInt32.toUInt16.toUInt32.toInt32))])) (fun t k => XS.i2c Xm10.here hx rfl (hb hby at_70) rfl k) ?_
  obtain ⟨v0, hn_v0⟩ : ∃ z : Int32, z = ((p1 &&& (255 : Int32)).toUInt32.toUInt16.toUInt32.toInt32) := ⟨_, rfl⟩
  rw [← hn_v0]
  have rng_v0 : ¬ v0 < 0 ∧ ¬ (255 : Int32) < v0 := by rw [hn_v0]; exact own_and255 _
  refine own_via (S' := Tm10.setTop (mkF m 73 #[.val (.int p0), .val (.int p1), .val (.int p2), .val (.int p3), .val (.long q0), .second, .val (.int kk), .val (.ref z1_0), .val (.int vl), .val (.int nl), .val (.int z10_0), .val (.int v0), .unset, .unset, .unset, .unset, .unset, .unset, .unset, .unset, .unset, .unset] [])) (fun t k => XS.istore Xm10.here hx rfl (hb hby at_71) rfl (l' := #[.val (.int p0), .val (.int p1), .val (.int p2), .val (.int p3), .val (.long q0), .second, .val (.int kk), .val (.ref z1_0), .val (.int vl), .val (.int nl), .val (.int z10_0), .val (.int v0), .unset, .unset, .unset, .unset, .unset, .unset, .unset, .unset, .unset, .unset]) rfl k) ?_
  refine own_via (S' := Tm10.setTop (mkF m 74 #[.val (.int p0), .val (.int p1), .val (.int p2), .val (.int p3), .val (.long q0), .second, .val (.int kk), .val (.ref z1_0), .val (.int vl), .val (.int nl), .val (.int z10_0), .val (.int v0), .unset, .unset, .unset, .unset, .unset, .unset, .unset, .unset, .unset, .unset] [(.int p1)])) (fun t k => XS.iloadN Xm10.here hx rfl (hb hby at_73) rfl k) ?_
  refine own_via (S' := Tm10.setTop (mkF m 76 #[.val (.int p0), .val (.int p1), .val (.int p2), .val (.int p3), .val (.long q0), .second, .val (.int kk), .val (.ref z1_0), .val (.int vl), .val (.int nl), .val (.int z10_0), .val (.int v0), .unset, .unset, .unset, .unset, .unset, .unset, .unset, .unset, .unset, .unset] [(.int (8 : Int32)), (.int p1)])) (fun t k => XS.bipush Xm10.here hx rfl (hb hby at_74) k) ?_
  refine own_via (S' := Tm10.setTop (mkF m 77 #[.val (.int p0), .val (.int p1), .val (.int p2), .val (.int p3), .val (.long q0), .second, .val (.int kk), .val (.ref z1_0), .val (.int vl), .val (.int nl), .val (.int z10_0), .val (.int v0), .unset, .unset, .unset, .unset, .unset, .unset, .unset, .unset, .unset, .unset] [(.int ((p1.toUInt32 >>> ((8 : Int32) &&& 31).toUInt32).toInt32))])) (fun t k => XS.iushr Xm10.here hx rfl (hb hby at_76) rfl k) ?_
  refine own_via (S' := Tm10.setTop (mkF m 80 #[.val (.int p0), .val (.int p1), .val (.int p2), .val (.int p3), .val (.long q0), .second, .val (.int kk), .val (.ref z1_0), .val (.int vl), .val (.int nl), .val (.int z10_0), .val (.int v0), .unset, .unset, .unset, .unset, .unset, .unset, .unset, .unset, .unset, .unset] [(.int (255 : Int32)), (.int ((p1.toUInt32 >>> ((8 : Int32) &&& 31).toUInt32).toInt32))])) (fun t k => XS.sipush Xm10.here hx rfl (hb hby at_77) k) ?_
  refine own_via (S' := Tm10.setTop (mkF m 81 #[.val (.int p0), .val (.int p1), .val (.int p2), .val (.int p3), .val (.long q0), .second, .val (.int kk), .val (.ref z1_0), .val (.int vl), .val (.int nl), .val (.int z10_0), .val (.int v0), .unset, .unset, .unset, .unset, .unset, .unset, .unset, .unset, .unset, .unset] [(.int (((p1.toUInt32 >>> ((8 : Int32) &&& 31).toUInt32).toInt32) &&& (255 : Int32)))])) (fun t k => XS.iand Xm10.here hx rfl (hb hby at_80) rfl k) ?_
  refine own_via (S' := Tm10.setTop (mkF m 82 #[.val (.int p0), .val (.int p1), .val (.int p2), .val (.int p3), .val (.long q0), .second, .val (.int kk), .val (.ref z1_0), .val (.int vl), .val (.int nl), .val (.int z10_0), .val (.int v0), .unset, .unset, .unset, .unset, .unset, .unset, .unset, .unset, .unset, .unset] [(.int ((((p1.toUInt32 >>> ((8 : Int32) &&& 31).toUInt32).toInt32) &&& (255 : Int32)).toUInt32.toUInt16.toUInt32.toInt32))])) (fun t k => XS.i2c Xm10.here hx rfl (hb hby at_81) rfl k) ?_
  obtain ⟨v1, hn_v1⟩ : ∃ z : Int32, z = ((((p1.toUInt32 >>> ((8 : Int32) &&& 31).toUInt32).toInt32) &&& (255 : Int32)).toUInt32.toUInt16.toUInt32.toInt32) := ⟨_, rfl⟩
  rw [← hn_v1]
  have rng_v1 : ¬ v1 < 0 ∧ ¬ (255 : Int32) < v1 := by rw [hn_v1]; exact own_and255 _
  refine own_via (S' := Tm10.setTop (mkF m 84 #[.val (.int p0), .val (.int p1), .val (.int p2), .val (.int p3), .val (.long q0), .second, .val (.int kk), .val (.ref z1_0), .val (.int vl), .val (.int nl), .val (.int z10_0), .val (.int v0), .val (.int v1), .unset, .unset, .unset, .unset, .unset, .unset, .unset, .unset, .unset] [])) (fun t k => XS.istore Xm10.here hx rfl (hb hby at_82) rfl (l' := #[.val (.int p0), .val (.int p1), .val (.int p2), .val (.int p3), .val (.long q0), .second, .val (.int kk), .val (.ref z1_0), .val (.int vl), .val (.int nl), .val (.int z10_0), .val (.int v0), .val (.int v1), .unset, .unset, .unset, .unset, .unset, .unset, .unset, .unset, .unset]) rfl k) ?_
  refine own_via (S' := Tm10.setTop (mkF m 85 #[.val (.int p0), .val (.int p1), .val (.int p2), .val (.int p3), .val (.long q0), .second, .val (.int kk), .val (.ref z1_0), .val (.int vl), .val (.int nl), .val (.int z10_0), .val (.int v0), .val (.int v1), .unset, .unset, .unset, .unset, .unset, .unset, .unset, .unset, .unset] [(.int p1)])) (fun t k => XS.iloadN Xm10.here hx rfl (hb hby at_84) rfl k) ?_
  refine own_via (S' := Tm10.setTop (mkF m 87 #[.val (.int p0), .val (.int p1), .val (.int p2), .val (.int p3), .val (.long q0), .second, .val (.int kk), .val (.ref z1_0), .val (.int vl), .val (.int nl), .val (.int z10_0), .val (.int v0), .val (.int v1), .unset, .unset, .unset, .unset, .unset, .unset, .unset, .unset, .unset] [(.int (16 : Int32)), (.int p1)])) (fun t k => XS.bipush Xm10.here hx rfl (hb hby at_85) k) ?_
  refine own_via (S' := Tm10.setTop (mkF m 88 #[.val (.int p0), .val (.int p1), .val (.int p2), .val (.int p3), .val (.long q0), .second, .val (.int kk), .val (.ref z1_0), .val (.int vl), .val (.int nl), .val (.int z10_0), .val (.int v0), .val (.int v1), .unset, .unset, .unset, .unset, .unset, .unset, .unset, .unset, .unset] [(.int ((p1.toUInt32 >>> ((16 : Int32) &&& 31).toUInt32).toInt32))])) (fun t k => XS.iushr Xm10.here hx rfl (hb hby at_87) rfl k) ?_
  refine own_via (S' := Tm10.setTop (mkF m 91 #[.val (.int p0), .val (.int p1), .val (.int p2), .val (.int p3), .val (.long q0), .second, .val (.int kk), .val (.ref z1_0), .val (.int vl), .val (.int nl), .val (.int z10_0), .val (.int v0), .val (.int v1), .unset, .unset, .unset, .unset, .unset, .unset, .unset, .unset, .unset] [(.int (255 : Int32)), (.int ((p1.toUInt32 >>> ((16 : Int32) &&& 31).toUInt32).toInt32))])) (fun t k => XS.sipush Xm10.here hx rfl (hb hby at_88) k) ?_
  refine own_via (S' := Tm10.setTop (mkF m 92 #[.val (.int p0), .val (.int p1), .val (.int p2), .val (.int p3), .val (.long q0), .second, .val (.int kk), .val (.ref z1_0), .val (.int vl), .val (.int nl), .val (.int z10_0), .val (.int v0), .val (.int v1), .unset, .unset, .unset, .unset, .unset, .unset, .unset, .unset, .unset] [(.int (((p1.toUInt32 >>> ((16 : Int32) &&& 31).toUInt32).toInt32) &&& (255 : Int32)))])) (fun t k => XS.iand Xm10.here hx rfl (hb hby at_91) rfl k) ?_
  refine own_via (S' := Tm10.setTop (mkF m 93 #[.val (.int p0), .val (.int p1), .val (.int p2), .val (.int p3), .val (.long q0), .second, .val (.int kk), .val (.ref z1_0), .val (.int vl), .val (.int nl), .val (.int z10_0), .val (.int v0), .val (.int v1), .unset, .unset, .unset, .unset, .unset, .unset, .unset, .unset, .unset] [(.int ((((p1.toUInt32 >>> ((16 : Int32) &&& 31).toUInt32).toInt32) &&& (255 : Int32)).toUInt32.toUInt16.toUInt32.toInt32))])) (fun t k => XS.i2c Xm10.here hx rfl (hb hby at_92) rfl k) ?_
  obtain ⟨v2, hn_v2⟩ : ∃ z : Int32, z = ((((p1.toUInt32 >>> ((16 : Int32) &&& 31).toUInt32).toInt32) &&& (255 : Int32)).toUInt32.toUInt16.toUInt32.toInt32) := ⟨_, rfl⟩
  rw [← hn_v2]
  have rng_v2 : ¬ v2 < 0 ∧ ¬ (255 : Int32) < v2 := by rw [hn_v2]; exact own_and255 _
  refine own_via (S' := Tm10.setTop (mkF m 95 #[.val (.int p0), .val (.int p1), .val (.int p2), .val (.int p3), .val (.long q0), .second, .val (.int kk), .val (.ref z1_0), .val (.int vl), .val (.int nl), .val (.int z10_0), .val (.int v0), .val (.int v1), .val (.int v2), .unset, .unset, .unset, .unset, .unset, .unset, .unset, .unset] [])) (fun t k => XS.istore Xm10.here hx rfl (hb hby at_93) rfl (l' := #[.val (.int p0), .val (.int p1), .val (.int p2), .val (.int p3), .val (.long q0), .second, .val (.int kk), .val (.ref z1_0), .val (.int vl), .val (.int nl), .val (.int z10_0), .val (.int v0), .val (.int v1), .val (.int v2), .unset, .unset, .unset, .unset, .unset, .unset, .unset, .unset]) rfl k) ?_
  refine own_via (S' := Tm10.setTop (mkF m 97 #[.val (.int p0), .val (.int p1), .val (.int p2), .val (.int p3), .val (.long q0), .second, .val (.int kk), .val (.ref z1_0), .val (.int vl), .val (.int nl), .val (.int z10_0), .val (.int v0), .val (.int v1), .val (.int v2), .unset, .unset, .unset, .unset, .unset, .unset, .unset, .unset] [(.int z10_0)])) (fun t k => XS.iload Xm10.here hx rfl (hb hby at_95) rfl k) ?_
  obtain ⟨z12_0, hz12_0⟩ : ∃ z : Int32, z = (if z10_0 = (0 : Int32) then ((p2 &&& (255 : Int32)).toUInt32.toUInt16.toUInt32.toInt32) else v0) := ⟨_, rfl⟩
  suffices jn12 : ∀ (Tm12 : State), Stand p l e room_1 (s.setVm s.vm) m #[(.int p0), (.int p1), (.int p2), (.int p3), (.long q0)] below meth c Tm12 [] 0 0 → Tm12.heap = h0 → own_Done p e below (fun o U' => ∃ v L, o = .returned v ∧ Q_own_law Z p0 p1 p2 p3 q0 zc wE wT wS h0 n0 v U'.vm U'.heap L ∧ CHr Z own_EL s.vm s.heap U'.vm U'.heap ∧ ReturnedEndW s o U' L room_1.cells room_1.slots) (Tm12.setTop (mkF m 111 #[.val (.int p0), .val (.int p1), .val (.int p2), .val (.int p3), .val (.long q0), .second, .val (.int kk), .val (.ref z1_0), .val (.int vl), .val (.int nl), .val (.int z10_0), .val (.int v0), .val (.int v1), .val (.int v2), .unset, .unset, .unset, .unset, .unset, .unset, .unset, .unset] [(.int z12_0)])) by
    by_cases hc97_13 : z10_0 = (0 : Int32)
    · -- yes
      refine own_via (S' := Tm10.setTop (mkF m 105 #[.val (.int p0), .val (.int p1), .val (.int p2), .val (.int p3), .val (.long q0), .second, .val (.int kk), .val (.ref z1_0), .val (.int vl), .val (.int nl), .val (.int z10_0), .val (.int v0), .val (.int v1), .val (.int v2), .unset, .unset, .unset, .unset, .unset, .unset, .unset, .unset] [])) (fun t k => XS.ifYes Xm10.here hx rfl (pc0 := 97) (pc' := 105) rfl (hb hby at_97) rfl ((if0 _ _).trans (teq hc97_13).1) (by decide) (by decide) k) ?_
      refine own_via (S' := Tm10.setTop (mkF m 106 #[.val (.int p0), .val (.int p1), .val (.int p2), .val (.int p3), .val (.long q0), .second, .val (.int kk), .val (.ref z1_0), .val (.int vl), .val (.int nl), .val (.int z10_0), .val (.int v0), .val (.int v1), .val (.int v2), .unset, .unset, .unset, .unset, .unset, .unset, .unset, .unset] [(.int p2)])) (fun t k => XS.iloadN Xm10.here hx rfl (hb hby at_105) rfl k) ?_
      refine own_via (S' := Tm10.setTop (mkF m 109 #[.val (.int p0), .val (.int p1), .val (.int p2), .val (.int p3), .val (.long q0), .second, .val (.int kk), .val (.ref z1_0), .val (.int vl), .val (.int nl), .val (.int z10_0), .val (.int v0), .val (.int v1), .val (.int v2), .unset, .unset, .unset, .unset, .unset, .unset, .unset, .unset] [(.int (255 : Int32)), (.int p2)])) (fun t k => XS.sipush Xm10.here hx rfl (hb hby at_106) k) ?_
      refine own_via (S' := Tm10.setTop (mkF m 110 #[.val (.int p0), .val (.int p1), .val (.int p2), .val (.int p3), .val (.long q0), .second, .val (.int kk), .val (.ref z1_0), .val (.int vl), .val (.int nl), .val (.int z10_0), .val (.int v0), .val (.int v1), .val (.int v2), .unset, .unset, .unset, .unset, .unset, .unset, .unset, .unset] [(.int (p2 &&& (255 : Int32)))])) (fun t k => XS.iand Xm10.here hx rfl (hb hby at_109) rfl k) ?_
      refine own_via (S' := Tm10.setTop (mkF m 111 #[.val (.int p0), .val (.int p1), .val (.int p2), .val (.int p3), .val (.long q0), .second, .val (.int kk), .val (.ref z1_0), .val (.int vl), .val (.int nl), .val (.int z10_0), .val (.int v0), .val (.int v1), .val (.int v2), .unset, .unset, .unset, .unset, .unset, .unset, .unset, .unset] [(.int ((p2 &&& (255 : Int32)).toUInt32.toUInt16.toUInt32.toInt32))])) (fun t k => XS.i2c Xm10.here hx rfl (hb hby at_110) rfl k) ?_
      have qz12_0 : z12_0 = ((p2 &&& (255 : Int32)).toUInt32.toUInt16.toUInt32.toInt32) := hz12_0.trans (if_pos hc97_13)
      rw [qz12_0] at jn12
      exact jn12 _ Xm10 em10
    · -- no
      refine own_via (S' := Tm10.setTop (mkF m 100 #[.val (.int p0), .val (.int p1), .val (.int p2), .val (.int p3), .val (.long q0), .second, .val (.int kk), .val (.ref z1_0), .val (.int vl), .val (.int nl), .val (.int z10_0), .val (.int v0), .val (.int v1), .val (.int v2), .unset, .unset, .unset, .unset, .unset, .unset, .unset, .unset] [])) (fun t k => XS.ifNo Xm10.here hx rfl (hb hby at_97) rfl ((if0 _ _).trans (feq hc97_13).1) k) ?_
      refine own_via (S' := Tm10.setTop (mkF m 102 #[.val (.int p0), .val (.int p1), .val (.int p2), .val (.int p3), .val (.long q0), .second, .val (.int kk), .val (.ref z1_0), .val (.int vl), .val (.int nl), .val (.int z10_0), .val (.int v0), .val (.int v1), .val (.int v2), .unset, .unset, .unset, .unset, .unset, .unset, .unset, .unset] [(.int v0)])) (fun t k => XS.iload Xm10.here hx rfl (hb hby at_100) rfl k) ?_
      refine own_via (S' := Tm10.setTop (mkF m 111 #[.val (.int p0), .val (.int p1), .val (.int p2), .val (.int p3), .val (.long q0), .second, .val (.int kk), .val (.ref z1_0), .val (.int vl), .val (.int nl), .val (.int z10_0), .val (.int v0), .val (.int v1), .val (.int v2), .unset, .unset, .unset, .unset, .unset, .unset, .unset, .unset] [(.int v0)])) (fun t k => XS.goto Xm10.here hx rfl (pc0 := 102) (pc' := 111) rfl (hb hby at_102) (by decide) (by decide) k) ?_
      have qz12_0 : z12_0 = v0 := hz12_0.trans (if_neg hc97_13)
      rw [qz12_0] at jn12
      exact jn12 _ Xm10 em10
  intro Tm12 Xm12 em12
  have rng_z12_0 : ¬ z12_0 < 0 ∧ ¬ (255 : Int32) < z12_0 := by rw [hz12_0]; split; exact own_and255 _; exact rng_v0
  refine own_via (S' := Tm12.setTop (mkF m 113 #[.val (.int p0), .val (.int p1), .val (.int p2), .val (.int p3), .val (.long q0), .second, .val (.int kk), .val (.ref z1_0), .val (.int vl), .val (.int nl), .val (.int z10_0), .val (.int v0), .val (.int v1), .val (.int v2), .val (.int z12_0), .unset, .unset, .unset, .unset, .unset, .unset, .unset] [])) (fun t k => XS.istore Xm12.here hx rfl (hb hby at_111) rfl (l' := #[.val (.int p0), .val (.int p1), .val (.int p2), .val (.int p3), .val (.long q0), .second, .val (.int kk), .val (.ref z1_0), .val (.int vl), .val (.int nl), .val (.int z10_0), .val (.int v0), .val (.int v1), .val (.int v2), .val (.int z12_0), .unset, .unset, .unset, .unset, .unset, .unset, .unset]) rfl k) ?_
  refine own_via (S' := Tm12.setTop (mkF m 115 #[.val (.int p0), .val (.int p1), .val (.int p2), .val (.int p3), .val (.long q0), .second, .val (.int kk), .val (.ref z1_0), .val (.int vl), .val (.int nl), .val (.int z10_0), .val (.int v0), .val (.int v1), .val (.int v2), .val (.int z12_0), .unset, .unset, .unset, .unset, .unset, .unset, .unset] [(.int z10_0)])) (fun t k => XS.iload Xm12.here hx rfl (hb hby at_113) rfl k) ?_
  obtain ⟨z14_0, hz14_0⟩ : ∃ z : Int32, z = (if z10_0 = (0 : Int32) then ((((p2.toUInt32 >>> ((8 : Int32) &&& 31).toUInt32).toInt32) &&& (255 : Int32)).toUInt32.toUInt16.toUInt32.toInt32) else v1) := ⟨_, rfl⟩
  suffices jn14 : ∀ (Tm14 : State), Stand p l e room_1 (s.setVm s.vm) m #[(.int p0), (.int p1), (.int p2), (.int p3), (.long q0)] below meth c Tm14 [] 0 0 → Tm14.heap = h0 → own_Done p e below (fun o U' => ∃ v L, o = .returned v ∧ Q_own_law Z p0 p1 p2 p3 q0 zc wE wT wS h0 n0 v U'.vm U'.heap L ∧ CHr Z own_EL s.vm s.heap U'.vm U'.heap ∧ ReturnedEndW s o U' L room_1.cells room_1.slots) (Tm14.setTop (mkF m 132 #[.val (.int p0), .val (.int p1), .val (.int p2), .val (.int p3), .val (.long q0), .second, .val (.int kk), .val (.ref z1_0), .val (.int vl), .val (.int nl), .val (.int z10_0), .val (.int v0), .val (.int v1), .val (.int v2), .val (.int z12_0), .unset, .unset, .unset, .unset, .unset, .unset, .unset] [(.int z14_0)])) by
    by_cases hc115_15 : z10_0 = (0 : Int32)
    · -- yes
      refine own_via (S' := Tm12.setTop (mkF m 123 #[.val (.int p0), .val (.int p1), .val (.int p2), .val (.int p3), .val (.long q0), .second, .val (.int kk), .val (.ref z1_0), .val (.int vl), .val (.int nl), .val (.int z10_0), .val (.int v0), .val (.int v1), .val (.int v2), .val (.int z12_0), .unset, .unset, .unset, .unset, .unset, .unset, .unset] [])) (fun t k => XS.ifYes Xm12.here hx rfl (pc0 := 115) (pc' := 123) rfl (hb hby at_115) rfl ((if0 _ _).trans (teq hc115_15).1) (by decide) (by decide) k) ?_
      refine own_via (S' := Tm12.setTop (mkF m 124 #[.val (.int p0), .val (.int p1), .val (.int p2), .val (.int p3), .val (.long q0), .second, .val (.int kk), .val (.ref z1_0), .val (.int vl), .val (.int nl), .val (.int z10_0), .val (.int v0), .val (.int v1), .val (.int v2), .val (.int z12_0), .unset, .unset, .unset, .unset, .unset, .unset, .unset] [(.int p2)])) (fun t k => XS.iloadN Xm12.here hx rfl (hb hby at_123) rfl k) ?_
      refine own_via (S' := Tm12.setTop (mkF m 126 #[.val (.int p0), .val (.int p1), .val (.int p2), .val (.int p3), .val (.long q0), .second, .val (.int kk), .val (.ref z1_0), .val (.int vl), .val (.int nl), .val (.int z10_0), .val (.int v0), .val (.int v1), .val (.int v2), .val (.int z12_0), .unset, .unset, .unset, .unset, .unset, .unset, .unset] [(.int (8 : Int32)), (.int p2)])) (fun t k => XS.bipush Xm12.here hx rfl (hb hby at_124) k) ?_
      refine own_via (S' := Tm12.setTop (mkF m 127 #[.val (.int p0), .val (.int p1), .val (.int p2), .val (.int p3), .val (.long q0), .second, .val (.int kk), .val (.ref z1_0), .val (.int vl), .val (.int nl), .val (.int z10_0), .val (.int v0), .val (.int v1), .val (.int v2), .val (.int z12_0), .unset, .unset, .unset, .unset, .unset, .unset, .unset] [(.int ((p2.toUInt32 >>> ((8 : Int32) &&& 31).toUInt32).toInt32))])) (fun t k => XS.iushr Xm12.here hx rfl (hb hby at_126) rfl k) ?_
      refine own_via (S' := Tm12.setTop (mkF m 130 #[.val (.int p0), .val (.int p1), .val (.int p2), .val (.int p3), .val (.long q0), .second, .val (.int kk), .val (.ref z1_0), .val (.int vl), .val (.int nl), .val (.int z10_0), .val (.int v0), .val (.int v1), .val (.int v2), .val (.int z12_0), .unset, .unset, .unset, .unset, .unset, .unset, .unset] [(.int (255 : Int32)), (.int ((p2.toUInt32 >>> ((8 : Int32) &&& 31).toUInt32).toInt32))])) (fun t k => XS.sipush Xm12.here hx rfl (hb hby at_127) k) ?_
      refine own_via (S' := Tm12.setTop (mkF m 131 #[.val (.int p0), .val (.int p1), .val (.int p2), .val (.int p3), .val (.long q0), .second, .val (.int kk), .val (.ref z1_0), .val (.int vl), .val (.int nl), .val (.int z10_0), .val (.int v0), .val (.int v1), .val (.int v2), .val (.int z12_0), .unset, .unset, .unset, .unset, .unset, .unset, .unset] [(.int (((p2.toUInt32 >>> ((8 : Int32) &&& 31).toUInt32).toInt32) &&& (255 : Int32)))])) (fun t k => XS.iand Xm12.here hx rfl (hb hby at_130) rfl k) ?_
      refine own_via (S' := Tm12.setTop (mkF m 132 #[.val (.int p0), .val (.int p1), .val (.int p2), .val (.int p3), .val (.long q0), .second, .val (.int kk), .val (.ref z1_0), .val (.int vl), .val (.int nl), .val (.int z10_0), .val (.int v0), .val (.int v1), .val (.int v2), .val (.int z12_0), .unset, .unset, .unset, .unset, .unset, .unset, .unset] [(.int ((((p2.toUInt32 >>> ((8 : Int32) &&& 31).toUInt32).toInt32) &&& (255 : Int32)).toUInt32.toUInt16.toUInt32.toInt32))])) (fun t k => XS.i2c Xm12.here hx rfl (hb hby at_131) rfl k) ?_
      have qz14_0 : z14_0 = ((((p2.toUInt32 >>> ((8 : Int32) &&& 31).toUInt32).toInt32) &&& (255 : Int32)).toUInt32.toUInt16.toUInt32.toInt32) := hz14_0.trans (if_pos hc115_15)
      rw [qz14_0] at jn14
      exact jn14 _ Xm12 em12
    · -- no
      refine own_via (S' := Tm12.setTop (mkF m 118 #[.val (.int p0), .val (.int p1), .val (.int p2), .val (.int p3), .val (.long q0), .second, .val (.int kk), .val (.ref z1_0), .val (.int vl), .val (.int nl), .val (.int z10_0), .val (.int v0), .val (.int v1), .val (.int v2), .val (.int z12_0), .unset, .unset, .unset, .unset, .unset, .unset, .unset] [])) (fun t k => XS.ifNo Xm12.here hx rfl (hb hby at_115) rfl ((if0 _ _).trans (feq hc115_15).1) k) ?_
      refine own_via (S' := Tm12.setTop (mkF m 120 #[.val (.int p0), .val (.int p1), .val (.int p2), .val (.int p3), .val (.long q0), .second, .val (.int kk), .val (.ref z1_0), .val (.int vl), .val (.int nl), .val (.int z10_0), .val (.int v0), .val (.int v1), .val (.int v2), .val (.int z12_0), .unset, .unset, .unset, .unset, .unset, .unset, .unset] [(.int v1)])) (fun t k => XS.iload Xm12.here hx rfl (hb hby at_118) rfl k) ?_
      refine own_via (S' := Tm12.setTop (mkF m 132 #[.val (.int p0), .val (.int p1), .val (.int p2), .val (.int p3), .val (.long q0), .second, .val (.int kk), .val (.ref z1_0), .val (.int vl), .val (.int nl), .val (.int z10_0), .val (.int v0), .val (.int v1), .val (.int v2), .val (.int z12_0), .unset, .unset, .unset, .unset, .unset, .unset, .unset] [(.int v1)])) (fun t k => XS.goto Xm12.here hx rfl (pc0 := 120) (pc' := 132) rfl (hb hby at_120) (by decide) (by decide) k) ?_
      have qz14_0 : z14_0 = v1 := hz14_0.trans (if_neg hc115_15)
      rw [qz14_0] at jn14
      exact jn14 _ Xm12 em12
  intro Tm14 Xm14 em14
  have rng_z14_0 : ¬ z14_0 < 0 ∧ ¬ (255 : Int32) < z14_0 := by rw [hz14_0]; split; exact own_and255 _; exact rng_v1
  refine own_via (S' := Tm14.setTop (mkF m 134 #[.val (.int p0), .val (.int p1), .val (.int p2), .val (.int p3), .val (.long q0), .second, .val (.int kk), .val (.ref z1_0), .val (.int vl), .val (.int nl), .val (.int z10_0), .val (.int v0), .val (.int v1), .val (.int v2), .val (.int z12_0), .val (.int z14_0), .unset, .unset, .unset, .unset, .unset, .unset] [])) (fun t k => XS.istore Xm14.here hx rfl (hb hby at_132) rfl (l' := #[.val (.int p0), .val (.int p1), .val (.int p2), .val (.int p3), .val (.long q0), .second, .val (.int kk), .val (.ref z1_0), .val (.int vl), .val (.int nl), .val (.int z10_0), .val (.int v0), .val (.int v1), .val (.int v2), .val (.int z12_0), .val (.int z14_0), .unset, .unset, .unset, .unset, .unset, .unset]) rfl k) ?_
  refine own_via (S' := Tm14.setTop (mkF m 136 #[.val (.int p0), .val (.int p1), .val (.int p2), .val (.int p3), .val (.long q0), .second, .val (.int kk), .val (.ref z1_0), .val (.int vl), .val (.int nl), .val (.int z10_0), .val (.int v0), .val (.int v1), .val (.int v2), .val (.int z12_0), .val (.int z14_0), .unset, .unset, .unset, .unset, .unset, .unset] [(.int z10_0)])) (fun t k => XS.iload Xm14.here hx rfl (hb hby at_134) rfl k) ?_
  obtain ⟨z16_0, hz16_0⟩ : ∃ z : Int32, z = (if z10_0 = (0 : Int32) then ((((p2.toUInt32 >>> ((16 : Int32) &&& 31).toUInt32).toInt32) &&& (255 : Int32)).toUInt32.toUInt16.toUInt32.toInt32) else v2) := ⟨_, rfl⟩
  suffices jn16 : ∀ (Tm16 : State), Stand p l e room_1 (s.setVm s.vm) m #[(.int p0), (.int p1), (.int p2), (.int p3), (.long q0)] below meth c Tm16 [] 0 0 → Tm16.heap = h0 → own_Done p e below (fun o U' => ∃ v L, o = .returned v ∧ Q_own_law Z p0 p1 p2 p3 q0 zc wE wT wS h0 n0 v U'.vm U'.heap L ∧ CHr Z own_EL s.vm s.heap U'.vm U'.heap ∧ ReturnedEndW s o U' L room_1.cells room_1.slots) (Tm16.setTop (mkF m 153 #[.val (.int p0), .val (.int p1), .val (.int p2), .val (.int p3), .val (.long q0), .second, .val (.int kk), .val (.ref z1_0), .val (.int vl), .val (.int nl), .val (.int z10_0), .val (.int v0), .val (.int v1), .val (.int v2), .val (.int z12_0), .val (.int z14_0), .unset, .unset, .unset, .unset, .unset, .unset] [(.int z16_0)])) by
    by_cases hc136_17 : z10_0 = (0 : Int32)
    · -- yes
      refine own_via (S' := Tm14.setTop (mkF m 144 #[.val (.int p0), .val (.int p1), .val (.int p2), .val (.int p3), .val (.long q0), .second, .val (.int kk), .val (.ref z1_0), .val (.int vl), .val (.int nl), .val (.int z10_0), .val (.int v0), .val (.int v1), .val (.int v2), .val (.int z12_0), .val (.int z14_0), .unset, .unset, .unset, .unset, .unset, .unset] [])) (fun t k => XS.ifYes Xm14.here hx rfl (pc0 := 136) (pc' := 144) rfl (hb hby at_136) rfl ((if0 _ _).trans (teq hc136_17).1) (by decide) (by decide) k) ?_
      refine own_via (S' := Tm14.setTop (mkF m 145 #[.val (.int p0), .val (.int p1), .val (.int p2), .val (.int p3), .val (.long q0), .second, .val (.int kk), .val (.ref z1_0), .val (.int vl), .val (.int nl), .val (.int z10_0), .val (.int v0), .val (.int v1), .val (.int v2), .val (.int z12_0), .val (.int z14_0), .unset, .unset, .unset, .unset, .unset, .unset] [(.int p2)])) (fun t k => XS.iloadN Xm14.here hx rfl (hb hby at_144) rfl k) ?_
      refine own_via (S' := Tm14.setTop (mkF m 147 #[.val (.int p0), .val (.int p1), .val (.int p2), .val (.int p3), .val (.long q0), .second, .val (.int kk), .val (.ref z1_0), .val (.int vl), .val (.int nl), .val (.int z10_0), .val (.int v0), .val (.int v1), .val (.int v2), .val (.int z12_0), .val (.int z14_0), .unset, .unset, .unset, .unset, .unset, .unset] [(.int (16 : Int32)), (.int p2)])) (fun t k => XS.bipush Xm14.here hx rfl (hb hby at_145) k) ?_
      refine own_via (S' := Tm14.setTop (mkF m 148 #[.val (.int p0), .val (.int p1), .val (.int p2), .val (.int p3), .val (.long q0), .second, .val (.int kk), .val (.ref z1_0), .val (.int vl), .val (.int nl), .val (.int z10_0), .val (.int v0), .val (.int v1), .val (.int v2), .val (.int z12_0), .val (.int z14_0), .unset, .unset, .unset, .unset, .unset, .unset] [(.int ((p2.toUInt32 >>> ((16 : Int32) &&& 31).toUInt32).toInt32))])) (fun t k => XS.iushr Xm14.here hx rfl (hb hby at_147) rfl k) ?_
      refine own_via (S' := Tm14.setTop (mkF m 151 #[.val (.int p0), .val (.int p1), .val (.int p2), .val (.int p3), .val (.long q0), .second, .val (.int kk), .val (.ref z1_0), .val (.int vl), .val (.int nl), .val (.int z10_0), .val (.int v0), .val (.int v1), .val (.int v2), .val (.int z12_0), .val (.int z14_0), .unset, .unset, .unset, .unset, .unset, .unset] [(.int (255 : Int32)), (.int ((p2.toUInt32 >>> ((16 : Int32) &&& 31).toUInt32).toInt32))])) (fun t k => XS.sipush Xm14.here hx rfl (hb hby at_148) k) ?_
      refine own_via (S' := Tm14.setTop (mkF m 152 #[.val (.int p0), .val (.int p1), .val (.int p2), .val (.int p3), .val (.long q0), .second, .val (.int kk), .val (.ref z1_0), .val (.int vl), .val (.int nl), .val (.int z10_0), .val (.int v0), .val (.int v1), .val (.int v2), .val (.int z12_0), .val (.int z14_0), .unset, .unset, .unset, .unset, .unset, .unset] [(.int (((p2.toUInt32 >>> ((16 : Int32) &&& 31).toUInt32).toInt32) &&& (255 : Int32)))])) (fun t k => XS.iand Xm14.here hx rfl (hb hby at_151) rfl k) ?_
      refine own_via (S' := Tm14.setTop (mkF m 153 #[.val (.int p0), .val (.int p1), .val (.int p2), .val (.int p3), .val (.long q0), .second, .val (.int kk), .val (.ref z1_0), .val (.int vl), .val (.int nl), .val (.int z10_0), .val (.int v0), .val (.int v1), .val (.int v2), .val (.int z12_0), .val (.int z14_0), .unset, .unset, .unset, .unset, .unset, .unset] [(.int ((((p2.toUInt32 >>> ((16 : Int32) &&& 31).toUInt32).toInt32) &&& (255 : Int32)).toUInt32.toUInt16.toUInt32.toInt32))])) (fun t k => XS.i2c Xm14.here hx rfl (hb hby at_152) rfl k) ?_
      have qz16_0 : z16_0 = ((((p2.toUInt32 >>> ((16 : Int32) &&& 31).toUInt32).toInt32) &&& (255 : Int32)).toUInt32.toUInt16.toUInt32.toInt32) := hz16_0.trans (if_pos hc136_17)
      rw [qz16_0] at jn16
      exact jn16 _ Xm14 em14
    · -- no
      refine own_via (S' := Tm14.setTop (mkF m 139 #[.val (.int p0), .val (.int p1), .val (.int p2), .val (.int p3), .val (.long q0), .second, .val (.int kk), .val (.ref z1_0), .val (.int vl), .val (.int nl), .val (.int z10_0), .val (.int v0), .val (.int v1), .val (.int v2), .val (.int z12_0), .val (.int z14_0), .unset, .unset, .unset, .unset, .unset, .unset] [])) (fun t k => XS.ifNo Xm14.here hx rfl (hb hby at_136) rfl ((if0 _ _).trans (feq hc136_17).1) k) ?_
      refine own_via (S' := Tm14.setTop (mkF m 141 #[.val (.int p0), .val (.int p1), .val (.int p2), .val (.int p3), .val (.long q0), .second, .val (.int kk), .val (.ref z1_0), .val (.int vl), .val (.int nl), .val (.int z10_0), .val (.int v0), .val (.int v1), .val (.int v2), .val (.int z12_0), .val (.int z14_0), .unset, .unset, .unset, .unset, .unset, .unset] [(.int v2)])) (fun t k => XS.iload Xm14.here hx rfl (hb hby at_139) rfl k) ?_
      refine own_via (S' := Tm14.setTop (mkF m 153 #[.val (.int p0), .val (.int p1), .val (.int p2), .val (.int p3), .val (.long q0), .second, .val (.int kk), .val (.ref z1_0), .val (.int vl), .val (.int nl), .val (.int z10_0), .val (.int v0), .val (.int v1), .val (.int v2), .val (.int z12_0), .val (.int z14_0), .unset, .unset, .unset, .unset, .unset, .unset] [(.int v2)])) (fun t k => XS.goto Xm14.here hx rfl (pc0 := 141) (pc' := 153) rfl (hb hby at_141) (by decide) (by decide) k) ?_
      have qz16_0 : z16_0 = v2 := hz16_0.trans (if_neg hc136_17)
      rw [qz16_0] at jn16
      exact jn16 _ Xm14 em14
  intro Tm16 Xm16 em16
  have rng_z16_0 : ¬ z16_0 < 0 ∧ ¬ (255 : Int32) < z16_0 := by rw [hz16_0]; split; exact own_and255 _; exact rng_v2
  refine own_via (S' := Tm16.setTop (mkF m 155 #[.val (.int p0), .val (.int p1), .val (.int p2), .val (.int p3), .val (.long q0), .second, .val (.int kk), .val (.ref z1_0), .val (.int vl), .val (.int nl), .val (.int z10_0), .val (.int v0), .val (.int v1), .val (.int v2), .val (.int z12_0), .val (.int z14_0), .val (.int z16_0), .unset, .unset, .unset, .unset, .unset] [])) (fun t k => XS.istore Xm16.here hx rfl (hb hby at_153) rfl (l' := #[.val (.int p0), .val (.int p1), .val (.int p2), .val (.int p3), .val (.long q0), .second, .val (.int kk), .val (.ref z1_0), .val (.int vl), .val (.int nl), .val (.int z10_0), .val (.int v0), .val (.int v1), .val (.int v2), .val (.int z12_0), .val (.int z14_0), .val (.int z16_0), .unset, .unset, .unset, .unset, .unset]) rfl k) ?_
  refine own_via (S' := Tm16.setTop (mkF m 157 #[.val (.int p0), .val (.int p1), .val (.int p2), .val (.int p3), .val (.long q0), .second, .val (.int kk), .val (.ref z1_0), .val (.int vl), .val (.int nl), .val (.int z10_0), .val (.int v0), .val (.int v1), .val (.int v2), .val (.int z12_0), .val (.int z14_0), .val (.int z16_0), .unset, .unset, .unset, .unset, .unset] [(.int vl)])) (fun t k => XS.iload Xm16.here hx rfl (hb hby at_155) rfl k) ?_
  refine own_via (S' := Tm16.setTop (mkF m 159 #[.val (.int p0), .val (.int p1), .val (.int p2), .val (.int p3), .val (.long q0), .second, .val (.int kk), .val (.ref z1_0), .val (.int vl), .val (.int nl), .val (.int z10_0), .val (.int v0), .val (.int v1), .val (.int v2), .val (.int z12_0), .val (.int z14_0), .val (.int z16_0), .unset, .unset, .unset, .unset, .unset] [(.int v0), (.int vl)])) (fun t k => XS.iload Xm16.here hx rfl (hb hby at_157) rfl k) ?_
  refine own_via (S' := Tm16.setTop (mkF m 161 #[.val (.int p0), .val (.int p1), .val (.int p2), .val (.int p3), .val (.long q0), .second, .val (.int kk), .val (.ref z1_0), .val (.int vl), .val (.int nl), .val (.int z10_0), .val (.int v0), .val (.int v1), .val (.int v2), .val (.int z12_0), .val (.int z14_0), .val (.int z16_0), .unset, .unset, .unset, .unset, .unset] [(.int v1), (.int v0), (.int vl)])) (fun t k => XS.iload Xm16.here hx rfl (hb hby at_159) rfl k) ?_
  refine own_via (S' := Tm16.setTop (mkF m 163 #[.val (.int p0), .val (.int p1), .val (.int p2), .val (.int p3), .val (.long q0), .second, .val (.int kk), .val (.ref z1_0), .val (.int vl), .val (.int nl), .val (.int z10_0), .val (.int v0), .val (.int v1), .val (.int v2), .val (.int z12_0), .val (.int z14_0), .val (.int z16_0), .unset, .unset, .unset, .unset, .unset] [(.int v2), (.int v1), (.int v0), (.int vl)])) (fun t k => XS.iload Xm16.here hx rfl (hb hby at_161) rfl k) ?_
  have hk18 : h0.size ≤ Tm16.heap.size := by rw [em16]; omega
  obtain ⟨_, _, ⟨T18, Lp18, kp18, np18⟩, -, X18, hS18, hgr18, ⟨Lc18, ⟨hQ18, R18q⟩, l18, y18, z18⟩, st18⟩ := callSS Xm16 hx (y := mt3) hown (mvT hZ (wd3 hw)) (mvT hZ (wd4 hw)) (mvT hZ (wd5 hw)) (mvT hZ (wd6 hw)) (by decide) (own_backW (SL := []) (W := 0) (own_mk l Z a0 hw [] vl v0 v1 v2 zc h0 n0 O0 zf_S_java_lang_String_COMPACT_STRINGS hzc rng_v0 rng_v1 rng_v2) hZ (wd6 hw) (wd5 hw) (by decide) (by decide) hEL R0.1 all0) (g := (mkF m 163 #[.val (.int p0), .val (.int p1), .val (.int p2), .val (.int p3), .val (.long q0), .second, .val (.int kk), .val (.ref z1_0), .val (.int vl), .val (.int nl), .val (.int z10_0), .val (.int v0), .val (.int v1), .val (.int v2), .val (.int z12_0), .val (.int z14_0), .val (.int z16_0), .unset, .unset, .unset, .unset, .unset] [(.int v2), (.int v1), (.int v0), (.int vl)])) rfl (by rw [hml]; rfl) (argsL := [(.int vl), (.int v0), (.int v1), (.int v2)]) (rest := []) (lenOf pd__ICCC_Ljava_lang_String__2051 rfl) rfl (by show 2 * 0 + _ ≤ _; exact Nat.le_of_eq rfl) (hb hby at_163) (fun _ _ => ⟨rfl, em16, (by decide : 0 + 6 ≤ _), (by decide : 0 + 12 ≤ _)⟩)
  dsimp only [Pt.U, Pt.locs, Pt.cells, Pt.slots] at X18 l18 y18 z18 st18 hQ18 hS18 hgr18 R18q
  subst Lp18 kp18 np18
  obtain ⟨X18, hSn18, hZ, hown⟩ := rebS hS0 hk18 X18 hS18 hgr18 hZ hown
  obtain ⟨b18, tb18, kb18, rfl, N18q, K18q, f18_0, f18_1, f18_2, f18_3⟩ := hQ18
  have N18 := Fr.app N0 N18q
  have sz19 : h0.size ≤ T18.heap.size := K18q.1
  have R20 : CHr Z own_EL s.vm h0 T18.vm T18.heap := R0.trans R18q
  have O21 : Old Z n0 T18.heap := O0.keep K18q all0
  have lt22_b18 : T18.heap.size > b18 := f18_0.lt
  have lt23_b18 : T18.heap.size > b18 := f18_1.lt
  have lt24_b18 : T18.heap.size > b18 := f18_2.lt
  have lt25_tb18 : T18.heap.size > tb18 := f18_3.lt
  refine own_tr (S' := T18.setTop (mkF m 166 #[.val (.int p0), .val (.int p1), .val (.int p2), .val (.int p3), .val (.long q0), .second, .val (.int kk), .val (.ref z1_0), .val (.int vl), .val (.int nl), .val (.int z10_0), .val (.int v0), .val (.int v1), .val (.int v2), .val (.int z12_0), .val (.int z14_0), .val (.int z16_0), .unset, .unset, .unset, .unset, .unset] [(.ref b18)])) st18 ?_
  refine own_via (S' := T18.setTop (mkF m 168 #[.val (.int p0), .val (.int p1), .val (.int p2), .val (.int p3), .val (.long q0), .second, .val (.int kk), .val (.ref z1_0), .val (.int vl), .val (.int nl), .val (.int z10_0), .val (.int v0), .val (.int v1), .val (.int v2), .val (.int z12_0), .val (.int z14_0), .val (.int z16_0), .val (.ref b18), .unset, .unset, .unset, .unset] [])) (fun t k => XS.astore X18.here hx rfl (hb hby at_166) rfl rfl (l' := #[.val (.int p0), .val (.int p1), .val (.int p2), .val (.int p3), .val (.long q0), .second, .val (.int kk), .val (.ref z1_0), .val (.int vl), .val (.int nl), .val (.int z10_0), .val (.int v0), .val (.int v1), .val (.int v2), .val (.int z12_0), .val (.int z14_0), .val (.int z16_0), .val (.ref b18), .unset, .unset, .unset, .unset]) rfl k) ?_
  refine own_via (S' := T18.setTop (mkF m 170 #[.val (.int p0), .val (.int p1), .val (.int p2), .val (.int p3), .val (.long q0), .second, .val (.int kk), .val (.ref z1_0), .val (.int vl), .val (.int nl), .val (.int z10_0), .val (.int v0), .val (.int v1), .val (.int v2), .val (.int z12_0), .val (.int z14_0), .val (.int z16_0), .val (.ref b18), .unset, .unset, .unset, .unset] [(.int nl)])) (fun t k => XS.iload X18.here hx rfl (hb hby at_168) rfl k) ?_
  refine own_via (S' := T18.setTop (mkF m 172 #[.val (.int p0), .val (.int p1), .val (.int p2), .val (.int p3), .val (.long q0), .second, .val (.int kk), .val (.ref z1_0), .val (.int vl), .val (.int nl), .val (.int z10_0), .val (.int v0), .val (.int v1), .val (.int v2), .val (.int z12_0), .val (.int z14_0), .val (.int z16_0), .val (.ref b18), .unset, .unset, .unset, .unset] [(.int z12_0), (.int nl)])) (fun t k => XS.iload X18.here hx rfl (hb hby at_170) rfl k) ?_
  refine own_via (S' := T18.setTop (mkF m 174 #[.val (.int p0), .val (.int p1), .val (.int p2), .val (.int p3), .val (.long q0), .second, .val (.int kk), .val (.ref z1_0), .val (.int vl), .val (.int nl), .val (.int z10_0), .val (.int v0), .val (.int v1), .val (.int v2), .val (.int z12_0), .val (.int z14_0), .val (.int z16_0), .val (.ref b18), .unset, .unset, .unset, .unset] [(.int z14_0), (.int z12_0), (.int nl)])) (fun t k => XS.iload X18.here hx rfl (hb hby at_172) rfl k) ?_
  refine own_via (S' := T18.setTop (mkF m 176 #[.val (.int p0), .val (.int p1), .val (.int p2), .val (.int p3), .val (.long q0), .second, .val (.int kk), .val (.ref z1_0), .val (.int vl), .val (.int nl), .val (.int z10_0), .val (.int v0), .val (.int v1), .val (.int v2), .val (.int z12_0), .val (.int z14_0), .val (.int z16_0), .val (.ref b18), .unset, .unset, .unset, .unset] [(.int z16_0), (.int z14_0), (.int z12_0), (.int nl)])) (fun t k => XS.iload X18.here hx rfl (hb hby at_174) rfl k) ?_
  have hk26 : T18.heap.size ≤ T18.heap.size := by omega
  obtain ⟨_, _, ⟨T26, Lp26, kp26, np26⟩, -, X26, hS26, hgr26, ⟨Lc26, ⟨hQ26, R26q⟩, l26, y26, z26⟩, st26⟩ := callSS X18 hx (y := mt3) hown (mvT hZ (wd3 hw)) (mvT hZ (wd4 hw)) (mvT hZ (wd5 hw)) (mvT hZ (wd6 hw)) (by decide) (own_backW (SL := []) (W := 0) (own_mk l Z a0 hw [] nl z12_0 z14_0 z16_0 zc T18.heap n0 O21 zf_S_java_lang_String_COMPACT_STRINGS hzc rng_z12_0 rng_z14_0 rng_z16_0) hZ (wd6 hw) (wd5 hw) (by decide) (by decide) hEL R20.1 all0) (g := (mkF m 176 #[.val (.int p0), .val (.int p1), .val (.int p2), .val (.int p3), .val (.long q0), .second, .val (.int kk), .val (.ref z1_0), .val (.int vl), .val (.int nl), .val (.int z10_0), .val (.int v0), .val (.int v1), .val (.int v2), .val (.int z12_0), .val (.int z14_0), .val (.int z16_0), .val (.ref b18), .unset, .unset, .unset, .unset] [(.int z16_0), (.int z14_0), (.int z12_0), (.int nl)])) rfl (by rw [hml]; rfl) (argsL := [(.int nl), (.int z12_0), (.int z14_0), (.int z16_0)]) (rest := []) (lenOf pd__ICCC_Ljava_lang_String__2051 rfl) rfl (by show 2 * 0 + _ ≤ _; exact Nat.le_of_eq rfl) (hb hby at_176) (fun _ _ => ⟨rfl, rfl, (by decide : 6 + 6 ≤ _), (by decide : 12 + 12 ≤ _)⟩)
  dsimp only [Pt.U, Pt.locs, Pt.cells, Pt.slots] at X26 l26 y26 z26 st26 hQ26 hS26 hgr26 R26q
  subst Lp26 kp26 np26
  obtain ⟨X26, hSn26, hZ, hown⟩ := rebS hSn18 hk26 X26 hS26 hgr26 hZ hown
  obtain ⟨b26, tb26, kb26, rfl, N26q, K26q, f26_0, f26_1, f26_2, f26_3⟩ := hQ26
  have N26 := Fr.app N18 N26q
  have sz27 : T18.heap.size ≤ T26.heap.size := K26q.1
  have R28 : CHr Z own_EL s.vm h0 T26.vm T26.heap := R20.trans R26q
  have O29 : Old Z n0 T26.heap := O21.keep K26q all0
  have lt30_b26 : T26.heap.size > b26 := f26_0.lt
  have lt31_b26 : T26.heap.size > b26 := f26_1.lt
  have lt32_b26 : T26.heap.size > b26 := f26_2.lt
  have lt33_tb26 : T26.heap.size > tb26 := f26_3.lt
  refine own_tr (S' := T26.setTop (mkF m 179 #[.val (.int p0), .val (.int p1), .val (.int p2), .val (.int p3), .val (.long q0), .second, .val (.int kk), .val (.ref z1_0), .val (.int vl), .val (.int nl), .val (.int z10_0), .val (.int v0), .val (.int v1), .val (.int v2), .val (.int z12_0), .val (.int z14_0), .val (.int z16_0), .val (.ref b18), .unset, .unset, .unset, .unset] [(.ref b26)])) st26 ?_
  refine own_via (S' := T26.setTop (mkF m 181 #[.val (.int p0), .val (.int p1), .val (.int p2), .val (.int p3), .val (.long q0), .second, .val (.int kk), .val (.ref z1_0), .val (.int vl), .val (.int nl), .val (.int z10_0), .val (.int v0), .val (.int v1), .val (.int v2), .val (.int z12_0), .val (.int z14_0), .val (.int z16_0), .val (.ref b18), .val (.ref b26), .unset, .unset, .unset] [])) (fun t k => XS.astore X26.here hx rfl (hb hby at_179) rfl rfl (l' := #[.val (.int p0), .val (.int p1), .val (.int p2), .val (.int p3), .val (.long q0), .second, .val (.int kk), .val (.ref z1_0), .val (.int vl), .val (.int nl), .val (.int z10_0), .val (.int v0), .val (.int v1), .val (.int v2), .val (.int z12_0), .val (.int z14_0), .val (.int z16_0), .val (.ref b18), .val (.ref b26), .unset, .unset, .unset]) rfl k) ?_
  refine own_via (S' := T26.setTop (mkF m 183 #[.val (.int p0), .val (.int p1), .val (.int p2), .val (.int p3), .val (.long q0), .second, .val (.int kk), .val (.ref z1_0), .val (.int vl), .val (.int nl), .val (.int z10_0), .val (.int v0), .val (.int v1), .val (.int v2), .val (.int z12_0), .val (.int z14_0), .val (.int z16_0), .val (.ref b18), .val (.ref b26), .unset, .unset, .unset] [(.int vl)])) (fun t k => XS.iload X26.here hx rfl (hb hby at_181) rfl k) ?_
  refine own_via (S' := T26.setTop (mkF m 185 #[.val (.int p0), .val (.int p1), .val (.int p2), .val (.int p3), .val (.long q0), .second, .val (.int kk), .val (.ref z1_0), .val (.int vl), .val (.int nl), .val (.int z10_0), .val (.int v0), .val (.int v1), .val (.int v2), .val (.int z12_0), .val (.int z14_0), .val (.int z16_0), .val (.ref b18), .val (.ref b26), .unset, .unset, .unset] [(.int nl), (.int vl)])) (fun t k => XS.iload X26.here hx rfl (hb hby at_183) rfl k) ?_
  obtain ⟨z34_0, hz34_0⟩ : ∃ z : Int32, z = (if vl = nl then (if vl < (1 : Int32) then (if vl < (2 : Int32) then (if vl < (3 : Int32) then (1 : Int32) else (if v2 = z16_0 then (1 : Int32) else (0 : Int32))) else (if v1 = z14_0 then (if vl < (3 : Int32) then (1 : Int32) else (if v2 = z16_0 then (1 : Int32) else (0 : Int32))) else (0 : Int32))) else (if v0 = z12_0 then (if vl < (2 : Int32) then (if vl < (3 : Int32) then (1 : Int32) else (if v2 = z16_0 then (1 : Int32) else (0 : Int32))) else (if v1 = z14_0 then (if vl < (3 : Int32) then (1 : Int32) else (if v2 = z16_0 then (1 : Int32) else (0 : Int32))) else (0 : Int32))) else (0 : Int32))) else (0 : Int32)) := ⟨_, rfl⟩
  suffices jn34 : ∀ (Tm34 : State), Stand p l e room_1 (s.setVm T26.vm) m #[(.int p0), (.int p1), (.int p2), (.int p3), (.long q0)] below meth c Tm34 (([] ++ Lc18) ++ Lc26) 12 24 → Tm34.heap = T26.heap → own_Done p e below (fun o U' => ∃ v L, o = .returned v ∧ Q_own_law Z p0 p1 p2 p3 q0 zc wE wT wS h0 n0 v U'.vm U'.heap L ∧ CHr Z own_EL s.vm s.heap U'.vm U'.heap ∧ ReturnedEndW s o U' L room_1.cells room_1.slots) (Tm34.setTop (mkF m 232 #[.val (.int p0), .val (.int p1), .val (.int p2), .val (.int p3), .val (.long q0), .second, .val (.int kk), .val (.ref z1_0), .val (.int vl), .val (.int nl), .val (.int z10_0), .val (.int v0), .val (.int v1), .val (.int v2), .val (.int z12_0), .val (.int z14_0), .val (.int z16_0), .val (.ref b18), .val (.ref b26), .unset, .unset, .unset] [(.int z34_0)])) by
    by_cases hc185_35 : vl = nl
    · -- yes
      refine own_via (S' := T26.setTop (mkF m 188 #[.val (.int p0), .val (.int p1), .val (.int p2), .val (.int p3), .val (.long q0), .second, .val (.int kk), .val (.ref z1_0), .val (.int vl), .val (.int nl), .val (.int z10_0), .val (.int v0), .val (.int v1), .val (.int v2), .val (.int z12_0), .val (.int z14_0), .val (.int z16_0), .val (.ref b18), .val (.ref b26), .unset, .unset, .unset] [])) (fun t k => XS.icmpNo X26.here hx rfl (hb hby at_185) rfl (teq hc185_35).2 k) ?_
      refine own_via (S' := T26.setTop (mkF m 190 #[.val (.int p0), .val (.int p1), .val (.int p2), .val (.int p3), .val (.long q0), .second, .val (.int kk), .val (.ref z1_0), .val (.int vl), .val (.int nl), .val (.int z10_0), .val (.int v0), .val (.int v1), .val (.int v2), .val (.int z12_0), .val (.int z14_0), .val (.int z16_0), .val (.ref b18), .val (.ref b26), .unset, .unset, .unset] [(.int vl)])) (fun t k => XS.iload X26.here hx rfl (hb hby at_188) rfl k) ?_
      refine own_via (S' := T26.setTop (mkF m 191 #[.val (.int p0), .val (.int p1), .val (.int p2), .val (.int p3), .val (.long q0), .second, .val (.int kk), .val (.ref z1_0), .val (.int vl), .val (.int nl), .val (.int z10_0), .val (.int v0), .val (.int v1), .val (.int v2), .val (.int z12_0), .val (.int z14_0), .val (.int z16_0), .val (.ref b18), .val (.ref b26), .unset, .unset, .unset] [(.int (1 : Int32)), (.int vl)])) (fun t k => XS.iconst X26.here hx rfl (hb hby at_190) k) ?_
      by_cases hc191_36 : vl < (1 : Int32)
      · -- yes
        refine own_via (S' := T26.setTop (mkF m 201 #[.val (.int p0), .val (.int p1), .val (.int p2), .val (.int p3), .val (.long q0), .second, .val (.int kk), .val (.ref z1_0), .val (.int vl), .val (.int nl), .val (.int z10_0), .val (.int v0), .val (.int v1), .val (.int v2), .val (.int z12_0), .val (.int z14_0), .val (.int z16_0), .val (.ref b18), .val (.ref b26), .unset, .unset, .unset] [])) (fun t k => XS.icmpYes X26.here hx rfl (pc0 := 191) (pc' := 201) rfl (hb hby at_191) rfl (tlt hc191_36).1 (by decide) (by decide) k) ?_
        refine own_via (S' := T26.setTop (mkF m 203 #[.val (.int p0), .val (.int p1), .val (.int p2), .val (.int p3), .val (.long q0), .second, .val (.int kk), .val (.ref z1_0), .val (.int vl), .val (.int nl), .val (.int z10_0), .val (.int v0), .val (.int v1), .val (.int v2), .val (.int z12_0), .val (.int z14_0), .val (.int z16_0), .val (.ref b18), .val (.ref b26), .unset, .unset, .unset] [(.int vl)])) (fun t k => XS.iload X26.here hx rfl (hb hby at_201) rfl k) ?_
        refine own_via (S' := T26.setTop (mkF m 204 #[.val (.int p0), .val (.int p1), .val (.int p2), .val (.int p3), .val (.long q0), .second, .val (.int kk), .val (.ref z1_0), .val (.int vl), .val (.int nl), .val (.int z10_0), .val (.int v0), .val (.int v1), .val (.int v2), .val (.int z12_0), .val (.int z14_0), .val (.int z16_0), .val (.ref b18), .val (.ref b26), .unset, .unset, .unset] [(.int (2 : Int32)), (.int vl)])) (fun t k => XS.iconst X26.here hx rfl (hb hby at_203) k) ?_
        by_cases hc204_37 : vl < (2 : Int32)
        · -- yes
          refine own_via (S' := T26.setTop (mkF m 214 #[.val (.int p0), .val (.int p1), .val (.int p2), .val (.int p3), .val (.long q0), .second, .val (.int kk), .val (.ref z1_0), .val (.int vl), .val (.int nl), .val (.int z10_0), .val (.int v0), .val (.int v1), .val (.int v2), .val (.int z12_0), .val (.int z14_0), .val (.int z16_0), .val (.ref b18), .val (.ref b26), .unset, .unset, .unset] [])) (fun t k => XS.icmpYes X26.here hx rfl (pc0 := 204) (pc' := 214) rfl (hb hby at_204) rfl (tlt hc204_37).1 (by decide) (by decide) k) ?_
          refine own_via (S' := T26.setTop (mkF m 216 #[.val (.int p0), .val (.int p1), .val (.int p2), .val (.int p3), .val (.long q0), .second, .val (.int kk), .val (.ref z1_0), .val (.int vl), .val (.int nl), .val (.int z10_0), .val (.int v0), .val (.int v1), .val (.int v2), .val (.int z12_0), .val (.int z14_0), .val (.int z16_0), .val (.ref b18), .val (.ref b26), .unset, .unset, .unset] [(.int vl)])) (fun t k => XS.iload X26.here hx rfl (hb hby at_214) rfl k) ?_
          refine own_via (S' := T26.setTop (mkF m 217 #[.val (.int p0), .val (.int p1), .val (.int p2), .val (.int p3), .val (.long q0), .second, .val (.int kk), .val (.ref z1_0), .val (.int vl), .val (.int nl), .val (.int z10_0), .val (.int v0), .val (.int v1), .val (.int v2), .val (.int z12_0), .val (.int z14_0), .val (.int z16_0), .val (.ref b18), .val (.ref b26), .unset, .unset, .unset] [(.int (3 : Int32)), (.int vl)])) (fun t k => XS.iconst X26.here hx rfl (hb hby at_216) k) ?_
          by_cases hc217_38 : vl < (3 : Int32)
          · -- yes
            refine own_via (S' := T26.setTop (mkF m 227 #[.val (.int p0), .val (.int p1), .val (.int p2), .val (.int p3), .val (.long q0), .second, .val (.int kk), .val (.ref z1_0), .val (.int vl), .val (.int nl), .val (.int z10_0), .val (.int v0), .val (.int v1), .val (.int v2), .val (.int z12_0), .val (.int z14_0), .val (.int z16_0), .val (.ref b18), .val (.ref b26), .unset, .unset, .unset] [])) (fun t k => XS.icmpYes X26.here hx rfl (pc0 := 217) (pc' := 227) rfl (hb hby at_217) rfl (tlt hc217_38).1 (by decide) (by decide) k) ?_
            refine own_via (S' := T26.setTop (mkF m 228 #[.val (.int p0), .val (.int p1), .val (.int p2), .val (.int p3), .val (.long q0), .second, .val (.int kk), .val (.ref z1_0), .val (.int vl), .val (.int nl), .val (.int z10_0), .val (.int v0), .val (.int v1), .val (.int v2), .val (.int z12_0), .val (.int z14_0), .val (.int z16_0), .val (.ref b18), .val (.ref b26), .unset, .unset, .unset] [(.int (1 : Int32))])) (fun t k => XS.iconst X26.here hx rfl (hb hby at_227) k) ?_
            refine own_via (S' := T26.setTop (mkF m 232 #[.val (.int p0), .val (.int p1), .val (.int p2), .val (.int p3), .val (.long q0), .second, .val (.int kk), .val (.ref z1_0), .val (.int vl), .val (.int nl), .val (.int z10_0), .val (.int v0), .val (.int v1), .val (.int v2), .val (.int z12_0), .val (.int z14_0), .val (.int z16_0), .val (.ref b18), .val (.ref b26), .unset, .unset, .unset] [(.int (1 : Int32))])) (fun t k => XS.goto X26.here hx rfl (pc0 := 228) (pc' := 232) rfl (hb hby at_228) (by decide) (by decide) k) ?_
            have qz34_0 : z34_0 = (1 : Int32) := hz34_0.trans ((if_pos hc185_35).trans ((if_pos hc191_36).trans ((if_pos hc204_37).trans (if_pos hc217_38))))
            rw [qz34_0] at jn34
            exact jn34 _ X26 rfl
          · -- no
            refine own_via (S' := T26.setTop (mkF m 220 #[.val (.int p0), .val (.int p1), .val (.int p2), .val (.int p3), .val (.long q0), .second, .val (.int kk), .val (.ref z1_0), .val (.int vl), .val (.int nl), .val (.int z10_0), .val (.int v0), .val (.int v1), .val (.int v2), .val (.int z12_0), .val (.int z14_0), .val (.int z16_0), .val (.ref b18), .val (.ref b26), .unset, .unset, .unset] [])) (fun t k => XS.icmpNo X26.here hx rfl (hb hby at_217) rfl (flt hc217_38).1 k) ?_
            refine own_via (S' := T26.setTop (mkF m 222 #[.val (.int p0), .val (.int p1), .val (.int p2), .val (.int p3), .val (.long q0), .second, .val (.int kk), .val (.ref z1_0), .val (.int vl), .val (.int nl), .val (.int z10_0), .val (.int v0), .val (.int v1), .val (.int v2), .val (.int z12_0), .val (.int z14_0), .val (.int z16_0), .val (.ref b18), .val (.ref b26), .unset, .unset, .unset] [(.int v2)])) (fun t k => XS.iload X26.here hx rfl (hb hby at_220) rfl k) ?_
            refine own_via (S' := T26.setTop (mkF m 224 #[.val (.int p0), .val (.int p1), .val (.int p2), .val (.int p3), .val (.long q0), .second, .val (.int kk), .val (.ref z1_0), .val (.int vl), .val (.int nl), .val (.int z10_0), .val (.int v0), .val (.int v1), .val (.int v2), .val (.int z12_0), .val (.int z14_0), .val (.int z16_0), .val (.ref b18), .val (.ref b26), .unset, .unset, .unset] [(.int z16_0), (.int v2)])) (fun t k => XS.iload X26.here hx rfl (hb hby at_222) rfl k) ?_
            by_cases hc224_39 : v2 = z16_0
            · -- yes
              refine own_via (S' := T26.setTop (mkF m 227 #[.val (.int p0), .val (.int p1), .val (.int p2), .val (.int p3), .val (.long q0), .second, .val (.int kk), .val (.ref z1_0), .val (.int vl), .val (.int nl), .val (.int z10_0), .val (.int v0), .val (.int v1), .val (.int v2), .val (.int z12_0), .val (.int z14_0), .val (.int z16_0), .val (.ref b18), .val (.ref b26), .unset, .unset, .unset] [])) (fun t k => XS.icmpNo X26.here hx rfl (hb hby at_224) rfl (teq hc224_39).2 k) ?_
              refine own_via (S' := T26.setTop (mkF m 228 #[.val (.int p0), .val (.int p1), .val (.int p2), .val (.int p3), .val (.long q0), .second, .val (.int kk), .val (.ref z1_0), .val (.int vl), .val (.int nl), .val (.int z10_0), .val (.int v0), .val (.int v1), .val (.int v2), .val (.int z12_0), .val (.int z14_0), .val (.int z16_0), .val (.ref b18), .val (.ref b26), .unset, .unset, .unset] [(.int (1 : Int32))])) (fun t k => XS.iconst X26.here hx rfl (hb hby at_227) k) ?_
              refine own_via (S' := T26.setTop (mkF m 232 #[.val (.int p0), .val (.int p1), .val (.int p2), .val (.int p3), .val (.long q0), .second, .val (.int kk), .val (.ref z1_0), .val (.int vl), .val (.int nl), .val (.int z10_0), .val (.int v0), .val (.int v1), .val (.int v2), .val (.int z12_0), .val (.int z14_0), .val (.int z16_0), .val (.ref b18), .val (.ref b26), .unset, .unset, .unset] [(.int (1 : Int32))])) (fun t k => XS.goto X26.here hx rfl (pc0 := 228) (pc' := 232) rfl (hb hby at_228) (by decide) (by decide) k) ?_
              have qz34_0 : z34_0 = (1 : Int32) := hz34_0.trans ((if_pos hc185_35).trans ((if_pos hc191_36).trans ((if_pos hc204_37).trans ((if_neg hc217_38).trans (if_pos hc224_39)))))
              rw [qz34_0] at jn34
              exact jn34 _ X26 rfl
            · -- no
              refine own_via (S' := T26.setTop (mkF m 231 #[.val (.int p0), .val (.int p1), .val (.int p2), .val (.int p3), .val (.long q0), .second, .val (.int kk), .val (.ref z1_0), .val (.int vl), .val (.int nl), .val (.int z10_0), .val (.int v0), .val (.int v1), .val (.int v2), .val (.int z12_0), .val (.int z14_0), .val (.int z16_0), .val (.ref b18), .val (.ref b26), .unset, .unset, .unset] [])) (fun t k => XS.icmpYes X26.here hx rfl (pc0 := 224) (pc' := 231) rfl (hb hby at_224) rfl (feq hc224_39).2 (by decide) (by decide) k) ?_
              refine own_via (S' := T26.setTop (mkF m 232 #[.val (.int p0), .val (.int p1), .val (.int p2), .val (.int p3), .val (.long q0), .second, .val (.int kk), .val (.ref z1_0), .val (.int vl), .val (.int nl), .val (.int z10_0), .val (.int v0), .val (.int v1), .val (.int v2), .val (.int z12_0), .val (.int z14_0), .val (.int z16_0), .val (.ref b18), .val (.ref b26), .unset, .unset, .unset] [(.int (0 : Int32))])) (fun t k => XS.iconst X26.here hx rfl (hb hby at_231) k) ?_
              have qz34_0 : z34_0 = (0 : Int32) := hz34_0.trans ((if_pos hc185_35).trans ((if_pos hc191_36).trans ((if_pos hc204_37).trans ((if_neg hc217_38).trans (if_neg hc224_39)))))
              rw [qz34_0] at jn34
              exact jn34 _ X26 rfl
        · -- no
          refine own_via (S' := T26.setTop (mkF m 207 #[.val (.int p0), .val (.int p1), .val (.int p2), .val (.int p3), .val (.long q0), .second, .val (.int kk), .val (.ref z1_0), .val (.int vl), .val (.int nl), .val (.int z10_0), .val (.int v0), .val (.int v1), .val (.int v2), .val (.int z12_0), .val (.int z14_0), .val (.int z16_0), .val (.ref b18), .val (.ref b26), .unset, .unset, .unset] [])) (fun t k => XS.icmpNo X26.here hx rfl (hb hby at_204) rfl (flt hc204_37).1 k) ?_
          refine own_via (S' := T26.setTop (mkF m 209 #[.val (.int p0), .val (.int p1), .val (.int p2), .val (.int p3), .val (.long q0), .second, .val (.int kk), .val (.ref z1_0), .val (.int vl), .val (.int nl), .val (.int z10_0), .val (.int v0), .val (.int v1), .val (.int v2), .val (.int z12_0), .val (.int z14_0), .val (.int z16_0), .val (.ref b18), .val (.ref b26), .unset, .unset, .unset] [(.int v1)])) (fun t k => XS.iload X26.here hx rfl (hb hby at_207) rfl k) ?_
          refine own_via (S' := T26.setTop (mkF m 211 #[.val (.int p0), .val (.int p1), .val (.int p2), .val (.int p3), .val (.long q0), .second, .val (.int kk), .val (.ref z1_0), .val (.int vl), .val (.int nl), .val (.int z10_0), .val (.int v0), .val (.int v1), .val (.int v2), .val (.int z12_0), .val (.int z14_0), .val (.int z16_0), .val (.ref b18), .val (.ref b26), .unset, .unset, .unset] [(.int z14_0), (.int v1)])) (fun t k => XS.iload X26.here hx rfl (hb hby at_209) rfl k) ?_
          by_cases hc211_40 : v1 = z14_0
          · -- yes
            refine own_via (S' := T26.setTop (mkF m 214 #[.val (.int p0), .val (.int p1), .val (.int p2), .val (.int p3), .val (.long q0), .second, .val (.int kk), .val (.ref z1_0), .val (.int vl), .val (.int nl), .val (.int z10_0), .val (.int v0), .val (.int v1), .val (.int v2), .val (.int z12_0), .val (.int z14_0), .val (.int z16_0), .val (.ref b18), .val (.ref b26), .unset, .unset, .unset] [])) (fun t k => XS.icmpNo X26.here hx rfl (hb hby at_211) rfl (teq hc211_40).2 k) ?_
            refine own_via (S' := T26.setTop (mkF m 216 #[.val (.int p0), .val (.int p1), .val (.int p2), .val (.int p3), .val (.long q0), .second, .val (.int kk), .val (.ref z1_0), .val (.int vl), .val (.int nl), .val (.int z10_0), .val (.int v0), .val (.int v1), .val (.int v2), .val (.int z12_0), .val (.int z14_0), .val (.int z16_0), .val (.ref b18), .val (.ref b26), .unset, .unset, .unset] [(.int vl)])) (fun t k => XS.iload X26.here hx rfl (hb hby at_214) rfl k) ?_
            refine own_via (S' := T26.setTop (mkF m 217 #[.val (.int p0), .val (.int p1), .val (.int p2), .val (.int p3), .val (.long q0), .second, .val (.int kk), .val (.ref z1_0), .val (.int vl), .val (.int nl), .val (.int z10_0), .val (.int v0), .val (.int v1), .val (.int v2), .val (.int z12_0), .val (.int z14_0), .val (.int z16_0), .val (.ref b18), .val (.ref b26), .unset, .unset, .unset] [(.int (3 : Int32)), (.int vl)])) (fun t k => XS.iconst X26.here hx rfl (hb hby at_216) k) ?_
            by_cases hc217_41 : vl < (3 : Int32)
            · -- yes
              refine own_via (S' := T26.setTop (mkF m 227 #[.val (.int p0), .val (.int p1), .val (.int p2), .val (.int p3), .val (.long q0), .second, .val (.int kk), .val (.ref z1_0), .val (.int vl), .val (.int nl), .val (.int z10_0), .val (.int v0), .val (.int v1), .val (.int v2), .val (.int z12_0), .val (.int z14_0), .val (.int z16_0), .val (.ref b18), .val (.ref b26), .unset, .unset, .unset] [])) (fun t k => XS.icmpYes X26.here hx rfl (pc0 := 217) (pc' := 227) rfl (hb hby at_217) rfl (tlt hc217_41).1 (by decide) (by decide) k) ?_
              refine own_via (S' := T26.setTop (mkF m 228 #[.val (.int p0), .val (.int p1), .val (.int p2), .val (.int p3), .val (.long q0), .second, .val (.int kk), .val (.ref z1_0), .val (.int vl), .val (.int nl), .val (.int z10_0), .val (.int v0), .val (.int v1), .val (.int v2), .val (.int z12_0), .val (.int z14_0), .val (.int z16_0), .val (.ref b18), .val (.ref b26), .unset, .unset, .unset] [(.int (1 : Int32))])) (fun t k => XS.iconst X26.here hx rfl (hb hby at_227) k) ?_
              refine own_via (S' := T26.setTop (mkF m 232 #[.val (.int p0), .val (.int p1), .val (.int p2), .val (.int p3), .val (.long q0), .second, .val (.int kk), .val (.ref z1_0), .val (.int vl), .val (.int nl), .val (.int z10_0), .val (.int v0), .val (.int v1), .val (.int v2), .val (.int z12_0), .val (.int z14_0), .val (.int z16_0), .val (.ref b18), .val (.ref b26), .unset, .unset, .unset] [(.int (1 : Int32))])) (fun t k => XS.goto X26.here hx rfl (pc0 := 228) (pc' := 232) rfl (hb hby at_228) (by decide) (by decide) k) ?_
              have qz34_0 : z34_0 = (1 : Int32) := hz34_0.trans ((if_pos hc185_35).trans ((if_pos hc191_36).trans ((if_neg hc204_37).trans ((if_pos hc211_40).trans (if_pos hc217_41)))))
              rw [qz34_0] at jn34
              exact jn34 _ X26 rfl
            · -- no
              refine own_via (S' := T26.setTop (mkF m 220 #[.val (.int p0), .val (.int p1), .val (.int p2), .val (.int p3), .val (.long q0), .second, .val (.int kk), .val (.ref z1_0), .val (.int vl), .val (.int nl), .val (.int z10_0), .val (.int v0), .val (.int v1), .val (.int v2), .val (.int z12_0), .val (.int z14_0), .val (.int z16_0), .val (.ref b18), .val (.ref b26), .unset, .unset, .unset] [])) (fun t k => XS.icmpNo X26.here hx rfl (hb hby at_217) rfl (flt hc217_41).1 k) ?_
              refine own_via (S' := T26.setTop (mkF m 222 #[.val (.int p0), .val (.int p1), .val (.int p2), .val (.int p3), .val (.long q0), .second, .val (.int kk), .val (.ref z1_0), .val (.int vl), .val (.int nl), .val (.int z10_0), .val (.int v0), .val (.int v1), .val (.int v2), .val (.int z12_0), .val (.int z14_0), .val (.int z16_0), .val (.ref b18), .val (.ref b26), .unset, .unset, .unset] [(.int v2)])) (fun t k => XS.iload X26.here hx rfl (hb hby at_220) rfl k) ?_
              refine own_via (S' := T26.setTop (mkF m 224 #[.val (.int p0), .val (.int p1), .val (.int p2), .val (.int p3), .val (.long q0), .second, .val (.int kk), .val (.ref z1_0), .val (.int vl), .val (.int nl), .val (.int z10_0), .val (.int v0), .val (.int v1), .val (.int v2), .val (.int z12_0), .val (.int z14_0), .val (.int z16_0), .val (.ref b18), .val (.ref b26), .unset, .unset, .unset] [(.int z16_0), (.int v2)])) (fun t k => XS.iload X26.here hx rfl (hb hby at_222) rfl k) ?_
              by_cases hc224_42 : v2 = z16_0
              · -- yes
                refine own_via (S' := T26.setTop (mkF m 227 #[.val (.int p0), .val (.int p1), .val (.int p2), .val (.int p3), .val (.long q0), .second, .val (.int kk), .val (.ref z1_0), .val (.int vl), .val (.int nl), .val (.int z10_0), .val (.int v0), .val (.int v1), .val (.int v2), .val (.int z12_0), .val (.int z14_0), .val (.int z16_0), .val (.ref b18), .val (.ref b26), .unset, .unset, .unset] [])) (fun t k => XS.icmpNo X26.here hx rfl (hb hby at_224) rfl (teq hc224_42).2 k) ?_
                refine own_via (S' := T26.setTop (mkF m 228 #[.val (.int p0), .val (.int p1), .val (.int p2), .val (.int p3), .val (.long q0), .second, .val (.int kk), .val (.ref z1_0), .val (.int vl), .val (.int nl), .val (.int z10_0), .val (.int v0), .val (.int v1), .val (.int v2), .val (.int z12_0), .val (.int z14_0), .val (.int z16_0), .val (.ref b18), .val (.ref b26), .unset, .unset, .unset] [(.int (1 : Int32))])) (fun t k => XS.iconst X26.here hx rfl (hb hby at_227) k) ?_
                refine own_via (S' := T26.setTop (mkF m 232 #[.val (.int p0), .val (.int p1), .val (.int p2), .val (.int p3), .val (.long q0), .second, .val (.int kk), .val (.ref z1_0), .val (.int vl), .val (.int nl), .val (.int z10_0), .val (.int v0), .val (.int v1), .val (.int v2), .val (.int z12_0), .val (.int z14_0), .val (.int z16_0), .val (.ref b18), .val (.ref b26), .unset, .unset, .unset] [(.int (1 : Int32))])) (fun t k => XS.goto X26.here hx rfl (pc0 := 228) (pc' := 232) rfl (hb hby at_228) (by decide) (by decide) k) ?_
                have qz34_0 : z34_0 = (1 : Int32) := hz34_0.trans ((if_pos hc185_35).trans ((if_pos hc191_36).trans ((if_neg hc204_37).trans ((if_pos hc211_40).trans ((if_neg hc217_41).trans (if_pos hc224_42))))))
                rw [qz34_0] at jn34
                exact jn34 _ X26 rfl
              · -- no
                refine own_via (S' := T26.setTop (mkF m 231 #[.val (.int p0), .val (.int p1), .val (.int p2), .val (.int p3), .val (.long q0), .second, .val (.int kk), .val (.ref z1_0), .val (.int vl), .val (.int nl), .val (.int z10_0), .val (.int v0), .val (.int v1), .val (.int v2), .val (.int z12_0), .val (.int z14_0), .val (.int z16_0), .val (.ref b18), .val (.ref b26), .unset, .unset, .unset] [])) (fun t k => XS.icmpYes X26.here hx rfl (pc0 := 224) (pc' := 231) rfl (hb hby at_224) rfl (feq hc224_42).2 (by decide) (by decide) k) ?_
                refine own_via (S' := T26.setTop (mkF m 232 #[.val (.int p0), .val (.int p1), .val (.int p2), .val (.int p3), .val (.long q0), .second, .val (.int kk), .val (.ref z1_0), .val (.int vl), .val (.int nl), .val (.int z10_0), .val (.int v0), .val (.int v1), .val (.int v2), .val (.int z12_0), .val (.int z14_0), .val (.int z16_0), .val (.ref b18), .val (.ref b26), .unset, .unset, .unset] [(.int (0 : Int32))])) (fun t k => XS.iconst X26.here hx rfl (hb hby at_231) k) ?_
                have qz34_0 : z34_0 = (0 : Int32) := hz34_0.trans ((if_pos hc185_35).trans ((if_pos hc191_36).trans ((if_neg hc204_37).trans ((if_pos hc211_40).trans ((if_neg hc217_41).trans (if_neg hc224_42))))))
                rw [qz34_0] at jn34
                exact jn34 _ X26 rfl
          · -- no
            refine own_via (S' := T26.setTop (mkF m 231 #[.val (.int p0), .val (.int p1), .val (.int p2), .val (.int p3), .val (.long q0), .second, .val (.int kk), .val (.ref z1_0), .val (.int vl), .val (.int nl), .val (.int z10_0), .val (.int v0), .val (.int v1), .val (.int v2), .val (.int z12_0), .val (.int z14_0), .val (.int z16_0), .val (.ref b18), .val (.ref b26), .unset, .unset, .unset] [])) (fun t k => XS.icmpYes X26.here hx rfl (pc0 := 211) (pc' := 231) rfl (hb hby at_211) rfl (feq hc211_40).2 (by decide) (by decide) k) ?_
            refine own_via (S' := T26.setTop (mkF m 232 #[.val (.int p0), .val (.int p1), .val (.int p2), .val (.int p3), .val (.long q0), .second, .val (.int kk), .val (.ref z1_0), .val (.int vl), .val (.int nl), .val (.int z10_0), .val (.int v0), .val (.int v1), .val (.int v2), .val (.int z12_0), .val (.int z14_0), .val (.int z16_0), .val (.ref b18), .val (.ref b26), .unset, .unset, .unset] [(.int (0 : Int32))])) (fun t k => XS.iconst X26.here hx rfl (hb hby at_231) k) ?_
            have qz34_0 : z34_0 = (0 : Int32) := hz34_0.trans ((if_pos hc185_35).trans ((if_pos hc191_36).trans ((if_neg hc204_37).trans (if_neg hc211_40))))
            rw [qz34_0] at jn34
            exact jn34 _ X26 rfl
      · -- no
        refine own_via (S' := T26.setTop (mkF m 194 #[.val (.int p0), .val (.int p1), .val (.int p2), .val (.int p3), .val (.long q0), .second, .val (.int kk), .val (.ref z1_0), .val (.int vl), .val (.int nl), .val (.int z10_0), .val (.int v0), .val (.int v1), .val (.int v2), .val (.int z12_0), .val (.int z14_0), .val (.int z16_0), .val (.ref b18), .val (.ref b26), .unset, .unset, .unset] [])) (fun t k => XS.icmpNo X26.here hx rfl (hb hby at_191) rfl (flt hc191_36).1 k) ?_
        refine own_via (S' := T26.setTop (mkF m 196 #[.val (.int p0), .val (.int p1), .val (.int p2), .val (.int p3), .val (.long q0), .second, .val (.int kk), .val (.ref z1_0), .val (.int vl), .val (.int nl), .val (.int z10_0), .val (.int v0), .val (.int v1), .val (.int v2), .val (.int z12_0), .val (.int z14_0), .val (.int z16_0), .val (.ref b18), .val (.ref b26), .unset, .unset, .unset] [(.int v0)])) (fun t k => XS.iload X26.here hx rfl (hb hby at_194) rfl k) ?_
        refine own_via (S' := T26.setTop (mkF m 198 #[.val (.int p0), .val (.int p1), .val (.int p2), .val (.int p3), .val (.long q0), .second, .val (.int kk), .val (.ref z1_0), .val (.int vl), .val (.int nl), .val (.int z10_0), .val (.int v0), .val (.int v1), .val (.int v2), .val (.int z12_0), .val (.int z14_0), .val (.int z16_0), .val (.ref b18), .val (.ref b26), .unset, .unset, .unset] [(.int z12_0), (.int v0)])) (fun t k => XS.iload X26.here hx rfl (hb hby at_196) rfl k) ?_
        by_cases hc198_43 : v0 = z12_0
        · -- yes
          refine own_via (S' := T26.setTop (mkF m 201 #[.val (.int p0), .val (.int p1), .val (.int p2), .val (.int p3), .val (.long q0), .second, .val (.int kk), .val (.ref z1_0), .val (.int vl), .val (.int nl), .val (.int z10_0), .val (.int v0), .val (.int v1), .val (.int v2), .val (.int z12_0), .val (.int z14_0), .val (.int z16_0), .val (.ref b18), .val (.ref b26), .unset, .unset, .unset] [])) (fun t k => XS.icmpNo X26.here hx rfl (hb hby at_198) rfl (teq hc198_43).2 k) ?_
          refine own_via (S' := T26.setTop (mkF m 203 #[.val (.int p0), .val (.int p1), .val (.int p2), .val (.int p3), .val (.long q0), .second, .val (.int kk), .val (.ref z1_0), .val (.int vl), .val (.int nl), .val (.int z10_0), .val (.int v0), .val (.int v1), .val (.int v2), .val (.int z12_0), .val (.int z14_0), .val (.int z16_0), .val (.ref b18), .val (.ref b26), .unset, .unset, .unset] [(.int vl)])) (fun t k => XS.iload X26.here hx rfl (hb hby at_201) rfl k) ?_
          refine own_via (S' := T26.setTop (mkF m 204 #[.val (.int p0), .val (.int p1), .val (.int p2), .val (.int p3), .val (.long q0), .second, .val (.int kk), .val (.ref z1_0), .val (.int vl), .val (.int nl), .val (.int z10_0), .val (.int v0), .val (.int v1), .val (.int v2), .val (.int z12_0), .val (.int z14_0), .val (.int z16_0), .val (.ref b18), .val (.ref b26), .unset, .unset, .unset] [(.int (2 : Int32)), (.int vl)])) (fun t k => XS.iconst X26.here hx rfl (hb hby at_203) k) ?_
          by_cases hc204_44 : vl < (2 : Int32)
          · -- yes
            refine own_via (S' := T26.setTop (mkF m 214 #[.val (.int p0), .val (.int p1), .val (.int p2), .val (.int p3), .val (.long q0), .second, .val (.int kk), .val (.ref z1_0), .val (.int vl), .val (.int nl), .val (.int z10_0), .val (.int v0), .val (.int v1), .val (.int v2), .val (.int z12_0), .val (.int z14_0), .val (.int z16_0), .val (.ref b18), .val (.ref b26), .unset, .unset, .unset] [])) (fun t k => XS.icmpYes X26.here hx rfl (pc0 := 204) (pc' := 214) rfl (hb hby at_204) rfl (tlt hc204_44).1 (by decide) (by decide) k) ?_
            refine own_via (S' := T26.setTop (mkF m 216 #[.val (.int p0), .val (.int p1), .val (.int p2), .val (.int p3), .val (.long q0), .second, .val (.int kk), .val (.ref z1_0), .val (.int vl), .val (.int nl), .val (.int z10_0), .val (.int v0), .val (.int v1), .val (.int v2), .val (.int z12_0), .val (.int z14_0), .val (.int z16_0), .val (.ref b18), .val (.ref b26), .unset, .unset, .unset] [(.int vl)])) (fun t k => XS.iload X26.here hx rfl (hb hby at_214) rfl k) ?_
            refine own_via (S' := T26.setTop (mkF m 217 #[.val (.int p0), .val (.int p1), .val (.int p2), .val (.int p3), .val (.long q0), .second, .val (.int kk), .val (.ref z1_0), .val (.int vl), .val (.int nl), .val (.int z10_0), .val (.int v0), .val (.int v1), .val (.int v2), .val (.int z12_0), .val (.int z14_0), .val (.int z16_0), .val (.ref b18), .val (.ref b26), .unset, .unset, .unset] [(.int (3 : Int32)), (.int vl)])) (fun t k => XS.iconst X26.here hx rfl (hb hby at_216) k) ?_
            by_cases hc217_45 : vl < (3 : Int32)
            · -- yes
              refine own_via (S' := T26.setTop (mkF m 227 #[.val (.int p0), .val (.int p1), .val (.int p2), .val (.int p3), .val (.long q0), .second, .val (.int kk), .val (.ref z1_0), .val (.int vl), .val (.int nl), .val (.int z10_0), .val (.int v0), .val (.int v1), .val (.int v2), .val (.int z12_0), .val (.int z14_0), .val (.int z16_0), .val (.ref b18), .val (.ref b26), .unset, .unset, .unset] [])) (fun t k => XS.icmpYes X26.here hx rfl (pc0 := 217) (pc' := 227) rfl (hb hby at_217) rfl (tlt hc217_45).1 (by decide) (by decide) k) ?_
              refine own_via (S' := T26.setTop (mkF m 228 #[.val (.int p0), .val (.int p1), .val (.int p2), .val (.int p3), .val (.long q0), .second, .val (.int kk), .val (.ref z1_0), .val (.int vl), .val (.int nl), .val (.int z10_0), .val (.int v0), .val (.int v1), .val (.int v2), .val (.int z12_0), .val (.int z14_0), .val (.int z16_0), .val (.ref b18), .val (.ref b26), .unset, .unset, .unset] [(.int (1 : Int32))])) (fun t k => XS.iconst X26.here hx rfl (hb hby at_227) k) ?_
              refine own_via (S' := T26.setTop (mkF m 232 #[.val (.int p0), .val (.int p1), .val (.int p2), .val (.int p3), .val (.long q0), .second, .val (.int kk), .val (.ref z1_0), .val (.int vl), .val (.int nl), .val (.int z10_0), .val (.int v0), .val (.int v1), .val (.int v2), .val (.int z12_0), .val (.int z14_0), .val (.int z16_0), .val (.ref b18), .val (.ref b26), .unset, .unset, .unset] [(.int (1 : Int32))])) (fun t k => XS.goto X26.here hx rfl (pc0 := 228) (pc' := 232) rfl (hb hby at_228) (by decide) (by decide) k) ?_
              have qz34_0 : z34_0 = (1 : Int32) := hz34_0.trans ((if_pos hc185_35).trans ((if_neg hc191_36).trans ((if_pos hc198_43).trans ((if_pos hc204_44).trans (if_pos hc217_45)))))
              rw [qz34_0] at jn34
              exact jn34 _ X26 rfl
            · -- no
              refine own_via (S' := T26.setTop (mkF m 220 #[.val (.int p0), .val (.int p1), .val (.int p2), .val (.int p3), .val (.long q0), .second, .val (.int kk), .val (.ref z1_0), .val (.int vl), .val (.int nl), .val (.int z10_0), .val (.int v0), .val (.int v1), .val (.int v2), .val (.int z12_0), .val (.int z14_0), .val (.int z16_0), .val (.ref b18), .val (.ref b26), .unset, .unset, .unset] [])) (fun t k => XS.icmpNo X26.here hx rfl (hb hby at_217) rfl (flt hc217_45).1 k) ?_
              refine own_via (S' := T26.setTop (mkF m 222 #[.val (.int p0), .val (.int p1), .val (.int p2), .val (.int p3), .val (.long q0), .second, .val (.int kk), .val (.ref z1_0), .val (.int vl), .val (.int nl), .val (.int z10_0), .val (.int v0), .val (.int v1), .val (.int v2), .val (.int z12_0), .val (.int z14_0), .val (.int z16_0), .val (.ref b18), .val (.ref b26), .unset, .unset, .unset] [(.int v2)])) (fun t k => XS.iload X26.here hx rfl (hb hby at_220) rfl k) ?_
              refine own_via (S' := T26.setTop (mkF m 224 #[.val (.int p0), .val (.int p1), .val (.int p2), .val (.int p3), .val (.long q0), .second, .val (.int kk), .val (.ref z1_0), .val (.int vl), .val (.int nl), .val (.int z10_0), .val (.int v0), .val (.int v1), .val (.int v2), .val (.int z12_0), .val (.int z14_0), .val (.int z16_0), .val (.ref b18), .val (.ref b26), .unset, .unset, .unset] [(.int z16_0), (.int v2)])) (fun t k => XS.iload X26.here hx rfl (hb hby at_222) rfl k) ?_
              by_cases hc224_46 : v2 = z16_0
              · -- yes
                refine own_via (S' := T26.setTop (mkF m 227 #[.val (.int p0), .val (.int p1), .val (.int p2), .val (.int p3), .val (.long q0), .second, .val (.int kk), .val (.ref z1_0), .val (.int vl), .val (.int nl), .val (.int z10_0), .val (.int v0), .val (.int v1), .val (.int v2), .val (.int z12_0), .val (.int z14_0), .val (.int z16_0), .val (.ref b18), .val (.ref b26), .unset, .unset, .unset] [])) (fun t k => XS.icmpNo X26.here hx rfl (hb hby at_224) rfl (teq hc224_46).2 k) ?_
                refine own_via (S' := T26.setTop (mkF m 228 #[.val (.int p0), .val (.int p1), .val (.int p2), .val (.int p3), .val (.long q0), .second, .val (.int kk), .val (.ref z1_0), .val (.int vl), .val (.int nl), .val (.int z10_0), .val (.int v0), .val (.int v1), .val (.int v2), .val (.int z12_0), .val (.int z14_0), .val (.int z16_0), .val (.ref b18), .val (.ref b26), .unset, .unset, .unset] [(.int (1 : Int32))])) (fun t k => XS.iconst X26.here hx rfl (hb hby at_227) k) ?_
                refine own_via (S' := T26.setTop (mkF m 232 #[.val (.int p0), .val (.int p1), .val (.int p2), .val (.int p3), .val (.long q0), .second, .val (.int kk), .val (.ref z1_0), .val (.int vl), .val (.int nl), .val (.int z10_0), .val (.int v0), .val (.int v1), .val (.int v2), .val (.int z12_0), .val (.int z14_0), .val (.int z16_0), .val (.ref b18), .val (.ref b26), .unset, .unset, .unset] [(.int (1 : Int32))])) (fun t k => XS.goto X26.here hx rfl (pc0 := 228) (pc' := 232) rfl (hb hby at_228) (by decide) (by decide) k) ?_
                have qz34_0 : z34_0 = (1 : Int32) := hz34_0.trans ((if_pos hc185_35).trans ((if_neg hc191_36).trans ((if_pos hc198_43).trans ((if_pos hc204_44).trans ((if_neg hc217_45).trans (if_pos hc224_46))))))
                rw [qz34_0] at jn34
                exact jn34 _ X26 rfl
              · -- no
                refine own_via (S' := T26.setTop (mkF m 231 #[.val (.int p0), .val (.int p1), .val (.int p2), .val (.int p3), .val (.long q0), .second, .val (.int kk), .val (.ref z1_0), .val (.int vl), .val (.int nl), .val (.int z10_0), .val (.int v0), .val (.int v1), .val (.int v2), .val (.int z12_0), .val (.int z14_0), .val (.int z16_0), .val (.ref b18), .val (.ref b26), .unset, .unset, .unset] [])) (fun t k => XS.icmpYes X26.here hx rfl (pc0 := 224) (pc' := 231) rfl (hb hby at_224) rfl (feq hc224_46).2 (by decide) (by decide) k) ?_
                refine own_via (S' := T26.setTop (mkF m 232 #[.val (.int p0), .val (.int p1), .val (.int p2), .val (.int p3), .val (.long q0), .second, .val (.int kk), .val (.ref z1_0), .val (.int vl), .val (.int nl), .val (.int z10_0), .val (.int v0), .val (.int v1), .val (.int v2), .val (.int z12_0), .val (.int z14_0), .val (.int z16_0), .val (.ref b18), .val (.ref b26), .unset, .unset, .unset] [(.int (0 : Int32))])) (fun t k => XS.iconst X26.here hx rfl (hb hby at_231) k) ?_
                have qz34_0 : z34_0 = (0 : Int32) := hz34_0.trans ((if_pos hc185_35).trans ((if_neg hc191_36).trans ((if_pos hc198_43).trans ((if_pos hc204_44).trans ((if_neg hc217_45).trans (if_neg hc224_46))))))
                rw [qz34_0] at jn34
                exact jn34 _ X26 rfl
          · -- no
            refine own_via (S' := T26.setTop (mkF m 207 #[.val (.int p0), .val (.int p1), .val (.int p2), .val (.int p3), .val (.long q0), .second, .val (.int kk), .val (.ref z1_0), .val (.int vl), .val (.int nl), .val (.int z10_0), .val (.int v0), .val (.int v1), .val (.int v2), .val (.int z12_0), .val (.int z14_0), .val (.int z16_0), .val (.ref b18), .val (.ref b26), .unset, .unset, .unset] [])) (fun t k => XS.icmpNo X26.here hx rfl (hb hby at_204) rfl (flt hc204_44).1 k) ?_
            refine own_via (S' := T26.setTop (mkF m 209 #[.val (.int p0), .val (.int p1), .val (.int p2), .val (.int p3), .val (.long q0), .second, .val (.int kk), .val (.ref z1_0), .val (.int vl), .val (.int nl), .val (.int z10_0), .val (.int v0), .val (.int v1), .val (.int v2), .val (.int z12_0), .val (.int z14_0), .val (.int z16_0), .val (.ref b18), .val (.ref b26), .unset, .unset, .unset] [(.int v1)])) (fun t k => XS.iload X26.here hx rfl (hb hby at_207) rfl k) ?_
            refine own_via (S' := T26.setTop (mkF m 211 #[.val (.int p0), .val (.int p1), .val (.int p2), .val (.int p3), .val (.long q0), .second, .val (.int kk), .val (.ref z1_0), .val (.int vl), .val (.int nl), .val (.int z10_0), .val (.int v0), .val (.int v1), .val (.int v2), .val (.int z12_0), .val (.int z14_0), .val (.int z16_0), .val (.ref b18), .val (.ref b26), .unset, .unset, .unset] [(.int z14_0), (.int v1)])) (fun t k => XS.iload X26.here hx rfl (hb hby at_209) rfl k) ?_
            by_cases hc211_47 : v1 = z14_0
            · -- yes
              refine own_via (S' := T26.setTop (mkF m 214 #[.val (.int p0), .val (.int p1), .val (.int p2), .val (.int p3), .val (.long q0), .second, .val (.int kk), .val (.ref z1_0), .val (.int vl), .val (.int nl), .val (.int z10_0), .val (.int v0), .val (.int v1), .val (.int v2), .val (.int z12_0), .val (.int z14_0), .val (.int z16_0), .val (.ref b18), .val (.ref b26), .unset, .unset, .unset] [])) (fun t k => XS.icmpNo X26.here hx rfl (hb hby at_211) rfl (teq hc211_47).2 k) ?_
              refine own_via (S' := T26.setTop (mkF m 216 #[.val (.int p0), .val (.int p1), .val (.int p2), .val (.int p3), .val (.long q0), .second, .val (.int kk), .val (.ref z1_0), .val (.int vl), .val (.int nl), .val (.int z10_0), .val (.int v0), .val (.int v1), .val (.int v2), .val (.int z12_0), .val (.int z14_0), .val (.int z16_0), .val (.ref b18), .val (.ref b26), .unset, .unset, .unset] [(.int vl)])) (fun t k => XS.iload X26.here hx rfl (hb hby at_214) rfl k) ?_
              refine own_via (S' := T26.setTop (mkF m 217 #[.val (.int p0), .val (.int p1), .val (.int p2), .val (.int p3), .val (.long q0), .second, .val (.int kk), .val (.ref z1_0), .val (.int vl), .val (.int nl), .val (.int z10_0), .val (.int v0), .val (.int v1), .val (.int v2), .val (.int z12_0), .val (.int z14_0), .val (.int z16_0), .val (.ref b18), .val (.ref b26), .unset, .unset, .unset] [(.int (3 : Int32)), (.int vl)])) (fun t k => XS.iconst X26.here hx rfl (hb hby at_216) k) ?_
              by_cases hc217_48 : vl < (3 : Int32)
              · -- yes
                refine own_via (S' := T26.setTop (mkF m 227 #[.val (.int p0), .val (.int p1), .val (.int p2), .val (.int p3), .val (.long q0), .second, .val (.int kk), .val (.ref z1_0), .val (.int vl), .val (.int nl), .val (.int z10_0), .val (.int v0), .val (.int v1), .val (.int v2), .val (.int z12_0), .val (.int z14_0), .val (.int z16_0), .val (.ref b18), .val (.ref b26), .unset, .unset, .unset] [])) (fun t k => XS.icmpYes X26.here hx rfl (pc0 := 217) (pc' := 227) rfl (hb hby at_217) rfl (tlt hc217_48).1 (by decide) (by decide) k) ?_
                refine own_via (S' := T26.setTop (mkF m 228 #[.val (.int p0), .val (.int p1), .val (.int p2), .val (.int p3), .val (.long q0), .second, .val (.int kk), .val (.ref z1_0), .val (.int vl), .val (.int nl), .val (.int z10_0), .val (.int v0), .val (.int v1), .val (.int v2), .val (.int z12_0), .val (.int z14_0), .val (.int z16_0), .val (.ref b18), .val (.ref b26), .unset, .unset, .unset] [(.int (1 : Int32))])) (fun t k => XS.iconst X26.here hx rfl (hb hby at_227) k) ?_
                refine own_via (S' := T26.setTop (mkF m 232 #[.val (.int p0), .val (.int p1), .val (.int p2), .val (.int p3), .val (.long q0), .second, .val (.int kk), .val (.ref z1_0), .val (.int vl), .val (.int nl), .val (.int z10_0), .val (.int v0), .val (.int v1), .val (.int v2), .val (.int z12_0), .val (.int z14_0), .val (.int z16_0), .val (.ref b18), .val (.ref b26), .unset, .unset, .unset] [(.int (1 : Int32))])) (fun t k => XS.goto X26.here hx rfl (pc0 := 228) (pc' := 232) rfl (hb hby at_228) (by decide) (by decide) k) ?_
                have qz34_0 : z34_0 = (1 : Int32) := hz34_0.trans ((if_pos hc185_35).trans ((if_neg hc191_36).trans ((if_pos hc198_43).trans ((if_neg hc204_44).trans ((if_pos hc211_47).trans (if_pos hc217_48))))))
                rw [qz34_0] at jn34
                exact jn34 _ X26 rfl
              · -- no
                refine own_via (S' := T26.setTop (mkF m 220 #[.val (.int p0), .val (.int p1), .val (.int p2), .val (.int p3), .val (.long q0), .second, .val (.int kk), .val (.ref z1_0), .val (.int vl), .val (.int nl), .val (.int z10_0), .val (.int v0), .val (.int v1), .val (.int v2), .val (.int z12_0), .val (.int z14_0), .val (.int z16_0), .val (.ref b18), .val (.ref b26), .unset, .unset, .unset] [])) (fun t k => XS.icmpNo X26.here hx rfl (hb hby at_217) rfl (flt hc217_48).1 k) ?_
                refine own_via (S' := T26.setTop (mkF m 222 #[.val (.int p0), .val (.int p1), .val (.int p2), .val (.int p3), .val (.long q0), .second, .val (.int kk), .val (.ref z1_0), .val (.int vl), .val (.int nl), .val (.int z10_0), .val (.int v0), .val (.int v1), .val (.int v2), .val (.int z12_0), .val (.int z14_0), .val (.int z16_0), .val (.ref b18), .val (.ref b26), .unset, .unset, .unset] [(.int v2)])) (fun t k => XS.iload X26.here hx rfl (hb hby at_220) rfl k) ?_
                refine own_via (S' := T26.setTop (mkF m 224 #[.val (.int p0), .val (.int p1), .val (.int p2), .val (.int p3), .val (.long q0), .second, .val (.int kk), .val (.ref z1_0), .val (.int vl), .val (.int nl), .val (.int z10_0), .val (.int v0), .val (.int v1), .val (.int v2), .val (.int z12_0), .val (.int z14_0), .val (.int z16_0), .val (.ref b18), .val (.ref b26), .unset, .unset, .unset] [(.int z16_0), (.int v2)])) (fun t k => XS.iload X26.here hx rfl (hb hby at_222) rfl k) ?_
                by_cases hc224_49 : v2 = z16_0
                · -- yes
                  refine own_via (S' := T26.setTop (mkF m 227 #[.val (.int p0), .val (.int p1), .val (.int p2), .val (.int p3), .val (.long q0), .second, .val (.int kk), .val (.ref z1_0), .val (.int vl), .val (.int nl), .val (.int z10_0), .val (.int v0), .val (.int v1), .val (.int v2), .val (.int z12_0), .val (.int z14_0), .val (.int z16_0), .val (.ref b18), .val (.ref b26), .unset, .unset, .unset] [])) (fun t k => XS.icmpNo X26.here hx rfl (hb hby at_224) rfl (teq hc224_49).2 k) ?_
                  refine own_via (S' := T26.setTop (mkF m 228 #[.val (.int p0), .val (.int p1), .val (.int p2), .val (.int p3), .val (.long q0), .second, .val (.int kk), .val (.ref z1_0), .val (.int vl), .val (.int nl), .val (.int z10_0), .val (.int v0), .val (.int v1), .val (.int v2), .val (.int z12_0), .val (.int z14_0), .val (.int z16_0), .val (.ref b18), .val (.ref b26), .unset, .unset, .unset] [(.int (1 : Int32))])) (fun t k => XS.iconst X26.here hx rfl (hb hby at_227) k) ?_
                  refine own_via (S' := T26.setTop (mkF m 232 #[.val (.int p0), .val (.int p1), .val (.int p2), .val (.int p3), .val (.long q0), .second, .val (.int kk), .val (.ref z1_0), .val (.int vl), .val (.int nl), .val (.int z10_0), .val (.int v0), .val (.int v1), .val (.int v2), .val (.int z12_0), .val (.int z14_0), .val (.int z16_0), .val (.ref b18), .val (.ref b26), .unset, .unset, .unset] [(.int (1 : Int32))])) (fun t k => XS.goto X26.here hx rfl (pc0 := 228) (pc' := 232) rfl (hb hby at_228) (by decide) (by decide) k) ?_
                  have qz34_0 : z34_0 = (1 : Int32) := hz34_0.trans ((if_pos hc185_35).trans ((if_neg hc191_36).trans ((if_pos hc198_43).trans ((if_neg hc204_44).trans ((if_pos hc211_47).trans ((if_neg hc217_48).trans (if_pos hc224_49)))))))
                  rw [qz34_0] at jn34
                  exact jn34 _ X26 rfl
                · -- no
                  refine own_via (S' := T26.setTop (mkF m 231 #[.val (.int p0), .val (.int p1), .val (.int p2), .val (.int p3), .val (.long q0), .second, .val (.int kk), .val (.ref z1_0), .val (.int vl), .val (.int nl), .val (.int z10_0), .val (.int v0), .val (.int v1), .val (.int v2), .val (.int z12_0), .val (.int z14_0), .val (.int z16_0), .val (.ref b18), .val (.ref b26), .unset, .unset, .unset] [])) (fun t k => XS.icmpYes X26.here hx rfl (pc0 := 224) (pc' := 231) rfl (hb hby at_224) rfl (feq hc224_49).2 (by decide) (by decide) k) ?_
                  refine own_via (S' := T26.setTop (mkF m 232 #[.val (.int p0), .val (.int p1), .val (.int p2), .val (.int p3), .val (.long q0), .second, .val (.int kk), .val (.ref z1_0), .val (.int vl), .val (.int nl), .val (.int z10_0), .val (.int v0), .val (.int v1), .val (.int v2), .val (.int z12_0), .val (.int z14_0), .val (.int z16_0), .val (.ref b18), .val (.ref b26), .unset, .unset, .unset] [(.int (0 : Int32))])) (fun t k => XS.iconst X26.here hx rfl (hb hby at_231) k) ?_
                  have qz34_0 : z34_0 = (0 : Int32) := hz34_0.trans ((if_pos hc185_35).trans ((if_neg hc191_36).trans ((if_pos hc198_43).trans ((if_neg hc204_44).trans ((if_pos hc211_47).trans ((if_neg hc217_48).trans (if_neg hc224_49)))))))
                  rw [qz34_0] at jn34
                  exact jn34 _ X26 rfl
            · -- no
              refine own_via (S' := T26.setTop (mkF m 231 #[.val (.int p0), .val (.int p1), .val (.int p2), .val (.int p3), .val (.long q0), .second, .val (.int kk), .val (.ref z1_0), .val (.int vl), .val (.int nl), .val (.int z10_0), .val (.int v0), .val (.int v1), .val (.int v2), .val (.int z12_0), .val (.int z14_0), .val (.int z16_0), .val (.ref b18), .val (.ref b26), .unset, .unset, .unset] [])) (fun t k => XS.icmpYes X26.here hx rfl (pc0 := 211) (pc' := 231) rfl (hb hby at_211) rfl (feq hc211_47).2 (by decide) (by decide) k) ?_
              refine own_via (S' := T26.setTop (mkF m 232 #[.val (.int p0), .val (.int p1), .val (.int p2), .val (.int p3), .val (.long q0), .second, .val (.int kk), .val (.ref z1_0), .val (.int vl), .val (.int nl), .val (.int z10_0), .val (.int v0), .val (.int v1), .val (.int v2), .val (.int z12_0), .val (.int z14_0), .val (.int z16_0), .val (.ref b18), .val (.ref b26), .unset, .unset, .unset] [(.int (0 : Int32))])) (fun t k => XS.iconst X26.here hx rfl (hb hby at_231) k) ?_
              have qz34_0 : z34_0 = (0 : Int32) := hz34_0.trans ((if_pos hc185_35).trans ((if_neg hc191_36).trans ((if_pos hc198_43).trans ((if_neg hc204_44).trans (if_neg hc211_47)))))
              rw [qz34_0] at jn34
              exact jn34 _ X26 rfl
        · -- no
          refine own_via (S' := T26.setTop (mkF m 231 #[.val (.int p0), .val (.int p1), .val (.int p2), .val (.int p3), .val (.long q0), .second, .val (.int kk), .val (.ref z1_0), .val (.int vl), .val (.int nl), .val (.int z10_0), .val (.int v0), .val (.int v1), .val (.int v2), .val (.int z12_0), .val (.int z14_0), .val (.int z16_0), .val (.ref b18), .val (.ref b26), .unset, .unset, .unset] [])) (fun t k => XS.icmpYes X26.here hx rfl (pc0 := 198) (pc' := 231) rfl (hb hby at_198) rfl (feq hc198_43).2 (by decide) (by decide) k) ?_
          refine own_via (S' := T26.setTop (mkF m 232 #[.val (.int p0), .val (.int p1), .val (.int p2), .val (.int p3), .val (.long q0), .second, .val (.int kk), .val (.ref z1_0), .val (.int vl), .val (.int nl), .val (.int z10_0), .val (.int v0), .val (.int v1), .val (.int v2), .val (.int z12_0), .val (.int z14_0), .val (.int z16_0), .val (.ref b18), .val (.ref b26), .unset, .unset, .unset] [(.int (0 : Int32))])) (fun t k => XS.iconst X26.here hx rfl (hb hby at_231) k) ?_
          have qz34_0 : z34_0 = (0 : Int32) := hz34_0.trans ((if_pos hc185_35).trans ((if_neg hc191_36).trans (if_neg hc198_43)))
          rw [qz34_0] at jn34
          exact jn34 _ X26 rfl
    · -- no
      refine own_via (S' := T26.setTop (mkF m 231 #[.val (.int p0), .val (.int p1), .val (.int p2), .val (.int p3), .val (.long q0), .second, .val (.int kk), .val (.ref z1_0), .val (.int vl), .val (.int nl), .val (.int z10_0), .val (.int v0), .val (.int v1), .val (.int v2), .val (.int z12_0), .val (.int z14_0), .val (.int z16_0), .val (.ref b18), .val (.ref b26), .unset, .unset, .unset] [])) (fun t k => XS.icmpYes X26.here hx rfl (pc0 := 185) (pc' := 231) rfl (hb hby at_185) rfl (feq hc185_35).2 (by decide) (by decide) k) ?_
      refine own_via (S' := T26.setTop (mkF m 232 #[.val (.int p0), .val (.int p1), .val (.int p2), .val (.int p3), .val (.long q0), .second, .val (.int kk), .val (.ref z1_0), .val (.int vl), .val (.int nl), .val (.int z10_0), .val (.int v0), .val (.int v1), .val (.int v2), .val (.int z12_0), .val (.int z14_0), .val (.int z16_0), .val (.ref b18), .val (.ref b26), .unset, .unset, .unset] [(.int (0 : Int32))])) (fun t k => XS.iconst X26.here hx rfl (hb hby at_231) k) ?_
      have qz34_0 : z34_0 = (0 : Int32) := hz34_0.trans (if_neg hc185_35)
      rw [qz34_0] at jn34
      exact jn34 _ X26 rfl
  intro Tm34 Xm34 em34
  refine own_via (S' := Tm34.setTop (mkF m 234 #[.val (.int p0), .val (.int p1), .val (.int p2), .val (.int p3), .val (.long q0), .second, .val (.int kk), .val (.ref z1_0), .val (.int vl), .val (.int nl), .val (.int z10_0), .val (.int v0), .val (.int v1), .val (.int v2), .val (.int z12_0), .val (.int z14_0), .val (.int z16_0), .val (.ref b18), .val (.ref b26), .val (.int z34_0), .unset, .unset] [])) (fun t k => XS.istore Xm34.here hx rfl (hb hby at_232) rfl (l' := #[.val (.int p0), .val (.int p1), .val (.int p2), .val (.int p3), .val (.long q0), .second, .val (.int kk), .val (.ref z1_0), .val (.int vl), .val (.int nl), .val (.int z10_0), .val (.int v0), .val (.int v1), .val (.int v2), .val (.int z12_0), .val (.int z14_0), .val (.int z16_0), .val (.ref b18), .val (.ref b26), .val (.int z34_0), .unset, .unset]) rfl k) ?_
  refine own_via (S' := Tm34.setTop (mkF m 236 #[.val (.int p0), .val (.int p1), .val (.int p2), .val (.int p3), .val (.long q0), .second, .val (.int kk), .val (.ref z1_0), .val (.int vl), .val (.int nl), .val (.int z10_0), .val (.int v0), .val (.int v1), .val (.int v2), .val (.int z12_0), .val (.int z14_0), .val (.int z16_0), .val (.ref b18), .val (.ref b26), .val (.int z34_0), .unset, .unset] [(.int kk)])) (fun t k => XS.iload Xm34.here hx rfl (hb hby at_234) rfl k) ?_
  obtain ⟨z50_0, hz50_0⟩ : ∃ z : Int32, z = (if kk = (0 : Int32) then (if z34_0 = (0 : Int32) then (0 : Int32) else (1 : Int32)) else (if kk = (3 : Int32) then (if z34_0 = (0 : Int32) then (0 : Int32) else (1 : Int32)) else (0 : Int32))) := ⟨_, rfl⟩
  suffices jn50 : ∀ (Tm50 : State), Stand p l e room_1 (s.setVm T26.vm) m #[(.int p0), (.int p1), (.int p2), (.int p3), (.long q0)] below meth c Tm50 (([] ++ Lc18) ++ Lc26) 12 24 → Tm50.heap = T26.heap → own_Done p e below (fun o U' => ∃ v L, o = .returned v ∧ Q_own_law Z p0 p1 p2 p3 q0 zc wE wT wS h0 n0 v U'.vm U'.heap L ∧ CHr Z own_EL s.vm s.heap U'.vm U'.heap ∧ ReturnedEndW s o U' L room_1.cells room_1.slots) (Tm50.setTop (mkF m 255 #[.val (.int p0), .val (.int p1), .val (.int p2), .val (.int p3), .val (.long q0), .second, .val (.int kk), .val (.ref z1_0), .val (.int vl), .val (.int nl), .val (.int z10_0), .val (.int v0), .val (.int v1), .val (.int v2), .val (.int z12_0), .val (.int z14_0), .val (.int z16_0), .val (.ref b18), .val (.ref b26), .val (.int z34_0), .unset, .unset] [(.int z50_0)])) by
    by_cases hc236_51 : kk = (0 : Int32)
    · -- yes
      refine own_via (S' := Tm34.setTop (mkF m 245 #[.val (.int p0), .val (.int p1), .val (.int p2), .val (.int p3), .val (.long q0), .second, .val (.int kk), .val (.ref z1_0), .val (.int vl), .val (.int nl), .val (.int z10_0), .val (.int v0), .val (.int v1), .val (.int v2), .val (.int z12_0), .val (.int z14_0), .val (.int z16_0), .val (.ref b18), .val (.ref b26), .val (.int z34_0), .unset, .unset] [])) (fun t k => XS.ifYes Xm34.here hx rfl (pc0 := 236) (pc' := 245) rfl (hb hby at_236) rfl ((if0 _ _).trans (teq hc236_51).1) (by decide) (by decide) k) ?_
      refine own_via (S' := Tm34.setTop (mkF m 247 #[.val (.int p0), .val (.int p1), .val (.int p2), .val (.int p3), .val (.long q0), .second, .val (.int kk), .val (.ref z1_0), .val (.int vl), .val (.int nl), .val (.int z10_0), .val (.int v0), .val (.int v1), .val (.int v2), .val (.int z12_0), .val (.int z14_0), .val (.int z16_0), .val (.ref b18), .val (.ref b26), .val (.int z34_0), .unset, .unset] [(.int z34_0)])) (fun t k => XS.iload Xm34.here hx rfl (hb hby at_245) rfl k) ?_
      by_cases hc247_52 : z34_0 = (0 : Int32)
      · -- yes
        refine own_via (S' := Tm34.setTop (mkF m 254 #[.val (.int p0), .val (.int p1), .val (.int p2), .val (.int p3), .val (.long q0), .second, .val (.int kk), .val (.ref z1_0), .val (.int vl), .val (.int nl), .val (.int z10_0), .val (.int v0), .val (.int v1), .val (.int v2), .val (.int z12_0), .val (.int z14_0), .val (.int z16_0), .val (.ref b18), .val (.ref b26), .val (.int z34_0), .unset, .unset] [])) (fun t k => XS.ifYes Xm34.here hx rfl (pc0 := 247) (pc' := 254) rfl (hb hby at_247) rfl ((if0 _ _).trans (teq hc247_52).1) (by decide) (by decide) k) ?_
        refine own_via (S' := Tm34.setTop (mkF m 255 #[.val (.int p0), .val (.int p1), .val (.int p2), .val (.int p3), .val (.long q0), .second, .val (.int kk), .val (.ref z1_0), .val (.int vl), .val (.int nl), .val (.int z10_0), .val (.int v0), .val (.int v1), .val (.int v2), .val (.int z12_0), .val (.int z14_0), .val (.int z16_0), .val (.ref b18), .val (.ref b26), .val (.int z34_0), .unset, .unset] [(.int (0 : Int32))])) (fun t k => XS.iconst Xm34.here hx rfl (hb hby at_254) k) ?_
        have qz50_0 : z50_0 = (0 : Int32) := hz50_0.trans ((if_pos hc236_51).trans (if_pos hc247_52))
        rw [qz50_0] at jn50
        exact jn50 _ Xm34 em34
      · -- no
        refine own_via (S' := Tm34.setTop (mkF m 250 #[.val (.int p0), .val (.int p1), .val (.int p2), .val (.int p3), .val (.long q0), .second, .val (.int kk), .val (.ref z1_0), .val (.int vl), .val (.int nl), .val (.int z10_0), .val (.int v0), .val (.int v1), .val (.int v2), .val (.int z12_0), .val (.int z14_0), .val (.int z16_0), .val (.ref b18), .val (.ref b26), .val (.int z34_0), .unset, .unset] [])) (fun t k => XS.ifNo Xm34.here hx rfl (hb hby at_247) rfl ((if0 _ _).trans (feq hc247_52).1) k) ?_
        refine own_via (S' := Tm34.setTop (mkF m 251 #[.val (.int p0), .val (.int p1), .val (.int p2), .val (.int p3), .val (.long q0), .second, .val (.int kk), .val (.ref z1_0), .val (.int vl), .val (.int nl), .val (.int z10_0), .val (.int v0), .val (.int v1), .val (.int v2), .val (.int z12_0), .val (.int z14_0), .val (.int z16_0), .val (.ref b18), .val (.ref b26), .val (.int z34_0), .unset, .unset] [(.int (1 : Int32))])) (fun t k => XS.iconst Xm34.here hx rfl (hb hby at_250) k) ?_
        refine own_via (S' := Tm34.setTop (mkF m 255 #[.val (.int p0), .val (.int p1), .val (.int p2), .val (.int p3), .val (.long q0), .second, .val (.int kk), .val (.ref z1_0), .val (.int vl), .val (.int nl), .val (.int z10_0), .val (.int v0), .val (.int v1), .val (.int v2), .val (.int z12_0), .val (.int z14_0), .val (.int z16_0), .val (.ref b18), .val (.ref b26), .val (.int z34_0), .unset, .unset] [(.int (1 : Int32))])) (fun t k => XS.goto Xm34.here hx rfl (pc0 := 251) (pc' := 255) rfl (hb hby at_251) (by decide) (by decide) k) ?_
        have qz50_0 : z50_0 = (1 : Int32) := hz50_0.trans ((if_pos hc236_51).trans (if_neg hc247_52))
        rw [qz50_0] at jn50
        exact jn50 _ Xm34 em34
    · -- no
      refine own_via (S' := Tm34.setTop (mkF m 239 #[.val (.int p0), .val (.int p1), .val (.int p2), .val (.int p3), .val (.long q0), .second, .val (.int kk), .val (.ref z1_0), .val (.int vl), .val (.int nl), .val (.int z10_0), .val (.int v0), .val (.int v1), .val (.int v2), .val (.int z12_0), .val (.int z14_0), .val (.int z16_0), .val (.ref b18), .val (.ref b26), .val (.int z34_0), .unset, .unset] [])) (fun t k => XS.ifNo Xm34.here hx rfl (hb hby at_236) rfl ((if0 _ _).trans (feq hc236_51).1) k) ?_
      refine own_via (S' := Tm34.setTop (mkF m 241 #[.val (.int p0), .val (.int p1), .val (.int p2), .val (.int p3), .val (.long q0), .second, .val (.int kk), .val (.ref z1_0), .val (.int vl), .val (.int nl), .val (.int z10_0), .val (.int v0), .val (.int v1), .val (.int v2), .val (.int z12_0), .val (.int z14_0), .val (.int z16_0), .val (.ref b18), .val (.ref b26), .val (.int z34_0), .unset, .unset] [(.int kk)])) (fun t k => XS.iload Xm34.here hx rfl (hb hby at_239) rfl k) ?_
      refine own_via (S' := Tm34.setTop (mkF m 242 #[.val (.int p0), .val (.int p1), .val (.int p2), .val (.int p3), .val (.long q0), .second, .val (.int kk), .val (.ref z1_0), .val (.int vl), .val (.int nl), .val (.int z10_0), .val (.int v0), .val (.int v1), .val (.int v2), .val (.int z12_0), .val (.int z14_0), .val (.int z16_0), .val (.ref b18), .val (.ref b26), .val (.int z34_0), .unset, .unset] [(.int (3 : Int32)), (.int kk)])) (fun t k => XS.iconst Xm34.here hx rfl (hb hby at_241) k) ?_
      by_cases hc242_53 : kk = (3 : Int32)
      · -- yes
        refine own_via (S' := Tm34.setTop (mkF m 245 #[.val (.int p0), .val (.int p1), .val (.int p2), .val (.int p3), .val (.long q0), .second, .val (.int kk), .val (.ref z1_0), .val (.int vl), .val (.int nl), .val (.int z10_0), .val (.int v0), .val (.int v1), .val (.int v2), .val (.int z12_0), .val (.int z14_0), .val (.int z16_0), .val (.ref b18), .val (.ref b26), .val (.int z34_0), .unset, .unset] [])) (fun t k => XS.icmpNo Xm34.here hx rfl (hb hby at_242) rfl (teq hc242_53).2 k) ?_
        refine own_via (S' := Tm34.setTop (mkF m 247 #[.val (.int p0), .val (.int p1), .val (.int p2), .val (.int p3), .val (.long q0), .second, .val (.int kk), .val (.ref z1_0), .val (.int vl), .val (.int nl), .val (.int z10_0), .val (.int v0), .val (.int v1), .val (.int v2), .val (.int z12_0), .val (.int z14_0), .val (.int z16_0), .val (.ref b18), .val (.ref b26), .val (.int z34_0), .unset, .unset] [(.int z34_0)])) (fun t k => XS.iload Xm34.here hx rfl (hb hby at_245) rfl k) ?_
        by_cases hc247_54 : z34_0 = (0 : Int32)
        · -- yes
          refine own_via (S' := Tm34.setTop (mkF m 254 #[.val (.int p0), .val (.int p1), .val (.int p2), .val (.int p3), .val (.long q0), .second, .val (.int kk), .val (.ref z1_0), .val (.int vl), .val (.int nl), .val (.int z10_0), .val (.int v0), .val (.int v1), .val (.int v2), .val (.int z12_0), .val (.int z14_0), .val (.int z16_0), .val (.ref b18), .val (.ref b26), .val (.int z34_0), .unset, .unset] [])) (fun t k => XS.ifYes Xm34.here hx rfl (pc0 := 247) (pc' := 254) rfl (hb hby at_247) rfl ((if0 _ _).trans (teq hc247_54).1) (by decide) (by decide) k) ?_
          refine own_via (S' := Tm34.setTop (mkF m 255 #[.val (.int p0), .val (.int p1), .val (.int p2), .val (.int p3), .val (.long q0), .second, .val (.int kk), .val (.ref z1_0), .val (.int vl), .val (.int nl), .val (.int z10_0), .val (.int v0), .val (.int v1), .val (.int v2), .val (.int z12_0), .val (.int z14_0), .val (.int z16_0), .val (.ref b18), .val (.ref b26), .val (.int z34_0), .unset, .unset] [(.int (0 : Int32))])) (fun t k => XS.iconst Xm34.here hx rfl (hb hby at_254) k) ?_
          have qz50_0 : z50_0 = (0 : Int32) := hz50_0.trans ((if_neg hc236_51).trans ((if_pos hc242_53).trans (if_pos hc247_54)))
          rw [qz50_0] at jn50
          exact jn50 _ Xm34 em34
        · -- no
          refine own_via (S' := Tm34.setTop (mkF m 250 #[.val (.int p0), .val (.int p1), .val (.int p2), .val (.int p3), .val (.long q0), .second, .val (.int kk), .val (.ref z1_0), .val (.int vl), .val (.int nl), .val (.int z10_0), .val (.int v0), .val (.int v1), .val (.int v2), .val (.int z12_0), .val (.int z14_0), .val (.int z16_0), .val (.ref b18), .val (.ref b26), .val (.int z34_0), .unset, .unset] [])) (fun t k => XS.ifNo Xm34.here hx rfl (hb hby at_247) rfl ((if0 _ _).trans (feq hc247_54).1) k) ?_
          refine own_via (S' := Tm34.setTop (mkF m 251 #[.val (.int p0), .val (.int p1), .val (.int p2), .val (.int p3), .val (.long q0), .second, .val (.int kk), .val (.ref z1_0), .val (.int vl), .val (.int nl), .val (.int z10_0), .val (.int v0), .val (.int v1), .val (.int v2), .val (.int z12_0), .val (.int z14_0), .val (.int z16_0), .val (.ref b18), .val (.ref b26), .val (.int z34_0), .unset, .unset] [(.int (1 : Int32))])) (fun t k => XS.iconst Xm34.here hx rfl (hb hby at_250) k) ?_
          refine own_via (S' := Tm34.setTop (mkF m 255 #[.val (.int p0), .val (.int p1), .val (.int p2), .val (.int p3), .val (.long q0), .second, .val (.int kk), .val (.ref z1_0), .val (.int vl), .val (.int nl), .val (.int z10_0), .val (.int v0), .val (.int v1), .val (.int v2), .val (.int z12_0), .val (.int z14_0), .val (.int z16_0), .val (.ref b18), .val (.ref b26), .val (.int z34_0), .unset, .unset] [(.int (1 : Int32))])) (fun t k => XS.goto Xm34.here hx rfl (pc0 := 251) (pc' := 255) rfl (hb hby at_251) (by decide) (by decide) k) ?_
          have qz50_0 : z50_0 = (1 : Int32) := hz50_0.trans ((if_neg hc236_51).trans ((if_pos hc242_53).trans (if_neg hc247_54)))
          rw [qz50_0] at jn50
          exact jn50 _ Xm34 em34
      · -- no
        refine own_via (S' := Tm34.setTop (mkF m 254 #[.val (.int p0), .val (.int p1), .val (.int p2), .val (.int p3), .val (.long q0), .second, .val (.int kk), .val (.ref z1_0), .val (.int vl), .val (.int nl), .val (.int z10_0), .val (.int v0), .val (.int v1), .val (.int v2), .val (.int z12_0), .val (.int z14_0), .val (.int z16_0), .val (.ref b18), .val (.ref b26), .val (.int z34_0), .unset, .unset] [])) (fun t k => XS.icmpYes Xm34.here hx rfl (pc0 := 242) (pc' := 254) rfl (hb hby at_242) rfl (feq hc242_53).2 (by decide) (by decide) k) ?_
        refine own_via (S' := Tm34.setTop (mkF m 255 #[.val (.int p0), .val (.int p1), .val (.int p2), .val (.int p3), .val (.long q0), .second, .val (.int kk), .val (.ref z1_0), .val (.int vl), .val (.int nl), .val (.int z10_0), .val (.int v0), .val (.int v1), .val (.int v2), .val (.int z12_0), .val (.int z14_0), .val (.int z16_0), .val (.ref b18), .val (.ref b26), .val (.int z34_0), .unset, .unset] [(.int (0 : Int32))])) (fun t k => XS.iconst Xm34.here hx rfl (hb hby at_254) k) ?_
        have qz50_0 : z50_0 = (0 : Int32) := hz50_0.trans ((if_neg hc236_51).trans (if_neg hc242_53))
        rw [qz50_0] at jn50
        exact jn50 _ Xm34 em34
  intro Tm50 Xm50 em50
  refine own_via (S' := Tm50.setTop (mkF m 257 #[.val (.int p0), .val (.int p1), .val (.int p2), .val (.int p3), .val (.long q0), .second, .val (.int kk), .val (.ref z1_0), .val (.int vl), .val (.int nl), .val (.int z10_0), .val (.int v0), .val (.int v1), .val (.int v2), .val (.int z12_0), .val (.int z14_0), .val (.int z16_0), .val (.ref b18), .val (.ref b26), .val (.int z34_0), .val (.int z50_0), .unset] [])) (fun t k => XS.istore Xm50.here hx rfl (hb hby at_255) rfl (l' := #[.val (.int p0), .val (.int p1), .val (.int p2), .val (.int p3), .val (.long q0), .second, .val (.int kk), .val (.ref z1_0), .val (.int vl), .val (.int nl), .val (.int z10_0), .val (.int v0), .val (.int v1), .val (.int v2), .val (.int z12_0), .val (.int z14_0), .val (.int z16_0), .val (.ref b18), .val (.ref b26), .val (.int z34_0), .val (.int z50_0), .unset]) rfl k) ?_
  obtain ⟨T55, h55, X55, e55, E55, A55, D55, -, st55⟩ := newO Xm50 hx hZ hown (wd40 hw) (wd41 hw) (wd42 hw) em50 (g := (mkF m 257 #[.val (.int p0), .val (.int p1), .val (.int p2), .val (.int p3), .val (.long q0), .second, .val (.int kk), .val (.ref z1_0), .val (.int vl), .val (.int nl), .val (.int z10_0), .val (.int v0), .val (.int v1), .val (.int v2), .val (.int z12_0), .val (.int z14_0), .val (.int z16_0), .val (.ref b18), .val (.ref b26), .val (.int z34_0), .val (.int z50_0), .unset] [])) rfl (hb hby at_257) (by decide) (by decide)
  obtain ⟨b55, g55⟩ : ∃ z, z = T26.heap.size := ⟨_, rfl⟩
  rw [← g55] at A55 D55 st55
  have lt_b55 : h55.size > b55 := A55.lt
  have sz56 : T26.heap.size ≤ h55.size := E55.1
  have O57 : Old Z n0 h55 := O29.ext E55
  have R58 : CHr Z own_EL s.vm h0 T26.vm h55 := R28.trans (CHr.ext E55 R28.1)
  have F55_kind : Fld Z h55 b55 "com/example/coruna/coruna/io/Markup" "kind" "Lcom/example/coruna/coruna/io/Markup$Kind;" .null := D55 (Or.inr (wd53 hw)) (ty := (.object "com/example/coruna/coruna/io/Markup$Kind")) (by decide)
  have F55_value : Fld Z h55 b55 "com/example/coruna/coruna/io/Markup" "value" "Ljava/lang/String;" .null := D55 (Or.inr (wd55 hw)) (ty := (.object "java/lang/String")) (by decide)
  have F55_line : Fld Z h55 b55 "com/example/coruna/coruna/io/Markup" "line" "J" (.long (0 : Int64)) := D55 (Or.inr (wd57 hw)) (ty := .long) (by decide)
  refine own_via (S' := T55.setTop (mkF m 260 #[.val (.int p0), .val (.int p1), .val (.int p2), .val (.int p3), .val (.long q0), .second, .val (.int kk), .val (.ref z1_0), .val (.int vl), .val (.int nl), .val (.int z10_0), .val (.int v0), .val (.int v1), .val (.int v2), .val (.int z12_0), .val (.int z14_0), .val (.int z16_0), .val (.ref b18), .val (.ref b26), .val (.int z34_0), .val (.int z50_0), .unset] [(.ref b55)])) st55 ?_
  refine own_via (S' := T55.setTop (mkF m 261 #[.val (.int p0), .val (.int p1), .val (.int p2), .val (.int p3), .val (.long q0), .second, .val (.int kk), .val (.ref z1_0), .val (.int vl), .val (.int nl), .val (.int z10_0), .val (.int v0), .val (.int v1), .val (.int v2), .val (.int z12_0), .val (.int z14_0), .val (.int z16_0), .val (.ref b18), .val (.ref b26), .val (.int z34_0), .val (.int z50_0), .unset] [(.ref b55), (.ref b55)])) (fun t k => XS.dup X55.here hx rfl (hb hby at_260) rfl rfl k) ?_
  refine own_via (S' := T55.setTop (mkF m 263 #[.val (.int p0), .val (.int p1), .val (.int p2), .val (.int p3), .val (.long q0), .second, .val (.int kk), .val (.ref z1_0), .val (.int vl), .val (.int nl), .val (.int z10_0), .val (.int v0), .val (.int v1), .val (.int v2), .val (.int z12_0), .val (.int z14_0), .val (.int z16_0), .val (.ref b18), .val (.ref b26), .val (.int z34_0), .val (.int z50_0), .unset] [(.ref z1_0), (.ref b55), (.ref b55)])) (fun t k => XS.aload X55.here hx rfl (hb hby at_261) rfl rfl k) ?_
  refine own_via (S' := T55.setTop (mkF m 265 #[.val (.int p0), .val (.int p1), .val (.int p2), .val (.int p3), .val (.long q0), .second, .val (.int kk), .val (.ref z1_0), .val (.int vl), .val (.int nl), .val (.int z10_0), .val (.int v0), .val (.int v1), .val (.int v2), .val (.int z12_0), .val (.int z14_0), .val (.int z16_0), .val (.ref b18), .val (.ref b26), .val (.int z34_0), .val (.int z50_0), .unset] [(.ref b18), (.ref z1_0), (.ref b55), (.ref b55)])) (fun t k => XS.aload X55.here hx rfl (hb hby at_263) rfl rfl k) ?_
  refine own_via (S' := T55.setTop (mkF m 267 #[.val (.int p0), .val (.int p1), .val (.int p2), .val (.int p3), .val (.long q0), .second, .val (.int kk), .val (.ref z1_0), .val (.int vl), .val (.int nl), .val (.int z10_0), .val (.int v0), .val (.int v1), .val (.int v2), .val (.int z12_0), .val (.int z14_0), .val (.int z16_0), .val (.ref b18), .val (.ref b26), .val (.int z34_0), .val (.int z50_0), .unset] [(.long q0), (.ref b18), (.ref z1_0), (.ref b55), (.ref b55)])) (fun t k => XS.lload X55.here hx rfl (hb hby at_265) rfl k) ?_
  obtain ⟨_, _, ⟨T59, Lp59, kp59, np59⟩, -, X59, ⟨Lc59, hQ59, l59, y59, z59⟩, st59⟩ := X55.specialBack hx (y := mt4) rfl hown (mvT hZ (wd43 hw)) (mvT hZ (wd44 hw)) (mvT hZ (wd45 hw)) (by decide) (backOf (W := 1) (own_mkinit l Z a0 hw [] b55 z1_0 b18 q0 h55 n0 O57 A55 F55_kind F55_value F55_line (by omega)) hZ (wd45 hw) (wd42 hw) (by decide) (by decide)) (g := (mkF m 267 #[.val (.int p0), .val (.int p1), .val (.int p2), .val (.int p3), .val (.long q0), .second, .val (.int kk), .val (.ref z1_0), .val (.int vl), .val (.int nl), .val (.int z10_0), .val (.int v0), .val (.int v1), .val (.int v2), .val (.int z12_0), .val (.int z14_0), .val (.int z16_0), .val (.ref b18), .val (.ref b26), .val (.int z34_0), .val (.int z50_0), .unset] [(.long q0), (.ref b18), (.ref z1_0), (.ref b55), (.ref b55)])) rfl (by rw [hml]; rfl) (Steps.refl _) (a := b55) (argsL := [(.ref z1_0), (.ref b18), (.long q0)]) (rest := [(.ref b55)]) (lenOf pd__Lcom_example_coruna_coruna_io_Markup_Kind_Ljava_lang_String_J_V_5936 rfl) rfl (by show 2 * 0 + _ ≤ _; exact Nat.le_of_eq rfl) (hb hby at_267) (fun _ _ => ⟨rfl, e55, (by decide : 13 + 0 ≤ _), (by decide : 27 + 0 ≤ _)⟩)
  dsimp only [Pt.U, Pt.locs, Pt.cells, Pt.slots] at X59 l59 y59 z59 st59 hQ59
  subst Lp59 kp59 np59
  obtain ⟨rfl, N59q, K59q, f59_0, f59_1⟩ := hQ59
  have N59 := Fr.app N26 N59q
  have sf59 : ∀ x ∈ ([b55] : List Addr), Safe Z own_EL T26.vm h55 x := (sfS (Safe.exa hZ.alike A55 (by decide) (by decide)) sf0)
  have sz60 : h55.size ≤ T59.heap.size := K59q.1
  have R61 : CHr Z own_EL s.vm h0 T26.vm T59.heap := R58.trans (CHr.keep K59q sf59 R58.1)
  have O62 : Old Z n0 T59.heap := O57.keep K59q (allS (by omega : n0 ≤ b55) all0)
  refine own_tr (S' := T59.setTop (mkF m 270 #[.val (.int p0), .val (.int p1), .val (.int p2), .val (.int p3), .val (.long q0), .second, .val (.int kk), .val (.ref z1_0), .val (.int vl), .val (.int nl), .val (.int z10_0), .val (.int v0), .val (.int v1), .val (.int v2), .val (.int z12_0), .val (.int z14_0), .val (.int z16_0), .val (.ref b18), .val (.ref b26), .val (.int z34_0), .val (.int z50_0), .unset] [(.ref b55)])) st59 ?_
  refine own_via (S' := T59.setTop (mkF m 272 #[.val (.int p0), .val (.int p1), .val (.int p2), .val (.int p3), .val (.long q0), .second, .val (.int kk), .val (.ref z1_0), .val (.int vl), .val (.int nl), .val (.int z10_0), .val (.int v0), .val (.int v1), .val (.int v2), .val (.int z12_0), .val (.int z14_0), .val (.int z16_0), .val (.ref b18), .val (.ref b26), .val (.int z34_0), .val (.int z50_0), .val (.ref b55)] [])) (fun t k => XS.astore X59.here hx rfl (hb hby at_270) rfl rfl (l' := #[.val (.int p0), .val (.int p1), .val (.int p2), .val (.int p3), .val (.long q0), .second, .val (.int kk), .val (.ref z1_0), .val (.int vl), .val (.int nl), .val (.int z10_0), .val (.int v0), .val (.int v1), .val (.int v2), .val (.int z12_0), .val (.int z14_0), .val (.int z16_0), .val (.ref b18), .val (.ref b26), .val (.int z34_0), .val (.int z50_0), .val (.ref b55)]) rfl k) ?_
  refine own_via (S' := T59.setTop (mkF m 274 #[.val (.int p0), .val (.int p1), .val (.int p2), .val (.int p3), .val (.long q0), .second, .val (.int kk), .val (.ref z1_0), .val (.int vl), .val (.int nl), .val (.int z10_0), .val (.int v0), .val (.int v1), .val (.int v2), .val (.int z12_0), .val (.int z14_0), .val (.int z16_0), .val (.ref b18), .val (.ref b26), .val (.int z34_0), .val (.int z50_0), .val (.ref b55)] [(.ref b55)])) (fun t k => XS.aload X59.here hx rfl (hb hby at_272) rfl rfl k) ?_
  refine own_via (S' := T59.setTop (mkF m 276 #[.val (.int p0), .val (.int p1), .val (.int p2), .val (.int p3), .val (.long q0), .second, .val (.int kk), .val (.ref z1_0), .val (.int vl), .val (.int nl), .val (.int z10_0), .val (.int v0), .val (.int v1), .val (.int v2), .val (.int z12_0), .val (.int z14_0), .val (.int z16_0), .val (.ref b18), .val (.ref b26), .val (.int z34_0), .val (.int z50_0), .val (.ref b55)] [(.ref b26), (.ref b55)])) (fun t k => XS.aload X59.here hx rfl (hb hby at_274) rfl rfl k) ?_
  have cx64 : Exa Z T59.heap b18 "java/lang/String" := (((f18_0.keep K26q).ext E55).keep K59q)
  have cx65 : Exa Z T59.heap b55 "com/example/coruna/coruna/io/Markup" := (A55.keep K59q)
  have ne_b18_b55 : b18 ≠ b55 := by first | exact Exa.ne cx64 cx65 (by decide) | exact Nat.ne_of_lt (by omega) | exact Nat.ne_of_gt (by omega)
  have cx66 : Fld Z T59.heap b18 "java/lang/String" "coder" "B" (.int (0 : Int32)) := (((f18_1.keep K26q nin0).ext E55).keep K59q (ninS ne_b18_b55 nin0))
  have cx67 : Fld Z T59.heap b18 "java/lang/String" "value" "[B" (.ref tb18) := (((f18_2.keep K26q nin0).ext E55).keep K59q (ninS ne_b18_b55 nin0))
  have ne_tb18_b55 : tb18 ≠ b55 := by first | exact Nat.ne_of_lt (by omega) | exact Nat.ne_of_gt (by omega)
  have cx68 : Arv Z T59.heap tb18 kb18 .byte (Int32.ofNat (own_cs vl v0 v1 v2).length) (((own_cs vl v0 v1 v2).map fun c => c.toInt8.toInt32).map Value.int) (.int (0 : Int32)) := (((f18_3.keep K26q nin0).ext E55).keep K59q (ninS ne_tb18_b55 nin0))
  have cx69 : Exa Z T59.heap b26 "java/lang/String" := ((f26_0.ext E55).keep K59q)
  have ne_b26_b55 : b26 ≠ b55 := by first | exact Exa.ne cx69 cx65 (by decide) | exact Nat.ne_of_lt (by omega) | exact Nat.ne_of_gt (by omega)
  have cx70 : Fld Z T59.heap b26 "java/lang/String" "coder" "B" (.int (0 : Int32)) := ((f26_1.ext E55).keep K59q (ninS ne_b26_b55 nin0))
  have cx71 : Fld Z T59.heap b26 "java/lang/String" "value" "[B" (.ref tb26) := ((f26_2.ext E55).keep K59q (ninS ne_b26_b55 nin0))
  have ne_tb26_b55 : tb26 ≠ b55 := by first | exact Nat.ne_of_lt (by omega) | exact Nat.ne_of_gt (by omega)
  have cx72 : Arv Z T59.heap tb26 kb26 .byte (Int32.ofNat (own_cs nl z12_0 z14_0 z16_0).length) (((own_cs nl z12_0 z14_0 z16_0).map fun c => c.toInt8.toInt32).map Value.int) (.int (0 : Int32)) := ((f26_3.ext E55).keep K59q (ninS ne_tb26_b55 nin0))
  obtain ⟨cq63, kq63, q63a, q63b, q63c⟩ := isOf hZ rfl cx65
  obtain ⟨_, _, ⟨T63, Lp63, kp63, np63⟩, -, X63, ⟨Lc63, hQ63, l63, y63, z63⟩, st63⟩ := X59.virtualBack hx (y := mt5) (z := mt5) hown (mvT hZ (wd58 hw)) (mvT hZ (wd59 hw)) (notFace_of_selects (args := #[]) (mvT hZ (wd61 hw))) (mvT hZ (wd61 hw)) (mvT hZ (wd60 hw)) (by decide) (backOf (W := 0) (own_isTag l Z a0 hw [] b55 b26 z1_0 b18 tb18 kb18 tb26 kb26 (own_cs vl v0 v1 v2) (own_cs nl z12_0 z14_0 z16_0) zc wS T59.heap n0 O62 zf_S_com_example_coruna_coruna_io_Markup_Kind_START_TAG zf_S_java_lang_String_COMPACT_STRINGS f59_0 f59_1 cx64 cx66 cx67 cx68 cx69 cx70 cx71 cx72 hzc (own_cs_mem rng_v0 rng_v1 rng_v2) (own_cs_mem rng_z12_0 rng_z14_0 rng_z16_0) (own_cs_len _ _ _ _) (own_cs_len _ _ _ _)) hZ (wd62 hw) (wd42 hw) (by decide) (by decide)) q63a q63c (g := (mkF m 276 #[.val (.int p0), .val (.int p1), .val (.int p2), .val (.int p3), .val (.long q0), .second, .val (.int kk), .val (.ref z1_0), .val (.int vl), .val (.int nl), .val (.int z10_0), .val (.int v0), .val (.int v1), .val (.int v2), .val (.int z12_0), .val (.int z14_0), .val (.int z16_0), .val (.ref b18), .val (.ref b26), .val (.int z34_0), .val (.int z50_0), .val (.ref b55)] [(.ref b26), (.ref b55)])) rfl (by rw [hml]; rfl) (Steps.refl _) (argsL := [(.ref b26)]) (rest := []) (lenOf pd__Ljava_lang_String__Z_1867 rfl) rfl (by show 2 * 0 + _ ≤ _; exact Nat.le_of_eq rfl) (hb hby at_276) (fun _ _ => ⟨rfl, rfl, (by decide : 13 + 0 ≤ _), (by decide : 27 + 0 ≤ _)⟩)
  dsimp only [Pt.U, Pt.locs, Pt.cells, Pt.slots] at X63 l63 y63 z63 st63 hQ63
  subst Lp63 kp63 np63
  obtain ⟨z63, rfl, rfl, e63, hz63_0⟩ := hQ63
  try rw [List.append_nil] at X63
  refine own_tr (S' := T63.setTop (mkF m 279 #[.val (.int p0), .val (.int p1), .val (.int p2), .val (.int p3), .val (.long q0), .second, .val (.int kk), .val (.ref z1_0), .val (.int vl), .val (.int nl), .val (.int z10_0), .val (.int v0), .val (.int v1), .val (.int v2), .val (.int z12_0), .val (.int z14_0), .val (.int z16_0), .val (.ref b18), .val (.ref b26), .val (.int z34_0), .val (.int z50_0), .val (.ref b55)] [(.int z63)])) st63 ?_
  refine own_via (S' := T63.setTop (mkF m 281 #[.val (.int p0), .val (.int p1), .val (.int p2), .val (.int p3), .val (.long q0), .second, .val (.int kk), .val (.ref z1_0), .val (.int vl), .val (.int nl), .val (.int z10_0), .val (.int v0), .val (.int v1), .val (.int v2), .val (.int z12_0), .val (.int z14_0), .val (.int z16_0), .val (.ref b18), .val (.ref b26), .val (.int z34_0), .val (.int z50_0), .val (.ref b55)] [(.int z50_0), (.int z63)])) (fun t k => XS.iload X63.here hx rfl (hb hby at_279) rfl k) ?_
  have hc281_73 : z63 = z50_0 := own_fin hn_kk hn_vl hn_nl hz1_0 hz34_0 hz50_0 hES hTS hz63_0
  refine own_via (S' := T63.setTop (mkF m 284 #[.val (.int p0), .val (.int p1), .val (.int p2), .val (.int p3), .val (.long q0), .second, .val (.int kk), .val (.ref z1_0), .val (.int vl), .val (.int nl), .val (.int z10_0), .val (.int v0), .val (.int v1), .val (.int v2), .val (.int z12_0), .val (.int z14_0), .val (.int z16_0), .val (.ref b18), .val (.ref b26), .val (.int z34_0), .val (.int z50_0), .val (.ref b55)] [])) (fun t k => XS.icmpNo X63.here hx rfl (hb hby at_281) rfl (teq hc281_73).2 k) ?_
  refine own_via (S' := T63.setTop (mkF m 285 #[.val (.int p0), .val (.int p1), .val (.int p2), .val (.int p3), .val (.long q0), .second, .val (.int kk), .val (.ref z1_0), .val (.int vl), .val (.int nl), .val (.int z10_0), .val (.int v0), .val (.int v1), .val (.int v2), .val (.int z12_0), .val (.int z14_0), .val (.int z16_0), .val (.ref b18), .val (.ref b26), .val (.int z34_0), .val (.int z50_0), .val (.ref b55)] [(.int (1 : Int32))])) (fun t k => XS.iconst X63.here hx rfl (hb hby at_284) k) ?_
  refine own_via (S' := T63.setTop (mkF m 289 #[.val (.int p0), .val (.int p1), .val (.int p2), .val (.int p3), .val (.long q0), .second, .val (.int kk), .val (.ref z1_0), .val (.int vl), .val (.int nl), .val (.int z10_0), .val (.int v0), .val (.int v1), .val (.int v2), .val (.int z12_0), .val (.int z14_0), .val (.int z16_0), .val (.ref b18), .val (.ref b26), .val (.int z34_0), .val (.int z50_0), .val (.ref b55)] [(.int (1 : Int32))])) (fun t k => XS.goto X63.here hx rfl (pc0 := 285) (pc' := 289) rfl (hb hby at_285) (by decide) (by decide) k) ?_
  have RTR61 : CHr Z own_EL s.vm h0 T63.vm T59.heap := R61.trans (CHv.at X63 hZ hEL R61.1)
  have RXR61 : CHr Z own_EL s.vm s.heap T63.vm T63.heap := by rw [hh, e63]; exact RTR61
  refine own_retW (Q := Q_own_law Z p0 p1 p2 p3 q0 zc wE wT wS h0 n0) (C := room_1.cells) (N := room_1.slots) X63 hSn26 (by rw [e63]; omega) (v := some (.int (1 : Int32))) (fun h => by rw [Bd.returns] at h; cases h) Bd.notSynchronized ?_ RXR61 (by decide) (by decide) (fun fs hr => retN X63 hx (t := .boolean) Bd.returns (by simp) (hb hby at_289) hr)
  show Q_own_law Z p0 p1 p2 p3 q0 zc wE wT wS h0 n0 _ T63.vm T63.heap _
  rw [e63]
  exact ⟨rfl, N59⟩
set_option maxRecDepth 65536 in
set_option maxHeartbeats 40000000 in
theorem comes_1 {Post : Tables → Env → Array Value → State → Outcome → State → Prop} (hpost : ∀ tb e args s v u, (limb_1_1.after args s (.returned v) u = true ∧ limb_1_2.after args s (.returned v) u = true ∧ True) → ReturnedEndW s (.returned v) u (Jvm.fieldLocs frame_1_writes args s ++ Jvm.arrayLocs frame_1_arrays args s ++ Jvm.staticLocs frame_1_statics s) 24 1152 → Post tb e args s (.returned v) u) :
    ArmFor flags0 classFile x code maxLocals ret World_1 tables_1 room_1 Calls_1 rest_1 Pre_1 Post := by
  intro l hfl _ _ p e ha hc hk s m args below hf hA hF happ hP
  obtain ⟨hcalls, hrest, hpre⟩ := hP
  obtain ⟨-, -, -, hnamed, -, -, -, hat⟩ := (Spec.applies_iff hf).mp happ
  obtain ⟨hg, hn⟩ := and_e (Cond.before_iff.mp (show (Jvm.Cond.and given_1 narrow_1).before args s = true from hpre))
  obtain ⟨hcount, hg⟩ := and_e hg
  obtain ⟨hg0, hg⟩ := and_e hg
  obtain ⟨hg1, hg⟩ := and_e hg
  obtain ⟨hg2, hg⟩ := and_e hg
  obtain ⟨hg3, hg⟩ := and_e hg
  have hg4 := hg
  obtain ⟨w0, w1, w2, w3, w4, rfl⟩ : ∃ w0 w1 w2 w3 w4 : Value, args = #[w0, w1, w2, w3, w4] := by
    have hs : args.size = 5 := by simpa [Cond.value, given_1] using hcount
    obtain ⟨L⟩ := args
    match L, hs with
    | [w0, w1, w2, w3, w4], _ => exact ⟨w0, w1, w2, w3, w4, rfl⟩
  have hw := fun d (hd : d ∈ tables_1) => atoms_spec (ws := Jvm.Cond.code x code maxLocals ret :: tables_1) hat d (List.mem_cons_of_mem _ hd)
  have hfit : Fit s := fun {y c} hc i hi => by
    obtain ⟨ha, rfl⟩ := Array.getElem?_eq_some_iff.mp hc
    have q := List.all_eq_true.mp ((Array.all_eq_true_iff_forall_mem.mp hF) _ (Array.getElem_mem ha)) i (List.mem_range.mpr hi)
    simpa [Array.getElem?_eq_getElem hi] using q
  obtain ⟨hsets, hown0⟩ := atoms_of _ (rest_1_c_eq ▸ (show rest_1_c.before _ s = true from hrest))
  have hr0 := Cond.before_iff.mp hown0
  obtain ⟨i0, ei0⟩ := is_v hg0
  obtain rfl : w0 = (.int i0) := Option.some.inj ei0
  obtain ⟨i1, ei1⟩ := is_v hg1
  obtain rfl : w1 = (.int i1) := Option.some.inj ei1
  obtain ⟨i2, ei2⟩ := is_v hg2
  obtain rfl : w2 = (.int i2) := Option.some.inj ei2
  obtain ⟨i3, ei3⟩ := is_v hg3
  obtain rfl : w3 = (.int i3) := Option.some.inj ei3
  obtain ⟨i4, ei4⟩ := isL_v hg4
  obtain rfl : w4 = (.long i4) := Option.some.inj ei4
  obtain ⟨n0, hn⟩ := and_e hn
  obtain ⟨n1, hn⟩ := and_e hn
  obtain ⟨n2, hn⟩ := and_e hn
  obtain ⟨n3, hn⟩ := and_e hn
  obtain ⟨n4, hn⟩ := and_e hn
  have n5 := hn
  obtain ⟨wS, e_wS⟩ := exa_v n0
  have E_wS := Exa.start e_wS n0
  have S_wS := Sta.start e_wS (Or.inr ⟨(wd1 hw), (wd2 hw)⟩)
  obtain ⟨wT, e_wT⟩ := exa_v n1
  have E_wT := Exa.start e_wT n1
  have S_wT := Sta.start e_wT (Or.inr ⟨(wd1 hw), (wd75 hw)⟩)
  obtain ⟨wE, e_wE⟩ := exa_v n4
  have E_wE := Exa.start e_wE n4
  have S_wE := Sta.start e_wE (Or.inr ⟨(wd1 hw), (wd77 hw)⟩)
  have o_wT := own_ord e_wT n2
  have o_wS := own_ord e_wS n3
  have o_wE := own_ord e_wE n5
  have ne_wT_wS : ¬ (wT = wS) := fun q => by rw [q, o_wS] at o_wT; simp at o_wT
  have ne_wT_wE : ¬ (wT = wE) := fun q => by rw [q, o_wE] at o_wT; simp at o_wT
  have ne_wS_wE : ¬ (wS = wE) := fun q => by rw [q, o_wE] at o_wS; simp at o_wS
  obtain ⟨zc, ez⟩ := is_v (Cond.before_iff.mp (hsets _ (List.mem_of_getElem? (i := 1) rfl)))
  have S_zc : Sta s s.heap "java/lang/String" "COMPACT_STRINGS" "Z" (.int zc) := Sta.start ez (Or.inl (hsets _ (List.mem_of_getElem? (i := 0) rfl)))
  have hzc : ¬ (zc = (0 : Int32)) := gotF (Cond.eq_ints ez (Term.int_eval (0))) (not_v (Cond.before_iff.mp (hsets _ (List.mem_of_getElem? (i := 2) rfl))))
  have hEL := own_EW hw
  have hCH : CHv s own_EL s.vm s.heap := CHv.start hEL hcalls.1 (hsets _ (List.mem_of_getElem? (i := 2) rfl)) (wd26 hw) (wd8 hw)
  obtain ⟨n, o, h1, h2, h3, _, L, rfl, ⟨rfl, N⟩, -, hq⟩ := own_law l s _ hw tables_1 i0 i1 i2 i3 i4 zc wE wT wS s.heap s.heap.size (Old.start s) S_zc S_wE S_wT S_wS hzc (fun q => ne_wS_wE q.symm) ne_wT_wS p e ha hc hk s m _ below hf ((Spec.applies_iff_loose hf).mp happ).1 ⟨rfl, State.Warmed39.refl s, rfl, hCH, fun _ q => nomatch q⟩ trivial
  refine ⟨n, _, h1, h2, h3, hpost _ _ _ _ _ _ ⟨Cond.after_iff.mpr rfl, Cond.after_iff.mpr (eq_i res_at (Term.int_eval (1)) rfl), trivial⟩ ⟨hq.1, hq.2.1, hq.2.2.1, (hq.2.2.2.sift fun y hy => Or.inr (N y hy)).mono (by decide) (by decide)⟩⟩
theorem main_1_1 : Claimed_1_1 := comes_1 fun _ _ _ _ _ _ h hF => ⟨h.1, hF⟩
theorem main_1_2 : Claimed_1_2 := comes_1 fun _ _ _ _ _ _ h hF => ⟨h.2.1, hF⟩
end Jvm.Pilot.@@N@@
namespace Jvm.Pilot.@@N@@
open Jvm Jvm.ClassFile Sem Op Lib Jvm.Free Jvm.Stand Jvm.Pilot.@@N@@.Jvm.D
/-! MADE BY PROGRAM (witnessworld.py) out of the Statement's table words and the real class files: 23 classes; the members and pool entries that the words name. The judged class is class 1, her method 2. -/
namespace start1
open Jvm.ClassFile
def u (s : String) : CpInfo := .utf8 (stringToUtf16 s)
/-- a pool by its gaps: so many unusable entries, then the entry; so many at the end -/
def gap : Nat → List CpInfo → List CpInfo
  | 0, r => r
  | n + 1, r => .unusable :: gap n r
def poolList (es : List (Nat × CpInfo)) (last : Nat) : List CpInfo := es.foldr (fun e r => gap e.1 (e.2 :: r)) (gap last [])
def pool (es : List (Nat × CpInfo)) (last : Nat) : Array CpInfo := ⟨poolList es last⟩
def fileOf (pool : Array CpInfo) (this : Nat) (attrs : Array Attribute := #[]) (ms : Array MethodInfo := #[]) (fl : Nat := 33) (sup : Nat := 0) (ifs : Array Nat := #[]) (fds : Array FieldInfo := #[]) : ClassFile where
  minorVersion := 0
  majorVersion := 65
  constantPool := pool
  accessFlags := fl
  thisClass := this
  superClass := sup
  interfaces := ifs
  fields := fds
  methods := ms
  attributes := attrs
def plain (name : String) (sup : Option ClassId) : Class where
  name := name
  kind := .ordinary
  loader := none
  accessFlags := 33
  super := sup
  interfaces := #[]
  cf := none
  fields := #[]
  methods := #[]
  instanceTypes := #[]
  staticTypes := #[]
  resolved := #[]
  callSites := []
  init := .initialized
  statics := none
  mirror := none

def pool0 : Array CpInfo := pool [(5, u "<init>"), (0, u "()V"), (1, .class_ 10), (1, u "java/lang/Object")] 113

def k0c0 : Code := { maxStack := 0, maxLocals := 1, code := object_method_1_code, exceptionTable := #[], attributes := #[] }
def k0m0 : Method := { name := "<init>", desc := "()V", sig := { parameters := [], returnType := none }, accessFlags := 1, code := some k0c0 }
/-- java/lang/Object -/
def k0 : Class := { plain "java/lang/Object" none with
  accessFlags := 33
  interfaces := #[]
  cf := some (fileOf pool0 8 #[] #[{ accessFlags := 1, nameIndex := 5, descriptorIndex := 6, attributes := #[] }] 33 0 #[] #[])
  fields := #[]
  methods := #[k0m0]
  instanceTypes := #[]
  staticTypes := #[]
  resolved := Array.replicate 124 none
  statics := none }

def pool1 : Array CpInfo := pool [(2, .class_ 4), (1, u "java/lang/Object"), (0, u "<init>"), (0, u "()V"), (0, .class_ 8), (0, u "java/lang/String"), (0, .methodref 7 10), (0, .nameAndType 5 11), (0, u "([C)V"), (0, .fieldref 13 14), (0, .class_ 15), (0, .nameAndType 16 17), (0, u "com/example/coruna/coruna/io/Markup$Kind"), (0, u "END_TAG"), (0, u "Lcom/example/coruna/coruna/io/Markup$Kind;"), (0, .fieldref 13 19), (0, .nameAndType 20 17), (0, u "TEXT"), (0, .fieldref 13 22), (0, .nameAndType 23 17), (0, u "START_TAG"), (0, .methodref 25 26), (0, .class_ 27), (0, .nameAndType 28 29), (0, u "com/example/coruna/coruna/io/MarkupIsStartTagPinLaw"), (0, u "mk"), (0, u "(ICCC)Ljava/lang/String;"), (0, .class_ 31), (0, u "com/example/coruna/coruna/io/Markup"), (0, .methodref 30 33), (0, .nameAndType 5 34), (0, u "(Lcom/example/coruna/coruna/io/Markup$Kind;Ljava/lang/String;J)V"), (0, .methodref 30 36), (0, .nameAndType 37 38), (0, u "isStartTag"), (0, u "(Ljava/lang/String;)Z"), (3, u "law"), (0, u "(IIIIJ)Z")] 4

def k1m0 : Method := { name := "<init>", desc := "()V", sig := { parameters := [], returnType := none }, accessFlags := 1, code := none }
def k1c1 : Code := { maxStack := 6, maxLocals := 4, code := method_2_code, exceptionTable := #[], attributes := #[] }
def k1m1 : Method := { name := "mk", desc := "(ICCC)Ljava/lang/String;", sig := { parameters := [.int, .char, .char, .char], returnType := some (.object "java/lang/String") }, accessFlags := 10, code := some k1c1 }
def k1c2 : Code := { maxStack := 6, maxLocals := 22, code := code, exceptionTable := #[], attributes := #[] }
def k1m2 : Method := { name := "law", desc := "(IIIIJ)Z", sig := { parameters := [.int, .int, .int, .int, .long], returnType := some .boolean }, accessFlags := 9, code := some k1c2 }
/-- com/example/coruna/coruna/io/MarkupIsStartTagPinLaw -/
def k1 : Class := { plain "com/example/coruna/coruna/io/MarkupIsStartTagPinLaw" (some 0) with
  accessFlags := 49
  interfaces := #[]
  cf := some (fileOf pool1 25 #[] #[{ accessFlags := 1, nameIndex := 5, descriptorIndex := 6, attributes := #[] }, { accessFlags := 10, nameIndex := 28, descriptorIndex := 29, attributes := #[] }, { accessFlags := 9, nameIndex := 42, descriptorIndex := 43, attributes := #[] }] 49 2 #[] #[])
  fields := #[]
  methods := #[k1m0, k1m1, k1m2]
  instanceTypes := #[]
  staticTypes := #[]
  resolved := Array.replicate 48 none
  statics := none }

def pool2 : Array CpInfo := pool [(1, .class_ 2), (0, u "java/lang/constant/Constable"), (0, .class_ 4), (0, u "java/lang/Object")] 6

/-- java/lang/constant/Constable -/
def k2 : Class := { plain "java/lang/constant/Constable" (some 0) with
  accessFlags := 1537
  interfaces := #[]
  cf := some (fileOf pool2 1 #[] #[] 1537 3 #[] #[])
  fields := #[]
  methods := #[]
  instanceTypes := #[]
  staticTypes := #[]
  resolved := Array.replicate 11 none
  statics := none }

def pool3 : Array CpInfo := pool [(1, .class_ 2), (0, u "java/lang/Comparable"), (0, .class_ 4), (0, u "java/lang/Object")] 7

/-- java/lang/Comparable -/
def k3 : Class := { plain "java/lang/Comparable" (some 0) with
  accessFlags := 1537
  interfaces := #[]
  cf := some (fileOf pool3 1 #[] #[] 1537 3 #[] #[])
  fields := #[]
  methods := #[]
  instanceTypes := #[]
  staticTypes := #[]
  resolved := Array.replicate 12 none
  statics := none }

def pool4 : Array CpInfo := pool [(1, .class_ 2), (0, u "java/io/Serializable"), (0, .class_ 4), (0, u "java/lang/Object")] 2

/-- java/io/Serializable -/
def k4 : Class := { plain "java/io/Serializable" (some 0) with
  accessFlags := 1537
  interfaces := #[]
  cf := some (fileOf pool4 1 #[] #[] 1537 3 #[] #[])
  fields := #[]
  methods := #[]
  instanceTypes := #[]
  staticTypes := #[]
  resolved := Array.replicate 7 none
  statics := none }

def pool5 : Array CpInfo := pool [(2, .class_ 4), (1, u "java/lang/Enum"), (0, u "name"), (0, u "Ljava/lang/String;"), (2, u "ordinal"), (0, u "I"), (1, .class_ 14), (1, u "java/lang/Object"), (4, u "hash"), (86, .class_ 108), (1, u "java/lang/Enum$EnumDesc"), (2, .class_ 112), (0, u "java/lang/constant/Constable"), (0, .class_ 114), (0, u "java/lang/Comparable"), (0, .class_ 116), (0, u "java/io/Serializable")] 87

/-- java/lang/Enum -/
def k5 : Class := { plain "java/lang/Enum" (some 0) with
  accessFlags := 1057
  interfaces := #[2, 3, 4]
  cf := some (fileOf pool5 2 #[.nestMembers #[106]] #[] 1057 12 #[111, 113, 115] #[{ accessFlags := 18, nameIndex := 5, descriptorIndex := 6, attributes := #[] }, { accessFlags := 18, nameIndex := 9, descriptorIndex := 10, attributes := #[] }, { accessFlags := 2, nameIndex := 19, descriptorIndex := 10, attributes := #[] }])
  fields := #[{ name := "name", type := (.object "java/lang/String"), accessFlags := 18, slot := 0, constantValue := 0 }, { name := "ordinal", type := .int, accessFlags := 18, slot := 1, constantValue := 0 }, { name := "hash", type := .int, accessFlags := 2, slot := 2, constantValue := 0 }]
  methods := #[]
  instanceTypes := #[(.object "java/lang/String"), .int, .int]
  staticTypes := #[]
  resolved := Array.replicate 204 none
  statics := none }

def pool6 : Array CpInfo := pool [(1, .class_ 2), (0, u "com/example/coruna/coruna/io/Markup$Kind"), (2, u "START_TAG"), (0, u "Lcom/example/coruna/coruna/io/Markup$Kind;"), (2, u "END_TAG"), (2, u "TEXT"), (2, u "$VALUES"), (0, u "[Lcom/example/coruna/coruna/io/Markup$Kind;"), (6, .class_ 25), (1, u "java/lang/Enum"), (26, .class_ 53), (0, u "com/example/coruna/coruna/io/Markup")] 2

/-- com/example/coruna/coruna/io/Markup$Kind -/
def k6 : Class := { plain "com/example/coruna/coruna/io/Markup$Kind" (some 5) with
  accessFlags := 16433
  interfaces := #[]
  cf := some (fileOf pool6 1 #[.nestHost 52] #[] 16433 23 #[] #[{ accessFlags := 16409, nameIndex := 5, descriptorIndex := 6, attributes := #[] }, { accessFlags := 16409, nameIndex := 9, descriptorIndex := 6, attributes := #[] }, { accessFlags := 16409, nameIndex := 12, descriptorIndex := 6, attributes := #[] }, { accessFlags := 4122, nameIndex := 15, descriptorIndex := 16, attributes := #[] }])
  fields := #[{ name := "START_TAG", type := (.object "com/example/coruna/coruna/io/Markup$Kind"), accessFlags := 16409, slot := 0, constantValue := 0 }, { name := "END_TAG", type := (.object "com/example/coruna/coruna/io/Markup$Kind"), accessFlags := 16409, slot := 1, constantValue := 0 }, { name := "TEXT", type := (.object "com/example/coruna/coruna/io/Markup$Kind"), accessFlags := 16409, slot := 2, constantValue := 0 }, { name := "$VALUES", type := (.array (.object "com/example/coruna/coruna/io/Markup$Kind")), accessFlags := 4122, slot := 3, constantValue := 0 }]
  methods := #[]
  instanceTypes := #[(.object "java/lang/String"), .int, .int]
  staticTypes := #[(.object "com/example/coruna/coruna/io/Markup$Kind"), (.object "com/example/coruna/coruna/io/Markup$Kind"), (.object "com/example/coruna/coruna/io/Markup$Kind"), (.array (.object "com/example/coruna/coruna/io/Markup$Kind"))]
  resolved := Array.replicate 56 none
  statics := some 0 }

def pool7 : Array CpInfo := pool [(2, .class_ 4), (1, u "java/lang/CharSequence"), (42, .class_ 48), (0, u "java/lang/CharSequence$1CodePointIterator"), (10, .class_ 60), (0, u "java/lang/CharSequence$1CharIterator"), (5, .class_ 67), (0, u "java/lang/Object")] 63

/-- java/lang/CharSequence -/
def k7 : Class := { plain "java/lang/CharSequence" (some 0) with
  accessFlags := 1537
  interfaces := #[]
  cf := some (fileOf pool7 2 #[.nestMembers #[47, 59]] #[] 1537 66 #[] #[])
  fields := #[]
  methods := #[]
  instanceTypes := #[]
  staticTypes := #[]
  resolved := Array.replicate 131 none
  statics := none }

def pool8 : Array CpInfo := pool [(1, .class_ 2), (0, u "java/lang/constant/ConstantDesc"), (0, .class_ 4), (0, u "java/lang/Object")] 32

/-- java/lang/constant/ConstantDesc -/
def k8 : Class := { plain "java/lang/constant/ConstantDesc" (some 0) with
  accessFlags := 1537
  interfaces := #[]
  cf := some (fileOf pool8 1 #[] #[] 1537 3 #[] #[])
  fields := #[]
  methods := #[]
  instanceTypes := #[]
  staticTypes := #[]
  resolved := Array.replicate 37 none
  statics := none }

def pool9 : Array CpInfo := pool [(1, .methodref 2 3), (0, .class_ 4), (0, .nameAndType 5 6), (0, u "java/lang/Object"), (0, u "<init>"), (0, u "()V"), (0, .string 8), (0, u ""), (0, .fieldref 10 11), (0, .class_ 12), (0, .nameAndType 13 14), (0, u "java/lang/String"), (0, u "value"), (0, u "[B"), (0, .fieldref 10 16), (0, .nameAndType 17 18), (0, u "coder"), (0, u "B"), (2, u "hash"), (0, u "I"), (2, u "hashIsZero"), (0, u "Z"), (0, .methodref 10 28), (0, .nameAndType 5 29), (0, u "([CIILjava/lang/Void;)V"), (8, .fieldref 10 39), (0, .nameAndType 40 26), (0, u "COMPACT_STRINGS"), (1, .class_ 44), (1, u "java/lang/StringUTF16"), (0, u "compress"), (1, .methodref 42 48), (0, .nameAndType 49 50), (0, u "coderFromArrayLen"), (0, u "([BI)B"), (56, .class_ 109), (1, u "java/lang/StringLatin1"), (67, .methodref 42 178), (0, .nameAndType 45 179), (0, u "([CII)[B"), (361, .methodref 107 542), (0, .nameAndType 543 544), (0, u "equals"), (0, u "([B[B)Z"), (28, u "(Ljava/lang/Object;)Z"), (1, .class_ 576), (0, u "java/lang/CharSequence"), (22, u "CASE_INSENSITIVE_ORDER"), (0, u "Ljava/util/Comparator;"), (409, u "([C)V"), (90, u "serialPersistentFields"), (0, u "[Ljava/io/ObjectStreamField;"), (0, .class_ 1104), (0, u "java/lang/String$CaseInsensitiveComparator"), (1, .class_ 1107), (0, u "java/io/Serializable"), (0, .class_ 1109), (0, u "java/lang/Comparable"), (0, .class_ 1111), (0, u "java/lang/constant/Constable"), (0, .class_ 1113), (0, u "java/lang/constant/ConstantDesc"), (2, u "serialVersionUID"), (0, u "J"), (3, u "REPL"), (0, u "C"), (2, u "LATIN1"), (1, u "UTF16")] 323

def k9m0 : Method := { name := "<init>", desc := "()V", sig := { parameters := [], returnType := none }, accessFlags := 1, code := none }
def k9c1 : Code := { maxStack := 5, maxLocals := 2, code := jdk_42_method_3_code, exceptionTable := #[], attributes := #[] }
def k9m1 : Method := { name := "<init>", desc := "([C)V", sig := { parameters := [(.array .char)], returnType := none }, accessFlags := 1, code := some k9c1 }
def k9c2 : Code := { maxStack := 2, maxLocals := 3, code := jdk_42_method_66_code, exceptionTable := #[], attributes := #[] }
def k9m2 : Method := { name := "equals", desc := "(Ljava/lang/Object;)Z", sig := { parameters := [(.object "java/lang/Object")], returnType := some .boolean }, accessFlags := 1, code := some k9c2 }
def k9c3 : Code := { maxStack := 4, maxLocals := 6, code := jdk_42_method_149_code, exceptionTable := #[], attributes := #[] }
def k9m3 : Method := { name := "<init>", desc := "([CIILjava/lang/Void;)V", sig := { parameters := [(.array .char), .int, .int, (.object "java/lang/Void")], returnType := none }, accessFlags := 2, code := some k9c3 }
/-- java/lang/String -/
def k9 : Class := { plain "java/lang/String" (some 0) with
  accessFlags := 49
  interfaces := #[4, 3, 7, 2, 8]
  cf := some (fileOf pool9 10 #[.nestMembers #[1103]] #[{ accessFlags := 1, nameIndex := 5, descriptorIndex := 6, attributes := #[] }, { accessFlags := 1, nameIndex := 5, descriptorIndex := 1010, attributes := #[] }, { accessFlags := 1, nameIndex := 543, descriptorIndex := 573, attributes := #[] }, { accessFlags := 2, nameIndex := 5, descriptorIndex := 29, attributes := #[] }] 49 2 #[1106, 1108, 575, 1110, 1112] #[{ accessFlags := 18, nameIndex := 13, descriptorIndex := 14, attributes := #[] }, { accessFlags := 18, nameIndex := 17, descriptorIndex := 18, attributes := #[] }, { accessFlags := 2, nameIndex := 21, descriptorIndex := 22, attributes := #[] }, { accessFlags := 2, nameIndex := 25, descriptorIndex := 26, attributes := #[] }, { accessFlags := 26, nameIndex := 1116, descriptorIndex := 1117, attributes := #[] }, { accessFlags := 24, nameIndex := 40, descriptorIndex := 26, attributes := #[] }, { accessFlags := 26, nameIndex := 1101, descriptorIndex := 1102, attributes := #[] }, { accessFlags := 26, nameIndex := 1121, descriptorIndex := 1122, attributes := #[] }, { accessFlags := 25, nameIndex := 599, descriptorIndex := 600, attributes := #[] }, { accessFlags := 24, nameIndex := 1125, descriptorIndex := 18, attributes := #[] }, { accessFlags := 24, nameIndex := 1127, descriptorIndex := 18, attributes := #[] }])
  fields := #[{ name := "value", type := (.array .byte), accessFlags := 18, slot := 0, constantValue := 0 }, { name := "coder", type := .byte, accessFlags := 18, slot := 1, constantValue := 0 }, { name := "hash", type := .int, accessFlags := 2, slot := 2, constantValue := 0 }, { name := "hashIsZero", type := .boolean, accessFlags := 2, slot := 3, constantValue := 0 }, { name := "serialVersionUID", type := .long, accessFlags := 26, slot := 0, constantValue := 0 }, { name := "COMPACT_STRINGS", type := .boolean, accessFlags := 24, slot := 1, constantValue := 0 }, { name := "serialPersistentFields", type := (.array (.object "java/io/ObjectStreamField")), accessFlags := 26, slot := 2, constantValue := 0 }, { name := "REPL", type := .char, accessFlags := 26, slot := 3, constantValue := 0 }, { name := "CASE_INSENSITIVE_ORDER", type := (.object "java/util/Comparator"), accessFlags := 25, slot := 4, constantValue := 0 }, { name := "LATIN1", type := .byte, accessFlags := 24, slot := 5, constantValue := 0 }, { name := "UTF16", type := .byte, accessFlags := 24, slot := 6, constantValue := 0 }]
  methods := #[k9m0, k9m1, k9m2, k9m3]
  instanceTypes := #[(.array .byte), .byte, .int, .boolean]
  staticTypes := #[.long, .boolean, (.array (.object "java/io/ObjectStreamField")), .char, (.object "java/util/Comparator"), .byte, .byte]
  resolved := Array.replicate 1451 none
  statics := some 1 }

def pool10 : Array CpInfo := pool [(6, .class_ 8), (1, u "java/lang/Object"), (0, u "<init>"), (0, u "()V"), (1, .class_ 14), (1, u "java/lang/StringUTF16"), (31, u "$assertionsDisabled"), (0, u "Z"), (13, u "HI_BYTE_SHIFT"), (0, u "I"), (2, u "LO_BYTE_SHIFT"), (49, .methodref 12 116), (0, .nameAndType 117 118), (0, u "compress"), (0, u "([CI[BII)I"), (3, u "([CII)[B"), (138, u "coderFromArrayLen"), (0, u "([BI)B"), (106, .class_ 371), (1, u "java/lang/StringUTF16$LinesSpliterator"), (58, u "MAX_LENGTH"), (196, .class_ 628), (0, u "java/lang/StringUTF16$CodePointsSpliterator"), (0, .class_ 630), (0, u "java/lang/StringUTF16$CharsSpliterator")] 4

def k10m0 : Method := { name := "<init>", desc := "()V", sig := { parameters := [], returnType := none }, accessFlags := 0, code := none }
def k10c1 : Code := { maxStack := 2, maxLocals := 2, code := jdk_52_method_15_code, exceptionTable := #[], attributes := #[] }
def k10m1 : Method := { name := "coderFromArrayLen", desc := "([BI)B", sig := { parameters := [(.array .byte), .int], returnType := some .byte }, accessFlags := 8, code := some k10c1 }
def k10c2 : Code := { maxStack := 5, maxLocals := 6, code := jdk_52_method_16_code, exceptionTable := #[], attributes := #[] }
def k10m2 : Method := { name := "compress", desc := "([CII)[B", sig := { parameters := [(.array .char), .int, .int], returnType := some (.array .byte) }, accessFlags := 9, code := some k10c2 }
def k10c3 : Code := { maxStack := 3, maxLocals := 7, code := jdk_52_method_21_code, exceptionTable := #[], attributes := #[] }
def k10m3 : Method := { name := "compress", desc := "([CI[BII)I", sig := { parameters := [(.array .char), .int, (.array .byte), .int, .int], returnType := some .int }, accessFlags := 9, code := some k10c3 }
/-- java/lang/StringUTF16 -/
def k10 : Class := { plain "java/lang/StringUTF16" (some 0) with
  accessFlags := 48
  interfaces := #[]
  cf := some (fileOf pool10 12 #[.nestMembers #[627, 629, 369]] #[{ accessFlags := 0, nameIndex := 9, descriptorIndex := 10, attributes := #[] }, { accessFlags := 8, nameIndex := 261, descriptorIndex := 262, attributes := #[] }, { accessFlags := 9, nameIndex := 117, descriptorIndex := 122, attributes := #[] }, { accessFlags := 9, nameIndex := 117, descriptorIndex := 118, attributes := #[] }] 48 6 #[] #[{ accessFlags := 26, nameIndex := 61, descriptorIndex := 62, attributes := #[] }, { accessFlags := 26, nameIndex := 65, descriptorIndex := 62, attributes := #[] }, { accessFlags := 24, nameIndex := 430, descriptorIndex := 62, attributes := #[] }, { accessFlags := 4120, nameIndex := 46, descriptorIndex := 47, attributes := #[] }])
  fields := #[{ name := "HI_BYTE_SHIFT", type := .int, accessFlags := 26, slot := 0, constantValue := 0 }, { name := "LO_BYTE_SHIFT", type := .int, accessFlags := 26, slot := 1, constantValue := 0 }, { name := "MAX_LENGTH", type := .int, accessFlags := 24, slot := 2, constantValue := 0 }, { name := "$assertionsDisabled", type := .boolean, accessFlags := 4120, slot := 3, constantValue := 0 }]
  methods := #[k10m0, k10m1, k10m2, k10m3]
  instanceTypes := #[]
  staticTypes := #[.int, .int, .int, .boolean]
  resolved := Array.replicate 635 none
  statics := none }

def pool11 : Array CpInfo := pool [(1, .methodref 2 3), (0, .class_ 4), (0, .nameAndType 5 6), (0, u "java/lang/Object"), (0, u "<init>"), (0, u "()V"), (0, .class_ 8), (0, u "java/lang/Record")] 13

def k11c0 : Code := { maxStack := 1, maxLocals := 1, code := jdk_30_method_1_code, exceptionTable := #[], attributes := #[] }
def k11m0 : Method := { name := "<init>", desc := "()V", sig := { parameters := [], returnType := none }, accessFlags := 4, code := some k11c0 }
/-- java/lang/Record -/
def k11 : Class := { plain "java/lang/Record" (some 0) with
  accessFlags := 1057
  interfaces := #[]
  cf := some (fileOf pool11 7 #[] #[{ accessFlags := 4, nameIndex := 5, descriptorIndex := 6, attributes := #[] }] 1057 2 #[] #[])
  fields := #[]
  methods := #[k11m0]
  instanceTypes := #[]
  staticTypes := #[]
  resolved := Array.replicate 22 none
  statics := none }

def pool12 : Array CpInfo := pool [(1, .methodref 2 3), (0, .class_ 4), (0, .nameAndType 5 6), (0, u "java/lang/Record"), (0, u "<init>"), (0, u "()V"), (0, .fieldref 8 9), (0, .class_ 10), (0, .nameAndType 11 12), (0, u "com/example/coruna/coruna/io/Markup"), (0, u "kind"), (0, u "Lcom/example/coruna/coruna/io/Markup$Kind;"), (0, .fieldref 8 14), (0, .nameAndType 15 16), (0, u "value"), (0, u "Ljava/lang/String;"), (0, .fieldref 8 18), (0, .nameAndType 19 20), (0, u "line"), (0, u "J"), (0, .fieldref 22 23), (0, .class_ 24), (0, .nameAndType 25 12), (0, u "com/example/coruna/coruna/io/Markup$Kind"), (0, u "START_TAG"), (0, .methodref 27 28), (0, .class_ 29), (0, .nameAndType 30 31), (0, u "java/lang/String"), (0, u "equals"), (0, u "(Ljava/lang/Object;)Z"), (30, u "(Lcom/example/coruna/coruna/io/Markup$Kind;Ljava/lang/String;J)V"), (3, u "isStartTag"), (0, u "(Ljava/lang/String;)Z")] 40

def k12c0 : Code := { maxStack := 3, maxLocals := 5, code := prog_18_method_1_code, exceptionTable := #[], attributes := #[] }
def k12m0 : Method := { name := "<init>", desc := "(Lcom/example/coruna/coruna/io/Markup$Kind;Ljava/lang/String;J)V", sig := { parameters := [(.object "com/example/coruna/coruna/io/Markup$Kind"), (.object "java/lang/String"), .long], returnType := none }, accessFlags := 1, code := some k12c0 }
def k12c1 : Code := { maxStack := 2, maxLocals := 2, code := prog_18_method_2_code, exceptionTable := #[], attributes := #[] }
def k12m1 : Method := { name := "isStartTag", desc := "(Ljava/lang/String;)Z", sig := { parameters := [(.object "java/lang/String")], returnType := some .boolean }, accessFlags := 1, code := some k12c1 }
/-- com/example/coruna/coruna/io/Markup -/
def k12 : Class := { plain "com/example/coruna/coruna/io/Markup" (some 11) with
  accessFlags := 49
  interfaces := #[]
  cf := some (fileOf pool12 8 #[.nestMembers #[22]] #[{ accessFlags := 1, nameIndex := 5, descriptorIndex := 62, attributes := #[] }, { accessFlags := 1, nameIndex := 66, descriptorIndex := 67, attributes := #[] }] 49 2 #[] #[{ accessFlags := 18, nameIndex := 11, descriptorIndex := 12, attributes := #[] }, { accessFlags := 18, nameIndex := 15, descriptorIndex := 16, attributes := #[] }, { accessFlags := 18, nameIndex := 19, descriptorIndex := 20, attributes := #[] }])
  fields := #[{ name := "kind", type := (.object "com/example/coruna/coruna/io/Markup$Kind"), accessFlags := 18, slot := 0, constantValue := 0 }, { name := "value", type := (.object "java/lang/String"), accessFlags := 18, slot := 1, constantValue := 0 }, { name := "line", type := .long, accessFlags := 18, slot := 2, constantValue := 0 }]
  methods := #[k12m0, k12m1]
  instanceTypes := #[(.object "com/example/coruna/coruna/io/Markup$Kind"), (.object "java/lang/String"), .long]
  staticTypes := #[]
  resolved := Array.replicate 108 none
  statics := none }

def pool13 : Array CpInfo := pool [(4, .class_ 6), (1, u "java/lang/Object"), (0, u "<init>"), (0, u "()V"), (5, .class_ 16), (1, u "java/lang/StringLatin1"), (104, u "$assertionsDisabled"), (0, u "Z"), (98, .class_ 223), (1, u "java/lang/StringLatin1$LinesSpliterator"), (57, u "equals"), (0, u "([B[B)Z"), (107, .class_ 391), (0, u "java/lang/StringLatin1$CharsSpliterator")] 3

def k13m0 : Method := { name := "<init>", desc := "()V", sig := { parameters := [], returnType := none }, accessFlags := 0, code := none }
def k13c1 : Code := { maxStack := 3, maxLocals := 3, code := jdk_43_method_13_code, exceptionTable := #[], attributes := #[] }
def k13m1 : Method := { name := "equals", desc := "([B[B)Z", sig := { parameters := [(.array .byte), (.array .byte)], returnType := some .boolean }, accessFlags := 9, code := some k13c1 }
/-- java/lang/StringLatin1 -/
def k13 : Class := { plain "java/lang/StringLatin1" (some 0) with
  accessFlags := 48
  interfaces := #[]
  cf := some (fileOf pool13 14 #[.nestMembers #[390, 221]] #[{ accessFlags := 0, nameIndex := 7, descriptorIndex := 8, attributes := #[] }, { accessFlags := 9, nameIndex := 281, descriptorIndex := 282, attributes := #[] }] 48 4 #[] #[{ accessFlags := 4120, nameIndex := 121, descriptorIndex := 122, attributes := #[] }])
  fields := #[{ name := "$assertionsDisabled", type := .boolean, accessFlags := 4120, slot := 0, constantValue := 0 }]
  methods := #[k13m0, k13m1]
  instanceTypes := #[]
  staticTypes := #[.boolean]
  resolved := Array.replicate 395 none
  statics := none }

def pool14 : Array CpInfo := pool [(2, .class_ 4), (1, u "java/lang/Object"), (0, u "<init>"), (0, u "()V"), (17, .class_ 26), (1, u "jdk/internal/util/Preconditions"), (28, .class_ 56), (0, u "jdk/internal/util/Preconditions$4"), (57, .class_ 115), (0, u "jdk/internal/util/Preconditions$1"), (7, u "SIOOBE_FORMATTER"), (0, u "Ljava/util/function/BiFunction;"), (0, .class_ 126), (0, u "jdk/internal/util/Preconditions$2"), (3, u "AIOOBE_FORMATTER"), (0, .class_ 132), (0, u "jdk/internal/util/Preconditions$3"), (3, u "IOOBE_FORMATTER")] 57

def k14m0 : Method := { name := "<init>", desc := "()V", sig := { parameters := [], returnType := none }, accessFlags := 1, code := none }
/-- jdk/internal/util/Preconditions -/
def k14 : Class := { plain "jdk/internal/util/Preconditions" (some 0) with
  accessFlags := 33
  interfaces := #[]
  cf := some (fileOf pool14 24 #[.nestMembers #[55, 131, 125, 114]] #[{ accessFlags := 1, nameIndex := 5, descriptorIndex := 6, attributes := #[] }] 33 2 #[] #[{ accessFlags := 25, nameIndex := 123, descriptorIndex := 124, attributes := #[] }, { accessFlags := 25, nameIndex := 130, descriptorIndex := 124, attributes := #[] }, { accessFlags := 25, nameIndex := 136, descriptorIndex := 124, attributes := #[] }])
  fields := #[{ name := "SIOOBE_FORMATTER", type := (.object "java/util/function/BiFunction"), accessFlags := 25, slot := 0, constantValue := 0 }, { name := "AIOOBE_FORMATTER", type := (.object "java/util/function/BiFunction"), accessFlags := 25, slot := 1, constantValue := 0 }, { name := "IOOBE_FORMATTER", type := (.object "java/util/function/BiFunction"), accessFlags := 25, slot := 2, constantValue := 0 }]
  methods := #[k14m0]
  instanceTypes := #[]
  staticTypes := #[(.object "java/util/function/BiFunction"), (.object "java/util/function/BiFunction"), (.object "java/util/function/BiFunction")]
  resolved := Array.replicate 194 none
  statics := some 2 }

def pool15 : Array CpInfo := pool [(9, u "<init>"), (6, .class_ 18), (1, u "java/lang/Object"), (0, u "()V"), (1, .class_ 23), (1, u "jdk/internal/util/ArraysSupport"), (0, u "LOG2_ARRAY_LONG_INDEX_SCALE"), (0, u "I"), (2, u "U"), (0, u "Ljdk/internal/misc/Unsafe;"), (8, u "BIG_ENDIAN"), (0, u "Z"), (8, u "LOG2_BYTE_BIT_SIZE"), (4, u "LOG2_ARRAY_INT_INDEX_SCALE"), (54, u "JLA"), (0, u "Ljdk/internal/access/JavaLangAccess;"), (11, u "LOG2_ARRAY_BOOLEAN_INDEX_SCALE"), (9, u "LOG2_ARRAY_BYTE_INDEX_SCALE"), (5, u "LOG2_ARRAY_CHAR_INDEX_SCALE"), (5, u "LOG2_ARRAY_SHORT_INDEX_SCALE"), (18, u "LOG2_ARRAY_FLOAT_INDEX_SCALE"), (24, u "LOG2_ARRAY_DOUBLE_INDEX_SCALE"), (89, u "T_BOOLEAN"), (2, u "T_CHAR"), (1, u "T_FLOAT"), (1, u "T_DOUBLE"), (1, u "T_BYTE"), (1, u "T_SHORT"), (1, u "T_INT"), (1, u "T_LONG"), (1, u "SOFT_MAX_ARRAY_LENGTH")] 83

def k15m0 : Method := { name := "<init>", desc := "()V", sig := { parameters := [], returnType := none }, accessFlags := 2, code := none }
/-- jdk/internal/util/ArraysSupport -/
def k15 : Class := { plain "jdk/internal/util/ArraysSupport" (some 0) with
  accessFlags := 33
  interfaces := #[]
  cf := some (fileOf pool15 21 #[] #[{ accessFlags := 2, nameIndex := 9, descriptorIndex := 19, attributes := #[] }] 33 16 #[] #[{ accessFlags := 24, nameIndex := 28, descriptorIndex := 29, attributes := #[] }, { accessFlags := 26, nameIndex := 38, descriptorIndex := 39, attributes := #[] }, { accessFlags := 25, nameIndex := 121, descriptorIndex := 25, attributes := #[] }, { accessFlags := 25, nameIndex := 131, descriptorIndex := 25, attributes := #[] }, { accessFlags := 25, nameIndex := 137, descriptorIndex := 25, attributes := #[] }, { accessFlags := 25, nameIndex := 143, descriptorIndex := 25, attributes := #[] }, { accessFlags := 25, nameIndex := 53, descriptorIndex := 25, attributes := #[] }, { accessFlags := 25, nameIndex := 24, descriptorIndex := 25, attributes := #[] }, { accessFlags := 25, nameIndex := 162, descriptorIndex := 25, attributes := #[] }, { accessFlags := 25, nameIndex := 187, descriptorIndex := 25, attributes := #[] }, { accessFlags := 26, nameIndex := 48, descriptorIndex := 25, attributes := #[] }, { accessFlags := 25, nameIndex := 277, descriptorIndex := 25, attributes := #[] }, { accessFlags := 25, nameIndex := 280, descriptorIndex := 25, attributes := #[] }, { accessFlags := 25, nameIndex := 282, descriptorIndex := 25, attributes := #[] }, { accessFlags := 25, nameIndex := 284, descriptorIndex := 25, attributes := #[] }, { accessFlags := 25, nameIndex := 286, descriptorIndex := 25, attributes := #[] }, { accessFlags := 25, nameIndex := 288, descriptorIndex := 25, attributes := #[] }, { accessFlags := 25, nameIndex := 290, descriptorIndex := 25, attributes := #[] }, { accessFlags := 25, nameIndex := 292, descriptorIndex := 25, attributes := #[] }, { accessFlags := 26, nameIndex := 108, descriptorIndex := 109, attributes := #[] }, { accessFlags := 25, nameIndex := 294, descriptorIndex := 25, attributes := #[] }])
  fields := #[{ name := "U", type := (.object "jdk/internal/misc/Unsafe"), accessFlags := 24, slot := 0, constantValue := 0 }, { name := "BIG_ENDIAN", type := .boolean, accessFlags := 26, slot := 1, constantValue := 0 }, { name := "LOG2_ARRAY_BOOLEAN_INDEX_SCALE", type := .int, accessFlags := 25, slot := 2, constantValue := 0 }, { name := "LOG2_ARRAY_BYTE_INDEX_SCALE", type := .int, accessFlags := 25, slot := 3, constantValue := 0 }, { name := "LOG2_ARRAY_CHAR_INDEX_SCALE", type := .int, accessFlags := 25, slot := 4, constantValue := 0 }, { name := "LOG2_ARRAY_SHORT_INDEX_SCALE", type := .int, accessFlags := 25, slot := 5, constantValue := 0 }, { name := "LOG2_ARRAY_INT_INDEX_SCALE", type := .int, accessFlags := 25, slot := 6, constantValue := 0 }, { name := "LOG2_ARRAY_LONG_INDEX_SCALE", type := .int, accessFlags := 25, slot := 7, constantValue := 0 }, { name := "LOG2_ARRAY_FLOAT_INDEX_SCALE", type := .int, accessFlags := 25, slot := 8, constantValue := 0 }, { name := "LOG2_ARRAY_DOUBLE_INDEX_SCALE", type := .int, accessFlags := 25, slot := 9, constantValue := 0 }, { name := "LOG2_BYTE_BIT_SIZE", type := .int, accessFlags := 26, slot := 10, constantValue := 0 }, { name := "T_BOOLEAN", type := .int, accessFlags := 25, slot := 11, constantValue := 0 }, { name := "T_CHAR", type := .int, accessFlags := 25, slot := 12, constantValue := 0 }, { name := "T_FLOAT", type := .int, accessFlags := 25, slot := 13, constantValue := 0 }, { name := "T_DOUBLE", type := .int, accessFlags := 25, slot := 14, constantValue := 0 }, { name := "T_BYTE", type := .int, accessFlags := 25, slot := 15, constantValue := 0 }, { name := "T_SHORT", type := .int, accessFlags := 25, slot := 16, constantValue := 0 }, { name := "T_INT", type := .int, accessFlags := 25, slot := 17, constantValue := 0 }, { name := "T_LONG", type := .int, accessFlags := 25, slot := 18, constantValue := 0 }, { name := "JLA", type := (.object "jdk/internal/access/JavaLangAccess"), accessFlags := 26, slot := 19, constantValue := 0 }, { name := "SOFT_MAX_ARRAY_LENGTH", type := .int, accessFlags := 25, slot := 20, constantValue := 0 }]
  methods := #[k15m0]
  instanceTypes := #[]
  staticTypes := #[(.object "jdk/internal/misc/Unsafe"), .boolean, .int, .int, .int, .int, .int, .int, .int, .int, .int, .int, .int, .int, .int, .int, .int, .int, .int, (.object "jdk/internal/access/JavaLangAccess"), .int]
  resolved := Array.replicate 378 none
  statics := none }

def pool16 : Array CpInfo := pool [(1, u "java/lang/Cloneable"), (0, .class_ 1), (0, u "java/lang/Object"), (0, .class_ 3)] 3

/-- java/lang/Cloneable -/
def k16 : Class := { plain "java/lang/Cloneable" (some 0) with
  accessFlags := 1537
  interfaces := #[]
  cf := some (fileOf pool16 2 #[] #[] 1537 4 #[] #[])
  fields := #[]
  methods := #[]
  instanceTypes := #[]
  staticTypes := #[]
  resolved := Array.replicate 8 none
  statics := none }

/-- the primitive byte -/
def k17 : Class := { plain "byte" none with kind := .primitive 'B', accessFlags := 0x411 }
/-- [B -/
def k18 : Class := { plain "[B" (some 0) with kind := .array 17 .byte, interfaces := #[16, 4], accessFlags := 1041 }

/-- the primitive char -/
def k19 : Class := { plain "char" none with kind := .primitive 'C', accessFlags := 0x411 }
/-- [C -/
def k20 : Class := { plain "[C" (some 0) with kind := .array 19 .char, interfaces := #[16, 4], accessFlags := 1041 }

/-- the primitive int -/
def k21 : Class := { plain "int" none with kind := .primitive 'I', accessFlags := 0x411 }
/-- [I -/
def k22 : Class := { plain "[I" (some 0) with kind := .array 21 .int, interfaces := #[16, 4], accessFlags := 1041 }

def heap : Heap := #[{ cls := 6, slots := #[.ref 3, .ref 5, .ref 4, .null], vm := .statics 6 },
  { cls := 9, slots := #[.long 0, .int 1, .null, .int 0, .null, .int 0, .int 0], vm := .statics 9 },
  { cls := 14, slots := #[.null, .null, .null], vm := .statics 14 },
  { cls := 6, slots := #[.null, .int 0, .int 0], vm := .none },
  { cls := 6, slots := #[.null, .int 2, .int 0], vm := .none },
  { cls := 6, slots := #[.null, .int 1, .int 0], vm := .none }]
def classes : Array Class := #[k0, k1, k2, k3, k4, k5, k6, k7, k8, k9, k10, k11, k12, k13, k14, k15, k16, k17, k18, k19, k20, k21, k22]
def interned : List (Array UInt16 × Addr) := []
def slotsUsed : Nat := 23
def theMethod : MethodId := ⟨1, 2⟩
def args0 : Array Value := #[.int 2, .int 3, .int 4, .int 5, .long 6]
def aboutOver (below : List Frame) : State where
  vm := { classes := classes, interned := interned.toArray }
  heap := heap
  slotsUsed := slotsUsed
  threads := #[{ frames := .invoking theMethod args0 :: below }]
def below0 : List Frame := [.native { method := ⟨0, 0⟩, args := #[] }]
def about1 : State := aboutOver below0
def p0 : Program := .bare "" "" ""
def e0 : Env := launch0.env 0 0 0
theorem w_frames : about1.frames = Frame.invoking theMethod args0 :: below0 := rfl
set_option maxRecDepth 65536 in
theorem w_args : argsFit about1.vm theMethod args0 = true := by decide +kernel
set_option maxRecDepth 65536 in
theorem w_heap : heapFits about1 = true := by decide +kernel
set_option maxRecDepth 65536 in
theorem w_runnable : about1.curStatus? = some .runnable := by decide +kernel
set_option maxRecDepth 65536 in
theorem w_alone : about1.alone = true := by decide +kernel
set_option maxRecDepth 65536 in
theorem w_named : about1.methodNamed? x = some theMethod := by decide +kernel
set_option maxRecDepth 65536 in
theorem w_hears : about1.hears theMethod below0 = true := by decide +kernel
set_option maxRecDepth 65536 in
theorem w_ripe : about1.ripe theMethod args0 below0 = true := by decide +kernel
theorem w_running : about1.status = .running := rfl
set_option maxRecDepth 65536 in
theorem w_room : about1.hasRoom e0.platform room_1 = true :=
  launch0.hasRoom_least _ room_1 (by decide +kernel) (by decide +kernel) (by decide +kernel) (by decide +kernel) (by decide +kernel) (by decide +kernel)
theorem allAtoms_all (ts : List Jvm.Cond) (a : Array Jvm.Value) (st : Jvm.State) : (allAtoms ts).before a st = ts.all (fun c => c.before a st) := by
  induction ts with
  | nil => rfl
  | cons c t ih =>
    show (Jvm.Cond.and c (allAtoms t)).before a st = _
    rw [Jvm.Cond.before_and, ih, List.all_cons]
def words1 : List Jvm.Cond := Jvm.Cond.code x code maxLocals ret :: tables_1
/-- a 'code' word, met by the world's own term for the bytes: nothing is compared byte by byte -/
theorem code_word {y : MethodName} {bytes : ByteArray} {mx : Nat} {rt : Option FieldType} {a : Array Value} {s : State} {m : MethodId} {meth : Method} {c : Code} (h1 : s.methodNamed? y = some m) (h2 : s.vm.method? m = some meth) (h3 : meth.code = some c) (h4 : c.code = bytes)
    (h5 : (c.maxLocals == mx && c.exceptionTable.isEmpty && decide (c.maxStack ≤ mostOperands) && decide (meth.sig.returnType = rt) && !meth.locks && decide (parseMethodDescriptor y.desc = some meth.sig)) = true) : (Jvm.Cond.code y bytes mx rt).before a s = true := by
  simp only [Bool.and_eq_true, beq_iff_eq, Bool.not_eq_true', decide_eq_true_eq] at h5
  obtain ⟨⟨⟨⟨⟨g1, g2⟩, g3⟩, g4⟩, g5⟩, g6⟩ := h5
  simp [Cond.before, Cond.holds, Cond.value, h1, h2, h3, h4, g1, g2, g3, g4, g5, g6]
def isCode : Jvm.Cond → Bool
  | .code _ _ _ _ => true
  | _ => false
theorem all_split {L : List Jvm.Cond} {P : Jvm.Cond → Bool} (h1 : L.all (fun c => isCode c || P c) = true) (h2 : ∀ c ∈ L.filter isCode, P c = true) : L.all P = true := by
  refine List.all_eq_true.mpr fun c hc => ?_
  have h := List.all_eq_true.mp h1 c hc
  rcases Bool.eq_false_or_eq_true (isCode c) with hi | hi
  · exact h2 c (List.mem_filter.mpr ⟨hc, hi⟩)
  · simpa [hi] using h
set_option maxRecDepth 65536 in
theorem w_c0 : (Jvm.Cond.code x code maxLocals ret).before args0 about1 = true := code_word (m := ⟨1, 2⟩) (meth := k1m2) (c := k1c2) (by decide +kernel) rfl rfl rfl (by decide +kernel)
set_option maxRecDepth 65536 in
theorem w_c1 : (Jvm.Cond.code ({ cls := "com/example/coruna/coruna/io/MarkupIsStartTagPinLaw", name := "mk", desc := "(ICCC)Ljava/lang/String;" } : Jvm.MethodName) method_2_code (4 : Nat) (Option.some (Jvm.ClassFile.FieldType.object "java/lang/String"))).before args0 about1 = true := code_word (m := ⟨1, 1⟩) (meth := k1m1) (c := k1c1) (by decide +kernel) rfl rfl rfl (by decide +kernel)
set_option maxRecDepth 65536 in
theorem w_c2 : (Jvm.Cond.code ({ cls := "java/lang/String", name := "<init>", desc := "([C)V" } : Jvm.MethodName) jdk_42_method_3_code (2 : Nat) (Option.none : Option Jvm.ClassFile.FieldType)).before args0 about1 = true := code_word (m := ⟨9, 1⟩) (meth := k9m1) (c := k9c1) (by decide +kernel) rfl rfl rfl (by decide +kernel)
set_option maxRecDepth 65536 in
theorem w_c3 : (Jvm.Cond.code ({ cls := "java/lang/String", name := "<init>", desc := "([CIILjava/lang/Void;)V" } : Jvm.MethodName) jdk_42_method_149_code (6 : Nat) (Option.none : Option Jvm.ClassFile.FieldType)).before args0 about1 = true := code_word (m := ⟨9, 3⟩) (meth := k9m3) (c := k9c3) (by decide +kernel) rfl rfl rfl (by decide +kernel)
set_option maxRecDepth 65536 in
theorem w_c4 : (Jvm.Cond.code ({ cls := "java/lang/Object", name := "<init>", desc := "()V" } : Jvm.MethodName) object_method_1_code (1 : Nat) (Option.none : Option Jvm.ClassFile.FieldType)).before args0 about1 = true := code_word (m := ⟨0, 0⟩) (meth := k0m0) (c := k0c0) (by decide +kernel) rfl rfl rfl (by decide +kernel)
set_option maxRecDepth 65536 in
theorem w_c5 : (Jvm.Cond.code ({ cls := "java/lang/StringUTF16", name := "compress", desc := "([CII)[B" } : Jvm.MethodName) jdk_52_method_16_code (6 : Nat) (Option.some (Jvm.ClassFile.FieldType.array Jvm.ClassFile.FieldType.byte))).before args0 about1 = true := code_word (m := ⟨10, 2⟩) (meth := k10m2) (c := k10c2) (by decide +kernel) rfl rfl rfl (by decide +kernel)
set_option maxRecDepth 65536 in
theorem w_c6 : (Jvm.Cond.code ({ cls := "java/lang/StringUTF16", name := "compress", desc := "([CI[BII)I" } : Jvm.MethodName) jdk_52_method_21_code (7 : Nat) (Option.some Jvm.ClassFile.FieldType.int)).before args0 about1 = true := code_word (m := ⟨10, 3⟩) (meth := k10m3) (c := k10c3) (by decide +kernel) rfl rfl rfl (by decide +kernel)
set_option maxRecDepth 65536 in
theorem w_c7 : (Jvm.Cond.code ({ cls := "java/lang/StringUTF16", name := "coderFromArrayLen", desc := "([BI)B" } : Jvm.MethodName) jdk_52_method_15_code (2 : Nat) (Option.some Jvm.ClassFile.FieldType.byte)).before args0 about1 = true := code_word (m := ⟨10, 1⟩) (meth := k10m1) (c := k10c1) (by decide +kernel) rfl rfl rfl (by decide +kernel)
set_option maxRecDepth 65536 in
theorem w_c8 : (Jvm.Cond.code ({ cls := "com/example/coruna/coruna/io/Markup", name := "<init>", desc := "(Lcom/example/coruna/coruna/io/Markup$Kind;Ljava/lang/String;J)V" } : Jvm.MethodName) prog_18_method_1_code (5 : Nat) (Option.none : Option Jvm.ClassFile.FieldType)).before args0 about1 = true := code_word (m := ⟨12, 0⟩) (meth := k12m0) (c := k12c0) (by decide +kernel) rfl rfl rfl (by decide +kernel)
set_option maxRecDepth 65536 in
theorem w_c9 : (Jvm.Cond.code ({ cls := "java/lang/Record", name := "<init>", desc := "()V" } : Jvm.MethodName) jdk_30_method_1_code (1 : Nat) (Option.none : Option Jvm.ClassFile.FieldType)).before args0 about1 = true := code_word (m := ⟨11, 0⟩) (meth := k11m0) (c := k11c0) (by decide +kernel) rfl rfl rfl (by decide +kernel)
set_option maxRecDepth 65536 in
theorem w_c10 : (Jvm.Cond.code ({ cls := "com/example/coruna/coruna/io/Markup", name := "isStartTag", desc := "(Ljava/lang/String;)Z" } : Jvm.MethodName) prog_18_method_2_code (2 : Nat) (Option.some Jvm.ClassFile.FieldType.boolean)).before args0 about1 = true := code_word (m := ⟨12, 1⟩) (meth := k12m1) (c := k12c1) (by decide +kernel) rfl rfl rfl (by decide +kernel)
set_option maxRecDepth 65536 in
theorem w_c11 : (Jvm.Cond.code ({ cls := "java/lang/String", name := "equals", desc := "(Ljava/lang/Object;)Z" } : Jvm.MethodName) jdk_42_method_66_code (3 : Nat) (Option.some Jvm.ClassFile.FieldType.boolean)).before args0 about1 = true := code_word (m := ⟨9, 2⟩) (meth := k9m2) (c := k9c2) (by decide +kernel) rfl rfl rfl (by decide +kernel)
set_option maxRecDepth 65536 in
theorem w_c12 : (Jvm.Cond.code ({ cls := "java/lang/StringLatin1", name := "equals", desc := "([B[B)Z" } : Jvm.MethodName) jdk_43_method_13_code (3 : Nat) (Option.some Jvm.ClassFile.FieldType.boolean)).before args0 about1 = true := code_word (m := ⟨13, 1⟩) (meth := k13m1) (c := k13c1) (by decide +kernel) rfl rfl rfl (by decide +kernel)
def codes1 : List Jvm.Cond := [Jvm.Cond.code x code maxLocals ret, Jvm.Cond.code ({ cls := "com/example/coruna/coruna/io/MarkupIsStartTagPinLaw", name := "mk", desc := "(ICCC)Ljava/lang/String;" } : Jvm.MethodName) method_2_code (4 : Nat) (Option.some (Jvm.ClassFile.FieldType.object "java/lang/String")), Jvm.Cond.code ({ cls := "java/lang/String", name := "<init>", desc := "([C)V" } : Jvm.MethodName) jdk_42_method_3_code (2 : Nat) (Option.none : Option Jvm.ClassFile.FieldType), Jvm.Cond.code ({ cls := "java/lang/String", name := "<init>", desc := "([CIILjava/lang/Void;)V" } : Jvm.MethodName) jdk_42_method_149_code (6 : Nat) (Option.none : Option Jvm.ClassFile.FieldType), Jvm.Cond.code ({ cls := "java/lang/Object", name := "<init>", desc := "()V" } : Jvm.MethodName) object_method_1_code (1 : Nat) (Option.none : Option Jvm.ClassFile.FieldType), Jvm.Cond.code ({ cls := "java/lang/StringUTF16", name := "compress", desc := "([CII)[B" } : Jvm.MethodName) jdk_52_method_16_code (6 : Nat) (Option.some (Jvm.ClassFile.FieldType.array Jvm.ClassFile.FieldType.byte)), Jvm.Cond.code ({ cls := "java/lang/StringUTF16", name := "compress", desc := "([CI[BII)I" } : Jvm.MethodName) jdk_52_method_21_code (7 : Nat) (Option.some Jvm.ClassFile.FieldType.int), Jvm.Cond.code ({ cls := "java/lang/StringUTF16", name := "coderFromArrayLen", desc := "([BI)B" } : Jvm.MethodName) jdk_52_method_15_code (2 : Nat) (Option.some Jvm.ClassFile.FieldType.byte), Jvm.Cond.code ({ cls := "com/example/coruna/coruna/io/Markup", name := "<init>", desc := "(Lcom/example/coruna/coruna/io/Markup$Kind;Ljava/lang/String;J)V" } : Jvm.MethodName) prog_18_method_1_code (5 : Nat) (Option.none : Option Jvm.ClassFile.FieldType), Jvm.Cond.code ({ cls := "java/lang/Record", name := "<init>", desc := "()V" } : Jvm.MethodName) jdk_30_method_1_code (1 : Nat) (Option.none : Option Jvm.ClassFile.FieldType), Jvm.Cond.code ({ cls := "com/example/coruna/coruna/io/Markup", name := "isStartTag", desc := "(Ljava/lang/String;)Z" } : Jvm.MethodName) prog_18_method_2_code (2 : Nat) (Option.some Jvm.ClassFile.FieldType.boolean), Jvm.Cond.code ({ cls := "java/lang/String", name := "equals", desc := "(Ljava/lang/Object;)Z" } : Jvm.MethodName) jdk_42_method_66_code (3 : Nat) (Option.some Jvm.ClassFile.FieldType.boolean), Jvm.Cond.code ({ cls := "java/lang/StringLatin1", name := "equals", desc := "([B[B)Z" } : Jvm.MethodName) jdk_43_method_13_code (3 : Nat) (Option.some Jvm.ClassFile.FieldType.boolean)]
set_option maxRecDepth 65536 in
theorem codes_eq : words1.filter isCode = codes1 := rfl
theorem w_codes : ∀ c ∈ words1.filter isCode, c.before args0 about1 = true := by
  rw [codes_eq]
  intro c hc
  simp only [codes1, List.mem_cons, List.not_mem_nil, or_false] at hc
  rcases hc with rfl | rfl | rfl | rfl | rfl | rfl | rfl | rfl | rfl | rfl | rfl | rfl | rfl
  · exact w_c0
  · exact w_c1
  · exact w_c2
  · exact w_c3
  · exact w_c4
  · exact w_c5
  · exact w_c6
  · exact w_c7
  · exact w_c8
  · exact w_c9
  · exact w_c10
  · exact w_c11
  · exact w_c12
set_option maxRecDepth 65536 in
theorem w_t1 : (words1.take 24).all (fun c => isCode c || c.before args0 about1) = true := by decide +kernel
set_option maxRecDepth 65536 in
theorem w_t2 : ((words1.drop 24).take 24).all (fun c => isCode c || c.before args0 about1) = true := by decide +kernel
set_option maxRecDepth 65536 in
theorem w_t3 : (((words1.drop 24).drop 24).take 24).all (fun c => isCode c || c.before args0 about1) = true := by decide +kernel
set_option maxRecDepth 65536 in
theorem w_t4 : (((words1.drop 24).drop 24).drop 24).all (fun c => isCode c || c.before args0 about1) = true := by decide +kernel
theorem w_tables : (allAtoms (Jvm.Cond.code x code maxLocals ret :: tables_1)).before args0 about1 = true := by
  rw [allAtoms_all]
  show words1.all (fun c => c.before args0 about1) = true
  refine all_split ?_ w_codes
  rw [← List.take_append_drop 24 words1, List.all_append, w_t1, ← List.take_append_drop 24 (words1.drop 24), List.all_append, w_t2, ← List.take_append_drop 24 ((words1.drop 24).drop 24), List.all_append, w_t3, w_t4]
  rfl
set_option maxRecDepth 65536 in
theorem w_rest : rest_1_c.before args0 about1 = true := by decide +kernel
set_option maxRecDepth 65536 in
theorem w_case : (Jvm.Cond.and given_1 narrow_1).before args0 about1 = true := by decide +kernel
set_option maxRecDepth 65536 in
theorem w_consts : constsHeld consts_1 about1 := Jvm.Lit.constsHeldB_iff.mp (by decide +kernel)
theorem w_applies : (headSpec (Jvm.Cond.code x code maxLocals ret :: tables_1) room_1).applies x e0.platform about1 = true :=
  (Spec.applies_iff w_frames).mpr ⟨w_running, w_runnable, w_alone, w_named, w_hears, w_ripe, w_room, w_tables⟩
theorem atStart : AtStart classFile x code maxLocals ret World_1 tables_1 room_1 Calls_1 rest_1 Pre_1 launch0 p0 e0 about1 theMethod args0 below0 :=
  ⟨lists_1, trivial, launch0.admits_env _ _ _, launch0.least_env, fairChoices_fair.cas, fairChoices_fair.clock, w_frames, w_args, w_heap, w_applies, ⟨w_consts, trivial⟩, w_rest, w_case⟩
end start1
theorem witness_1 : WitnessClaimed_1 := ⟨start1.p0, start1.e0, start1.about1, start1.theMethod, start1.args0, start1.below0, start1.atStart⟩
end Jvm.Pilot.@@N@@
