import JvmDerived
import JvmDerived.Pilot.@@N@@Statement
import JvmDerived.Pilot.@@N@@Code
set_option linter.unusedVariables false
set_option linter.unusedSimpArgs false
namespace Jvm.Pilot.@@N@@
open Jvm Jvm.ClassFile Sem Op Lib Jvm.Free Jvm.Stand Jvm.LawKit Jvm.RoadKit Bundle Jvm.Pilot.@@N@@.Jvm.D
def own_Done (p : Program) (e : Env) (below : List Frame) (P : Outcome → State → Prop) (S : State) : Prop := ∃ s₂ o, Steps p.tables e below S s₂ ∧ s₂.status = .running ∧ Ended s₂ below o ∧ P o s₂
section Own
variable {p : Program} {e : Env} {below : List Frame} {P : Outcome → State → Prop} {S S' : State}
theorem own_open (d : own_Done p e below P S) : ∃ s₂ o, Steps p.tables e below S s₂ ∧ s₂.status = .running ∧ Ended s₂ below o ∧ P o s₂ := d
theorem own_via (k : ∀ t, Steps p.tables e below S' t → Steps p.tables e below S t) (d : own_Done p e below P S') : own_Done p e below P S := by
  obtain ⟨s₂, o, h1, h2⟩ := d
  exact ⟨s₂, o, k _ h1, h2⟩
theorem own_tr (k : Steps p.tables e below S S') (d : own_Done p e below P S') : own_Done p e below P S := own_via (fun _ h => k.trans h) d
theorem own_ret {l : Launch} {R : Room} {s : State} {m : MethodId} {args : Array Value} {meth : Method} {c : Code} {T : State} {locs : List Loc} {cells slots : Nat} {Q : Option Value → Heap → List Loc → Prop} {C N : Nat} (X : Stand p l e R s m args below meth c T locs cells slots) {v : Option Value} (hv : meth.sig.returnType = none → v = none) (hlocks : meth.locks = false) (hq : Q v T.heap locs) (hc : cells ≤ C) (hs : slots ≤ N)
    (k : ∀ fs, (∀ (f : JFrame) (acts : List Action), f.method = m → f.locked = none → f.entered = [] → (doReturn e (T.setTop f) acts v).1 = T.setFrames fs) → Steps p.tables e below S (T.setFrames fs)) :
    own_Done p e below (fun o U' => ∃ v L, o = .returned v ∧ Q v U'.heap L ∧ FrameEnd s o U' L C N) S := by
  obtain ⟨fs, hr, hrun, hended, hW, hsame⟩ := X.leave hv hlocks
  exact ⟨_, _, k fs hr, hrun, hended, v, locs, rfl, hq, ⟨_, rfl⟩, hW, hsame.mono hc hs⟩
theorem own_nface {args : Array Value} {s : State} {C : String} {y z : MethodName} (hsel : (Cond.selects C y y).before args s = true) (e : z.cls = y.cls) : NotFace s z := fun r0 h0 => by
  obtain ⟨c2, r2, m2, q1, q2, q3, q4, kP, hkP, hkPi⟩ := Cond.selects_spec hsel
  have e1 := findClass_of_methodNamed h0
  have e2 := findClass_of_methodNamed q3
  rw [e] at e1
  have e3 : r0.cls = m2.cls := Option.some.inj (e1.symm.trans e2)
  exact ⟨kP, by rw [e3]; exact hkP, hkPi⟩
theorem own_sameM {args : Array Value} {s : State} {y : MethodName} (h1 : (Cond.instanceMethod y).before args s = true) (hnf : NotFace s y) (hy : y.cls ≠ "java/lang/invoke/MethodHandle" ∧ y.cls ≠ "java/lang/invoke/VarHandle") : (Cond.sameMethod y.cls y.cls y.name y.desc).before args s = true := by
  obtain ⟨mk, meth, hn, hm, -, -⟩ := Cond.instanceMethod_spec h1
  have e1 := findClass_of_methodNamed hn
  have e2 := State.methodFound?_of_named hn hy
  obtain ⟨k, hk, hi⟩ := hnf _ hn
  have e3 : s.methodNamed? ⟨y.cls, y.name, y.desc⟩ = some mk := hn
  simp [Cond.before, Cond.holds, Cond.value, e1, e2, e3, hk, hi]
theorem own_declares {args : Array Value} {s : State} {y : MethodName} {bytes : ByteArray} {maxL : Nat} {ret : Option FieldType} (h1 : (Cond.instanceMethod y).before args s = true) (h2 : (Cond.code y bytes maxL ret).before args s = true) : (Cond.declares y).before args s = true := by
  obtain ⟨mk, meth, hn, hm, hst, -⟩ := Cond.instanceMethod_spec h1
  obtain ⟨meth', c, hm', -, -, -, -, -, -, hsig⟩ := Cond.code_spec hn h2
  cases hm.symm.trans hm'
  simp [Cond.before, Cond.holds, Cond.value, hn, hm, hst, hsig]
theorem own_inst {Z : State} {h : Heap} {a : Addr} {C own K : String} {idx : Nat} {a0 : Array Value} {d : ClassId} (E : Exa Z h a C) (w : (Cond.classLink own idx K).before a0 Z = true) (hd : Z.vm.findClass own = some d) : Ins Z h a K true ∨ ∃ c t, Z.vm.findClass C = some c ∧ Z.vm.findClass K = some t ∧ Z.vm.assignable c t = false := by
  obtain ⟨cell, k, h1, h2, h3, h4, h5⟩ := E
  obtain ⟨cT, hT, -⟩ := Cond.classLink_spec hd w {} rfl
  cases hb : Z.vm.assignable cell.cls cT
  · exact Or.inr ⟨cell.cls, cT, h2, hT, hb⟩
  · exact Or.inl ⟨cell, cT, h1, hT, by simp [h4, hb]⟩
end Own
abbrev mt0 : MethodName := (⟨"java/lang/Record", "<init>", "()V"⟩ : MethodName)
theorem pn_java_lang_Record : plainName "java/lang/Record" = true := by first | (simp [plainName, overriddenIn]; done) | decide +kernel
theorem ef_own_rec (m : MethodId) (x0 : Addr) : entryFrame m #[(.ref x0)] 1 = mkF m 0 #[.val (.ref x0)] [] := by first | (simp [entryFrame, mkF, argsToLocals, Value.category]; done) | rfl
theorem d4_0 : decode jdk_30_method_1_code 0 = .ok (.aload_n 0, 1) := by decide +kernel
theorem d4_1 : decode jdk_30_method_1_code 1 = .ok (.invokespecial 1, 3) := by decide +kernel
theorem wd27 {Z : State} {a0 : Array Value} (hw : ∀ d ∈ tables_1, d.before a0 Z = true) : ((Jvm.Cond.methodLink "java/lang/Record" (1 : Nat) ({ cls := "java/lang/Object", name := "<init>", desc := "()V" } : Jvm.MethodName)) : Jvm.Cond).before a0 Z = true := hw _ (List.mem_of_getElem? (i := 27) rfl)
theorem wd28 {Z : State} {a0 : Array Value} (hw : ∀ d ∈ tables_1, d.before a0 Z = true) : ((Jvm.Cond.instanceMethod ({ cls := "java/lang/Object", name := "<init>", desc := "()V" } : Jvm.MethodName)) : Jvm.Cond).before a0 Z = true := hw _ (List.mem_of_getElem? (i := 28) rfl)
theorem wd29 {Z : State} {a0 : Array Value} (hw : ∀ d ∈ tables_1, d.before a0 Z = true) : ((Jvm.Cond.code ({ cls := "java/lang/Object", name := "<init>", desc := "()V" } : Jvm.MethodName) object_method_1_code (1 : Nat) (Option.none : Option Jvm.ClassFile.FieldType)) : Jvm.Cond).before a0 Z = true := hw _ (List.mem_of_getElem? (i := 29) rfl)
theorem d4_4 : decode jdk_30_method_1_code 4 = .ok (.return_, 1) := by decide +kernel
abbrev mt1 : MethodName := (⟨"java/util/List", "of", "()Ljava/util/List;"⟩ : MethodName)
theorem pn_java_util_List : plainName "java/util/List" = true := by first | (simp [plainName, overriddenIn]; done) | decide +kernel
theorem ef_own_listof (m : MethodId)  : entryFrame m #[] 0 = mkF m 0 #[] [] := by first | (simp [entryFrame, mkF, argsToLocals, Value.category]; done) | rfl
theorem d2_0 : decode jdk_40_method_36_code 0 = .ok (.getstatic 90, 3) := by decide +kernel
theorem wd17 {Z : State} {a0 : Array Value} (hw : ∀ d ∈ tables_1, d.before a0 Z = true) : ((Jvm.Cond.fieldLink "java/util/List" (90 : Nat) "java/util/ImmutableCollections" "EMPTY_LIST" "Ljava/util/ImmutableCollections$ListN;") : Jvm.Cond).before a0 Z = true := hw _ (List.mem_of_getElem? (i := 17) rfl)
theorem d2_3 : decode jdk_40_method_36_code 3 = .ok (.areturn, 1) := by decide +kernel
abbrev mt2 : MethodName := (⟨"java/util/ImmutableCollections", "listCopy", "(Ljava/util/Collection;)Ljava/util/List;"⟩ : MethodName)
theorem pn_java_util_ImmutableCollections : plainName "java/util/ImmutableCollections" = true := by first | (simp [plainName, overriddenIn]; done) | decide +kernel
theorem ef_own_listcopy (m : MethodId) (x0 : Addr) : entryFrame m #[(.ref x0)] 2 = mkF m 0 #[.val (.ref x0), .unset] [] := by first | (simp [entryFrame, mkF, argsToLocals, Value.category]; done) | rfl
theorem d7_0 : decode jdk_56_method_3_code 0 = .ok (.aload_n 0, 1) := by decide +kernel
theorem d7_1 : decode jdk_56_method_3_code 1 = .ok (.instanceof 10, 3) := by decide +kernel
theorem wd36 {Z : State} {a0 : Array Value} (hw : ∀ d ∈ tables_1, d.before a0 Z = true) : ((Jvm.Cond.classLink "java/util/ImmutableCollections" (10 : Nat) "java/util/ImmutableCollections$List12") : Jvm.Cond).before a0 Z = true := hw _ (List.mem_of_getElem? (i := 36) rfl)
theorem d7_4 : decode jdk_56_method_3_code 4 = .ok (.ifCond .ne 22, 3) := by decide +kernel
theorem d7_26 : decode jdk_56_method_3_code 26 = .ok (.aload_n 0, 1) := by decide +kernel
theorem d7_27 : decode jdk_56_method_3_code 27 = .ok (.checkcast 18, 3) := by decide +kernel
theorem wd46 {Z : State} {a0 : Array Value} (hw : ∀ d ∈ tables_1, d.before a0 Z = true) : ((Jvm.Cond.classLink "java/util/ImmutableCollections" (18 : Nat) "java/util/List") : Jvm.Cond).before a0 Z = true := hw _ (List.mem_of_getElem? (i := 46) rfl)
theorem wd47 {Z : State} {a0 : Array Value} (hw : ∀ d ∈ tables_1, d.before a0 Z = true) : ((Jvm.Cond.castable "java/util/ImmutableCollections$ListN" "java/util/List") : Jvm.Cond).before a0 Z = true := hw _ (List.mem_of_getElem? (i := 47) rfl)
theorem d7_30 : decode jdk_56_method_3_code 30 = .ok (.areturn, 1) := by decide +kernel
theorem d7_7 : decode jdk_56_method_3_code 7 = .ok (.aload_n 0, 1) := by decide +kernel
theorem d7_8 : decode jdk_56_method_3_code 8 = .ok (.instanceof 12, 3) := by decide +kernel
theorem wd42 {Z : State} {a0 : Array Value} (hw : ∀ d ∈ tables_1, d.before a0 Z = true) : ((Jvm.Cond.classLink "java/util/ImmutableCollections" (12 : Nat) "java/util/ImmutableCollections$ListN") : Jvm.Cond).before a0 Z = true := hw _ (List.mem_of_getElem? (i := 42) rfl)
theorem d7_11 : decode jdk_56_method_3_code 11 = .ok (.ifCond .eq 20, 3) := by decide +kernel
theorem d7_14 : decode jdk_56_method_3_code 14 = .ok (.aload_n 0, 1) := by decide +kernel
theorem d7_15 : decode jdk_56_method_3_code 15 = .ok (.checkcast 12, 3) := by decide +kernel
theorem d7_18 : decode jdk_56_method_3_code 18 = .ok (.astore_n 1, 1) := by decide +kernel
theorem d7_19 : decode jdk_56_method_3_code 19 = .ok (.aload_n 1, 1) := by decide +kernel
theorem d7_20 : decode jdk_56_method_3_code 20 = .ok (.getfield 14, 3) := by decide +kernel
theorem wd44 {Z : State} {a0 : Array Value} (hw : ∀ d ∈ tables_1, d.before a0 Z = true) : ((Jvm.Cond.fieldLinkNest "java/util/ImmutableCollections" (14 : Nat) "java/util/ImmutableCollections$ListN" "allowNulls" "Z" "java/util/ImmutableCollections") : Jvm.Cond).before a0 Z = true := hw _ (List.mem_of_getElem? (i := 44) rfl)
theorem d7_23 : decode jdk_56_method_3_code 23 = .ok (.ifCond .ne 8, 3) := by decide +kernel
abbrev mt3 : MethodName := (⟨"java/util/List", "copyOf", "(Ljava/util/Collection;)Ljava/util/List;"⟩ : MethodName)
theorem ef_own_copyof (m : MethodId) (x0 : Addr) : entryFrame m #[(.ref x0)] 1 = mkF m 0 #[.val (.ref x0)] [] := by first | (simp [entryFrame, mkF, argsToLocals, Value.category]; done) | rfl
theorem d6_0 : decode jdk_40_method_48_code 0 = .ok (.aload_n 0, 1) := by decide +kernel
theorem d6_1 : decode jdk_40_method_48_code 1 = .ok (.invokestatic 112, 3) := by decide +kernel
theorem wd33 {Z : State} {a0 : Array Value} (hw : ∀ d ∈ tables_1, d.before a0 Z = true) : ((Jvm.Cond.methodLink "java/util/List" (112 : Nat) ({ cls := "java/util/ImmutableCollections", name := "listCopy", desc := "(Ljava/util/Collection;)Ljava/util/List;" } : Jvm.MethodName)) : Jvm.Cond).before a0 Z = true := hw _ (List.mem_of_getElem? (i := 33) rfl)
theorem wd35 {Z : State} {a0 : Array Value} (hw : ∀ d ∈ tables_1, d.before a0 Z = true) : ((Jvm.Cond.code ({ cls := "java/util/ImmutableCollections", name := "listCopy", desc := "(Ljava/util/Collection;)Ljava/util/List;" } : Jvm.MethodName) jdk_56_method_3_code (2 : Nat) (Option.some (Jvm.ClassFile.FieldType.object "java/util/List"))) : Jvm.Cond).before a0 Z = true := hw _ (List.mem_of_getElem? (i := 35) rfl)
theorem wd18 {Z : State} {a0 : Array Value} (hw : ∀ d ∈ tables_1, d.before a0 Z = true) : ((Jvm.Cond.initialized "java/util/ImmutableCollections") : Jvm.Cond).before a0 Z = true := hw _ (List.mem_of_getElem? (i := 18) rfl)
theorem pd__Ljava_util_Collection__Ljava_util_List__3715 : parseMethodDescriptor "(Ljava/util/Collection;)Ljava/util/List;" = some ⟨[(.object "java/util/Collection")], some (.object "java/util/List")⟩ := by decide +kernel
theorem wd34 {Z : State} {a0 : Array Value} (hw : ∀ d ∈ tables_1, d.before a0 Z = true) : ((Jvm.Cond.static ({ cls := "java/util/ImmutableCollections", name := "listCopy", desc := "(Ljava/util/Collection;)Ljava/util/List;" } : Jvm.MethodName)) : Jvm.Cond).before a0 Z = true := hw _ (List.mem_of_getElem? (i := 34) rfl)
theorem d6_4 : decode jdk_40_method_48_code 4 = .ok (.areturn, 1) := by decide +kernel
abbrev mt4 : MethodName := (⟨"org/veilroute/service/Tunnel", "<init>", "(Lorg/veilroute/service/TunnelBuilder$Direction;Ljava/util/List;I)V"⟩ : MethodName)
theorem pn_org_veilroute_service_Tunnel : plainName "org/veilroute/service/Tunnel" = true := by first | (simp [plainName, overriddenIn]; done) | decide +kernel
theorem ef_own_tuinit (m : MethodId) (x0 : Addr) (x1 : Addr) (x2 : Addr) (x3 : Int32) : entryFrame m #[(.ref x0), (.ref x1), (.ref x2), (.int x3)] 4 = mkF m 0 #[.val (.ref x0), .val (.ref x1), .val (.ref x2), .val (.int x3)] [] := by first | (simp [entryFrame, mkF, argsToLocals, Value.category]; done) | rfl
theorem d3_0 : decode prog_163_method_1_code 0 = .ok (.aload_n 0, 1) := by decide +kernel
theorem d3_1 : decode prog_163_method_1_code 1 = .ok (.invokespecial 1, 3) := by decide +kernel
theorem wd22 {Z : State} {a0 : Array Value} (hw : ∀ d ∈ tables_1, d.before a0 Z = true) : ((Jvm.Cond.methodLink "org/veilroute/service/Tunnel" (1 : Nat) ({ cls := "java/lang/Record", name := "<init>", desc := "()V" } : Jvm.MethodName)) : Jvm.Cond).before a0 Z = true := hw _ (List.mem_of_getElem? (i := 22) rfl)
theorem wd26 {Z : State} {a0 : Array Value} (hw : ∀ d ∈ tables_1, d.before a0 Z = true) : ((Jvm.Cond.code ({ cls := "java/lang/Record", name := "<init>", desc := "()V" } : Jvm.MethodName) jdk_30_method_1_code (1 : Nat) (Option.none : Option Jvm.ClassFile.FieldType)) : Jvm.Cond).before a0 Z = true := hw _ (List.mem_of_getElem? (i := 26) rfl)
theorem wd25 {Z : State} {a0 : Array Value} (hw : ∀ d ∈ tables_1, d.before a0 Z = true) : ((Jvm.Cond.initialized "java/lang/Record") : Jvm.Cond).before a0 Z = true := hw _ (List.mem_of_getElem? (i := 25) rfl)
theorem pd___V_167 : parseMethodDescriptor "()V" = some ⟨[], none⟩ := by decide +kernel
theorem wd23 {Z : State} {a0 : Array Value} (hw : ∀ d ∈ tables_1, d.before a0 Z = true) : ((Jvm.Cond.instanceMethod ({ cls := "java/lang/Record", name := "<init>", desc := "()V" } : Jvm.MethodName)) : Jvm.Cond).before a0 Z = true := hw _ (List.mem_of_getElem? (i := 23) rfl)
theorem d3_4 : decode prog_163_method_1_code 4 = .ok (.aload_n 2, 1) := by decide +kernel
theorem d3_5 : decode prog_163_method_1_code 5 = .ok (.invokestatic 7, 3) := by decide +kernel
theorem wd30 {Z : State} {a0 : Array Value} (hw : ∀ d ∈ tables_1, d.before a0 Z = true) : ((Jvm.Cond.methodLink "org/veilroute/service/Tunnel" (7 : Nat) ({ cls := "java/util/List", name := "copyOf", desc := "(Ljava/util/Collection;)Ljava/util/List;" } : Jvm.MethodName)) : Jvm.Cond).before a0 Z = true := hw _ (List.mem_of_getElem? (i := 30) rfl)
theorem wd32 {Z : State} {a0 : Array Value} (hw : ∀ d ∈ tables_1, d.before a0 Z = true) : ((Jvm.Cond.code ({ cls := "java/util/List", name := "copyOf", desc := "(Ljava/util/Collection;)Ljava/util/List;" } : Jvm.MethodName) jdk_40_method_48_code (1 : Nat) (Option.some (Jvm.ClassFile.FieldType.object "java/util/List"))) : Jvm.Cond).before a0 Z = true := hw _ (List.mem_of_getElem? (i := 32) rfl)
theorem wd15 {Z : State} {a0 : Array Value} (hw : ∀ d ∈ tables_1, d.before a0 Z = true) : ((Jvm.Cond.initialized "java/util/List") : Jvm.Cond).before a0 Z = true := hw _ (List.mem_of_getElem? (i := 15) rfl)
theorem wd31 {Z : State} {a0 : Array Value} (hw : ∀ d ∈ tables_1, d.before a0 Z = true) : ((Jvm.Cond.static ({ cls := "java/util/List", name := "copyOf", desc := "(Ljava/util/Collection;)Ljava/util/List;" } : Jvm.MethodName)) : Jvm.Cond).before a0 Z = true := hw _ (List.mem_of_getElem? (i := 31) rfl)
theorem d3_8 : decode prog_163_method_1_code 8 = .ok (.astore_n 2, 1) := by decide +kernel
theorem d3_9 : decode prog_163_method_1_code 9 = .ok (.aload_n 0, 1) := by decide +kernel
theorem d3_10 : decode prog_163_method_1_code 10 = .ok (.aload_n 1, 1) := by decide +kernel
theorem d3_11 : decode prog_163_method_1_code 11 = .ok (.putfield 13, 3) := by decide +kernel
theorem wd48 {Z : State} {a0 : Array Value} (hw : ∀ d ∈ tables_1, d.before a0 Z = true) : ((Jvm.Cond.fieldLink "org/veilroute/service/Tunnel" (13 : Nat) "org/veilroute/service/Tunnel" "direction" "Lorg/veilroute/service/TunnelBuilder$Direction;") : Jvm.Cond).before a0 Z = true := hw _ (List.mem_of_getElem? (i := 48) rfl)
theorem wd9 {Z : State} {a0 : Array Value} (hw : ∀ d ∈ tables_1, d.before a0 Z = true) : ((Jvm.Cond.instantiable "org/veilroute/service/Tunnel" (3 : Nat)) : Jvm.Cond).before a0 Z = true := hw _ (List.mem_of_getElem? (i := 9) rfl)
theorem wd49 {Z : State} {a0 : Array Value} (hw : ∀ d ∈ tables_1, d.before a0 Z = true) : ((Jvm.Cond.laysFinal "org/veilroute/service/Tunnel" "org/veilroute/service/Tunnel" "direction" "Lorg/veilroute/service/TunnelBuilder$Direction;") : Jvm.Cond).before a0 Z = true := hw _ (List.mem_of_getElem? (i := 49) rfl)
theorem d3_14 : decode prog_163_method_1_code 14 = .ok (.aload_n 0, 1) := by decide +kernel
theorem d3_15 : decode prog_163_method_1_code 15 = .ok (.aload_n 2, 1) := by decide +kernel
theorem d3_16 : decode prog_163_method_1_code 16 = .ok (.putfield 19, 3) := by decide +kernel
theorem wd50 {Z : State} {a0 : Array Value} (hw : ∀ d ∈ tables_1, d.before a0 Z = true) : ((Jvm.Cond.fieldLink "org/veilroute/service/Tunnel" (19 : Nat) "org/veilroute/service/Tunnel" "hops" "Ljava/util/List;") : Jvm.Cond).before a0 Z = true := hw _ (List.mem_of_getElem? (i := 50) rfl)
theorem wd51 {Z : State} {a0 : Array Value} (hw : ∀ d ∈ tables_1, d.before a0 Z = true) : ((Jvm.Cond.laysFinal "org/veilroute/service/Tunnel" "org/veilroute/service/Tunnel" "hops" "Ljava/util/List;") : Jvm.Cond).before a0 Z = true := hw _ (List.mem_of_getElem? (i := 51) rfl)
theorem d3_19 : decode prog_163_method_1_code 19 = .ok (.aload_n 0, 1) := by decide +kernel
theorem d3_20 : decode prog_163_method_1_code 20 = .ok (.iload_n 3, 1) := by decide +kernel
theorem d3_21 : decode prog_163_method_1_code 21 = .ok (.putfield 23, 3) := by decide +kernel
theorem wd52 {Z : State} {a0 : Array Value} (hw : ∀ d ∈ tables_1, d.before a0 Z = true) : ((Jvm.Cond.fieldLink "org/veilroute/service/Tunnel" (23 : Nat) "org/veilroute/service/Tunnel" "receiveId" "I") : Jvm.Cond).before a0 Z = true := hw _ (List.mem_of_getElem? (i := 52) rfl)
theorem wd53 {Z : State} {a0 : Array Value} (hw : ∀ d ∈ tables_1, d.before a0 Z = true) : ((Jvm.Cond.laysFinal "org/veilroute/service/Tunnel" "org/veilroute/service/Tunnel" "receiveId" "I") : Jvm.Cond).before a0 Z = true := hw _ (List.mem_of_getElem? (i := 53) rfl)
theorem d3_24 : decode prog_163_method_1_code 24 = .ok (.return_, 1) := by decide +kernel
abbrev mt5 : MethodName := (⟨"org/veilroute/service/Tunnel", "zeroHopOutbound", "()Lorg/veilroute/service/Tunnel;"⟩ : MethodName)
theorem ef_own_zero (m : MethodId)  : entryFrame m #[] 0 = mkF m 0 #[] [] := by first | (simp [entryFrame, mkF, argsToLocals, Value.category]; done) | rfl
theorem d1_0 : decode prog_163_method_3_code 0 = .ok (.new 14, 3) := by decide +kernel
theorem wd8 {Z : State} {a0 : Array Value} (hw : ∀ d ∈ tables_1, d.before a0 Z = true) : ((Jvm.Cond.classLink "org/veilroute/service/Tunnel" (14 : Nat) "org/veilroute/service/Tunnel") : Jvm.Cond).before a0 Z = true := hw _ (List.mem_of_getElem? (i := 8) rfl)
theorem wd6 {Z : State} {a0 : Array Value} (hw : ∀ d ∈ tables_1, d.before a0 Z = true) : ((Jvm.Cond.initialized "org/veilroute/service/Tunnel") : Jvm.Cond).before a0 Z = true := hw _ (List.mem_of_getElem? (i := 6) rfl)
theorem d1_3 : decode prog_163_method_3_code 3 = .ok (.dup, 1) := by decide +kernel
theorem d1_4 : decode prog_163_method_3_code 4 = .ok (.getstatic 39, 3) := by decide +kernel
theorem wd10 {Z : State} {a0 : Array Value} (hw : ∀ d ∈ tables_1, d.before a0 Z = true) : ((Jvm.Cond.fieldLink "org/veilroute/service/Tunnel" (39 : Nat) "org/veilroute/service/TunnelBuilder$Direction" "OUTBOUND" "Lorg/veilroute/service/TunnelBuilder$Direction;") : Jvm.Cond).before a0 Z = true := hw _ (List.mem_of_getElem? (i := 10) rfl)
theorem d1_7 : decode prog_163_method_3_code 7 = .ok (.invokestatic 32, 3) := by decide +kernel
theorem wd13 {Z : State} {a0 : Array Value} (hw : ∀ d ∈ tables_1, d.before a0 Z = true) : ((Jvm.Cond.methodLink "org/veilroute/service/Tunnel" (32 : Nat) ({ cls := "java/util/List", name := "of", desc := "()Ljava/util/List;" } : Jvm.MethodName)) : Jvm.Cond).before a0 Z = true := hw _ (List.mem_of_getElem? (i := 13) rfl)
theorem wd16 {Z : State} {a0 : Array Value} (hw : ∀ d ∈ tables_1, d.before a0 Z = true) : ((Jvm.Cond.code ({ cls := "java/util/List", name := "of", desc := "()Ljava/util/List;" } : Jvm.MethodName) jdk_40_method_36_code (0 : Nat) (Option.some (Jvm.ClassFile.FieldType.object "java/util/List"))) : Jvm.Cond).before a0 Z = true := hw _ (List.mem_of_getElem? (i := 16) rfl)
theorem pd___Ljava_util_List__1586 : parseMethodDescriptor "()Ljava/util/List;" = some ⟨[], some (.object "java/util/List")⟩ := by decide +kernel
theorem wd14 {Z : State} {a0 : Array Value} (hw : ∀ d ∈ tables_1, d.before a0 Z = true) : ((Jvm.Cond.static ({ cls := "java/util/List", name := "of", desc := "()Ljava/util/List;" } : Jvm.MethodName)) : Jvm.Cond).before a0 Z = true := hw _ (List.mem_of_getElem? (i := 14) rfl)
theorem d1_10 : decode prog_163_method_3_code 10 = .ok (.iconst 0, 1) := by decide +kernel
theorem d1_11 : decode prog_163_method_3_code 11 = .ok (.invokespecial 36, 3) := by decide +kernel
theorem wd19 {Z : State} {a0 : Array Value} (hw : ∀ d ∈ tables_1, d.before a0 Z = true) : ((Jvm.Cond.methodLink "org/veilroute/service/Tunnel" (36 : Nat) ({ cls := "org/veilroute/service/Tunnel", name := "<init>", desc := "(Lorg/veilroute/service/TunnelBuilder$Direction;Ljava/util/List;I)V" } : Jvm.MethodName)) : Jvm.Cond).before a0 Z = true := hw _ (List.mem_of_getElem? (i := 19) rfl)
theorem wd21 {Z : State} {a0 : Array Value} (hw : ∀ d ∈ tables_1, d.before a0 Z = true) : ((Jvm.Cond.code ({ cls := "org/veilroute/service/Tunnel", name := "<init>", desc := "(Lorg/veilroute/service/TunnelBuilder$Direction;Ljava/util/List;I)V" } : Jvm.MethodName) prog_163_method_1_code (4 : Nat) (Option.none : Option Jvm.ClassFile.FieldType)) : Jvm.Cond).before a0 Z = true := hw _ (List.mem_of_getElem? (i := 21) rfl)
theorem pd__Lorg_veilroute_service_TunnelBuilder_Direction_Ljava_util_List_I_V_6399 : parseMethodDescriptor "(Lorg/veilroute/service/TunnelBuilder$Direction;Ljava/util/List;I)V" = some ⟨[(.object "org/veilroute/service/TunnelBuilder$Direction"), (.object "java/util/List"), .int], none⟩ := by decide +kernel
theorem wd20 {Z : State} {a0 : Array Value} (hw : ∀ d ∈ tables_1, d.before a0 Z = true) : ((Jvm.Cond.instanceMethod ({ cls := "org/veilroute/service/Tunnel", name := "<init>", desc := "(Lorg/veilroute/service/TunnelBuilder$Direction;Ljava/util/List;I)V" } : Jvm.MethodName)) : Jvm.Cond).before a0 Z = true := hw _ (List.mem_of_getElem? (i := 20) rfl)
theorem d1_14 : decode prog_163_method_3_code 14 = .ok (.areturn, 1) := by decide +kernel
abbrev mt6 : MethodName := (⟨"org/veilroute/service/TunnelPool$Standing", "<init>", "(Lorg/veilroute/service/Tunnel;JJ)V"⟩ : MethodName)
theorem pn_org_veilroute_service_TunnelPool_Standing : plainName "org/veilroute/service/TunnelPool$Standing" = true := by first | (simp [plainName, overriddenIn]; done) | decide +kernel
theorem ef_own_sdinit (m : MethodId) (x0 : Addr) (x1 : Addr) (x2 : Int64) (x3 : Int64) : entryFrame m #[(.ref x0), (.ref x1), (.long x2), (.long x3)] 6 = mkF m 0 #[.val (.ref x0), .val (.ref x1), .val (.long x2), .second, .val (.long x3), .second] [] := by first | (simp [entryFrame, mkF, argsToLocals, Value.category]; done) | rfl
theorem d8_0 : decode prog_176_method_1_code 0 = .ok (.aload_n 0, 1) := by decide +kernel
theorem d8_1 : decode prog_176_method_1_code 1 = .ok (.invokespecial 1, 3) := by decide +kernel
theorem wd57 {Z : State} {a0 : Array Value} (hw : ∀ d ∈ tables_1, d.before a0 Z = true) : ((Jvm.Cond.methodLink "org/veilroute/service/TunnelPool$Standing" (1 : Nat) ({ cls := "java/lang/Object", name := "<init>", desc := "()V" } : Jvm.MethodName)) : Jvm.Cond).before a0 Z = true := hw _ (List.mem_of_getElem? (i := 57) rfl)
theorem d8_4 : decode prog_176_method_1_code 4 = .ok (.aload_n 0, 1) := by decide +kernel
theorem d8_5 : decode prog_176_method_1_code 5 = .ok (.aload_n 1, 1) := by decide +kernel
theorem d8_6 : decode prog_176_method_1_code 6 = .ok (.putfield 7, 3) := by decide +kernel
theorem wd58 {Z : State} {a0 : Array Value} (hw : ∀ d ∈ tables_1, d.before a0 Z = true) : ((Jvm.Cond.fieldLink "org/veilroute/service/TunnelPool$Standing" (7 : Nat) "org/veilroute/service/TunnelPool$Standing" "tunnel" "Lorg/veilroute/service/Tunnel;") : Jvm.Cond).before a0 Z = true := hw _ (List.mem_of_getElem? (i := 58) rfl)
theorem wd2 {Z : State} {a0 : Array Value} (hw : ∀ d ∈ tables_1, d.before a0 Z = true) : ((Jvm.Cond.instantiable "org/veilroute/service/TunnelPool$Standing" (4 : Nat)) : Jvm.Cond).before a0 Z = true := hw _ (List.mem_of_getElem? (i := 2) rfl)
theorem wd59 {Z : State} {a0 : Array Value} (hw : ∀ d ∈ tables_1, d.before a0 Z = true) : ((Jvm.Cond.laysFinal "org/veilroute/service/TunnelPool$Standing" "org/veilroute/service/TunnelPool$Standing" "tunnel" "Lorg/veilroute/service/Tunnel;") : Jvm.Cond).before a0 Z = true := hw _ (List.mem_of_getElem? (i := 59) rfl)
theorem d8_9 : decode prog_176_method_1_code 9 = .ok (.aload_n 0, 1) := by decide +kernel
theorem d8_10 : decode prog_176_method_1_code 10 = .ok (.lload_n 2, 1) := by decide +kernel
theorem d8_11 : decode prog_176_method_1_code 11 = .ok (.putfield 13, 3) := by decide +kernel
theorem wd60 {Z : State} {a0 : Array Value} (hw : ∀ d ∈ tables_1, d.before a0 Z = true) : ((Jvm.Cond.fieldLink "org/veilroute/service/TunnelPool$Standing" (13 : Nat) "org/veilroute/service/TunnelPool$Standing" "end" "J") : Jvm.Cond).before a0 Z = true := hw _ (List.mem_of_getElem? (i := 60) rfl)
theorem wd61 {Z : State} {a0 : Array Value} (hw : ∀ d ∈ tables_1, d.before a0 Z = true) : ((Jvm.Cond.laysFinal "org/veilroute/service/TunnelPool$Standing" "org/veilroute/service/TunnelPool$Standing" "end" "J") : Jvm.Cond).before a0 Z = true := hw _ (List.mem_of_getElem? (i := 61) rfl)
theorem d8_14 : decode prog_176_method_1_code 14 = .ok (.aload_n 0, 1) := by decide +kernel
theorem d8_15 : decode prog_176_method_1_code 15 = .ok (.lload 4, 2) := by decide +kernel
theorem d8_17 : decode prog_176_method_1_code 17 = .ok (.putfield 17, 3) := by decide +kernel
theorem wd62 {Z : State} {a0 : Array Value} (hw : ∀ d ∈ tables_1, d.before a0 Z = true) : ((Jvm.Cond.fieldLink "org/veilroute/service/TunnelPool$Standing" (17 : Nat) "org/veilroute/service/TunnelPool$Standing" "provenAfter" "J") : Jvm.Cond).before a0 Z = true := hw _ (List.mem_of_getElem? (i := 62) rfl)
theorem wd63 {Z : State} {a0 : Array Value} (hw : ∀ d ∈ tables_1, d.before a0 Z = true) : ((Jvm.Cond.lays "org/veilroute/service/TunnelPool$Standing" "org/veilroute/service/TunnelPool$Standing" "provenAfter" "J") : Jvm.Cond).before a0 Z = true := hw _ (List.mem_of_getElem? (i := 63) rfl)
theorem d8_20 : decode prog_176_method_1_code 20 = .ok (.return_, 1) := by decide +kernel
theorem wd70 {Z : State} {a0 : Array Value} (hw : ∀ d ∈ tables_1, d.before a0 Z = true) : ((Jvm.Cond.lays "org/veilroute/service/TunnelPool$Standing" "org/veilroute/service/TunnelPool$Standing" "failedTests" "I") : Jvm.Cond).before a0 Z = true := hw _ (List.mem_of_getElem? (i := 70) rfl)
abbrev mt7 : MethodName := (⟨"org/veilroute/service/TunnelPool$Standing", "sound", "()Z"⟩ : MethodName)
theorem ef_own_sound (m : MethodId) (x0 : Addr) : entryFrame m #[(.ref x0)] 1 = mkF m 0 #[.val (.ref x0)] [] := by first | (simp [entryFrame, mkF, argsToLocals, Value.category]; done) | rfl
theorem d9_0 : decode prog_176_method_6_code 0 = .ok (.aload_n 0, 1) := by decide +kernel
theorem d9_1 : decode prog_176_method_6_code 1 = .ok (.getfield 32, 3) := by decide +kernel
theorem wd69 {Z : State} {a0 : Array Value} (hw : ∀ d ∈ tables_1, d.before a0 Z = true) : ((Jvm.Cond.fieldLink "org/veilroute/service/TunnelPool$Standing" (32 : Nat) "org/veilroute/service/TunnelPool$Standing" "failedTests" "I") : Jvm.Cond).before a0 Z = true := hw _ (List.mem_of_getElem? (i := 69) rfl)
theorem d9_4 : decode prog_176_method_6_code 4 = .ok (.ifCond .ne 7, 3) := by decide +kernel
theorem d9_7 : decode prog_176_method_6_code 7 = .ok (.iconst 1, 1) := by decide +kernel
theorem d9_8 : decode prog_176_method_6_code 8 = .ok (.goto 4, 3) := by decide +kernel
theorem d9_12 : decode prog_176_method_6_code 12 = .ok (.ireturn, 1) := by decide +kernel
theorem d9_11 : decode prog_176_method_6_code 11 = .ok (.iconst 0, 1) := by decide +kernel
abbrev mt8 : MethodName := (⟨"org/veilroute/service/TunnelPool$Standing", "failed", "(I)I"⟩ : MethodName)
theorem ef_own_failed (m : MethodId) (x0 : Addr) (x1 : Int32) : entryFrame m #[(.ref x0), (.int x1)] 2 = mkF m 0 #[.val (.ref x0), .val (.int x1)] [] := by first | (simp [entryFrame, mkF, argsToLocals, Value.category]; done) | rfl
theorem d10_0 : decode prog_176_method_7_code 0 = .ok (.aload_n 0, 1) := by decide +kernel
theorem d10_1 : decode prog_176_method_7_code 1 = .ok (.dup, 1) := by decide +kernel
theorem d10_2 : decode prog_176_method_7_code 2 = .ok (.getfield 32, 3) := by decide +kernel
theorem d10_5 : decode prog_176_method_7_code 5 = .ok (.iload_n 1, 1) := by decide +kernel
theorem d10_6 : decode prog_176_method_7_code 6 = .ok (.iadd, 1) := by decide +kernel
theorem d10_7 : decode prog_176_method_7_code 7 = .ok (.putfield 32, 3) := by decide +kernel
theorem d10_10 : decode prog_176_method_7_code 10 = .ok (.aload_n 0, 1) := by decide +kernel
theorem d10_11 : decode prog_176_method_7_code 11 = .ok (.getfield 32, 3) := by decide +kernel
theorem d10_14 : decode prog_176_method_7_code 14 = .ok (.ireturn, 1) := by decide +kernel
abbrev mt9 : MethodName := (⟨"java/lang/Math", "max", "(JJ)J"⟩ : MethodName)
theorem ef_own_max (m : MethodId) (x0 : Int64) (x1 : Int64) : entryFrame m #[(.long x0), (.long x1)] 4 = mkF m 0 #[.val (.long x0), .second, .val (.long x1), .second] [] := by first | (simp [entryFrame, mkF, argsToLocals, Value.category]; done) | rfl
theorem d12_0 : decode jdk_29_method_66_code 0 = .ok (.lload_n 0, 1) := by decide +kernel
theorem d12_1 : decode jdk_29_method_66_code 1 = .ok (.lload_n 2, 1) := by decide +kernel
theorem d12_2 : decode jdk_29_method_66_code 2 = .ok (.lcmp, 1) := by decide +kernel
theorem d12_3 : decode jdk_29_method_66_code 3 = .ok (.ifCond .lt 7, 3) := by decide +kernel
theorem d12_10 : decode jdk_29_method_66_code 10 = .ok (.lload_n 2, 1) := by decide +kernel
theorem d12_11 : decode jdk_29_method_66_code 11 = .ok (.lreturn, 1) := by decide +kernel
theorem d12_6 : decode jdk_29_method_66_code 6 = .ok (.lload_n 0, 1) := by decide +kernel
theorem d12_7 : decode jdk_29_method_66_code 7 = .ok (.goto 4, 3) := by decide +kernel
abbrev mt10 : MethodName := (⟨"org/veilroute/service/TunnelPool$Standing", "passed", "(J)V"⟩ : MethodName)
theorem ef_own_passed (m : MethodId) (x0 : Addr) (x1 : Int64) : entryFrame m #[(.ref x0), (.long x1)] 3 = mkF m 0 #[.val (.ref x0), .val (.long x1), .second] [] := by first | (simp [entryFrame, mkF, argsToLocals, Value.category]; done) | rfl
theorem d11_0 : decode prog_176_method_5_code 0 = .ok (.aload_n 0, 1) := by decide +kernel
theorem d11_1 : decode prog_176_method_5_code 1 = .ok (.iconst 0, 1) := by decide +kernel
theorem d11_2 : decode prog_176_method_5_code 2 = .ok (.putfield 32, 3) := by decide +kernel
theorem d11_5 : decode prog_176_method_5_code 5 = .ok (.aload_n 0, 1) := by decide +kernel
theorem d11_6 : decode prog_176_method_5_code 6 = .ok (.aload_n 0, 1) := by decide +kernel
theorem d11_7 : decode prog_176_method_5_code 7 = .ok (.getfield 17, 3) := by decide +kernel
theorem d11_10 : decode prog_176_method_5_code 10 = .ok (.lload_n 1, 1) := by decide +kernel
theorem d11_11 : decode prog_176_method_5_code 11 = .ok (.invokestatic 36, 3) := by decide +kernel
theorem wd81 {Z : State} {a0 : Array Value} (hw : ∀ d ∈ tables_1, d.before a0 Z = true) : ((Jvm.Cond.methodLink "org/veilroute/service/TunnelPool$Standing" (36 : Nat) ({ cls := "java/lang/Math", name := "max", desc := "(JJ)J" } : Jvm.MethodName)) : Jvm.Cond).before a0 Z = true := hw _ (List.mem_of_getElem? (i := 81) rfl)
theorem wd84 {Z : State} {a0 : Array Value} (hw : ∀ d ∈ tables_1, d.before a0 Z = true) : ((Jvm.Cond.code ({ cls := "java/lang/Math", name := "max", desc := "(JJ)J" } : Jvm.MethodName) jdk_29_method_66_code (4 : Nat) (Option.some Jvm.ClassFile.FieldType.long)) : Jvm.Cond).before a0 Z = true := hw _ (List.mem_of_getElem? (i := 84) rfl)
theorem wd83 {Z : State} {a0 : Array Value} (hw : ∀ d ∈ tables_1, d.before a0 Z = true) : ((Jvm.Cond.initialized "java/lang/Math") : Jvm.Cond).before a0 Z = true := hw _ (List.mem_of_getElem? (i := 83) rfl)
theorem pd__JJ_J_303 : parseMethodDescriptor "(JJ)J" = some ⟨[.long, .long], some .long⟩ := by decide +kernel
theorem wd82 {Z : State} {a0 : Array Value} (hw : ∀ d ∈ tables_1, d.before a0 Z = true) : ((Jvm.Cond.static ({ cls := "java/lang/Math", name := "max", desc := "(JJ)J" } : Jvm.MethodName)) : Jvm.Cond).before a0 Z = true := hw _ (List.mem_of_getElem? (i := 82) rfl)
theorem d11_14 : decode prog_176_method_5_code 14 = .ok (.putfield 17, 3) := by decide +kernel
theorem d11_17 : decode prog_176_method_5_code 17 = .ok (.return_, 1) := by decide +kernel
abbrev mt11 : MethodName := (⟨"org/veilroute/service/TunnelPool$Standing", "end", "()J"⟩ : MethodName)
theorem ef_own_end (m : MethodId) (x0 : Addr) : entryFrame m #[(.ref x0)] 1 = mkF m 0 #[.val (.ref x0)] [] := by first | (simp [entryFrame, mkF, argsToLocals, Value.category]; done) | rfl
theorem d13_0 : decode prog_176_method_3_code 0 = .ok (.aload_n 0, 1) := by decide +kernel
theorem d13_1 : decode prog_176_method_3_code 1 = .ok (.getfield 13, 3) := by decide +kernel
theorem d13_4 : decode prog_176_method_3_code 4 = .ok (.lreturn, 1) := by decide +kernel
theorem pn_org_veilroute_service_StandingFailedPinLaw : plainName "org/veilroute/service/StandingFailedPinLaw" = true := by first | (simp [plainName, overriddenIn]; done) | decide +kernel
theorem ef_own_law (m : MethodId) (x0 : Int32) (x1 : Int32) (x2 : Int32) (x3 : Int64) (x4 : Int64) : entryFrame m #[(.int x0), (.int x1), (.int x2), (.long x3), (.long x4)] maxLocals = mkF m 0 #[.val (.int x0), .val (.int x1), .val (.int x2), .val (.long x3), .second, .val (.long x4), .second, .unset, .unset, .unset, .unset, .unset, .unset, .unset, .unset, .unset, .unset, .unset] [] := by first | (simp [entryFrame, mkF, argsToLocals, Value.category, maxLocals]; done) | rfl
theorem wd0 {Z : State} {a0 : Array Value} (hw : ∀ d ∈ tables_1, d.before a0 Z = true) : ((Jvm.Cond.constant "org/veilroute/service/StandingFailedPinLaw" (7 : Nat) (1073741823 : Int32)) : Jvm.Cond).before a0 Z = true := hw _ (List.mem_of_getElem? (i := 0) rfl)
theorem wd1 {Z : State} {a0 : Array Value} (hw : ∀ d ∈ tables_1, d.before a0 Z = true) : ((Jvm.Cond.classLink "org/veilroute/service/StandingFailedPinLaw" (8 : Nat) "org/veilroute/service/TunnelPool$Standing") : Jvm.Cond).before a0 Z = true := hw _ (List.mem_of_getElem? (i := 1) rfl)
theorem wd3 {Z : State} {a0 : Array Value} (hw : ∀ d ∈ tables_1, d.before a0 Z = true) : ((Jvm.Cond.initialized "org/veilroute/service/TunnelPool$Standing") : Jvm.Cond).before a0 Z = true := hw _ (List.mem_of_getElem? (i := 3) rfl)
theorem wd4 {Z : State} {a0 : Array Value} (hw : ∀ d ∈ tables_1, d.before a0 Z = true) : ((Jvm.Cond.methodLink "org/veilroute/service/StandingFailedPinLaw" (10 : Nat) ({ cls := "org/veilroute/service/Tunnel", name := "zeroHopOutbound", desc := "()Lorg/veilroute/service/Tunnel;" } : Jvm.MethodName)) : Jvm.Cond).before a0 Z = true := hw _ (List.mem_of_getElem? (i := 4) rfl)
theorem wd7 {Z : State} {a0 : Array Value} (hw : ∀ d ∈ tables_1, d.before a0 Z = true) : ((Jvm.Cond.code ({ cls := "org/veilroute/service/Tunnel", name := "zeroHopOutbound", desc := "()Lorg/veilroute/service/Tunnel;" } : Jvm.MethodName) prog_163_method_3_code (0 : Nat) (Option.some (Jvm.ClassFile.FieldType.object "org/veilroute/service/Tunnel"))) : Jvm.Cond).before a0 Z = true := hw _ (List.mem_of_getElem? (i := 7) rfl)
theorem pd___Lorg_veilroute_service_Tunnel__3059 : parseMethodDescriptor "()Lorg/veilroute/service/Tunnel;" = some ⟨[], some (.object "org/veilroute/service/Tunnel")⟩ := by decide +kernel
theorem wd5 {Z : State} {a0 : Array Value} (hw : ∀ d ∈ tables_1, d.before a0 Z = true) : ((Jvm.Cond.static ({ cls := "org/veilroute/service/Tunnel", name := "zeroHopOutbound", desc := "()Lorg/veilroute/service/Tunnel;" } : Jvm.MethodName)) : Jvm.Cond).before a0 Z = true := hw _ (List.mem_of_getElem? (i := 5) rfl)
theorem wd54 {Z : State} {a0 : Array Value} (hw : ∀ d ∈ tables_1, d.before a0 Z = true) : ((Jvm.Cond.methodLink "org/veilroute/service/StandingFailedPinLaw" (16 : Nat) ({ cls := "org/veilroute/service/TunnelPool$Standing", name := "<init>", desc := "(Lorg/veilroute/service/Tunnel;JJ)V" } : Jvm.MethodName)) : Jvm.Cond).before a0 Z = true := hw _ (List.mem_of_getElem? (i := 54) rfl)
theorem wd56 {Z : State} {a0 : Array Value} (hw : ∀ d ∈ tables_1, d.before a0 Z = true) : ((Jvm.Cond.code ({ cls := "org/veilroute/service/TunnelPool$Standing", name := "<init>", desc := "(Lorg/veilroute/service/Tunnel;JJ)V" } : Jvm.MethodName) prog_176_method_1_code (6 : Nat) (Option.none : Option Jvm.ClassFile.FieldType)) : Jvm.Cond).before a0 Z = true := hw _ (List.mem_of_getElem? (i := 56) rfl)
theorem pd__Lorg_veilroute_service_Tunnel_JJ_V_3293 : parseMethodDescriptor "(Lorg/veilroute/service/Tunnel;JJ)V" = some ⟨[(.object "org/veilroute/service/Tunnel"), .long, .long], none⟩ := by decide +kernel
theorem wd55 {Z : State} {a0 : Array Value} (hw : ∀ d ∈ tables_1, d.before a0 Z = true) : ((Jvm.Cond.instanceMethod ({ cls := "org/veilroute/service/TunnelPool$Standing", name := "<init>", desc := "(Lorg/veilroute/service/Tunnel;JJ)V" } : Jvm.MethodName)) : Jvm.Cond).before a0 Z = true := hw _ (List.mem_of_getElem? (i := 55) rfl)
theorem wd64 {Z : State} {a0 : Array Value} (hw : ∀ d ∈ tables_1, d.before a0 Z = true) : ((Jvm.Cond.methodLink "org/veilroute/service/StandingFailedPinLaw" (19 : Nat) ({ cls := "org/veilroute/service/TunnelPool$Standing", name := "sound", desc := "()Z" } : Jvm.MethodName)) : Jvm.Cond).before a0 Z = true := hw _ (List.mem_of_getElem? (i := 64) rfl)
theorem wd68 {Z : State} {a0 : Array Value} (hw : ∀ d ∈ tables_1, d.before a0 Z = true) : ((Jvm.Cond.code ({ cls := "org/veilroute/service/TunnelPool$Standing", name := "sound", desc := "()Z" } : Jvm.MethodName) prog_176_method_6_code (1 : Nat) (Option.some Jvm.ClassFile.FieldType.boolean)) : Jvm.Cond).before a0 Z = true := hw _ (List.mem_of_getElem? (i := 68) rfl)
theorem pd___Z_171 : parseMethodDescriptor "()Z" = some ⟨[], some .boolean⟩ := by decide +kernel
theorem wd67 {Z : State} {a0 : Array Value} (hw : ∀ d ∈ tables_1, d.before a0 Z = true) : ((Jvm.Cond.selects "org/veilroute/service/TunnelPool$Standing" ({ cls := "org/veilroute/service/TunnelPool$Standing", name := "sound", desc := "()Z" } : Jvm.MethodName) ({ cls := "org/veilroute/service/TunnelPool$Standing", name := "sound", desc := "()Z" } : Jvm.MethodName)) : Jvm.Cond).before a0 Z = true := hw _ (List.mem_of_getElem? (i := 67) rfl)
theorem wd65 {Z : State} {a0 : Array Value} (hw : ∀ d ∈ tables_1, d.before a0 Z = true) : ((Jvm.Cond.declares ({ cls := "org/veilroute/service/TunnelPool$Standing", name := "sound", desc := "()Z" } : Jvm.MethodName)) : Jvm.Cond).before a0 Z = true := hw _ (List.mem_of_getElem? (i := 65) rfl)
theorem wd66 {Z : State} {a0 : Array Value} (hw : ∀ d ∈ tables_1, d.before a0 Z = true) : ((Jvm.Cond.instanceMethod ({ cls := "org/veilroute/service/TunnelPool$Standing", name := "sound", desc := "()Z" } : Jvm.MethodName)) : Jvm.Cond).before a0 Z = true := hw _ (List.mem_of_getElem? (i := 66) rfl)
theorem wd71 {Z : State} {a0 : Array Value} (hw : ∀ d ∈ tables_1, d.before a0 Z = true) : ((Jvm.Cond.methodLink "org/veilroute/service/StandingFailedPinLaw" (23 : Nat) ({ cls := "org/veilroute/service/TunnelPool$Standing", name := "failed", desc := "(I)I" } : Jvm.MethodName)) : Jvm.Cond).before a0 Z = true := hw _ (List.mem_of_getElem? (i := 71) rfl)
theorem wd75 {Z : State} {a0 : Array Value} (hw : ∀ d ∈ tables_1, d.before a0 Z = true) : ((Jvm.Cond.code ({ cls := "org/veilroute/service/TunnelPool$Standing", name := "failed", desc := "(I)I" } : Jvm.MethodName) prog_176_method_7_code (2 : Nat) (Option.some Jvm.ClassFile.FieldType.int)) : Jvm.Cond).before a0 Z = true := hw _ (List.mem_of_getElem? (i := 75) rfl)
theorem pd__I_I_227 : parseMethodDescriptor "(I)I" = some ⟨[.int], some .int⟩ := by decide +kernel
theorem wd74 {Z : State} {a0 : Array Value} (hw : ∀ d ∈ tables_1, d.before a0 Z = true) : ((Jvm.Cond.selects "org/veilroute/service/TunnelPool$Standing" ({ cls := "org/veilroute/service/TunnelPool$Standing", name := "failed", desc := "(I)I" } : Jvm.MethodName) ({ cls := "org/veilroute/service/TunnelPool$Standing", name := "failed", desc := "(I)I" } : Jvm.MethodName)) : Jvm.Cond).before a0 Z = true := hw _ (List.mem_of_getElem? (i := 74) rfl)
theorem wd72 {Z : State} {a0 : Array Value} (hw : ∀ d ∈ tables_1, d.before a0 Z = true) : ((Jvm.Cond.declares ({ cls := "org/veilroute/service/TunnelPool$Standing", name := "failed", desc := "(I)I" } : Jvm.MethodName)) : Jvm.Cond).before a0 Z = true := hw _ (List.mem_of_getElem? (i := 72) rfl)
theorem wd73 {Z : State} {a0 : Array Value} (hw : ∀ d ∈ tables_1, d.before a0 Z = true) : ((Jvm.Cond.instanceMethod ({ cls := "org/veilroute/service/TunnelPool$Standing", name := "failed", desc := "(I)I" } : Jvm.MethodName)) : Jvm.Cond).before a0 Z = true := hw _ (List.mem_of_getElem? (i := 73) rfl)
theorem wd76 {Z : State} {a0 : Array Value} (hw : ∀ d ∈ tables_1, d.before a0 Z = true) : ((Jvm.Cond.methodLink "org/veilroute/service/StandingFailedPinLaw" (27 : Nat) ({ cls := "org/veilroute/service/TunnelPool$Standing", name := "passed", desc := "(J)V" } : Jvm.MethodName)) : Jvm.Cond).before a0 Z = true := hw _ (List.mem_of_getElem? (i := 76) rfl)
theorem wd80 {Z : State} {a0 : Array Value} (hw : ∀ d ∈ tables_1, d.before a0 Z = true) : ((Jvm.Cond.code ({ cls := "org/veilroute/service/TunnelPool$Standing", name := "passed", desc := "(J)V" } : Jvm.MethodName) prog_176_method_5_code (3 : Nat) (Option.none : Option Jvm.ClassFile.FieldType)) : Jvm.Cond).before a0 Z = true := hw _ (List.mem_of_getElem? (i := 80) rfl)
theorem pd__J_V_241 : parseMethodDescriptor "(J)V" = some ⟨[.long], none⟩ := by decide +kernel
theorem wd79 {Z : State} {a0 : Array Value} (hw : ∀ d ∈ tables_1, d.before a0 Z = true) : ((Jvm.Cond.selects "org/veilroute/service/TunnelPool$Standing" ({ cls := "org/veilroute/service/TunnelPool$Standing", name := "passed", desc := "(J)V" } : Jvm.MethodName) ({ cls := "org/veilroute/service/TunnelPool$Standing", name := "passed", desc := "(J)V" } : Jvm.MethodName)) : Jvm.Cond).before a0 Z = true := hw _ (List.mem_of_getElem? (i := 79) rfl)
theorem wd77 {Z : State} {a0 : Array Value} (hw : ∀ d ∈ tables_1, d.before a0 Z = true) : ((Jvm.Cond.declares ({ cls := "org/veilroute/service/TunnelPool$Standing", name := "passed", desc := "(J)V" } : Jvm.MethodName)) : Jvm.Cond).before a0 Z = true := hw _ (List.mem_of_getElem? (i := 77) rfl)
theorem wd78 {Z : State} {a0 : Array Value} (hw : ∀ d ∈ tables_1, d.before a0 Z = true) : ((Jvm.Cond.instanceMethod ({ cls := "org/veilroute/service/TunnelPool$Standing", name := "passed", desc := "(J)V" } : Jvm.MethodName)) : Jvm.Cond).before a0 Z = true := hw _ (List.mem_of_getElem? (i := 78) rfl)
theorem wd85 {Z : State} {a0 : Array Value} (hw : ∀ d ∈ tables_1, d.before a0 Z = true) : ((Jvm.Cond.methodLink "org/veilroute/service/StandingFailedPinLaw" (31 : Nat) ({ cls := "org/veilroute/service/TunnelPool$Standing", name := "end", desc := "()J" } : Jvm.MethodName)) : Jvm.Cond).before a0 Z = true := hw _ (List.mem_of_getElem? (i := 85) rfl)
theorem wd89 {Z : State} {a0 : Array Value} (hw : ∀ d ∈ tables_1, d.before a0 Z = true) : ((Jvm.Cond.code ({ cls := "org/veilroute/service/TunnelPool$Standing", name := "end", desc := "()J" } : Jvm.MethodName) prog_176_method_3_code (1 : Nat) (Option.some Jvm.ClassFile.FieldType.long)) : Jvm.Cond).before a0 Z = true := hw _ (List.mem_of_getElem? (i := 89) rfl)
theorem pd___J_155 : parseMethodDescriptor "()J" = some ⟨[], some .long⟩ := by decide +kernel
theorem wd88 {Z : State} {a0 : Array Value} (hw : ∀ d ∈ tables_1, d.before a0 Z = true) : ((Jvm.Cond.selects "org/veilroute/service/TunnelPool$Standing" ({ cls := "org/veilroute/service/TunnelPool$Standing", name := "end", desc := "()J" } : Jvm.MethodName) ({ cls := "org/veilroute/service/TunnelPool$Standing", name := "end", desc := "()J" } : Jvm.MethodName)) : Jvm.Cond).before a0 Z = true := hw _ (List.mem_of_getElem? (i := 88) rfl)
theorem wd86 {Z : State} {a0 : Array Value} (hw : ∀ d ∈ tables_1, d.before a0 Z = true) : ((Jvm.Cond.declares ({ cls := "org/veilroute/service/TunnelPool$Standing", name := "end", desc := "()J" } : Jvm.MethodName)) : Jvm.Cond).before a0 Z = true := hw _ (List.mem_of_getElem? (i := 86) rfl)
theorem wd87 {Z : State} {a0 : Array Value} (hw : ∀ d ∈ tables_1, d.before a0 Z = true) : ((Jvm.Cond.instanceMethod ({ cls := "org/veilroute/service/TunnelPool$Standing", name := "end", desc := "()J" } : Jvm.MethodName)) : Jvm.Cond).before a0 Z = true := hw _ (List.mem_of_getElem? (i := 87) rfl)
theorem wd11 {Z : State} {a0 : Array Value} (hw : ∀ d ∈ tables_1, d.before a0 Z = true) : ((Jvm.Cond.initialized "org/veilroute/service/TunnelBuilder$Direction") : Jvm.Cond).before a0 Z = true := hw _ (List.mem_of_getElem? (i := 11) rfl)
theorem wd12 {Z : State} {a0 : Array Value} (hw : ∀ d ∈ tables_1, d.before a0 Z = true) : ((Jvm.Cond.laysStatic "org/veilroute/service/TunnelBuilder$Direction" "OUTBOUND" "Lorg/veilroute/service/TunnelBuilder$Direction;") : Jvm.Cond).before a0 Z = true := hw _ (List.mem_of_getElem? (i := 12) rfl)
def Q_own_rec (Z : State) (a : Addr) (h0 : Heap) (n0 : Nat) (v : Option Value) (h : Heap) (L : List Loc) : Prop := v = none ∧ L = [] ∧ h = h0
set_option maxRecDepth 65536 in
set_option maxHeartbeats 40000000 in
theorem own_rec (l : Launch) (Z : State) (a0 : Array Value) (hw : ∀ d ∈ tables_1, d.before a0 Z = true) (ws : List Jvm.Cond) (a : Addr) (h0 : Heap) (n0 : Nat) (O0 : Old Z n0 h0) :
    MetFree l mt0 (head1 (Jvm.Cond.code mt0 jdk_30_method_1_code 1 none :: ws) ({ frames := 1, cells := 0, slots := 0, locals := 12 } : Room)) (fun aq U => aq = #[(.ref a)] ∧ Z.Warmed39 U.vm ∧ U.heap = h0) (fun _ _ _ _ _ => True) (fun _ U o U' => ∃ v L, o = .returned v ∧ Q_own_rec Z a h0 n0 v U'.heap L ∧ FrameEnd U o U' L ({ frames := 1, cells := 0, slots := 0, locals := 12 } : Room).cells ({ frames := 1, cells := 0, slots := 0, locals := 12 } : Room).slots) := by
  refine MetFree.of_bodySF (plainFor_of_name pn_java_lang_Record) hisR ?_
  intro p e s m args below meth c s₁ Bd hml0 hP hK
  obtain ⟨rfl, hZ, hh⟩ := hP
  have hx := Bd.exec
  have hby := Bd.bytes
  have hml : c.maxLocals = 1 := hml0
  have hown : s.vm.findClass "java/lang/Record" = some m.cls := findClass_of_methodNamed Bd.named
  have hnm := (name_of_methodNamed Bd.named Bd.method).1
  have X0 : Stand p l e ({ frames := 1, cells := 0, slots := 0, locals := 12 } : Room) s m #[(.ref a)] below meth c s₁ [] 0 0 := Stand.of_body Bd
  have e0 : s₁.heap = h0 := by rw [← hh, Bd.state]; rfl
  have N0 := Fr.nil n0
  have zO := O0.1
  have zO2 := O0.2.1
  refine own_open (own_via (S' := s₁.setTop (mkF m 0 #[.val (.ref a)] [])) (fun t k => castTop (ef_own_rec m a) k) ?_)
  refine own_via (S' := s₁.setTop (mkF m 1 #[.val (.ref a)] [(.ref a)])) (fun t k => XS.aloadN X0.here hx rfl (hb hby d4_0) rfl rfl k) ?_
  obtain ⟨T1, X1, e1, st1⟩ := initO X0 hx hZ hown (wd27 hw) (wd28 hw) (wd29 hw) e0 (g := (mkF m 1 #[.val (.ref a)] [(.ref a)])) rfl (by rw [hml]; rfl) rfl (hb hby d4_1) (by decide) (W := 0) (by show 2 * 0 + _ ≤ _; exact Nat.le_of_eq rfl) (by decide)
  refine own_via (S' := T1.setTop (mkF m 4 #[.val (.ref a)] [])) st1 ?_
  refine own_ret (Q := Q_own_rec Z a h0 n0) (C := ({ frames := 1, cells := 0, slots := 0, locals := 12 } : Room).cells) (N := ({ frames := 1, cells := 0, slots := 0, locals := 12 } : Room).slots) X1 (v := none) (fun _ => rfl) Bd.notSynchronized ?_ (by decide) (by decide) (fun fs hr => X1.returnOut hx Bd.returns (hb hby d4_4) hr)
  show Q_own_rec Z a h0 n0 _ T1.heap _
  rw [e1]
  exact ⟨rfl, rfl, rfl⟩
def Q_own_listof (Z : State) (wl : Addr) (h0 : Heap) (n0 : Nat) (v : Option Value) (h : Heap) (L : List Loc) : Prop := v = some (.ref wl) ∧ L = [] ∧ h = h0
set_option maxRecDepth 65536 in
set_option maxHeartbeats 40000000 in
theorem own_listof (l : Launch) (Z : State) (a0 : Array Value) (hw : ∀ d ∈ tables_1, d.before a0 Z = true) (ws : List Jvm.Cond) (wl : Addr) (h0 : Heap) (n0 : Nat) (O0 : Old Z n0 h0) (zf_S_java_util_ImmutableCollections_EMPTY_LIST : Sta Z Z.heap "java/util/ImmutableCollections" "EMPTY_LIST" "Ljava/util/ImmutableCollections$ListN;" (.ref wl)) :
    MetFree l mt1 (head1 (Jvm.Cond.code mt1 jdk_40_method_36_code 0 (some (.object "java/util/List")) :: ws) ({ frames := 0, cells := 0, slots := 0, locals := 0 } : Room)) (fun aq U => aq = #[] ∧ Z.Warmed39 U.vm ∧ U.heap = h0) (fun _ _ _ _ _ => True) (fun _ U o U' => ∃ v L, o = .returned v ∧ Q_own_listof Z wl h0 n0 v U'.heap L ∧ FrameEnd U o U' L ({ frames := 0, cells := 0, slots := 0, locals := 0 } : Room).cells ({ frames := 0, cells := 0, slots := 0, locals := 0 } : Room).slots) := by
  refine MetFree.of_bodySF (plainFor_of_name pn_java_util_List) hisR ?_
  intro p e s m args below meth c s₁ Bd hml0 hP hK
  obtain ⟨rfl, hZ, hh⟩ := hP
  have hx := Bd.exec
  have hby := Bd.bytes
  have hml : c.maxLocals = 0 := hml0
  have hown : s.vm.findClass "java/util/List" = some m.cls := findClass_of_methodNamed Bd.named
  have hnm := (name_of_methodNamed Bd.named Bd.method).1
  have X0 : Stand p l e ({ frames := 0, cells := 0, slots := 0, locals := 0 } : Room) s m #[] below meth c s₁ [] 0 0 := Stand.of_body Bd
  have e0 : s₁.heap = h0 := by rw [← hh, Bd.state]; rfl
  have N0 := Fr.nil n0
  have zO := O0.1
  have zO2 := O0.2.1
  refine own_open (own_via (S' := s₁.setTop (mkF m 0 #[] [])) (fun t k => castTop (ef_own_listof m ) k) ?_)
  have c1 : Sta Z h0 "java/util/ImmutableCollections" "EMPTY_LIST" "Ljava/util/ImmutableCollections$ListN;" (.ref wl) := zf_S_java_util_ImmutableCollections_EMPTY_LIST.ext O0.2
  obtain ⟨T2, X2, e2, st2⟩ := getS2 X0 hx hZ hown (host := "") (Or.inl (wd17 hw)) Via.refl e0 c1 (g := (mkF m 0 #[] [])) rfl (hb hby d2_0)
  refine own_via (S' := T2.setTop (mkF m 3 #[] [(.ref wl)])) st2 ?_
  refine own_ret (Q := Q_own_listof Z wl h0 n0) (C := ({ frames := 0, cells := 0, slots := 0, locals := 0 } : Room).cells) (N := ({ frames := 0, cells := 0, slots := 0, locals := 0 } : Room).slots) X2 (v := some (.ref wl)) (fun h => by rw [Bd.returns] at h; cases h) Bd.notSynchronized ?_ (by decide) (by decide) (fun fs hr => retOut X2 hx Bd.returns rfl (Or.inr (Or.inr (Or.inr (Or.inr ⟨rfl, rfl, rfl⟩)))) (hb hby d2_3) hr)
  show Q_own_listof Z wl h0 n0 _ T2.heap _
  rw [e2]
  exact ⟨rfl, rfl, rfl⟩
def Q_own_listcopy (Z : State) (wl : Addr) (h0 : Heap) (n0 : Nat) (v : Option Value) (h : Heap) (L : List Loc) : Prop := v = some (.ref wl) ∧ L = [] ∧ h = h0
set_option maxRecDepth 65536 in
set_option maxHeartbeats 40000000 in
theorem own_listcopy (l : Launch) (Z : State) (a0 : Array Value) (hw : ∀ d ∈ tables_1, d.before a0 Z = true) (ws : List Jvm.Cond) (wl : Addr) (h0 : Heap) (n0 : Nat) (O0 : Old Z n0 h0) (zf_E_wl : Exa Z Z.heap wl "java/util/ImmutableCollections$ListN") (zf_F_wl_allowNulls : Fld Z Z.heap wl "java/util/ImmutableCollections$ListN" "allowNulls" "Z" (.int (0 : Int32))) :
    MetFree l mt2 (head1 (Jvm.Cond.code mt2 jdk_56_method_3_code 2 (some (.object "java/util/List")) :: ws) ({ frames := 0, cells := 0, slots := 0, locals := 0 } : Room)) (fun aq U => aq = #[(.ref wl)] ∧ Z.Warmed39 U.vm ∧ U.heap = h0) (fun _ _ _ _ _ => True) (fun _ U o U' => ∃ v L, o = .returned v ∧ Q_own_listcopy Z wl h0 n0 v U'.heap L ∧ FrameEnd U o U' L ({ frames := 0, cells := 0, slots := 0, locals := 0 } : Room).cells ({ frames := 0, cells := 0, slots := 0, locals := 0 } : Room).slots) := by
  refine MetFree.of_bodySF (plainFor_of_name pn_java_util_ImmutableCollections) hisR ?_
  intro p e s m args below meth c s₁ Bd hml0 hP hK
  obtain ⟨rfl, hZ, hh⟩ := hP
  have hx := Bd.exec
  have hby := Bd.bytes
  have hml : c.maxLocals = 2 := hml0
  have hown : s.vm.findClass "java/util/ImmutableCollections" = some m.cls := findClass_of_methodNamed Bd.named
  have hnm := (name_of_methodNamed Bd.named Bd.method).1
  have X0 : Stand p l e ({ frames := 0, cells := 0, slots := 0, locals := 0 } : Room) s m #[(.ref wl)] below meth c s₁ [] 0 0 := Stand.of_body Bd
  have e0 : s₁.heap = h0 := by rw [← hh, Bd.state]; rfl
  have N0 := Fr.nil n0
  have zO := O0.1
  have zO2 := O0.2.1
  have zl_E_wl := zf_E_wl.lt
  have zl_F_wl_allowNulls := zf_F_wl_allowNulls.lt
  refine own_open (own_via (S' := s₁.setTop (mkF m 0 #[.val (.ref wl), .unset] [])) (fun t k => castTop (ef_own_listcopy m wl) k) ?_)
  refine own_via (S' := s₁.setTop (mkF m 1 #[.val (.ref wl), .unset] [(.ref wl)])) (fun t k => XS.aloadN X0.here hx rfl (hb hby d7_0) rfl rfl k) ?_
  have c1 : Exa Z h0 wl "java/util/ImmutableCollections$ListN" := zf_E_wl.ext O0.2
  rcases own_inst c1 (wd36 hw) (by rw [← hZ.alike.findClass]; exact hown) with I2 | I2
  · -- instanceof True
    obtain ⟨T2, X2, e2, st2⟩ := instY X0 hx hZ hown (wd36 hw) e0 I2 (g := (mkF m 1 #[.val (.ref wl), .unset] [(.ref wl)])) rfl rfl (hb hby d7_1)
    refine own_via (S' := T2.setTop (mkF m 4 #[.val (.ref wl), .unset] [(.int (1 : Int32))])) st2 ?_
    refine own_via (S' := T2.setTop (mkF m 26 #[.val (.ref wl), .unset] [])) (fun t k => XS.ifYes X2.here hx rfl (pc0 := 4) (pc' := 26) rfl (hb hby d7_4) rfl ((if0 _ _).trans (feq (by decide : ¬ ((1 : Int32) = (0 : Int32)))).2) (by decide) (by decide) k) ?_
    refine own_via (S' := T2.setTop (mkF m 27 #[.val (.ref wl), .unset] [(.ref wl)])) (fun t k => XS.aloadN X2.here hx rfl (hb hby d7_26) rfl rfl k) ?_
    obtain ⟨T3, X3, e3, st3⟩ := castY X2 hx hZ hown (wd46 hw) e2 (Ins.of_exa c1 (wd47 hw)) (g := (mkF m 27 #[.val (.ref wl), .unset] [(.ref wl)])) rfl rfl (hb hby d7_27)
    refine own_via (S' := T3.setTop (mkF m 30 #[.val (.ref wl), .unset] [(.ref wl)])) st3 ?_
    refine own_ret (Q := Q_own_listcopy Z wl h0 n0) (C := ({ frames := 0, cells := 0, slots := 0, locals := 0 } : Room).cells) (N := ({ frames := 0, cells := 0, slots := 0, locals := 0 } : Room).slots) X3 (v := some (.ref wl)) (fun h => by rw [Bd.returns] at h; cases h) Bd.notSynchronized ?_ (by decide) (by decide) (fun fs hr => retOut X3 hx Bd.returns rfl (Or.inr (Or.inr (Or.inr (Or.inr ⟨rfl, rfl, rfl⟩)))) (hb hby d7_30) hr)
    show Q_own_listcopy Z wl h0 n0 _ T3.heap _
    rw [e3]
    exact ⟨rfl, rfl, rfl⟩
  · -- instanceof False
    obtain ⟨T2, X2, e2, st2⟩ := instNo X0 hx hZ hown (wd36 hw) e0 c1 I2 (g := (mkF m 1 #[.val (.ref wl), .unset] [(.ref wl)])) rfl rfl (hb hby d7_1)
    refine own_via (S' := T2.setTop (mkF m 4 #[.val (.ref wl), .unset] [(.int (0 : Int32))])) st2 ?_
    refine own_via (S' := T2.setTop (mkF m 7 #[.val (.ref wl), .unset] [])) (fun t k => XS.ifNo X2.here hx rfl (hb hby d7_4) rfl ((if0 _ _).trans (teq (by decide : (0 : Int32) = (0 : Int32))).2) k) ?_
    refine own_via (S' := T2.setTop (mkF m 8 #[.val (.ref wl), .unset] [(.ref wl)])) (fun t k => XS.aloadN X2.here hx rfl (hb hby d7_7) rfl rfl k) ?_
    obtain ⟨T4, X4, e4, st4⟩ := instY X2 hx hZ hown (wd42 hw) e2 (Ins.self c1) (g := (mkF m 8 #[.val (.ref wl), .unset] [(.ref wl)])) rfl rfl (hb hby d7_8)
    refine own_via (S' := T4.setTop (mkF m 11 #[.val (.ref wl), .unset] [(.int (1 : Int32))])) st4 ?_
    refine own_via (S' := T4.setTop (mkF m 14 #[.val (.ref wl), .unset] [])) (fun t k => XS.ifNo X4.here hx rfl (hb hby d7_11) rfl ((if0 _ _).trans (feq (by decide : ¬ ((1 : Int32) = (0 : Int32)))).1) k) ?_
    refine own_via (S' := T4.setTop (mkF m 15 #[.val (.ref wl), .unset] [(.ref wl)])) (fun t k => XS.aloadN X4.here hx rfl (hb hby d7_14) rfl rfl k) ?_
    obtain ⟨T5, X5, e5, st5⟩ := castY X4 hx hZ hown (wd42 hw) e4 (Ins.self c1) (g := (mkF m 15 #[.val (.ref wl), .unset] [(.ref wl)])) rfl rfl (hb hby d7_15)
    refine own_via (S' := T5.setTop (mkF m 18 #[.val (.ref wl), .unset] [(.ref wl)])) st5 ?_
    refine own_via (S' := T5.setTop (mkF m 19 #[.val (.ref wl), .val (.ref wl)] [])) (fun t k => XS.astoreN X5.here hx rfl (hb hby d7_18) rfl rfl (l' := #[.val (.ref wl), .val (.ref wl)]) rfl k) ?_
    refine own_via (S' := T5.setTop (mkF m 20 #[.val (.ref wl), .val (.ref wl)] [(.ref wl)])) (fun t k => XS.aloadN X5.here hx rfl (hb hby d7_19) rfl rfl k) ?_
    have c6 : Fld Z h0 wl "java/util/ImmutableCollections$ListN" "allowNulls" "Z" (.int (0 : Int32)) := zf_F_wl_allowNulls.ext O0.2
    obtain ⟨T7, X7, e7, st7⟩ := getF X5 hx hZ hown (Or.inr (wd44 hw)) Via.refl e5 c6 (g := (mkF m 20 #[.val (.ref wl), .val (.ref wl)] [(.ref wl)])) rfl rfl (hb hby d7_20)
    refine own_via (S' := T7.setTop (mkF m 23 #[.val (.ref wl), .val (.ref wl)] [(.int (0 : Int32))])) st7 ?_
    refine own_via (S' := T7.setTop (mkF m 26 #[.val (.ref wl), .val (.ref wl)] [])) (fun t k => XS.ifNo X7.here hx rfl (hb hby d7_23) rfl ((if0 _ _).trans (teq (by decide : (0 : Int32) = (0 : Int32))).2) k) ?_
    refine own_via (S' := T7.setTop (mkF m 27 #[.val (.ref wl), .val (.ref wl)] [(.ref wl)])) (fun t k => XS.aloadN X7.here hx rfl (hb hby d7_26) rfl rfl k) ?_
    obtain ⟨T8, X8, e8, st8⟩ := castY X7 hx hZ hown (wd46 hw) e7 (Ins.of_exa c1 (wd47 hw)) (g := (mkF m 27 #[.val (.ref wl), .val (.ref wl)] [(.ref wl)])) rfl rfl (hb hby d7_27)
    refine own_via (S' := T8.setTop (mkF m 30 #[.val (.ref wl), .val (.ref wl)] [(.ref wl)])) st8 ?_
    refine own_ret (Q := Q_own_listcopy Z wl h0 n0) (C := ({ frames := 0, cells := 0, slots := 0, locals := 0 } : Room).cells) (N := ({ frames := 0, cells := 0, slots := 0, locals := 0 } : Room).slots) X8 (v := some (.ref wl)) (fun h => by rw [Bd.returns] at h; cases h) Bd.notSynchronized ?_ (by decide) (by decide) (fun fs hr => retOut X8 hx Bd.returns rfl (Or.inr (Or.inr (Or.inr (Or.inr ⟨rfl, rfl, rfl⟩)))) (hb hby d7_30) hr)
    show Q_own_listcopy Z wl h0 n0 _ T8.heap _
    rw [e8]
    exact ⟨rfl, rfl, rfl⟩
def Q_own_copyof (Z : State) (wl : Addr) (h0 : Heap) (n0 : Nat) (v : Option Value) (h : Heap) (L : List Loc) : Prop := v = some (.ref wl) ∧ L = [] ∧ h = h0
set_option maxRecDepth 65536 in
set_option maxHeartbeats 40000000 in
theorem own_copyof (l : Launch) (Z : State) (a0 : Array Value) (hw : ∀ d ∈ tables_1, d.before a0 Z = true) (ws : List Jvm.Cond) (wl : Addr) (h0 : Heap) (n0 : Nat) (O0 : Old Z n0 h0) (zf_E_wl : Exa Z Z.heap wl "java/util/ImmutableCollections$ListN") (zf_F_wl_allowNulls : Fld Z Z.heap wl "java/util/ImmutableCollections$ListN" "allowNulls" "Z" (.int (0 : Int32))) :
    MetFree l mt3 (head1 (Jvm.Cond.code mt3 jdk_40_method_48_code 1 (some (.object "java/util/List")) :: ws) ({ frames := 1, cells := 0, slots := 0, locals := 13 } : Room)) (fun aq U => aq = #[(.ref wl)] ∧ Z.Warmed39 U.vm ∧ U.heap = h0) (fun _ _ _ _ _ => True) (fun _ U o U' => ∃ v L, o = .returned v ∧ Q_own_copyof Z wl h0 n0 v U'.heap L ∧ FrameEnd U o U' L ({ frames := 1, cells := 0, slots := 0, locals := 13 } : Room).cells ({ frames := 1, cells := 0, slots := 0, locals := 13 } : Room).slots) := by
  refine MetFree.of_bodySF (plainFor_of_name pn_java_util_List) hisR ?_
  intro p e s m args below meth c s₁ Bd hml0 hP hK
  obtain ⟨rfl, hZ, hh⟩ := hP
  have hx := Bd.exec
  have hby := Bd.bytes
  have hml : c.maxLocals = 1 := hml0
  have hown : s.vm.findClass "java/util/List" = some m.cls := findClass_of_methodNamed Bd.named
  have hnm := (name_of_methodNamed Bd.named Bd.method).1
  have X0 : Stand p l e ({ frames := 1, cells := 0, slots := 0, locals := 13 } : Room) s m #[(.ref wl)] below meth c s₁ [] 0 0 := Stand.of_body Bd
  have e0 : s₁.heap = h0 := by rw [← hh, Bd.state]; rfl
  have N0 := Fr.nil n0
  have zO := O0.1
  have zO2 := O0.2.1
  have zl_E_wl := zf_E_wl.lt
  have zl_F_wl_allowNulls := zf_F_wl_allowNulls.lt
  refine own_open (own_via (S' := s₁.setTop (mkF m 0 #[.val (.ref wl)] [])) (fun t k => castTop (ef_own_copyof m wl) k) ?_)
  refine own_via (S' := s₁.setTop (mkF m 1 #[.val (.ref wl)] [(.ref wl)])) (fun t k => XS.aloadN X0.here hx rfl (hb hby d6_0) rfl rfl k) ?_
  obtain ⟨_, _, ⟨T1, L1, k1, n1⟩, -, X1, ⟨Lc1, hQ1, l1, y1, z1⟩, st1⟩ := Jvm.LawKit.callS X0 hx (y := mt2) hown (mvT hZ (wd33 hw)) (mvT hZ (wd34 hw)) (mvT hZ (wd18 hw)) (mvT hZ (wd35 hw)) (by decide) (backOf (W := 0) (own_listcopy l Z a0 hw [] wl h0 n0 O0 zf_E_wl zf_F_wl_allowNulls) hZ (wd35 hw) (wd18 hw) (by decide) (by decide)) (g := (mkF m 1 #[.val (.ref wl)] [(.ref wl)])) rfl (by rw [hml]; rfl) (argsL := [(.ref wl)]) (rest := []) (lenOf pd__Ljava_util_Collection__Ljava_util_List__3715 rfl) rfl (by show 2 * 0 + _ ≤ _; exact Nat.le_of_eq rfl) (hb hby d6_1) (fun _ _ => ⟨rfl, e0, (by decide : 0 + 0 ≤ _), (by decide : 0 + 0 ≤ _)⟩)
  dsimp only [Pt.U, Pt.locs, Pt.cells, Pt.slots] at X1 l1 y1 z1 st1 hQ1
  subst l1 y1 z1
  obtain ⟨rfl, rfl, e1⟩ := hQ1
  try rw [List.append_nil] at X1
  refine own_via (S' := T1.setTop (mkF m 4 #[.val (.ref wl)] [(.ref wl)])) st1 ?_
  refine own_ret (Q := Q_own_copyof Z wl h0 n0) (C := ({ frames := 1, cells := 0, slots := 0, locals := 13 } : Room).cells) (N := ({ frames := 1, cells := 0, slots := 0, locals := 13 } : Room).slots) X1 (v := some (.ref wl)) (fun h => by rw [Bd.returns] at h; cases h) Bd.notSynchronized ?_ (by decide) (by decide) (fun fs hr => retOut X1 hx Bd.returns rfl (Or.inr (Or.inr (Or.inr (Or.inr ⟨rfl, rfl, rfl⟩)))) (hb hby d6_4) hr)
  show Q_own_copyof Z wl h0 n0 _ T1.heap _
  rw [e1]
  exact ⟨rfl, rfl, rfl⟩
def Q_own_tuinit (Z : State) (a : Addr) (w : Addr) (wl : Addr) (r : Int32) (h0 : Heap) (n0 : Nat) (v : Option Value) (h : Heap) (L : List Loc) : Prop := v = none ∧ Fr n0 L ∧ Keep h0 h [a]
set_option maxRecDepth 65536 in
set_option maxHeartbeats 40000000 in
theorem own_tuinit (l : Launch) (Z : State) (a0 : Array Value) (hw : ∀ d ∈ tables_1, d.before a0 Z = true) (ws : List Jvm.Cond) (a : Addr) (w : Addr) (wl : Addr) (r : Int32) (h0 : Heap) (n0 : Nat) (O0 : Old Z n0 h0) (zf_E_wl : Exa Z Z.heap wl "java/util/ImmutableCollections$ListN") (zf_F_wl_allowNulls : Fld Z Z.heap wl "java/util/ImmutableCollections$ListN" "allowNulls" "Z" (.int (0 : Int32))) (f0_E_a : Exa Z h0 a "org/veilroute/service/Tunnel") (f0_F_a_direction : Fld Z h0 a "org/veilroute/service/Tunnel" "direction" "Lorg/veilroute/service/TunnelBuilder$Direction;" .null) (f0_F_a_hops : Fld Z h0 a "org/veilroute/service/Tunnel" "hops" "Ljava/util/List;" .null) (f0_F_a_receiveId : Fld Z h0 a "org/veilroute/service/Tunnel" "receiveId" "I" (.int (0 : Int32))) (g_a : n0 ≤ a) :
    MetFree l mt4 (head1 (Jvm.Cond.code mt4 prog_163_method_1_code 4 none :: ws) ({ frames := 2, cells := 0, slots := 0, locals := 25 } : Room)) (fun aq U => aq = #[(.ref a), (.ref w), (.ref wl), (.int r)] ∧ Z.Warmed39 U.vm ∧ U.heap = h0) (fun _ _ _ _ _ => True) (fun _ U o U' => ∃ v L, o = .returned v ∧ Q_own_tuinit Z a w wl r h0 n0 v U'.heap L ∧ FrameEnd U o U' L ({ frames := 2, cells := 0, slots := 0, locals := 25 } : Room).cells ({ frames := 2, cells := 0, slots := 0, locals := 25 } : Room).slots) := by
  refine MetFree.of_bodySF (plainFor_of_name pn_org_veilroute_service_Tunnel) hisR ?_
  intro p e s m args below meth c s₁ Bd hml0 hP hK
  obtain ⟨rfl, hZ, hh⟩ := hP
  have hx := Bd.exec
  have hby := Bd.bytes
  have hml : c.maxLocals = 4 := hml0
  have hown : s.vm.findClass "org/veilroute/service/Tunnel" = some m.cls := findClass_of_methodNamed Bd.named
  have hnm := (name_of_methodNamed Bd.named Bd.method).1
  have X0 : Stand p l e ({ frames := 2, cells := 0, slots := 0, locals := 25 } : Room) s m #[(.ref a), (.ref w), (.ref wl), (.int r)] below meth c s₁ [] 0 0 := Stand.of_body Bd
  have e0 : s₁.heap = h0 := by rw [← hh, Bd.state]; rfl
  have N0 := Fr.nil n0
  have zO := O0.1
  have zO2 := O0.2.1
  have zl_E_wl := zf_E_wl.lt
  have zl_F_wl_allowNulls := zf_F_wl_allowNulls.lt
  have fl_E_a := f0_E_a.lt
  have fl_F_a_direction := f0_F_a_direction.lt
  have fl_F_a_hops := f0_F_a_hops.lt
  have fl_F_a_receiveId := f0_F_a_receiveId.lt
  refine own_open (own_via (S' := s₁.setTop (mkF m 0 #[.val (.ref a), .val (.ref w), .val (.ref wl), .val (.int r)] [])) (fun t k => castTop (ef_own_tuinit m a w wl r) k) ?_)
  have K0 : Keep h0 h0 [a] := Keep.refl _ _
  refine own_via (S' := s₁.setTop (mkF m 1 #[.val (.ref a), .val (.ref w), .val (.ref wl), .val (.int r)] [(.ref a)])) (fun t k => XS.aloadN X0.here hx rfl (hb hby d3_0) rfl rfl k) ?_
  obtain ⟨_, _, ⟨T1, L1, k1, n1⟩, -, X1, ⟨Lc1, hQ1, l1, y1, z1⟩, st1⟩ := X0.specialBack hx (y := mt0) rfl hown (mvT hZ (wd22 hw)) (mvT hZ (wd23 hw)) (mvT hZ (wd26 hw)) (by decide) (backOf (W := 0) (own_rec l Z a0 hw [] a h0 n0 O0) hZ (wd26 hw) (wd25 hw) (by decide) (by decide)) (g := (mkF m 1 #[.val (.ref a), .val (.ref w), .val (.ref wl), .val (.int r)] [(.ref a)])) rfl (by rw [hml]; rfl) (Steps.refl _) (a := a) (argsL := []) (rest := []) (lenOf pd___V_167 rfl) rfl (by show 2 * 0 + _ ≤ _; exact Nat.le_of_eq rfl) (hb hby d3_1) (fun _ _ => ⟨rfl, e0, (by decide : 0 + 0 ≤ _), (by decide : 0 + 0 ≤ _)⟩)
  dsimp only [Pt.U, Pt.locs, Pt.cells, Pt.slots] at X1 l1 y1 z1 st1 hQ1
  subst l1 y1 z1
  obtain ⟨rfl, rfl, e1⟩ := hQ1
  try rw [List.append_nil] at X1
  refine own_tr (S' := T1.setTop (mkF m 4 #[.val (.ref a), .val (.ref w), .val (.ref wl), .val (.int r)] [])) st1 ?_
  refine own_via (S' := T1.setTop (mkF m 5 #[.val (.ref a), .val (.ref w), .val (.ref wl), .val (.int r)] [(.ref wl)])) (fun t k => XS.aloadN X1.here hx rfl (hb hby d3_4) rfl rfl k) ?_
  obtain ⟨_, _, ⟨T2, L2, k2, n2⟩, -, X2, ⟨Lc2, hQ2, l2, y2, z2⟩, st2⟩ := Jvm.LawKit.callS X1 hx (y := mt3) hown (mvT hZ (wd30 hw)) (mvT hZ (wd31 hw)) (mvT hZ (wd15 hw)) (mvT hZ (wd32 hw)) (by decide) (backOf (W := 0) (own_copyof l Z a0 hw [] wl h0 n0 O0 zf_E_wl zf_F_wl_allowNulls) hZ (wd32 hw) (wd15 hw) (by decide) (by decide)) (g := (mkF m 5 #[.val (.ref a), .val (.ref w), .val (.ref wl), .val (.int r)] [(.ref wl)])) rfl (by rw [hml]; rfl) (argsL := [(.ref wl)]) (rest := []) (lenOf pd__Ljava_util_Collection__Ljava_util_List__3715 rfl) rfl (by show 2 * 0 + _ ≤ _; exact Nat.le_of_eq rfl) (hb hby d3_5) (fun _ _ => ⟨rfl, e1, (by decide : 0 + 0 ≤ _), (by decide : 0 + 0 ≤ _)⟩)
  dsimp only [Pt.U, Pt.locs, Pt.cells, Pt.slots] at X2 l2 y2 z2 st2 hQ2
  subst l2 y2 z2
  obtain ⟨rfl, rfl, e2⟩ := hQ2
  try rw [List.append_nil] at X2
  refine own_via (S' := T2.setTop (mkF m 8 #[.val (.ref a), .val (.ref w), .val (.ref wl), .val (.int r)] [(.ref wl)])) st2 ?_
  refine own_via (S' := T2.setTop (mkF m 9 #[.val (.ref a), .val (.ref w), .val (.ref wl), .val (.int r)] [])) (fun t k => XS.astoreN X2.here hx rfl (hb hby d3_8) rfl rfl (l' := #[.val (.ref a), .val (.ref w), .val (.ref wl), .val (.int r)]) rfl k) ?_
  refine own_via (S' := T2.setTop (mkF m 10 #[.val (.ref a), .val (.ref w), .val (.ref wl), .val (.int r)] [(.ref a)])) (fun t k => XS.aloadN X2.here hx rfl (hb hby d3_9) rfl rfl k) ?_
  refine own_via (S' := T2.setTop (mkF m 11 #[.val (.ref a), .val (.ref w), .val (.ref wl), .val (.int r)] [(.ref w), (.ref a)])) (fun t k => XS.aloadN X2.here hx rfl (hb hby d3_10) rfl rfl k) ?_
  obtain ⟨T3, h3, X3, e3, W3, st3⟩ := putF X2 hx hZ hown (host := "") (Or.inl (wd48 hw)) Via.refl e2 f0_F_a_direction f0_E_a (Or.inr ⟨(wd49 hw), rfl, hnm⟩) (wd9 hw) (ty := (.object "org/veilroute/service/TunnelBuilder$Direction")) (by decide) rfl rfl (g := (mkF m 11 #[.val (.ref a), .val (.ref w), .val (.ref wl), .val (.int r)] [(.ref w), (.ref a)])) rfl rfl (hb hby d3_11)
  have sz4 : h0.size ≤ h3.size := Nat.le_of_eq W3.size.symm
  have O5 : Old Z n0 h3 := O0.wr W3 (by omega : n0 ≤ a)
  have N3 := Fr.snoc X3 N0 (by omega : n0 ≤ a)
  have K6 : Keep h0 h3 [a] := K0.wr W3 (Or.inl (List.mem_of_getElem? (i := 0) rfl))
  have Fw3 : Fld Z h3 a "org/veilroute/service/Tunnel" "direction" "Lorg/veilroute/service/TunnelBuilder$Direction;" (.ref w) := Fld.same W3 f0_F_a_direction
  refine own_via (S' := T3.setTop (mkF m 14 #[.val (.ref a), .val (.ref w), .val (.ref wl), .val (.int r)] [])) st3 ?_
  refine own_via (S' := T3.setTop (mkF m 15 #[.val (.ref a), .val (.ref w), .val (.ref wl), .val (.int r)] [(.ref a)])) (fun t k => XS.aloadN X3.here hx rfl (hb hby d3_14) rfl rfl k) ?_
  refine own_via (S' := T3.setTop (mkF m 16 #[.val (.ref a), .val (.ref w), .val (.ref wl), .val (.int r)] [(.ref wl), (.ref a)])) (fun t k => XS.aloadN X3.here hx rfl (hb hby d3_15) rfl rfl k) ?_
  have c7 : Exa Z h3 a "org/veilroute/service/Tunnel" := (Exa.wr W3 f0_E_a)
  have c8 : Fld Z h3 a "org/veilroute/service/Tunnel" "hops" "Ljava/util/List;" .null := (Fld.other W3 f0_F_a_hops (Or.inr (slot_ne (Or.inr (wd51 hw)) (Or.inr (wd49 hw)) (by decide) (t := (.object "java/util/List")) (t' := (.object "org/veilroute/service/TunnelBuilder$Direction")) (by decide) (by decide))))
  obtain ⟨T9, h9, X9, e9, W9, st9⟩ := putF X3 hx hZ hown (host := "") (Or.inl (wd50 hw)) Via.refl e3 c8 c7 (Or.inr ⟨(wd51 hw), rfl, hnm⟩) (wd9 hw) (ty := (.object "java/util/List")) (by decide) rfl rfl (g := (mkF m 16 #[.val (.ref a), .val (.ref w), .val (.ref wl), .val (.int r)] [(.ref wl), (.ref a)])) rfl rfl (hb hby d3_16)
  have sz10 : h3.size ≤ h9.size := Nat.le_of_eq W9.size.symm
  have O11 : Old Z n0 h9 := O5.wr W9 (by omega : n0 ≤ a)
  have N9 := Fr.snoc X9 N3 (by omega : n0 ≤ a)
  have K12 : Keep h0 h9 [a] := K6.wr W9 (Or.inl (List.mem_of_getElem? (i := 0) rfl))
  have Fw9 : Fld Z h9 a "org/veilroute/service/Tunnel" "hops" "Ljava/util/List;" (.ref wl) := Fld.same W9 c8
  refine own_via (S' := T9.setTop (mkF m 19 #[.val (.ref a), .val (.ref w), .val (.ref wl), .val (.int r)] [])) st9 ?_
  refine own_via (S' := T9.setTop (mkF m 20 #[.val (.ref a), .val (.ref w), .val (.ref wl), .val (.int r)] [(.ref a)])) (fun t k => XS.aloadN X9.here hx rfl (hb hby d3_19) rfl rfl k) ?_
  refine own_via (S' := T9.setTop (mkF m 21 #[.val (.ref a), .val (.ref w), .val (.ref wl), .val (.int r)] [(.int r), (.ref a)])) (fun t k => XS.iloadN X9.here hx rfl (hb hby d3_20) rfl k) ?_
  have c13 : Exa Z h9 a "org/veilroute/service/Tunnel" := (Exa.wr W9 c7)
  have c14 : Fld Z h9 a "org/veilroute/service/Tunnel" "receiveId" "I" (.int (0 : Int32)) := (Fld.other W9 (Fld.other W3 f0_F_a_receiveId (Or.inr (slot_ne (Or.inr (wd53 hw)) (Or.inr (wd49 hw)) (by decide) (t := .int) (t' := (.object "org/veilroute/service/TunnelBuilder$Direction")) (by decide) (by decide)))) (Or.inr (slot_ne (Or.inr (wd53 hw)) (Or.inr (wd51 hw)) (by decide) (t := .int) (t' := (.object "java/util/List")) (by decide) (by decide))))
  obtain ⟨T15, h15, X15, e15, W15, st15⟩ := putF X9 hx hZ hown (host := "") (Or.inl (wd52 hw)) Via.refl e9 c14 c13 (Or.inr ⟨(wd53 hw), rfl, hnm⟩) (wd9 hw) (ty := .int) (by decide) rfl rfl (g := (mkF m 21 #[.val (.ref a), .val (.ref w), .val (.ref wl), .val (.int r)] [(.int r), (.ref a)])) rfl rfl (hb hby d3_21)
  have sz16 : h9.size ≤ h15.size := Nat.le_of_eq W15.size.symm
  have O17 : Old Z n0 h15 := O11.wr W15 (by omega : n0 ≤ a)
  have N15 := Fr.snoc X15 N9 (by omega : n0 ≤ a)
  have K18 : Keep h0 h15 [a] := K12.wr W15 (Or.inl (List.mem_of_getElem? (i := 0) rfl))
  have Fw15 : Fld Z h15 a "org/veilroute/service/Tunnel" "receiveId" "I" (.int r) := Fld.same W15 c14
  refine own_via (S' := T15.setTop (mkF m 24 #[.val (.ref a), .val (.ref w), .val (.ref wl), .val (.int r)] [])) st15 ?_
  refine own_ret (Q := Q_own_tuinit Z a w wl r h0 n0) (C := ({ frames := 2, cells := 0, slots := 0, locals := 25 } : Room).cells) (N := ({ frames := 2, cells := 0, slots := 0, locals := 25 } : Room).slots) X15 (v := none) (fun _ => rfl) Bd.notSynchronized ?_ (by decide) (by decide) (fun fs hr => X15.returnOut hx Bd.returns (hb hby d3_24) hr)
  show Q_own_tuinit Z a w wl r h0 n0 _ T15.heap _
  rw [e15]
  exact ⟨rfl, N15, K18⟩
def Q_own_zero (Z : State) (w : Addr) (wl : Addr) (h0 : Heap) (n0 : Nat) (v : Option Value) (h : Heap) (L : List Loc) : Prop := ∃ b : Addr, v = some (.ref b) ∧ Fr n0 L ∧ Keep h0 h [] ∧ Exa Z h b "org/veilroute/service/Tunnel"
set_option maxRecDepth 65536 in
set_option maxHeartbeats 40000000 in
theorem own_zero (l : Launch) (Z : State) (a0 : Array Value) (hw : ∀ d ∈ tables_1, d.before a0 Z = true) (ws : List Jvm.Cond) (w : Addr) (wl : Addr) (h0 : Heap) (n0 : Nat) (O0 : Old Z n0 h0) (zf_S_org_veilroute_service_TunnelBuilder_Direction_OUTBOUND : Sta Z Z.heap "org/veilroute/service/TunnelBuilder$Direction" "OUTBOUND" "Lorg/veilroute/service/TunnelBuilder$Direction;" (.ref w)) (zf_S_java_util_ImmutableCollections_EMPTY_LIST : Sta Z Z.heap "java/util/ImmutableCollections" "EMPTY_LIST" "Ljava/util/ImmutableCollections$ListN;" (.ref wl)) (zf_E_wl : Exa Z Z.heap wl "java/util/ImmutableCollections$ListN") (zf_F_wl_allowNulls : Fld Z Z.heap wl "java/util/ImmutableCollections$ListN" "allowNulls" "Z" (.int (0 : Int32))) :
    MetFree l mt5 (head1 (Jvm.Cond.code mt5 prog_163_method_3_code 0 (some (.object "org/veilroute/service/Tunnel")) :: ws) ({ frames := 3, cells := 1, slots := 3, locals := 41 } : Room)) (fun aq U => aq = #[] ∧ Z.Warmed39 U.vm ∧ U.heap = h0) (fun _ _ _ _ _ => True) (fun _ U o U' => ∃ v L, o = .returned v ∧ Q_own_zero Z w wl h0 n0 v U'.heap L ∧ FrameEnd U o U' L ({ frames := 3, cells := 1, slots := 3, locals := 41 } : Room).cells ({ frames := 3, cells := 1, slots := 3, locals := 41 } : Room).slots) := by
  refine MetFree.of_bodySF (plainFor_of_name pn_org_veilroute_service_Tunnel) hisR ?_
  intro p e s m args below meth c s₁ Bd hml0 hP hK
  obtain ⟨rfl, hZ, hh⟩ := hP
  have hx := Bd.exec
  have hby := Bd.bytes
  have hml : c.maxLocals = 0 := hml0
  have hown : s.vm.findClass "org/veilroute/service/Tunnel" = some m.cls := findClass_of_methodNamed Bd.named
  have hnm := (name_of_methodNamed Bd.named Bd.method).1
  have X0 : Stand p l e ({ frames := 3, cells := 1, slots := 3, locals := 41 } : Room) s m #[] below meth c s₁ [] 0 0 := Stand.of_body Bd
  have e0 : s₁.heap = h0 := by rw [← hh, Bd.state]; rfl
  have N0 := Fr.nil n0
  have zO := O0.1
  have zO2 := O0.2.1
  have zl_E_wl := zf_E_wl.lt
  have zl_F_wl_allowNulls := zf_F_wl_allowNulls.lt
  refine own_open (own_via (S' := s₁.setTop (mkF m 0 #[] [])) (fun t k => castTop (ef_own_zero m ) k) ?_)
  have K0 : Keep h0 h0 [] := Keep.refl _ _
  obtain ⟨T1, h1, X1, e1, E1, A1, D1, -, st1⟩ := newO X0 hx hZ hown (wd8 hw) (wd9 hw) (wd6 hw) e0 (g := (mkF m 0 #[] [])) rfl (hb hby d1_0) (by decide) (by decide)
  obtain ⟨b1, g1⟩ : ∃ z, z = h0.size := ⟨_, rfl⟩
  rw [← g1] at A1 D1 st1
  have lt_b1 : b1 < h1.size := A1.lt
  have sz2 : h0.size ≤ h1.size := E1.1
  have O3 : Old Z n0 h1 := O0.ext E1
  have K4 : Keep h0 h1 [] := K0.ext E1
  have F1_direction : Fld Z h1 b1 "org/veilroute/service/Tunnel" "direction" "Lorg/veilroute/service/TunnelBuilder$Direction;" .null := D1 (Or.inr (wd49 hw)) (ty := (.object "org/veilroute/service/TunnelBuilder$Direction")) (by decide)
  have F1_hops : Fld Z h1 b1 "org/veilroute/service/Tunnel" "hops" "Ljava/util/List;" .null := D1 (Or.inr (wd51 hw)) (ty := (.object "java/util/List")) (by decide)
  have F1_receiveId : Fld Z h1 b1 "org/veilroute/service/Tunnel" "receiveId" "I" (.int (0 : Int32)) := D1 (Or.inr (wd53 hw)) (ty := .int) (by decide)
  refine own_via (S' := T1.setTop (mkF m 3 #[] [(.ref b1)])) st1 ?_
  refine own_via (S' := T1.setTop (mkF m 4 #[] [(.ref b1), (.ref b1)])) (fun t k => XS.dup X1.here hx rfl (hb hby d1_3) rfl rfl k) ?_
  have c5 : Sta Z h1 "org/veilroute/service/TunnelBuilder$Direction" "OUTBOUND" "Lorg/veilroute/service/TunnelBuilder$Direction;" (.ref w) := zf_S_org_veilroute_service_TunnelBuilder_Direction_OUTBOUND.ext O3.2
  obtain ⟨T6, X6, e6, st6⟩ := getS2 X1 hx hZ hown (host := "") (Or.inl (wd10 hw)) Via.refl e1 c5 (g := (mkF m 4 #[] [(.ref b1), (.ref b1)])) rfl (hb hby d1_4)
  refine own_via (S' := T6.setTop (mkF m 7 #[] [(.ref w), (.ref b1), (.ref b1)])) st6 ?_
  obtain ⟨_, _, ⟨T7, L7, k7, n7⟩, -, X7, ⟨Lc7, hQ7, l7, y7, z7⟩, st7⟩ := Jvm.LawKit.callS X6 hx (y := mt1) hown (mvT hZ (wd13 hw)) (mvT hZ (wd14 hw)) (mvT hZ (wd15 hw)) (mvT hZ (wd16 hw)) (by decide) (backOf (W := 3) (own_listof l Z a0 hw [] wl h1 n0 O3 zf_S_java_util_ImmutableCollections_EMPTY_LIST) hZ (wd16 hw) (wd15 hw) (by decide) (by decide)) (g := (mkF m 7 #[] [(.ref w), (.ref b1), (.ref b1)])) rfl (by rw [hml]; rfl) (argsL := []) (rest := [(.ref w), (.ref b1), (.ref b1)]) (lenOf pd___Ljava_util_List__1586 rfl) rfl (by show 2 * 0 + _ ≤ _; exact Nat.le_of_eq rfl) (hb hby d1_7) (fun _ _ => ⟨rfl, e6, (by decide : 1 + 0 ≤ _), (by decide : 3 + 0 ≤ _)⟩)
  dsimp only [Pt.U, Pt.locs, Pt.cells, Pt.slots] at X7 l7 y7 z7 st7 hQ7
  subst l7 y7 z7
  obtain ⟨rfl, rfl, e7⟩ := hQ7
  try rw [List.append_nil] at X7
  refine own_via (S' := T7.setTop (mkF m 10 #[] [(.ref wl), (.ref w), (.ref b1), (.ref b1)])) st7 ?_
  refine own_via (S' := T7.setTop (mkF m 11 #[] [(.int (0 : Int32)), (.ref wl), (.ref w), (.ref b1), (.ref b1)])) (fun t k => XS.iconst X7.here hx rfl (hb hby d1_10) k) ?_
  obtain ⟨_, _, ⟨T8, L8, k8, n8⟩, -, X8, ⟨Lc8, hQ8, l8, y8, z8⟩, st8⟩ := X7.specialBack hx (y := mt4) rfl hown (mvT hZ (wd19 hw)) (mvT hZ (wd20 hw)) (mvT hZ (wd21 hw)) (by decide) (backOf (W := 1) (own_tuinit l Z a0 hw [] b1 w wl (0 : Int32) h1 n0 O3 zf_E_wl zf_F_wl_allowNulls A1 F1_direction F1_hops F1_receiveId (by first | assumption | exact Ne.symm (by assumption) | omega | decide)) hZ (wd21 hw) (wd6 hw) (by decide) (by decide)) (g := (mkF m 11 #[] [(.int (0 : Int32)), (.ref wl), (.ref w), (.ref b1), (.ref b1)])) rfl (by rw [hml]; rfl) (Steps.refl _) (a := b1) (argsL := [(.ref w), (.ref wl), (.int (0 : Int32))]) (rest := [(.ref b1)]) (lenOf pd__Lorg_veilroute_service_TunnelBuilder_Direction_Ljava_util_List_I_V_6399 rfl) rfl (by show 2 * 0 + _ ≤ _; exact Nat.le_of_eq rfl) (hb hby d1_11) (fun _ _ => ⟨rfl, e7, (by decide : 1 + 0 ≤ _), (by decide : 3 + 0 ≤ _)⟩)
  dsimp only [Pt.U, Pt.locs, Pt.cells, Pt.slots] at X8 l8 y8 z8 st8 hQ8
  subst l8 y8 z8
  obtain ⟨rfl, N8q, K8q⟩ := hQ8
  have N8 := Fr.app N0 N8q
  have sz9 : h1.size ≤ T8.heap.size := K8q.1
  have O10 : Old Z n0 T8.heap := O3.keep K8q (allS (by omega : n0 ≤ b1) all0)
  have K11 : Keep h0 T8.heap [] := K4.trans K8q (allS (P := fun x => x ∈ [] ∨ h0.size ≤ x) (Or.inr (by omega)) all0)
  refine own_tr (S' := T8.setTop (mkF m 14 #[] [(.ref b1)])) st8 ?_
  have c12 : Exa Z T8.heap b1 "org/veilroute/service/Tunnel" := (A1.keep K8q)
  refine own_ret (Q := Q_own_zero Z w wl h0 n0) (C := ({ frames := 3, cells := 1, slots := 3, locals := 41 } : Room).cells) (N := ({ frames := 3, cells := 1, slots := 3, locals := 41 } : Room).slots) X8 (v := some (.ref b1)) (fun h => by rw [Bd.returns] at h; cases h) Bd.notSynchronized ?_ (by decide) (by decide) (fun fs hr => retOut X8 hx Bd.returns rfl (Or.inr (Or.inr (Or.inr (Or.inr ⟨rfl, rfl, rfl⟩)))) (hb hby d1_14) hr)
  show Q_own_zero Z w wl h0 n0 _ T8.heap _
  exact ⟨b1, rfl, N8, K11, c12⟩
def Q_own_sdinit (Z : State) (a : Addr) (tn : Addr) (q : Int64) (r : Int64) (h0 : Heap) (n0 : Nat) (v : Option Value) (h : Heap) (L : List Loc) : Prop := v = none ∧ Fr n0 L ∧ Keep h0 h [a] ∧ Fld Z h a "org/veilroute/service/TunnelPool$Standing" "end" "J" (.long q) ∧ Fld Z h a "org/veilroute/service/TunnelPool$Standing" "provenAfter" "J" (.long r) ∧ Fld Z h a "org/veilroute/service/TunnelPool$Standing" "failedTests" "I" (.int (0 : Int32))
set_option maxRecDepth 65536 in
set_option maxHeartbeats 40000000 in
theorem own_sdinit (l : Launch) (Z : State) (a0 : Array Value) (hw : ∀ d ∈ tables_1, d.before a0 Z = true) (ws : List Jvm.Cond) (a : Addr) (tn : Addr) (q : Int64) (r : Int64) (h0 : Heap) (n0 : Nat) (O0 : Old Z n0 h0) (f0_E_a : Exa Z h0 a "org/veilroute/service/TunnelPool$Standing") (f0_F_a_tunnel : Fld Z h0 a "org/veilroute/service/TunnelPool$Standing" "tunnel" "Lorg/veilroute/service/Tunnel;" .null) (f0_F_a_end : Fld Z h0 a "org/veilroute/service/TunnelPool$Standing" "end" "J" (.long (0 : Int64))) (f0_F_a_provenAfter : Fld Z h0 a "org/veilroute/service/TunnelPool$Standing" "provenAfter" "J" (.long (0 : Int64))) (f0_F_a_failedTests : Fld Z h0 a "org/veilroute/service/TunnelPool$Standing" "failedTests" "I" (.int (0 : Int32))) (g_a : n0 ≤ a) :
    MetFree l mt6 (head1 (Jvm.Cond.code mt6 prog_176_method_1_code 6 none :: ws) ({ frames := 1, cells := 0, slots := 0, locals := 12 } : Room)) (fun aq U => aq = #[(.ref a), (.ref tn), (.long q), (.long r)] ∧ Z.Warmed39 U.vm ∧ U.heap = h0) (fun _ _ _ _ _ => True) (fun _ U o U' => ∃ v L, o = .returned v ∧ Q_own_sdinit Z a tn q r h0 n0 v U'.heap L ∧ FrameEnd U o U' L ({ frames := 1, cells := 0, slots := 0, locals := 12 } : Room).cells ({ frames := 1, cells := 0, slots := 0, locals := 12 } : Room).slots) := by
  refine MetFree.of_bodySF (plainFor_of_name pn_org_veilroute_service_TunnelPool_Standing) hisR ?_
  intro p e s m args below meth c s₁ Bd hml0 hP hK
  obtain ⟨rfl, hZ, hh⟩ := hP
  have hx := Bd.exec
  have hby := Bd.bytes
  have hml : c.maxLocals = 6 := hml0
  have hown : s.vm.findClass "org/veilroute/service/TunnelPool$Standing" = some m.cls := findClass_of_methodNamed Bd.named
  have hnm := (name_of_methodNamed Bd.named Bd.method).1
  have X0 : Stand p l e ({ frames := 1, cells := 0, slots := 0, locals := 12 } : Room) s m #[(.ref a), (.ref tn), (.long q), (.long r)] below meth c s₁ [] 0 0 := Stand.of_body Bd
  have e0 : s₁.heap = h0 := by rw [← hh, Bd.state]; rfl
  have N0 := Fr.nil n0
  have zO := O0.1
  have zO2 := O0.2.1
  have fl_E_a := f0_E_a.lt
  have fl_F_a_tunnel := f0_F_a_tunnel.lt
  have fl_F_a_end := f0_F_a_end.lt
  have fl_F_a_provenAfter := f0_F_a_provenAfter.lt
  have fl_F_a_failedTests := f0_F_a_failedTests.lt
  refine own_open (own_via (S' := s₁.setTop (mkF m 0 #[.val (.ref a), .val (.ref tn), .val (.long q), .second, .val (.long r), .second] [])) (fun t k => castTop (ef_own_sdinit m a tn q r) k) ?_)
  have K0 : Keep h0 h0 [a] := Keep.refl _ _
  refine own_via (S' := s₁.setTop (mkF m 1 #[.val (.ref a), .val (.ref tn), .val (.long q), .second, .val (.long r), .second] [(.ref a)])) (fun t k => XS.aloadN X0.here hx rfl (hb hby d8_0) rfl rfl k) ?_
  obtain ⟨T1, X1, e1, st1⟩ := initO X0 hx hZ hown (wd57 hw) (wd28 hw) (wd29 hw) e0 (g := (mkF m 1 #[.val (.ref a), .val (.ref tn), .val (.long q), .second, .val (.long r), .second] [(.ref a)])) rfl (by rw [hml]; rfl) rfl (hb hby d8_1) (by decide) (W := 0) (by show 2 * 0 + _ ≤ _; exact Nat.le_of_eq rfl) (by decide)
  refine own_via (S' := T1.setTop (mkF m 4 #[.val (.ref a), .val (.ref tn), .val (.long q), .second, .val (.long r), .second] [])) st1 ?_
  refine own_via (S' := T1.setTop (mkF m 5 #[.val (.ref a), .val (.ref tn), .val (.long q), .second, .val (.long r), .second] [(.ref a)])) (fun t k => XS.aloadN X1.here hx rfl (hb hby d8_4) rfl rfl k) ?_
  refine own_via (S' := T1.setTop (mkF m 6 #[.val (.ref a), .val (.ref tn), .val (.long q), .second, .val (.long r), .second] [(.ref tn), (.ref a)])) (fun t k => XS.aloadN X1.here hx rfl (hb hby d8_5) rfl rfl k) ?_
  obtain ⟨T2, h2, X2, e2, W2, st2⟩ := putF X1 hx hZ hown (host := "") (Or.inl (wd58 hw)) Via.refl e1 f0_F_a_tunnel f0_E_a (Or.inr ⟨(wd59 hw), rfl, hnm⟩) (wd2 hw) (ty := (.object "org/veilroute/service/Tunnel")) (by decide) rfl rfl (g := (mkF m 6 #[.val (.ref a), .val (.ref tn), .val (.long q), .second, .val (.long r), .second] [(.ref tn), (.ref a)])) rfl rfl (hb hby d8_6)
  have sz3 : h0.size ≤ h2.size := Nat.le_of_eq W2.size.symm
  have O4 : Old Z n0 h2 := O0.wr W2 (by omega : n0 ≤ a)
  have N2 := Fr.snoc X2 N0 (by omega : n0 ≤ a)
  have K5 : Keep h0 h2 [a] := K0.wr W2 (Or.inl (List.mem_of_getElem? (i := 0) rfl))
  have Fw2 : Fld Z h2 a "org/veilroute/service/TunnelPool$Standing" "tunnel" "Lorg/veilroute/service/Tunnel;" (.ref tn) := Fld.same W2 f0_F_a_tunnel
  refine own_via (S' := T2.setTop (mkF m 9 #[.val (.ref a), .val (.ref tn), .val (.long q), .second, .val (.long r), .second] [])) st2 ?_
  refine own_via (S' := T2.setTop (mkF m 10 #[.val (.ref a), .val (.ref tn), .val (.long q), .second, .val (.long r), .second] [(.ref a)])) (fun t k => XS.aloadN X2.here hx rfl (hb hby d8_9) rfl rfl k) ?_
  refine own_via (S' := T2.setTop (mkF m 11 #[.val (.ref a), .val (.ref tn), .val (.long q), .second, .val (.long r), .second] [(.long q), (.ref a)])) (fun t k => XS.lloadN X2.here hx rfl (hb hby d8_10) rfl k) ?_
  have c6 : Exa Z h2 a "org/veilroute/service/TunnelPool$Standing" := (Exa.wr W2 f0_E_a)
  have c7 : Fld Z h2 a "org/veilroute/service/TunnelPool$Standing" "end" "J" (.long (0 : Int64)) := (Fld.other W2 f0_F_a_end (Or.inr (slot_ne (Or.inr (wd61 hw)) (Or.inr (wd59 hw)) (by decide) (t := .long) (t' := (.object "org/veilroute/service/Tunnel")) (by decide) (by decide))))
  obtain ⟨T8, h8, X8, e8, W8, st8⟩ := putF X2 hx hZ hown (host := "") (Or.inl (wd60 hw)) Via.refl e2 c7 c6 (Or.inr ⟨(wd61 hw), rfl, hnm⟩) (wd2 hw) (ty := .long) (by decide) rfl rfl (g := (mkF m 11 #[.val (.ref a), .val (.ref tn), .val (.long q), .second, .val (.long r), .second] [(.long q), (.ref a)])) rfl rfl (hb hby d8_11)
  have sz9 : h2.size ≤ h8.size := Nat.le_of_eq W8.size.symm
  have O10 : Old Z n0 h8 := O4.wr W8 (by omega : n0 ≤ a)
  have N8 := Fr.snoc X8 N2 (by omega : n0 ≤ a)
  have K11 : Keep h0 h8 [a] := K5.wr W8 (Or.inl (List.mem_of_getElem? (i := 0) rfl))
  have Fw8 : Fld Z h8 a "org/veilroute/service/TunnelPool$Standing" "end" "J" (.long q) := Fld.same W8 c7
  refine own_via (S' := T8.setTop (mkF m 14 #[.val (.ref a), .val (.ref tn), .val (.long q), .second, .val (.long r), .second] [])) st8 ?_
  refine own_via (S' := T8.setTop (mkF m 15 #[.val (.ref a), .val (.ref tn), .val (.long q), .second, .val (.long r), .second] [(.ref a)])) (fun t k => XS.aloadN X8.here hx rfl (hb hby d8_14) rfl rfl k) ?_
  refine own_via (S' := T8.setTop (mkF m 17 #[.val (.ref a), .val (.ref tn), .val (.long q), .second, .val (.long r), .second] [(.long r), (.ref a)])) (fun t k => XS.lload X8.here hx rfl (hb hby d8_15) rfl k) ?_
  have c12 : Exa Z h8 a "org/veilroute/service/TunnelPool$Standing" := (Exa.wr W8 c6)
  have c13 : Fld Z h8 a "org/veilroute/service/TunnelPool$Standing" "provenAfter" "J" (.long (0 : Int64)) := (Fld.other W8 (Fld.other W2 f0_F_a_provenAfter (Or.inr (slot_ne (Or.inl (wd63 hw)) (Or.inr (wd59 hw)) (by decide) (t := .long) (t' := (.object "org/veilroute/service/Tunnel")) (by decide) (by decide)))) (Or.inr (slot_ne (Or.inl (wd63 hw)) (Or.inr (wd61 hw)) (by decide) (t := .long) (t' := .long) (by decide) (by decide))))
  obtain ⟨T14, h14, X14, e14, W14, st14⟩ := putF X8 hx hZ hown (host := "") (Or.inl (wd62 hw)) Via.refl e8 c13 c12 (Or.inl (wd63 hw)) (wd2 hw) (ty := .long) (by decide) rfl rfl (g := (mkF m 17 #[.val (.ref a), .val (.ref tn), .val (.long q), .second, .val (.long r), .second] [(.long r), (.ref a)])) rfl rfl (hb hby d8_17)
  have sz15 : h8.size ≤ h14.size := Nat.le_of_eq W14.size.symm
  have O16 : Old Z n0 h14 := O10.wr W14 (by omega : n0 ≤ a)
  have N14 := Fr.snoc X14 N8 (by omega : n0 ≤ a)
  have K17 : Keep h0 h14 [a] := K11.wr W14 (Or.inl (List.mem_of_getElem? (i := 0) rfl))
  have Fw14 : Fld Z h14 a "org/veilroute/service/TunnelPool$Standing" "provenAfter" "J" (.long r) := Fld.same W14 c13
  refine own_via (S' := T14.setTop (mkF m 20 #[.val (.ref a), .val (.ref tn), .val (.long q), .second, .val (.long r), .second] [])) st14 ?_
  have c18 : Fld Z h14 a "org/veilroute/service/TunnelPool$Standing" "end" "J" (.long q) := (Fld.other W14 Fw8 (Or.inr (slot_ne (Or.inr (wd61 hw)) (Or.inl (wd63 hw)) (by decide) (t := .long) (t' := .long) (by decide) (by decide))))
  have c19 : Fld Z h14 a "org/veilroute/service/TunnelPool$Standing" "failedTests" "I" (.int (0 : Int32)) := (Fld.other W14 (Fld.other W8 (Fld.other W2 f0_F_a_failedTests (Or.inr (slot_ne (Or.inl (wd70 hw)) (Or.inr (wd59 hw)) (by decide) (t := .int) (t' := (.object "org/veilroute/service/Tunnel")) (by decide) (by decide)))) (Or.inr (slot_ne (Or.inl (wd70 hw)) (Or.inr (wd61 hw)) (by decide) (t := .int) (t' := .long) (by decide) (by decide)))) (Or.inr (slot_ne (Or.inl (wd70 hw)) (Or.inl (wd63 hw)) (by decide) (t := .int) (t' := .long) (by decide) (by decide))))
  refine own_ret (Q := Q_own_sdinit Z a tn q r h0 n0) (C := ({ frames := 1, cells := 0, slots := 0, locals := 12 } : Room).cells) (N := ({ frames := 1, cells := 0, slots := 0, locals := 12 } : Room).slots) X14 (v := none) (fun _ => rfl) Bd.notSynchronized ?_ (by decide) (by decide) (fun fs hr => X14.returnOut hx Bd.returns (hb hby d8_20) hr)
  show Q_own_sdinit Z a tn q r h0 n0 _ T14.heap _
  rw [e14]
  exact ⟨rfl, N14, K17, c18, Fw14, c19⟩
def Q_own_sound (Z : State) (a : Addr) (f : Int32) (h0 : Heap) (n0 : Nat) (v : Option Value) (h : Heap) (L : List Loc) : Prop := ∃ z : Int32, v = some (.int z) ∧ L = [] ∧ h = h0 ∧ (z = (if f = (0 : Int32) then (1 : Int32) else (0 : Int32)))
set_option maxRecDepth 65536 in
set_option maxHeartbeats 40000000 in
theorem own_sound (l : Launch) (Z : State) (a0 : Array Value) (hw : ∀ d ∈ tables_1, d.before a0 Z = true) (ws : List Jvm.Cond) (a : Addr) (f : Int32) (h0 : Heap) (n0 : Nat) (O0 : Old Z n0 h0) (f0_F_a_failedTests : Fld Z h0 a "org/veilroute/service/TunnelPool$Standing" "failedTests" "I" (.int f)) :
    MetFree l mt7 (head1 (Jvm.Cond.code mt7 prog_176_method_6_code 1 (some .boolean) :: ws) ({ frames := 0, cells := 0, slots := 0, locals := 0 } : Room)) (fun aq U => aq = #[(.ref a)] ∧ Z.Warmed39 U.vm ∧ U.heap = h0) (fun _ _ _ _ _ => True) (fun _ U o U' => ∃ v L, o = .returned v ∧ Q_own_sound Z a f h0 n0 v U'.heap L ∧ FrameEnd U o U' L ({ frames := 0, cells := 0, slots := 0, locals := 0 } : Room).cells ({ frames := 0, cells := 0, slots := 0, locals := 0 } : Room).slots) := by
  refine MetFree.of_bodySF (plainFor_of_name pn_org_veilroute_service_TunnelPool_Standing) hisR ?_
  intro p e s m args below meth c s₁ Bd hml0 hP hK
  obtain ⟨rfl, hZ, hh⟩ := hP
  have hx := Bd.exec
  have hby := Bd.bytes
  have hml : c.maxLocals = 1 := hml0
  have hown : s.vm.findClass "org/veilroute/service/TunnelPool$Standing" = some m.cls := findClass_of_methodNamed Bd.named
  have hnm := (name_of_methodNamed Bd.named Bd.method).1
  have X0 : Stand p l e ({ frames := 0, cells := 0, slots := 0, locals := 0 } : Room) s m #[(.ref a)] below meth c s₁ [] 0 0 := Stand.of_body Bd
  have e0 : s₁.heap = h0 := by rw [← hh, Bd.state]; rfl
  have N0 := Fr.nil n0
  have zO := O0.1
  have zO2 := O0.2.1
  have fl_F_a_failedTests := f0_F_a_failedTests.lt
  refine own_open (own_via (S' := s₁.setTop (mkF m 0 #[.val (.ref a)] [])) (fun t k => castTop (ef_own_sound m a) k) ?_)
  refine own_via (S' := s₁.setTop (mkF m 1 #[.val (.ref a)] [(.ref a)])) (fun t k => XS.aloadN X0.here hx rfl (hb hby d9_0) rfl rfl k) ?_
  obtain ⟨T1, X1, e1, st1⟩ := getF X0 hx hZ hown (host := "") (Or.inl (wd69 hw)) Via.refl e0 f0_F_a_failedTests (g := (mkF m 1 #[.val (.ref a)] [(.ref a)])) rfl rfl (hb hby d9_1)
  refine own_via (S' := T1.setTop (mkF m 4 #[.val (.ref a)] [(.int f)])) st1 ?_
  by_cases hc4_2 : f = (0 : Int32)
  · -- yes
    refine own_via (S' := T1.setTop (mkF m 7 #[.val (.ref a)] [])) (fun t k => XS.ifNo X1.here hx rfl (hb hby d9_4) rfl ((if0 _ _).trans (teq hc4_2).2) k) ?_
    refine own_via (S' := T1.setTop (mkF m 8 #[.val (.ref a)] [(.int (1 : Int32))])) (fun t k => XS.iconst X1.here hx rfl (hb hby d9_7) k) ?_
    refine own_via (S' := T1.setTop (mkF m 12 #[.val (.ref a)] [(.int (1 : Int32))])) (fun t k => XS.goto X1.here hx rfl (pc0 := 8) (pc' := 12) rfl (hb hby d9_8) (by decide) (by decide) k) ?_
    refine own_ret (Q := Q_own_sound Z a f h0 n0) (C := ({ frames := 0, cells := 0, slots := 0, locals := 0 } : Room).cells) (N := ({ frames := 0, cells := 0, slots := 0, locals := 0 } : Room).slots) X1 (v := some (.int (1 : Int32))) (fun h => by rw [Bd.returns] at h; cases h) Bd.notSynchronized ?_ (by decide) (by decide) (fun fs hr => retN X1 hx (t := .boolean) Bd.returns (by simp) (hb hby d9_12) hr)
    show Q_own_sound Z a f h0 n0 _ T1.heap _
    rw [e1]
    exact ⟨(1 : Int32), rfl, rfl, rfl, ((if_pos hc4_2)).symm⟩
  · -- no
    refine own_via (S' := T1.setTop (mkF m 11 #[.val (.ref a)] [])) (fun t k => XS.ifYes X1.here hx rfl (pc0 := 4) (pc' := 11) rfl (hb hby d9_4) rfl ((if0 _ _).trans (feq hc4_2).2) (by decide) (by decide) k) ?_
    refine own_via (S' := T1.setTop (mkF m 12 #[.val (.ref a)] [(.int (0 : Int32))])) (fun t k => XS.iconst X1.here hx rfl (hb hby d9_11) k) ?_
    refine own_ret (Q := Q_own_sound Z a f h0 n0) (C := ({ frames := 0, cells := 0, slots := 0, locals := 0 } : Room).cells) (N := ({ frames := 0, cells := 0, slots := 0, locals := 0 } : Room).slots) X1 (v := some (.int (0 : Int32))) (fun h => by rw [Bd.returns] at h; cases h) Bd.notSynchronized ?_ (by decide) (by decide) (fun fs hr => retN X1 hx (t := .boolean) Bd.returns (by simp) (hb hby d9_12) hr)
    show Q_own_sound Z a f h0 n0 _ T1.heap _
    rw [e1]
    exact ⟨(0 : Int32), rfl, rfl, rfl, ((if_neg hc4_2)).symm⟩
def Q_own_failed (Z : State) (a : Addr) (y : Int32) (q : Int64) (r : Int64) (f : Int32) (h0 : Heap) (n0 : Nat) (v : Option Value) (h : Heap) (L : List Loc) : Prop := v = some (.int (f + y)) ∧ Fr n0 L ∧ Keep h0 h [a] ∧ Fld Z h a "org/veilroute/service/TunnelPool$Standing" "end" "J" (.long q) ∧ Fld Z h a "org/veilroute/service/TunnelPool$Standing" "provenAfter" "J" (.long r) ∧ Fld Z h a "org/veilroute/service/TunnelPool$Standing" "failedTests" "I" (.int (f + y))
set_option maxRecDepth 65536 in
set_option maxHeartbeats 40000000 in
theorem own_failed (l : Launch) (Z : State) (a0 : Array Value) (hw : ∀ d ∈ tables_1, d.before a0 Z = true) (ws : List Jvm.Cond) (a : Addr) (y : Int32) (q : Int64) (r : Int64) (f : Int32) (h0 : Heap) (n0 : Nat) (O0 : Old Z n0 h0) (f0_E_a : Exa Z h0 a "org/veilroute/service/TunnelPool$Standing") (f0_F_a_end : Fld Z h0 a "org/veilroute/service/TunnelPool$Standing" "end" "J" (.long q)) (f0_F_a_provenAfter : Fld Z h0 a "org/veilroute/service/TunnelPool$Standing" "provenAfter" "J" (.long r)) (f0_F_a_failedTests : Fld Z h0 a "org/veilroute/service/TunnelPool$Standing" "failedTests" "I" (.int f)) (g_a : n0 ≤ a) :
    MetFree l mt8 (head1 (Jvm.Cond.code mt8 prog_176_method_7_code 2 (some .int) :: ws) ({ frames := 0, cells := 0, slots := 0, locals := 0 } : Room)) (fun aq U => aq = #[(.ref a), (.int y)] ∧ Z.Warmed39 U.vm ∧ U.heap = h0) (fun _ _ _ _ _ => True) (fun _ U o U' => ∃ v L, o = .returned v ∧ Q_own_failed Z a y q r f h0 n0 v U'.heap L ∧ FrameEnd U o U' L ({ frames := 0, cells := 0, slots := 0, locals := 0 } : Room).cells ({ frames := 0, cells := 0, slots := 0, locals := 0 } : Room).slots) := by
  refine MetFree.of_bodySF (plainFor_of_name pn_org_veilroute_service_TunnelPool_Standing) hisR ?_
  intro p e s m args below meth c s₁ Bd hml0 hP hK
  obtain ⟨rfl, hZ, hh⟩ := hP
  have hx := Bd.exec
  have hby := Bd.bytes
  have hml : c.maxLocals = 2 := hml0
  have hown : s.vm.findClass "org/veilroute/service/TunnelPool$Standing" = some m.cls := findClass_of_methodNamed Bd.named
  have hnm := (name_of_methodNamed Bd.named Bd.method).1
  have X0 : Stand p l e ({ frames := 0, cells := 0, slots := 0, locals := 0 } : Room) s m #[(.ref a), (.int y)] below meth c s₁ [] 0 0 := Stand.of_body Bd
  have e0 : s₁.heap = h0 := by rw [← hh, Bd.state]; rfl
  have N0 := Fr.nil n0
  have zO := O0.1
  have zO2 := O0.2.1
  have fl_E_a := f0_E_a.lt
  have fl_F_a_end := f0_F_a_end.lt
  have fl_F_a_provenAfter := f0_F_a_provenAfter.lt
  have fl_F_a_failedTests := f0_F_a_failedTests.lt
  refine own_open (own_via (S' := s₁.setTop (mkF m 0 #[.val (.ref a), .val (.int y)] [])) (fun t k => castTop (ef_own_failed m a y) k) ?_)
  have K0 : Keep h0 h0 [a] := Keep.refl _ _
  refine own_via (S' := s₁.setTop (mkF m 1 #[.val (.ref a), .val (.int y)] [(.ref a)])) (fun t k => XS.aloadN X0.here hx rfl (hb hby d10_0) rfl rfl k) ?_
  refine own_via (S' := s₁.setTop (mkF m 2 #[.val (.ref a), .val (.int y)] [(.ref a), (.ref a)])) (fun t k => XS.dup X0.here hx rfl (hb hby d10_1) rfl rfl k) ?_
  obtain ⟨T1, X1, e1, st1⟩ := getF X0 hx hZ hown (host := "") (Or.inl (wd69 hw)) Via.refl e0 f0_F_a_failedTests (g := (mkF m 2 #[.val (.ref a), .val (.int y)] [(.ref a), (.ref a)])) rfl rfl (hb hby d10_2)
  refine own_via (S' := T1.setTop (mkF m 5 #[.val (.ref a), .val (.int y)] [(.int f), (.ref a)])) st1 ?_
  refine own_via (S' := T1.setTop (mkF m 6 #[.val (.ref a), .val (.int y)] [(.int y), (.int f), (.ref a)])) (fun t k => XS.iloadN X1.here hx rfl (hb hby d10_5) rfl k) ?_
  refine own_via (S' := T1.setTop (mkF m 7 #[.val (.ref a), .val (.int y)] [(.int (f + y)), (.ref a)])) (fun t k => XS.iadd X1.here hx rfl (hb hby d10_6) rfl k) ?_
  obtain ⟨T2, h2, X2, e2, W2, st2⟩ := putF X1 hx hZ hown (host := "") (Or.inl (wd69 hw)) Via.refl e1 f0_F_a_failedTests f0_E_a (Or.inl (wd70 hw)) (wd2 hw) (ty := .int) (by decide) rfl rfl (g := (mkF m 7 #[.val (.ref a), .val (.int y)] [(.int (f + y)), (.ref a)])) rfl rfl (hb hby d10_7)
  have sz3 : h0.size ≤ h2.size := Nat.le_of_eq W2.size.symm
  have O4 : Old Z n0 h2 := O0.wr W2 (by omega : n0 ≤ a)
  have N2 := Fr.snoc X2 N0 (by omega : n0 ≤ a)
  have K5 : Keep h0 h2 [a] := K0.wr W2 (Or.inl (List.mem_of_getElem? (i := 0) rfl))
  have Fw2 : Fld Z h2 a "org/veilroute/service/TunnelPool$Standing" "failedTests" "I" (.int (f + y)) := Fld.same W2 f0_F_a_failedTests
  refine own_via (S' := T2.setTop (mkF m 10 #[.val (.ref a), .val (.int y)] [])) st2 ?_
  refine own_via (S' := T2.setTop (mkF m 11 #[.val (.ref a), .val (.int y)] [(.ref a)])) (fun t k => XS.aloadN X2.here hx rfl (hb hby d10_10) rfl rfl k) ?_
  obtain ⟨T6, X6, e6, st6⟩ := getF X2 hx hZ hown (host := "") (Or.inl (wd69 hw)) Via.refl e2 Fw2 (g := (mkF m 11 #[.val (.ref a), .val (.int y)] [(.ref a)])) rfl rfl (hb hby d10_11)
  refine own_via (S' := T6.setTop (mkF m 14 #[.val (.ref a), .val (.int y)] [(.int (f + y))])) st6 ?_
  have c7 : Fld Z h2 a "org/veilroute/service/TunnelPool$Standing" "end" "J" (.long q) := (Fld.other W2 f0_F_a_end (Or.inr (slot_ne (Or.inr (wd61 hw)) (Or.inl (wd70 hw)) (by decide) (t := .long) (t' := .int) (by decide) (by decide))))
  have c8 : Fld Z h2 a "org/veilroute/service/TunnelPool$Standing" "provenAfter" "J" (.long r) := (Fld.other W2 f0_F_a_provenAfter (Or.inr (slot_ne (Or.inl (wd63 hw)) (Or.inl (wd70 hw)) (by decide) (t := .long) (t' := .int) (by decide) (by decide))))
  refine own_ret (Q := Q_own_failed Z a y q r f h0 n0) (C := ({ frames := 0, cells := 0, slots := 0, locals := 0 } : Room).cells) (N := ({ frames := 0, cells := 0, slots := 0, locals := 0 } : Room).slots) X6 (v := some (.int (f + y))) (fun h => by rw [Bd.returns] at h; cases h) Bd.notSynchronized ?_ (by decide) (by decide) (fun fs hr => retOut X6 hx Bd.returns rfl (Or.inl ⟨rfl, Or.inl rfl, _, rfl⟩) (hb hby d10_14) hr)
  show Q_own_failed Z a y q r f h0 n0 _ T6.heap _
  rw [e6]
  exact ⟨rfl, N2, K5, c7, c8, Fw2⟩
def Q_own_max (Z : State) (u1 : Int64) (u2 : Int64) (h0 : Heap) (n0 : Nat) (v : Option Value) (h : Heap) (L : List Loc) : Prop := ∃ z : Int64, v = some (.long z) ∧ L = [] ∧ h = h0
set_option maxRecDepth 65536 in
set_option maxHeartbeats 40000000 in
theorem own_max (l : Launch) (Z : State) (a0 : Array Value) (hw : ∀ d ∈ tables_1, d.before a0 Z = true) (ws : List Jvm.Cond) (u1 : Int64) (u2 : Int64) (h0 : Heap) (n0 : Nat) (O0 : Old Z n0 h0) :
    MetFree l mt9 (head1 (Jvm.Cond.code mt9 jdk_29_method_66_code 4 (some .long) :: ws) ({ frames := 0, cells := 0, slots := 0, locals := 0 } : Room)) (fun aq U => aq = #[(.long u1), (.long u2)] ∧ Z.Warmed39 U.vm ∧ U.heap = h0) (fun _ _ _ _ _ => True) (fun _ U o U' => ∃ v L, o = .returned v ∧ Q_own_max Z u1 u2 h0 n0 v U'.heap L ∧ FrameEnd U o U' L ({ frames := 0, cells := 0, slots := 0, locals := 0 } : Room).cells ({ frames := 0, cells := 0, slots := 0, locals := 0 } : Room).slots) := by
  refine MetFree.of_bodySF (Jvm.Free.JP.mathPlain rfl (by decide +kernel)) hisR ?_
  intro p e s m args below meth c s₁ Bd hml0 hP hK
  obtain ⟨rfl, hZ, hh⟩ := hP
  have hx := Bd.exec
  have hby := Bd.bytes
  have hml : c.maxLocals = 4 := hml0
  have hown : s.vm.findClass "java/lang/Math" = some m.cls := findClass_of_methodNamed Bd.named
  have hnm := (name_of_methodNamed Bd.named Bd.method).1
  have X0 : Stand p l e ({ frames := 0, cells := 0, slots := 0, locals := 0 } : Room) s m #[(.long u1), (.long u2)] below meth c s₁ [] 0 0 := Stand.of_body Bd
  have e0 : s₁.heap = h0 := by rw [← hh, Bd.state]; rfl
  have N0 := Fr.nil n0
  have zO := O0.1
  have zO2 := O0.2.1
  refine own_open (own_via (S' := s₁.setTop (mkF m 0 #[.val (.long u1), .second, .val (.long u2), .second] [])) (fun t k => castTop (ef_own_max m u1 u2) k) ?_)
  refine own_via (S' := s₁.setTop (mkF m 1 #[.val (.long u1), .second, .val (.long u2), .second] [(.long u1)])) (fun t k => XS.lloadN X0.here hx rfl (hb hby d12_0) rfl k) ?_
  refine own_via (S' := s₁.setTop (mkF m 2 #[.val (.long u1), .second, .val (.long u2), .second] [(.long u2), (.long u1)])) (fun t k => XS.lloadN X0.here hx rfl (hb hby d12_1) rfl k) ?_
  refine own_via (S' := s₁.setTop (mkF m 3 #[.val (.long u1), .second, .val (.long u2), .second] [(.int (lcmpW u1 u2))])) (fun t k => XS.lcmp X0.here hx rfl (hb hby d12_2) rfl k) ?_
  by_cases hc3_1 : u1 < u2
  · -- yes
    refine own_via (S' := s₁.setTop (mkF m 10 #[.val (.long u1), .second, .val (.long u2), .second] [])) (fun t k => XS.ifYes X0.here hx rfl (pc0 := 3) (pc' := 10) rfl (hb hby d12_3) rfl ((if0 _ _).trans (tlt ((lw_lt _ _).mpr hc3_1)).1) (by decide) (by decide) k) ?_
    refine own_via (S' := s₁.setTop (mkF m 11 #[.val (.long u1), .second, .val (.long u2), .second] [(.long u2)])) (fun t k => XS.lloadN X0.here hx rfl (hb hby d12_10) rfl k) ?_
    refine own_ret (Q := Q_own_max Z u1 u2 h0 n0) (C := ({ frames := 0, cells := 0, slots := 0, locals := 0 } : Room).cells) (N := ({ frames := 0, cells := 0, slots := 0, locals := 0 } : Room).slots) X0 (v := some (.long u2)) (fun h => by rw [Bd.returns] at h; cases h) Bd.notSynchronized ?_ (by decide) (by decide) (fun fs hr => retOut X0 hx Bd.returns rfl (Or.inr (Or.inl ⟨rfl, rfl, _, rfl⟩)) (hb hby d12_11) hr)
    show Q_own_max Z u1 u2 h0 n0 _ s₁.heap _
    rw [e0]
    exact ⟨u2, rfl, rfl, rfl⟩
  · -- no
    refine own_via (S' := s₁.setTop (mkF m 6 #[.val (.long u1), .second, .val (.long u2), .second] [])) (fun t k => XS.ifNo X0.here hx rfl (hb hby d12_3) rfl ((if0 _ _).trans (flt (fun q => hc3_1 ((lw_lt _ _).mp q))).1) k) ?_
    refine own_via (S' := s₁.setTop (mkF m 7 #[.val (.long u1), .second, .val (.long u2), .second] [(.long u1)])) (fun t k => XS.lloadN X0.here hx rfl (hb hby d12_6) rfl k) ?_
    refine own_via (S' := s₁.setTop (mkF m 11 #[.val (.long u1), .second, .val (.long u2), .second] [(.long u1)])) (fun t k => XS.goto X0.here hx rfl (pc0 := 7) (pc' := 11) rfl (hb hby d12_7) (by decide) (by decide) k) ?_
    refine own_ret (Q := Q_own_max Z u1 u2 h0 n0) (C := ({ frames := 0, cells := 0, slots := 0, locals := 0 } : Room).cells) (N := ({ frames := 0, cells := 0, slots := 0, locals := 0 } : Room).slots) X0 (v := some (.long u1)) (fun h => by rw [Bd.returns] at h; cases h) Bd.notSynchronized ?_ (by decide) (by decide) (fun fs hr => retOut X0 hx Bd.returns rfl (Or.inr (Or.inl ⟨rfl, rfl, _, rfl⟩)) (hb hby d12_11) hr)
    show Q_own_max Z u1 u2 h0 n0 _ s₁.heap _
    rw [e0]
    exact ⟨u1, rfl, rfl, rfl⟩
def Q_own_passed (Z : State) (a : Addr) (y : Int64) (q : Int64) (r : Int64) (f : Int32) (h0 : Heap) (n0 : Nat) (v : Option Value) (h : Heap) (L : List Loc) : Prop := ∃ r2 : Int64, v = none ∧ Fr n0 L ∧ Keep h0 h [a] ∧ Fld Z h a "org/veilroute/service/TunnelPool$Standing" "end" "J" (.long q) ∧ Fld Z h a "org/veilroute/service/TunnelPool$Standing" "provenAfter" "J" (.long r2) ∧ Fld Z h a "org/veilroute/service/TunnelPool$Standing" "failedTests" "I" (.int (0 : Int32))
set_option maxRecDepth 65536 in
set_option maxHeartbeats 40000000 in
theorem own_passed (l : Launch) (Z : State) (a0 : Array Value) (hw : ∀ d ∈ tables_1, d.before a0 Z = true) (ws : List Jvm.Cond) (a : Addr) (y : Int64) (q : Int64) (r : Int64) (f : Int32) (h0 : Heap) (n0 : Nat) (O0 : Old Z n0 h0) (f0_E_a : Exa Z h0 a "org/veilroute/service/TunnelPool$Standing") (f0_F_a_end : Fld Z h0 a "org/veilroute/service/TunnelPool$Standing" "end" "J" (.long q)) (f0_F_a_provenAfter : Fld Z h0 a "org/veilroute/service/TunnelPool$Standing" "provenAfter" "J" (.long r)) (f0_F_a_failedTests : Fld Z h0 a "org/veilroute/service/TunnelPool$Standing" "failedTests" "I" (.int f)) (g_a : n0 ≤ a) :
    MetFree l mt10 (head1 (Jvm.Cond.code mt10 prog_176_method_5_code 3 none :: ws) ({ frames := 1, cells := 0, slots := 0, locals := 16 } : Room)) (fun aq U => aq = #[(.ref a), (.long y)] ∧ Z.Warmed39 U.vm ∧ U.heap = h0) (fun _ _ _ _ _ => True) (fun _ U o U' => ∃ v L, o = .returned v ∧ Q_own_passed Z a y q r f h0 n0 v U'.heap L ∧ FrameEnd U o U' L ({ frames := 1, cells := 0, slots := 0, locals := 16 } : Room).cells ({ frames := 1, cells := 0, slots := 0, locals := 16 } : Room).slots) := by
  refine MetFree.of_bodySF (plainFor_of_name pn_org_veilroute_service_TunnelPool_Standing) hisR ?_
  intro p e s m args below meth c s₁ Bd hml0 hP hK
  obtain ⟨rfl, hZ, hh⟩ := hP
  have hx := Bd.exec
  have hby := Bd.bytes
  have hml : c.maxLocals = 3 := hml0
  have hown : s.vm.findClass "org/veilroute/service/TunnelPool$Standing" = some m.cls := findClass_of_methodNamed Bd.named
  have hnm := (name_of_methodNamed Bd.named Bd.method).1
  have X0 : Stand p l e ({ frames := 1, cells := 0, slots := 0, locals := 16 } : Room) s m #[(.ref a), (.long y)] below meth c s₁ [] 0 0 := Stand.of_body Bd
  have e0 : s₁.heap = h0 := by rw [← hh, Bd.state]; rfl
  have N0 := Fr.nil n0
  have zO := O0.1
  have zO2 := O0.2.1
  have fl_E_a := f0_E_a.lt
  have fl_F_a_end := f0_F_a_end.lt
  have fl_F_a_provenAfter := f0_F_a_provenAfter.lt
  have fl_F_a_failedTests := f0_F_a_failedTests.lt
  refine own_open (own_via (S' := s₁.setTop (mkF m 0 #[.val (.ref a), .val (.long y), .second] [])) (fun t k => castTop (ef_own_passed m a y) k) ?_)
  have K0 : Keep h0 h0 [a] := Keep.refl _ _
  refine own_via (S' := s₁.setTop (mkF m 1 #[.val (.ref a), .val (.long y), .second] [(.ref a)])) (fun t k => XS.aloadN X0.here hx rfl (hb hby d11_0) rfl rfl k) ?_
  refine own_via (S' := s₁.setTop (mkF m 2 #[.val (.ref a), .val (.long y), .second] [(.int (0 : Int32)), (.ref a)])) (fun t k => XS.iconst X0.here hx rfl (hb hby d11_1) k) ?_
  obtain ⟨T1, h1, X1, e1, W1, st1⟩ := putF X0 hx hZ hown (host := "") (Or.inl (wd69 hw)) Via.refl e0 f0_F_a_failedTests f0_E_a (Or.inl (wd70 hw)) (wd2 hw) (ty := .int) (by decide) rfl rfl (g := (mkF m 2 #[.val (.ref a), .val (.long y), .second] [(.int (0 : Int32)), (.ref a)])) rfl rfl (hb hby d11_2)
  have sz2 : h0.size ≤ h1.size := Nat.le_of_eq W1.size.symm
  have O3 : Old Z n0 h1 := O0.wr W1 (by omega : n0 ≤ a)
  have N1 := Fr.snoc X1 N0 (by omega : n0 ≤ a)
  have K4 : Keep h0 h1 [a] := K0.wr W1 (Or.inl (List.mem_of_getElem? (i := 0) rfl))
  have Fw1 : Fld Z h1 a "org/veilroute/service/TunnelPool$Standing" "failedTests" "I" (.int (0 : Int32)) := Fld.same W1 f0_F_a_failedTests
  refine own_via (S' := T1.setTop (mkF m 5 #[.val (.ref a), .val (.long y), .second] [])) st1 ?_
  refine own_via (S' := T1.setTop (mkF m 6 #[.val (.ref a), .val (.long y), .second] [(.ref a)])) (fun t k => XS.aloadN X1.here hx rfl (hb hby d11_5) rfl rfl k) ?_
  refine own_via (S' := T1.setTop (mkF m 7 #[.val (.ref a), .val (.long y), .second] [(.ref a), (.ref a)])) (fun t k => XS.aloadN X1.here hx rfl (hb hby d11_6) rfl rfl k) ?_
  have c5 : Fld Z h1 a "org/veilroute/service/TunnelPool$Standing" "provenAfter" "J" (.long r) := (Fld.other W1 f0_F_a_provenAfter (Or.inr (slot_ne (Or.inl (wd63 hw)) (Or.inl (wd70 hw)) (by decide) (t := .long) (t' := .int) (by decide) (by decide))))
  obtain ⟨T6, X6, e6, st6⟩ := getF X1 hx hZ hown (host := "") (Or.inl (wd62 hw)) Via.refl e1 c5 (g := (mkF m 7 #[.val (.ref a), .val (.long y), .second] [(.ref a), (.ref a)])) rfl rfl (hb hby d11_7)
  refine own_via (S' := T6.setTop (mkF m 10 #[.val (.ref a), .val (.long y), .second] [(.long r), (.ref a)])) st6 ?_
  refine own_via (S' := T6.setTop (mkF m 11 #[.val (.ref a), .val (.long y), .second] [(.long y), (.long r), (.ref a)])) (fun t k => XS.lloadN X6.here hx rfl (hb hby d11_10) rfl k) ?_
  obtain ⟨_, _, ⟨T7, L7, k7, n7⟩, -, X7, ⟨Lc7, hQ7, l7, y7, z7⟩, st7⟩ := Jvm.LawKit.callS X6 hx (y := mt9) hown (mvT hZ (wd81 hw)) (mvT hZ (wd82 hw)) (mvT hZ (wd83 hw)) (mvT hZ (wd84 hw)) (by decide) (backOf (W := 1) (own_max l Z a0 hw [] r y h1 n0 O3) hZ (wd84 hw) (wd83 hw) (by decide) (by decide)) (g := (mkF m 11 #[.val (.ref a), .val (.long y), .second] [(.long y), (.long r), (.ref a)])) rfl (by rw [hml]; rfl) (argsL := [(.long r), (.long y)]) (rest := [(.ref a)]) (lenOf pd__JJ_J_303 rfl) rfl (by show 2 * 0 + _ ≤ _; exact Nat.le_of_eq rfl) (hb hby d11_11) (fun _ _ => ⟨rfl, e6, (by decide : 0 + 0 ≤ _), (by decide : 0 + 0 ≤ _)⟩)
  dsimp only [Pt.U, Pt.locs, Pt.cells, Pt.slots] at X7 l7 y7 z7 st7 hQ7
  subst l7 y7 z7
  obtain ⟨z7, rfl, rfl, e7⟩ := hQ7
  try rw [List.append_nil] at X7
  refine own_via (S' := T7.setTop (mkF m 14 #[.val (.ref a), .val (.long y), .second] [(.long z7), (.ref a)])) st7 ?_
  have c8 : Exa Z h1 a "org/veilroute/service/TunnelPool$Standing" := (Exa.wr W1 f0_E_a)
  obtain ⟨T9, h9, X9, e9, W9, st9⟩ := putF X7 hx hZ hown (host := "") (Or.inl (wd62 hw)) Via.refl e7 c5 c8 (Or.inl (wd63 hw)) (wd2 hw) (ty := .long) (by decide) rfl rfl (g := (mkF m 14 #[.val (.ref a), .val (.long y), .second] [(.long z7), (.ref a)])) rfl rfl (hb hby d11_14)
  have sz10 : h1.size ≤ h9.size := Nat.le_of_eq W9.size.symm
  have O11 : Old Z n0 h9 := O3.wr W9 (by omega : n0 ≤ a)
  have N9 := Fr.snoc X9 N1 (by omega : n0 ≤ a)
  have K12 : Keep h0 h9 [a] := K4.wr W9 (Or.inl (List.mem_of_getElem? (i := 0) rfl))
  have Fw9 : Fld Z h9 a "org/veilroute/service/TunnelPool$Standing" "provenAfter" "J" (.long z7) := Fld.same W9 c5
  refine own_via (S' := T9.setTop (mkF m 17 #[.val (.ref a), .val (.long y), .second] [])) st9 ?_
  have c13 : Fld Z h9 a "org/veilroute/service/TunnelPool$Standing" "end" "J" (.long q) := (Fld.other W9 (Fld.other W1 f0_F_a_end (Or.inr (slot_ne (Or.inr (wd61 hw)) (Or.inl (wd70 hw)) (by decide) (t := .long) (t' := .int) (by decide) (by decide)))) (Or.inr (slot_ne (Or.inr (wd61 hw)) (Or.inl (wd63 hw)) (by decide) (t := .long) (t' := .long) (by decide) (by decide))))
  have c14 : Fld Z h9 a "org/veilroute/service/TunnelPool$Standing" "failedTests" "I" (.int (0 : Int32)) := (Fld.other W9 Fw1 (Or.inr (slot_ne (Or.inl (wd70 hw)) (Or.inl (wd63 hw)) (by decide) (t := .int) (t' := .long) (by decide) (by decide))))
  refine own_ret (Q := Q_own_passed Z a y q r f h0 n0) (C := ({ frames := 1, cells := 0, slots := 0, locals := 16 } : Room).cells) (N := ({ frames := 1, cells := 0, slots := 0, locals := 16 } : Room).slots) X9 (v := none) (fun _ => rfl) Bd.notSynchronized ?_ (by decide) (by decide) (fun fs hr => X9.returnOut hx Bd.returns (hb hby d11_17) hr)
  show Q_own_passed Z a y q r f h0 n0 _ T9.heap _
  rw [e9]
  exact ⟨z7, rfl, N9, K12, c13, Fw9, c14⟩
def Q_own_end (Z : State) (a : Addr) (q : Int64) (h0 : Heap) (n0 : Nat) (v : Option Value) (h : Heap) (L : List Loc) : Prop := v = some (.long q) ∧ L = [] ∧ h = h0
set_option maxRecDepth 65536 in
set_option maxHeartbeats 40000000 in
theorem own_end (l : Launch) (Z : State) (a0 : Array Value) (hw : ∀ d ∈ tables_1, d.before a0 Z = true) (ws : List Jvm.Cond) (a : Addr) (q : Int64) (h0 : Heap) (n0 : Nat) (O0 : Old Z n0 h0) (f0_F_a_end : Fld Z h0 a "org/veilroute/service/TunnelPool$Standing" "end" "J" (.long q)) :
    MetFree l mt11 (head1 (Jvm.Cond.code mt11 prog_176_method_3_code 1 (some .long) :: ws) ({ frames := 0, cells := 0, slots := 0, locals := 0 } : Room)) (fun aq U => aq = #[(.ref a)] ∧ Z.Warmed39 U.vm ∧ U.heap = h0) (fun _ _ _ _ _ => True) (fun _ U o U' => ∃ v L, o = .returned v ∧ Q_own_end Z a q h0 n0 v U'.heap L ∧ FrameEnd U o U' L ({ frames := 0, cells := 0, slots := 0, locals := 0 } : Room).cells ({ frames := 0, cells := 0, slots := 0, locals := 0 } : Room).slots) := by
  refine MetFree.of_bodySF (plainFor_of_name pn_org_veilroute_service_TunnelPool_Standing) hisR ?_
  intro p e s m args below meth c s₁ Bd hml0 hP hK
  obtain ⟨rfl, hZ, hh⟩ := hP
  have hx := Bd.exec
  have hby := Bd.bytes
  have hml : c.maxLocals = 1 := hml0
  have hown : s.vm.findClass "org/veilroute/service/TunnelPool$Standing" = some m.cls := findClass_of_methodNamed Bd.named
  have hnm := (name_of_methodNamed Bd.named Bd.method).1
  have X0 : Stand p l e ({ frames := 0, cells := 0, slots := 0, locals := 0 } : Room) s m #[(.ref a)] below meth c s₁ [] 0 0 := Stand.of_body Bd
  have e0 : s₁.heap = h0 := by rw [← hh, Bd.state]; rfl
  have N0 := Fr.nil n0
  have zO := O0.1
  have zO2 := O0.2.1
  have fl_F_a_end := f0_F_a_end.lt
  refine own_open (own_via (S' := s₁.setTop (mkF m 0 #[.val (.ref a)] [])) (fun t k => castTop (ef_own_end m a) k) ?_)
  refine own_via (S' := s₁.setTop (mkF m 1 #[.val (.ref a)] [(.ref a)])) (fun t k => XS.aloadN X0.here hx rfl (hb hby d13_0) rfl rfl k) ?_
  obtain ⟨T1, X1, e1, st1⟩ := getF X0 hx hZ hown (host := "") (Or.inl (wd60 hw)) Via.refl e0 f0_F_a_end (g := (mkF m 1 #[.val (.ref a)] [(.ref a)])) rfl rfl (hb hby d13_1)
  refine own_via (S' := T1.setTop (mkF m 4 #[.val (.ref a)] [(.long q)])) st1 ?_
  refine own_ret (Q := Q_own_end Z a q h0 n0) (C := ({ frames := 0, cells := 0, slots := 0, locals := 0 } : Room).cells) (N := ({ frames := 0, cells := 0, slots := 0, locals := 0 } : Room).slots) X1 (v := some (.long q)) (fun h => by rw [Bd.returns] at h; cases h) Bd.notSynchronized ?_ (by decide) (by decide) (fun fs hr => retOut X1 hx Bd.returns rfl (Or.inr (Or.inl ⟨rfl, rfl, _, rfl⟩)) (hb hby d13_4) hr)
  show Q_own_end Z a q h0 n0 _ T1.heap _
  rw [e1]
  exact ⟨rfl, rfl, rfl⟩
def Q_own_law (Z : State) (p0 : Int32) (p1 : Int32) (p2 : Int32) (q0 : Int64) (q1 : Int64) (w : Addr) (wl : Addr) (h0 : Heap) (n0 : Nat) (v : Option Value) (h : Heap) (L : List Loc) : Prop := v = some (.int (1 : Int32)) ∧ Fr n0 L
set_option maxRecDepth 65536 in
set_option maxHeartbeats 40000000 in
theorem own_law (l : Launch) (Z : State) (a0 : Array Value) (hw : ∀ d ∈ tables_1, d.before a0 Z = true) (ws : List Jvm.Cond) (p0 : Int32) (p1 : Int32) (p2 : Int32) (q0 : Int64) (q1 : Int64) (w : Addr) (wl : Addr) (h0 : Heap) (n0 : Nat) (O0 : Old Z n0 h0) (zf_S_org_veilroute_service_TunnelBuilder_Direction_OUTBOUND : Sta Z Z.heap "org/veilroute/service/TunnelBuilder$Direction" "OUTBOUND" "Lorg/veilroute/service/TunnelBuilder$Direction;" (.ref w)) (zf_S_java_util_ImmutableCollections_EMPTY_LIST : Sta Z Z.heap "java/util/ImmutableCollections" "EMPTY_LIST" "Ljava/util/ImmutableCollections$ListN;" (.ref wl)) (zf_E_wl : Exa Z Z.heap wl "java/util/ImmutableCollections$ListN") (zf_F_wl_allowNulls : Fld Z Z.heap wl "java/util/ImmutableCollections$ListN" "allowNulls" "Z" (.int (0 : Int32))) :
    MetFree l x (head1 (Jvm.Cond.code x code maxLocals ret :: ws) room_1) (fun aq U => aq = #[(.int p0), (.int p1), (.int p2), (.long q0), (.long q1)] ∧ Z.Warmed39 U.vm ∧ U.heap = h0) (fun _ _ _ _ _ => True) (fun _ U o U' => ∃ v L, o = .returned v ∧ Q_own_law Z p0 p1 p2 q0 q1 w wl h0 n0 v U'.heap L ∧ FrameEnd U o U' L room_1.cells room_1.slots) := by
  refine MetFree.of_bodySF (plainFor_of_name pn_org_veilroute_service_StandingFailedPinLaw) hisR ?_
  intro p e s m args below meth c s₁ Bd hml0 hP hK
  obtain ⟨rfl, hZ, hh⟩ := hP
  have hx := Bd.exec
  have hby := Bd.bytes
  have hml : c.maxLocals = 18 := hml0
  have hown : s.vm.findClass "org/veilroute/service/StandingFailedPinLaw" = some m.cls := findClass_of_methodNamed Bd.named
  have hnm := (name_of_methodNamed Bd.named Bd.method).1
  have X0 : Stand p l e room_1 s m #[(.int p0), (.int p1), (.int p2), (.long q0), (.long q1)] below meth c s₁ [] 0 0 := Stand.of_body Bd
  have e0 : s₁.heap = h0 := by rw [← hh, Bd.state]; rfl
  have N0 := Fr.nil n0
  have zO := O0.1
  have zO2 := O0.2.1
  have zl_E_wl := zf_E_wl.lt
  have zl_F_wl_allowNulls := zf_F_wl_allowNulls.lt
  refine own_open (own_via (S' := s₁.setTop (mkF m 0 #[.val (.int p0), .val (.int p1), .val (.int p2), .val (.long q0), .second, .val (.long q1), .second, .unset, .unset, .unset, .unset, .unset, .unset, .unset, .unset, .unset, .unset, .unset] [])) (fun t k => castTop (ef_own_law m p0 p1 p2 q0 q1) k) ?_)
  refine own_via (S' := s₁.setTop (mkF m 1 #[.val (.int p0), .val (.int p1), .val (.int p2), .val (.long q0), .second, .val (.long q1), .second, .unset, .unset, .unset, .unset, .unset, .unset, .unset, .unset, .unset, .unset, .unset] [(.int p0)])) (fun t k => XS.iloadN X0.here hx rfl (hb hby at_0) rfl k) ?_
  refine own_via (S' := s₁.setTop (mkF m 3 #[.val (.int p0), .val (.int p1), .val (.int p2), .val (.long q0), .second, .val (.long q1), .second, .unset, .unset, .unset, .unset, .unset, .unset, .unset, .unset, .unset, .unset, .unset] [(.int (1073741823 : Int32)), (.int p0)])) (fun t k => X0.ldcInt hx hown (mvT hZ (wd0 hw)) (g := (mkF m 1 #[.val (.int p0), .val (.int p1), .val (.int p2), .val (.long q0), .second, .val (.long q1), .second, .unset, .unset, .unset, .unset, .unset, .unset, .unset, .unset, .unset, .unset, .unset] [(.int p0)])) rfl (hb hby at_1) _ k) ?_
  refine own_via (S' := s₁.setTop (mkF m 4 #[.val (.int p0), .val (.int p1), .val (.int p2), .val (.long q0), .second, .val (.long q1), .second, .unset, .unset, .unset, .unset, .unset, .unset, .unset, .unset, .unset, .unset, .unset] [(.int (p0 &&& (1073741823 : Int32)))])) (fun t k => XS.iand X0.here hx rfl (hb hby at_3) rfl k) ?_
  refine own_via (S' := s₁.setTop (mkF m 6 #[.val (.int p0), .val (.int p1), .val (.int p2), .val (.long q0), .second, .val (.long q1), .second, .val (.int (p0 &&& (1073741823 : Int32))), .unset, .unset, .unset, .unset, .unset, .unset, .unset, .unset, .unset, .unset] [])) (fun t k => XS.istore X0.here hx rfl (hb hby at_4) rfl (l' := #[.val (.int p0), .val (.int p1), .val (.int p2), .val (.long q0), .second, .val (.long q1), .second, .val (.int (p0 &&& (1073741823 : Int32))), .unset, .unset, .unset, .unset, .unset, .unset, .unset, .unset, .unset, .unset]) rfl k) ?_
  obtain ⟨xx, hn_xx⟩ : ∃ z : Int32, z = (p0 &&& (1073741823 : Int32)) := ⟨_, rfl⟩
  rw [← hn_xx]
  refine own_via (S' := s₁.setTop (mkF m 7 #[.val (.int p0), .val (.int p1), .val (.int p2), .val (.long q0), .second, .val (.long q1), .second, .val (.int xx), .unset, .unset, .unset, .unset, .unset, .unset, .unset, .unset, .unset, .unset] [(.int p1)])) (fun t k => XS.iloadN X0.here hx rfl (hb hby at_6) rfl k) ?_
  refine own_via (S' := s₁.setTop (mkF m 9 #[.val (.int p0), .val (.int p1), .val (.int p2), .val (.long q0), .second, .val (.long q1), .second, .val (.int xx), .unset, .unset, .unset, .unset, .unset, .unset, .unset, .unset, .unset, .unset] [(.int (1073741823 : Int32)), (.int p1)])) (fun t k => X0.ldcInt hx hown (mvT hZ (wd0 hw)) (g := (mkF m 7 #[.val (.int p0), .val (.int p1), .val (.int p2), .val (.long q0), .second, .val (.long q1), .second, .val (.int xx), .unset, .unset, .unset, .unset, .unset, .unset, .unset, .unset, .unset, .unset] [(.int p1)])) rfl (hb hby at_7) _ k) ?_
  refine own_via (S' := s₁.setTop (mkF m 10 #[.val (.int p0), .val (.int p1), .val (.int p2), .val (.long q0), .second, .val (.long q1), .second, .val (.int xx), .unset, .unset, .unset, .unset, .unset, .unset, .unset, .unset, .unset, .unset] [(.int (p1 &&& (1073741823 : Int32)))])) (fun t k => XS.iand X0.here hx rfl (hb hby at_9) rfl k) ?_
  refine own_via (S' := s₁.setTop (mkF m 12 #[.val (.int p0), .val (.int p1), .val (.int p2), .val (.long q0), .second, .val (.long q1), .second, .val (.int xx), .val (.int (p1 &&& (1073741823 : Int32))), .unset, .unset, .unset, .unset, .unset, .unset, .unset, .unset, .unset] [])) (fun t k => XS.istore X0.here hx rfl (hb hby at_10) rfl (l' := #[.val (.int p0), .val (.int p1), .val (.int p2), .val (.long q0), .second, .val (.long q1), .second, .val (.int xx), .val (.int (p1 &&& (1073741823 : Int32))), .unset, .unset, .unset, .unset, .unset, .unset, .unset, .unset, .unset]) rfl k) ?_
  obtain ⟨yy, hn_yy⟩ : ∃ z : Int32, z = (p1 &&& (1073741823 : Int32)) := ⟨_, rfl⟩
  rw [← hn_yy]
  refine own_via (S' := s₁.setTop (mkF m 13 #[.val (.int p0), .val (.int p1), .val (.int p2), .val (.long q0), .second, .val (.long q1), .second, .val (.int xx), .val (.int yy), .unset, .unset, .unset, .unset, .unset, .unset, .unset, .unset, .unset] [(.int p2)])) (fun t k => XS.iloadN X0.here hx rfl (hb hby at_12) rfl k) ?_
  refine own_via (S' := s₁.setTop (mkF m 15 #[.val (.int p0), .val (.int p1), .val (.int p2), .val (.long q0), .second, .val (.long q1), .second, .val (.int xx), .val (.int yy), .unset, .unset, .unset, .unset, .unset, .unset, .unset, .unset, .unset] [(.int (1073741823 : Int32)), (.int p2)])) (fun t k => X0.ldcInt hx hown (mvT hZ (wd0 hw)) (g := (mkF m 13 #[.val (.int p0), .val (.int p1), .val (.int p2), .val (.long q0), .second, .val (.long q1), .second, .val (.int xx), .val (.int yy), .unset, .unset, .unset, .unset, .unset, .unset, .unset, .unset, .unset] [(.int p2)])) rfl (hb hby at_13) _ k) ?_
  refine own_via (S' := s₁.setTop (mkF m 16 #[.val (.int p0), .val (.int p1), .val (.int p2), .val (.long q0), .second, .val (.long q1), .second, .val (.int xx), .val (.int yy), .unset, .unset, .unset, .unset, .unset, .unset, .unset, .unset, .unset] [(.int (p2 &&& (1073741823 : Int32)))])) (fun t k => XS.iand X0.here hx rfl (hb hby at_15) rfl k) ?_
  refine own_via (S' := s₁.setTop (mkF m 18 #[.val (.int p0), .val (.int p1), .val (.int p2), .val (.long q0), .second, .val (.long q1), .second, .val (.int xx), .val (.int yy), .val (.int (p2 &&& (1073741823 : Int32))), .unset, .unset, .unset, .unset, .unset, .unset, .unset, .unset] [])) (fun t k => XS.istore X0.here hx rfl (hb hby at_16) rfl (l' := #[.val (.int p0), .val (.int p1), .val (.int p2), .val (.long q0), .second, .val (.long q1), .second, .val (.int xx), .val (.int yy), .val (.int (p2 &&& (1073741823 : Int32))), .unset, .unset, .unset, .unset, .unset, .unset, .unset, .unset]) rfl k) ?_
  obtain ⟨vv, hn_vv⟩ : ∃ z : Int32, z = (p2 &&& (1073741823 : Int32)) := ⟨_, rfl⟩
  rw [← hn_vv]
  obtain ⟨T1, h1, X1, e1, E1, A1, D1, -, st1⟩ := newO X0 hx hZ hown (wd1 hw) (wd2 hw) (wd3 hw) e0 (g := (mkF m 18 #[.val (.int p0), .val (.int p1), .val (.int p2), .val (.long q0), .second, .val (.long q1), .second, .val (.int xx), .val (.int yy), .val (.int vv), .unset, .unset, .unset, .unset, .unset, .unset, .unset, .unset] [])) rfl (hb hby at_18) (by decide) (by decide)
  obtain ⟨b1, g1⟩ : ∃ z, z = h0.size := ⟨_, rfl⟩
  rw [← g1] at A1 D1 st1
  have lt_b1 : b1 < h1.size := A1.lt
  have sz2 : h0.size ≤ h1.size := E1.1
  have O3 : Old Z n0 h1 := O0.ext E1
  have F1_tunnel : Fld Z h1 b1 "org/veilroute/service/TunnelPool$Standing" "tunnel" "Lorg/veilroute/service/Tunnel;" .null := D1 (Or.inr (wd59 hw)) (ty := (.object "org/veilroute/service/Tunnel")) (by decide)
  have F1_end : Fld Z h1 b1 "org/veilroute/service/TunnelPool$Standing" "end" "J" (.long (0 : Int64)) := D1 (Or.inr (wd61 hw)) (ty := .long) (by decide)
  have F1_provenAfter : Fld Z h1 b1 "org/veilroute/service/TunnelPool$Standing" "provenAfter" "J" (.long (0 : Int64)) := D1 (Or.inl (wd63 hw)) (ty := .long) (by decide)
  have F1_failedTests : Fld Z h1 b1 "org/veilroute/service/TunnelPool$Standing" "failedTests" "I" (.int (0 : Int32)) := D1 (Or.inl (wd70 hw)) (ty := .int) (by decide)
  refine own_via (S' := T1.setTop (mkF m 21 #[.val (.int p0), .val (.int p1), .val (.int p2), .val (.long q0), .second, .val (.long q1), .second, .val (.int xx), .val (.int yy), .val (.int vv), .unset, .unset, .unset, .unset, .unset, .unset, .unset, .unset] [(.ref b1)])) st1 ?_
  refine own_via (S' := T1.setTop (mkF m 22 #[.val (.int p0), .val (.int p1), .val (.int p2), .val (.long q0), .second, .val (.long q1), .second, .val (.int xx), .val (.int yy), .val (.int vv), .unset, .unset, .unset, .unset, .unset, .unset, .unset, .unset] [(.ref b1), (.ref b1)])) (fun t k => XS.dup X1.here hx rfl (hb hby at_21) rfl rfl k) ?_
  obtain ⟨_, _, ⟨T4, L4, k4, n4⟩, -, X4, ⟨Lc4, hQ4, l4, y4, z4⟩, st4⟩ := Jvm.LawKit.callS X1 hx (y := mt5) hown (mvT hZ (wd4 hw)) (mvT hZ (wd5 hw)) (mvT hZ (wd6 hw)) (mvT hZ (wd7 hw)) (by decide) (backOf (W := 2) (own_zero l Z a0 hw [] w wl h1 n0 O3 zf_S_org_veilroute_service_TunnelBuilder_Direction_OUTBOUND zf_S_java_util_ImmutableCollections_EMPTY_LIST zf_E_wl zf_F_wl_allowNulls) hZ (wd7 hw) (wd6 hw) (by decide) (by decide)) (g := (mkF m 22 #[.val (.int p0), .val (.int p1), .val (.int p2), .val (.long q0), .second, .val (.long q1), .second, .val (.int xx), .val (.int yy), .val (.int vv), .unset, .unset, .unset, .unset, .unset, .unset, .unset, .unset] [(.ref b1), (.ref b1)])) rfl (by rw [hml]; rfl) (argsL := []) (rest := [(.ref b1), (.ref b1)]) (lenOf pd___Lorg_veilroute_service_Tunnel__3059 rfl) rfl (by show 2 * 0 + _ ≤ _; exact Nat.le_of_eq rfl) (hb hby at_22) (fun _ _ => ⟨rfl, e1, (by decide : 1 + 1 ≤ _), (by decide : 4 + 3 ≤ _)⟩)
  dsimp only [Pt.U, Pt.locs, Pt.cells, Pt.slots] at X4 l4 y4 z4 st4 hQ4
  subst l4 y4 z4
  obtain ⟨b4, rfl, N4q, K4q, f4_0⟩ := hQ4
  have N4 := Fr.app N0 N4q
  have sz5 : h1.size ≤ T4.heap.size := K4q.1
  have O6 : Old Z n0 T4.heap := O3.keep K4q all0
  have lt7_b4 : b4 < T4.heap.size := f4_0.lt
  refine own_via (S' := T4.setTop (mkF m 25 #[.val (.int p0), .val (.int p1), .val (.int p2), .val (.long q0), .second, .val (.long q1), .second, .val (.int xx), .val (.int yy), .val (.int vv), .unset, .unset, .unset, .unset, .unset, .unset, .unset, .unset] [(.ref b4), (.ref b1), (.ref b1)])) st4 ?_
  refine own_via (S' := T4.setTop (mkF m 26 #[.val (.int p0), .val (.int p1), .val (.int p2), .val (.long q0), .second, .val (.long q1), .second, .val (.int xx), .val (.int yy), .val (.int vv), .unset, .unset, .unset, .unset, .unset, .unset, .unset, .unset] [(.long q0), (.ref b4), (.ref b1), (.ref b1)])) (fun t k => XS.lloadN X4.here hx rfl (hb hby at_25) rfl k) ?_
  refine own_via (S' := T4.setTop (mkF m 28 #[.val (.int p0), .val (.int p1), .val (.int p2), .val (.long q0), .second, .val (.long q1), .second, .val (.int xx), .val (.int yy), .val (.int vv), .unset, .unset, .unset, .unset, .unset, .unset, .unset, .unset] [(.long q1), (.long q0), (.ref b4), (.ref b1), (.ref b1)])) (fun t k => XS.lload X4.here hx rfl (hb hby at_26) rfl k) ?_
  have c9 : Exa Z T4.heap b1 "org/veilroute/service/TunnelPool$Standing" := (A1.keep K4q)
  have c10 : Fld Z T4.heap b1 "org/veilroute/service/TunnelPool$Standing" "tunnel" "Lorg/veilroute/service/Tunnel;" .null := (F1_tunnel.keep K4q nin0)
  have c11 : Fld Z T4.heap b1 "org/veilroute/service/TunnelPool$Standing" "end" "J" (.long (0 : Int64)) := (F1_end.keep K4q nin0)
  have c12 : Fld Z T4.heap b1 "org/veilroute/service/TunnelPool$Standing" "provenAfter" "J" (.long (0 : Int64)) := (F1_provenAfter.keep K4q nin0)
  have c13 : Fld Z T4.heap b1 "org/veilroute/service/TunnelPool$Standing" "failedTests" "I" (.int (0 : Int32)) := (F1_failedTests.keep K4q nin0)
  obtain ⟨_, _, ⟨T8, L8, k8, n8⟩, -, X8, ⟨Lc8, hQ8, l8, y8, z8⟩, st8⟩ := X4.specialBack hx (y := mt6) rfl hown (mvT hZ (wd54 hw)) (mvT hZ (wd55 hw)) (mvT hZ (wd56 hw)) (by decide) (backOf (W := 1) (own_sdinit l Z a0 hw [] b1 b4 q0 q1 T4.heap n0 O6 c9 c10 c11 c12 c13 (by first | assumption | exact Ne.symm (by assumption) | omega | decide)) hZ (wd56 hw) (wd3 hw) (by decide) (by decide)) (g := (mkF m 28 #[.val (.int p0), .val (.int p1), .val (.int p2), .val (.long q0), .second, .val (.long q1), .second, .val (.int xx), .val (.int yy), .val (.int vv), .unset, .unset, .unset, .unset, .unset, .unset, .unset, .unset] [(.long q1), (.long q0), (.ref b4), (.ref b1), (.ref b1)])) rfl (by rw [hml]; rfl) (Steps.refl _) (a := b1) (argsL := [(.ref b4), (.long q0), (.long q1)]) (rest := [(.ref b1)]) (lenOf pd__Lorg_veilroute_service_Tunnel_JJ_V_3293 rfl) rfl (by show 2 * 0 + _ ≤ _; exact Nat.le_of_eq rfl) (hb hby at_28) (fun _ _ => ⟨rfl, rfl, (by decide : 2 + 0 ≤ _), (by decide : 7 + 0 ≤ _)⟩)
  dsimp only [Pt.U, Pt.locs, Pt.cells, Pt.slots] at X8 l8 y8 z8 st8 hQ8
  subst l8 y8 z8
  obtain ⟨rfl, N8q, K8q, f8_0, f8_1, f8_2⟩ := hQ8
  have N8 := Fr.app N4 N8q
  have sz14 : T4.heap.size ≤ T8.heap.size := K8q.1
  have O15 : Old Z n0 T8.heap := O6.keep K8q (allS (by omega : n0 ≤ b1) all0)
  refine own_tr (S' := T8.setTop (mkF m 31 #[.val (.int p0), .val (.int p1), .val (.int p2), .val (.long q0), .second, .val (.long q1), .second, .val (.int xx), .val (.int yy), .val (.int vv), .unset, .unset, .unset, .unset, .unset, .unset, .unset, .unset] [(.ref b1)])) st8 ?_
  refine own_via (S' := T8.setTop (mkF m 33 #[.val (.int p0), .val (.int p1), .val (.int p2), .val (.long q0), .second, .val (.long q1), .second, .val (.int xx), .val (.int yy), .val (.int vv), .val (.ref b1), .unset, .unset, .unset, .unset, .unset, .unset, .unset] [])) (fun t k => XS.astore X8.here hx rfl (hb hby at_31) rfl rfl (l' := #[.val (.int p0), .val (.int p1), .val (.int p2), .val (.long q0), .second, .val (.long q1), .second, .val (.int xx), .val (.int yy), .val (.int vv), .val (.ref b1), .unset, .unset, .unset, .unset, .unset, .unset, .unset]) rfl k) ?_
  refine own_via (S' := T8.setTop (mkF m 35 #[.val (.int p0), .val (.int p1), .val (.int p2), .val (.long q0), .second, .val (.long q1), .second, .val (.int xx), .val (.int yy), .val (.int vv), .val (.ref b1), .unset, .unset, .unset, .unset, .unset, .unset, .unset] [(.ref b1)])) (fun t k => XS.aload X8.here hx rfl (hb hby at_33) rfl rfl k) ?_
  have c17 : Exa Z T8.heap b1 "org/veilroute/service/TunnelPool$Standing" := (c9.keep K8q)
  obtain ⟨cq16, kq16, q16a, q16b, q16c⟩ := isOf hZ rfl c17
  obtain ⟨_, _, ⟨T16, L16, k16, n16⟩, -, X16, ⟨Lc16, hQ16, l16, y16, z16⟩, st16⟩ := X8.virtualBack hx (y := mt7) (z := mt7) hown (mvT hZ (wd64 hw)) (mvT hZ (wd65 hw)) (notFace_of_selects (args := #[]) (mvT hZ (wd67 hw))) (mvT hZ (wd67 hw)) (mvT hZ (wd66 hw)) (by decide) (backOf (W := 0) (own_sound l Z a0 hw [] b1 (0 : Int32) T8.heap n0 O15 f8_2) hZ (wd68 hw) (wd3 hw) (by decide) (by decide)) q16a q16c (g := (mkF m 35 #[.val (.int p0), .val (.int p1), .val (.int p2), .val (.long q0), .second, .val (.long q1), .second, .val (.int xx), .val (.int yy), .val (.int vv), .val (.ref b1), .unset, .unset, .unset, .unset, .unset, .unset, .unset] [(.ref b1)])) rfl (by rw [hml]; rfl) (Steps.refl _) (argsL := []) (rest := []) (lenOf pd___Z_171 rfl) rfl (by show 2 * 0 + _ ≤ _; exact Nat.le_of_eq rfl) (hb hby at_35) (fun _ _ => ⟨rfl, rfl, (by decide : 2 + 0 ≤ _), (by decide : 7 + 0 ≤ _)⟩)
  dsimp only [Pt.U, Pt.locs, Pt.cells, Pt.slots] at X16 l16 y16 z16 st16 hQ16
  subst l16 y16 z16
  obtain ⟨z16, rfl, rfl, e16, hz16_0⟩ := hQ16
  try rw [List.append_nil] at X16
  refine own_tr (S' := T16.setTop (mkF m 38 #[.val (.int p0), .val (.int p1), .val (.int p2), .val (.long q0), .second, .val (.long q1), .second, .val (.int xx), .val (.int yy), .val (.int vv), .val (.ref b1), .unset, .unset, .unset, .unset, .unset, .unset, .unset] [(.int z16)])) st16 ?_
  refine own_via (S' := T16.setTop (mkF m 40 #[.val (.int p0), .val (.int p1), .val (.int p2), .val (.long q0), .second, .val (.long q1), .second, .val (.int xx), .val (.int yy), .val (.int vv), .val (.ref b1), .val (.int z16), .unset, .unset, .unset, .unset, .unset, .unset] [])) (fun t k => XS.istore X16.here hx rfl (hb hby at_38) rfl (l' := #[.val (.int p0), .val (.int p1), .val (.int p2), .val (.long q0), .second, .val (.long q1), .second, .val (.int xx), .val (.int yy), .val (.int vv), .val (.ref b1), .val (.int z16), .unset, .unset, .unset, .unset, .unset, .unset]) rfl k) ?_
  refine own_via (S' := T16.setTop (mkF m 42 #[.val (.int p0), .val (.int p1), .val (.int p2), .val (.long q0), .second, .val (.long q1), .second, .val (.int xx), .val (.int yy), .val (.int vv), .val (.ref b1), .val (.int z16), .unset, .unset, .unset, .unset, .unset, .unset] [(.ref b1)])) (fun t k => XS.aload X16.here hx rfl (hb hby at_40) rfl rfl k) ?_
  refine own_via (S' := T16.setTop (mkF m 44 #[.val (.int p0), .val (.int p1), .val (.int p2), .val (.long q0), .second, .val (.long q1), .second, .val (.int xx), .val (.int yy), .val (.int vv), .val (.ref b1), .val (.int z16), .unset, .unset, .unset, .unset, .unset, .unset] [(.int xx), (.ref b1)])) (fun t k => XS.iload X16.here hx rfl (hb hby at_42) rfl k) ?_
  obtain ⟨cq18, kq18, q18a, q18b, q18c⟩ := isOf hZ e16 c17
  obtain ⟨_, _, ⟨T18, L18, k18, n18⟩, -, X18, ⟨Lc18, hQ18, l18, y18, z18⟩, st18⟩ := X16.virtualBack hx (y := mt8) (z := mt8) hown (mvT hZ (wd71 hw)) (mvT hZ (wd72 hw)) (notFace_of_selects (args := #[]) (mvT hZ (wd74 hw))) (mvT hZ (wd74 hw)) (mvT hZ (wd73 hw)) (by decide) (backOf (W := 0) (own_failed l Z a0 hw [] b1 xx q0 q1 (0 : Int32) T8.heap n0 O15 c17 f8_0 f8_1 f8_2 (by first | assumption | exact Ne.symm (by assumption) | omega | decide)) hZ (wd75 hw) (wd3 hw) (by decide) (by decide)) q18a q18c (g := (mkF m 44 #[.val (.int p0), .val (.int p1), .val (.int p2), .val (.long q0), .second, .val (.long q1), .second, .val (.int xx), .val (.int yy), .val (.int vv), .val (.ref b1), .val (.int z16), .unset, .unset, .unset, .unset, .unset, .unset] [(.int xx), (.ref b1)])) rfl (by rw [hml]; rfl) (Steps.refl _) (argsL := [(.int xx)]) (rest := []) (lenOf pd__I_I_227 rfl) rfl (by show 2 * 0 + _ ≤ _; exact Nat.le_of_eq rfl) (hb hby at_44) (fun _ _ => ⟨rfl, e16, (by decide : 2 + 0 ≤ _), (by decide : 7 + 0 ≤ _)⟩)
  dsimp only [Pt.U, Pt.locs, Pt.cells, Pt.slots] at X18 l18 y18 z18 st18 hQ18
  subst l18 y18 z18
  obtain ⟨rfl, N18q, K18q, f18_0, f18_1, f18_2⟩ := hQ18
  have N18 := Fr.app N8 N18q
  have sz19 : T8.heap.size ≤ T18.heap.size := K18q.1
  have O20 : Old Z n0 T18.heap := O15.keep K18q (allS (by omega : n0 ≤ b1) all0)
  refine own_tr (S' := T18.setTop (mkF m 47 #[.val (.int p0), .val (.int p1), .val (.int p2), .val (.long q0), .second, .val (.long q1), .second, .val (.int xx), .val (.int yy), .val (.int vv), .val (.ref b1), .val (.int z16), .unset, .unset, .unset, .unset, .unset, .unset] [(.int ((0 : Int32) + xx))])) st18 ?_
  have rw21 : ((0 : Int32) + xx) = xx := Int32.zero_add xx
  rw [rw21]
  have f18_2_r21 : Fld Z T18.heap b1 "org/veilroute/service/TunnelPool$Standing" "failedTests" "I" (.int xx) := rw21 ▸ f18_2
  refine own_via (S' := T18.setTop (mkF m 49 #[.val (.int p0), .val (.int p1), .val (.int p2), .val (.long q0), .second, .val (.long q1), .second, .val (.int xx), .val (.int yy), .val (.int vv), .val (.ref b1), .val (.int z16), .val (.int xx), .unset, .unset, .unset, .unset, .unset] [])) (fun t k => XS.istore X18.here hx rfl (hb hby at_47) rfl (l' := #[.val (.int p0), .val (.int p1), .val (.int p2), .val (.long q0), .second, .val (.long q1), .second, .val (.int xx), .val (.int yy), .val (.int vv), .val (.ref b1), .val (.int z16), .val (.int xx), .unset, .unset, .unset, .unset, .unset]) rfl k) ?_
  refine own_via (S' := T18.setTop (mkF m 51 #[.val (.int p0), .val (.int p1), .val (.int p2), .val (.long q0), .second, .val (.long q1), .second, .val (.int xx), .val (.int yy), .val (.int vv), .val (.ref b1), .val (.int z16), .val (.int xx), .unset, .unset, .unset, .unset, .unset] [(.ref b1)])) (fun t k => XS.aload X18.here hx rfl (hb hby at_49) rfl rfl k) ?_
  have c23 : Exa Z T18.heap b1 "org/veilroute/service/TunnelPool$Standing" := (c17.keep K18q)
  obtain ⟨cq22, kq22, q22a, q22b, q22c⟩ := isOf hZ rfl c23
  obtain ⟨_, _, ⟨T22, L22, k22, n22⟩, -, X22, ⟨Lc22, hQ22, l22, y22, z22⟩, st22⟩ := X18.virtualBack hx (y := mt7) (z := mt7) hown (mvT hZ (wd64 hw)) (mvT hZ (wd65 hw)) (notFace_of_selects (args := #[]) (mvT hZ (wd67 hw))) (mvT hZ (wd67 hw)) (mvT hZ (wd66 hw)) (by decide) (backOf (W := 0) (own_sound l Z a0 hw [] b1 xx T18.heap n0 O20 f18_2_r21) hZ (wd68 hw) (wd3 hw) (by decide) (by decide)) q22a q22c (g := (mkF m 51 #[.val (.int p0), .val (.int p1), .val (.int p2), .val (.long q0), .second, .val (.long q1), .second, .val (.int xx), .val (.int yy), .val (.int vv), .val (.ref b1), .val (.int z16), .val (.int xx), .unset, .unset, .unset, .unset, .unset] [(.ref b1)])) rfl (by rw [hml]; rfl) (Steps.refl _) (argsL := []) (rest := []) (lenOf pd___Z_171 rfl) rfl (by show 2 * 0 + _ ≤ _; exact Nat.le_of_eq rfl) (hb hby at_51) (fun _ _ => ⟨rfl, rfl, (by decide : 2 + 0 ≤ _), (by decide : 7 + 0 ≤ _)⟩)
  dsimp only [Pt.U, Pt.locs, Pt.cells, Pt.slots] at X22 l22 y22 z22 st22 hQ22
  subst l22 y22 z22
  obtain ⟨z22, rfl, rfl, e22, hz22_0⟩ := hQ22
  try rw [List.append_nil] at X22
  refine own_tr (S' := T22.setTop (mkF m 54 #[.val (.int p0), .val (.int p1), .val (.int p2), .val (.long q0), .second, .val (.long q1), .second, .val (.int xx), .val (.int yy), .val (.int vv), .val (.ref b1), .val (.int z16), .val (.int xx), .unset, .unset, .unset, .unset, .unset] [(.int z22)])) st22 ?_
  refine own_via (S' := T22.setTop (mkF m 56 #[.val (.int p0), .val (.int p1), .val (.int p2), .val (.long q0), .second, .val (.long q1), .second, .val (.int xx), .val (.int yy), .val (.int vv), .val (.ref b1), .val (.int z16), .val (.int xx), .val (.int z22), .unset, .unset, .unset, .unset] [])) (fun t k => XS.istore X22.here hx rfl (hb hby at_54) rfl (l' := #[.val (.int p0), .val (.int p1), .val (.int p2), .val (.long q0), .second, .val (.long q1), .second, .val (.int xx), .val (.int yy), .val (.int vv), .val (.ref b1), .val (.int z16), .val (.int xx), .val (.int z22), .unset, .unset, .unset, .unset]) rfl k) ?_
  refine own_via (S' := T22.setTop (mkF m 58 #[.val (.int p0), .val (.int p1), .val (.int p2), .val (.long q0), .second, .val (.long q1), .second, .val (.int xx), .val (.int yy), .val (.int vv), .val (.ref b1), .val (.int z16), .val (.int xx), .val (.int z22), .unset, .unset, .unset, .unset] [(.ref b1)])) (fun t k => XS.aload X22.here hx rfl (hb hby at_56) rfl rfl k) ?_
  refine own_via (S' := T22.setTop (mkF m 60 #[.val (.int p0), .val (.int p1), .val (.int p2), .val (.long q0), .second, .val (.long q1), .second, .val (.int xx), .val (.int yy), .val (.int vv), .val (.ref b1), .val (.int z16), .val (.int xx), .val (.int z22), .unset, .unset, .unset, .unset] [(.int yy), (.ref b1)])) (fun t k => XS.iload X22.here hx rfl (hb hby at_58) rfl k) ?_
  obtain ⟨cq24, kq24, q24a, q24b, q24c⟩ := isOf hZ e22 c23
  obtain ⟨_, _, ⟨T24, L24, k24, n24⟩, -, X24, ⟨Lc24, hQ24, l24, y24, z24⟩, st24⟩ := X22.virtualBack hx (y := mt8) (z := mt8) hown (mvT hZ (wd71 hw)) (mvT hZ (wd72 hw)) (notFace_of_selects (args := #[]) (mvT hZ (wd74 hw))) (mvT hZ (wd74 hw)) (mvT hZ (wd73 hw)) (by decide) (backOf (W := 0) (own_failed l Z a0 hw [] b1 yy q0 q1 xx T18.heap n0 O20 c23 f18_0 f18_1 f18_2_r21 (by first | assumption | exact Ne.symm (by assumption) | omega | decide)) hZ (wd75 hw) (wd3 hw) (by decide) (by decide)) q24a q24c (g := (mkF m 60 #[.val (.int p0), .val (.int p1), .val (.int p2), .val (.long q0), .second, .val (.long q1), .second, .val (.int xx), .val (.int yy), .val (.int vv), .val (.ref b1), .val (.int z16), .val (.int xx), .val (.int z22), .unset, .unset, .unset, .unset] [(.int yy), (.ref b1)])) rfl (by rw [hml]; rfl) (Steps.refl _) (argsL := [(.int yy)]) (rest := []) (lenOf pd__I_I_227 rfl) rfl (by show 2 * 0 + _ ≤ _; exact Nat.le_of_eq rfl) (hb hby at_60) (fun _ _ => ⟨rfl, e22, (by decide : 2 + 0 ≤ _), (by decide : 7 + 0 ≤ _)⟩)
  dsimp only [Pt.U, Pt.locs, Pt.cells, Pt.slots] at X24 l24 y24 z24 st24 hQ24
  subst l24 y24 z24
  obtain ⟨rfl, N24q, K24q, f24_0, f24_1, f24_2⟩ := hQ24
  have N24 := Fr.app N18 N24q
  have sz25 : T18.heap.size ≤ T24.heap.size := K24q.1
  have O26 : Old Z n0 T24.heap := O20.keep K24q (allS (by omega : n0 ≤ b1) all0)
  refine own_tr (S' := T24.setTop (mkF m 63 #[.val (.int p0), .val (.int p1), .val (.int p2), .val (.long q0), .second, .val (.long q1), .second, .val (.int xx), .val (.int yy), .val (.int vv), .val (.ref b1), .val (.int z16), .val (.int xx), .val (.int z22), .unset, .unset, .unset, .unset] [(.int (xx + yy))])) st24 ?_
  refine own_via (S' := T24.setTop (mkF m 65 #[.val (.int p0), .val (.int p1), .val (.int p2), .val (.long q0), .second, .val (.long q1), .second, .val (.int xx), .val (.int yy), .val (.int vv), .val (.ref b1), .val (.int z16), .val (.int xx), .val (.int z22), .val (.int (xx + yy)), .unset, .unset, .unset] [])) (fun t k => XS.istore X24.here hx rfl (hb hby at_63) rfl (l' := #[.val (.int p0), .val (.int p1), .val (.int p2), .val (.long q0), .second, .val (.long q1), .second, .val (.int xx), .val (.int yy), .val (.int vv), .val (.ref b1), .val (.int z16), .val (.int xx), .val (.int z22), .val (.int (xx + yy)), .unset, .unset, .unset]) rfl k) ?_
  refine own_via (S' := T24.setTop (mkF m 67 #[.val (.int p0), .val (.int p1), .val (.int p2), .val (.long q0), .second, .val (.long q1), .second, .val (.int xx), .val (.int yy), .val (.int vv), .val (.ref b1), .val (.int z16), .val (.int xx), .val (.int z22), .val (.int (xx + yy)), .unset, .unset, .unset] [(.ref b1)])) (fun t k => XS.aload X24.here hx rfl (hb hby at_65) rfl rfl k) ?_
  have c28 : Exa Z T24.heap b1 "org/veilroute/service/TunnelPool$Standing" := (c23.keep K24q)
  obtain ⟨cq27, kq27, q27a, q27b, q27c⟩ := isOf hZ rfl c28
  obtain ⟨_, _, ⟨T27, L27, k27, n27⟩, -, X27, ⟨Lc27, hQ27, l27, y27, z27⟩, st27⟩ := X24.virtualBack hx (y := mt7) (z := mt7) hown (mvT hZ (wd64 hw)) (mvT hZ (wd65 hw)) (notFace_of_selects (args := #[]) (mvT hZ (wd67 hw))) (mvT hZ (wd67 hw)) (mvT hZ (wd66 hw)) (by decide) (backOf (W := 0) (own_sound l Z a0 hw [] b1 (xx + yy) T24.heap n0 O26 f24_2) hZ (wd68 hw) (wd3 hw) (by decide) (by decide)) q27a q27c (g := (mkF m 67 #[.val (.int p0), .val (.int p1), .val (.int p2), .val (.long q0), .second, .val (.long q1), .second, .val (.int xx), .val (.int yy), .val (.int vv), .val (.ref b1), .val (.int z16), .val (.int xx), .val (.int z22), .val (.int (xx + yy)), .unset, .unset, .unset] [(.ref b1)])) rfl (by rw [hml]; rfl) (Steps.refl _) (argsL := []) (rest := []) (lenOf pd___Z_171 rfl) rfl (by show 2 * 0 + _ ≤ _; exact Nat.le_of_eq rfl) (hb hby at_67) (fun _ _ => ⟨rfl, rfl, (by decide : 2 + 0 ≤ _), (by decide : 7 + 0 ≤ _)⟩)
  dsimp only [Pt.U, Pt.locs, Pt.cells, Pt.slots] at X27 l27 y27 z27 st27 hQ27
  subst l27 y27 z27
  obtain ⟨z27, rfl, rfl, e27, hz27_0⟩ := hQ27
  try rw [List.append_nil] at X27
  refine own_tr (S' := T27.setTop (mkF m 70 #[.val (.int p0), .val (.int p1), .val (.int p2), .val (.long q0), .second, .val (.long q1), .second, .val (.int xx), .val (.int yy), .val (.int vv), .val (.ref b1), .val (.int z16), .val (.int xx), .val (.int z22), .val (.int (xx + yy)), .unset, .unset, .unset] [(.int z27)])) st27 ?_
  refine own_via (S' := T27.setTop (mkF m 72 #[.val (.int p0), .val (.int p1), .val (.int p2), .val (.long q0), .second, .val (.long q1), .second, .val (.int xx), .val (.int yy), .val (.int vv), .val (.ref b1), .val (.int z16), .val (.int xx), .val (.int z22), .val (.int (xx + yy)), .val (.int z27), .unset, .unset] [])) (fun t k => XS.istore X27.here hx rfl (hb hby at_70) rfl (l' := #[.val (.int p0), .val (.int p1), .val (.int p2), .val (.long q0), .second, .val (.long q1), .second, .val (.int xx), .val (.int yy), .val (.int vv), .val (.ref b1), .val (.int z16), .val (.int xx), .val (.int z22), .val (.int (xx + yy)), .val (.int z27), .unset, .unset]) rfl k) ?_
  refine own_via (S' := T27.setTop (mkF m 74 #[.val (.int p0), .val (.int p1), .val (.int p2), .val (.long q0), .second, .val (.long q1), .second, .val (.int xx), .val (.int yy), .val (.int vv), .val (.ref b1), .val (.int z16), .val (.int xx), .val (.int z22), .val (.int (xx + yy)), .val (.int z27), .unset, .unset] [(.ref b1)])) (fun t k => XS.aload X27.here hx rfl (hb hby at_72) rfl rfl k) ?_
  refine own_via (S' := T27.setTop (mkF m 76 #[.val (.int p0), .val (.int p1), .val (.int p2), .val (.long q0), .second, .val (.long q1), .second, .val (.int xx), .val (.int yy), .val (.int vv), .val (.ref b1), .val (.int z16), .val (.int xx), .val (.int z22), .val (.int (xx + yy)), .val (.int z27), .unset, .unset] [(.long q1), (.ref b1)])) (fun t k => XS.lload X27.here hx rfl (hb hby at_74) rfl k) ?_
  obtain ⟨cq29, kq29, q29a, q29b, q29c⟩ := isOf hZ e27 c28
  obtain ⟨_, _, ⟨T29, L29, k29, n29⟩, -, X29, ⟨Lc29, hQ29, l29, y29, z29⟩, st29⟩ := X27.virtualBack hx (y := mt10) (z := mt10) hown (mvT hZ (wd76 hw)) (mvT hZ (wd77 hw)) (notFace_of_selects (args := #[]) (mvT hZ (wd79 hw))) (mvT hZ (wd79 hw)) (mvT hZ (wd78 hw)) (by decide) (backOf (W := 0) (own_passed l Z a0 hw [] b1 q1 q0 q1 (xx + yy) T24.heap n0 O26 c28 f24_0 f24_1 f24_2 (by first | assumption | exact Ne.symm (by assumption) | omega | decide)) hZ (wd80 hw) (wd3 hw) (by decide) (by decide)) q29a q29c (g := (mkF m 76 #[.val (.int p0), .val (.int p1), .val (.int p2), .val (.long q0), .second, .val (.long q1), .second, .val (.int xx), .val (.int yy), .val (.int vv), .val (.ref b1), .val (.int z16), .val (.int xx), .val (.int z22), .val (.int (xx + yy)), .val (.int z27), .unset, .unset] [(.long q1), (.ref b1)])) rfl (by rw [hml]; rfl) (Steps.refl _) (argsL := [(.long q1)]) (rest := []) (lenOf pd__J_V_241 rfl) rfl (by show 2 * 0 + _ ≤ _; exact Nat.le_of_eq rfl) (hb hby at_76) (fun _ _ => ⟨rfl, e27, (by decide : 2 + 0 ≤ _), (by decide : 7 + 0 ≤ _)⟩)
  dsimp only [Pt.U, Pt.locs, Pt.cells, Pt.slots] at X29 l29 y29 z29 st29 hQ29
  subst l29 y29 z29
  obtain ⟨r229, rfl, N29q, K29q, f29_0, f29_1, f29_2⟩ := hQ29
  have N29 := Fr.app N24 N29q
  have sz30 : T24.heap.size ≤ T29.heap.size := K29q.1
  have O31 : Old Z n0 T29.heap := O26.keep K29q (allS (by omega : n0 ≤ b1) all0)
  refine own_tr (S' := T29.setTop (mkF m 79 #[.val (.int p0), .val (.int p1), .val (.int p2), .val (.long q0), .second, .val (.long q1), .second, .val (.int xx), .val (.int yy), .val (.int vv), .val (.ref b1), .val (.int z16), .val (.int xx), .val (.int z22), .val (.int (xx + yy)), .val (.int z27), .unset, .unset] [])) st29 ?_
  refine own_via (S' := T29.setTop (mkF m 81 #[.val (.int p0), .val (.int p1), .val (.int p2), .val (.long q0), .second, .val (.long q1), .second, .val (.int xx), .val (.int yy), .val (.int vv), .val (.ref b1), .val (.int z16), .val (.int xx), .val (.int z22), .val (.int (xx + yy)), .val (.int z27), .unset, .unset] [(.ref b1)])) (fun t k => XS.aload X29.here hx rfl (hb hby at_79) rfl rfl k) ?_
  have c33 : Exa Z T29.heap b1 "org/veilroute/service/TunnelPool$Standing" := (c28.keep K29q)
  obtain ⟨cq32, kq32, q32a, q32b, q32c⟩ := isOf hZ rfl c33
  obtain ⟨_, _, ⟨T32, L32, k32, n32⟩, -, X32, ⟨Lc32, hQ32, l32, y32, z32⟩, st32⟩ := X29.virtualBack hx (y := mt7) (z := mt7) hown (mvT hZ (wd64 hw)) (mvT hZ (wd65 hw)) (notFace_of_selects (args := #[]) (mvT hZ (wd67 hw))) (mvT hZ (wd67 hw)) (mvT hZ (wd66 hw)) (by decide) (backOf (W := 0) (own_sound l Z a0 hw [] b1 (0 : Int32) T29.heap n0 O31 f29_2) hZ (wd68 hw) (wd3 hw) (by decide) (by decide)) q32a q32c (g := (mkF m 81 #[.val (.int p0), .val (.int p1), .val (.int p2), .val (.long q0), .second, .val (.long q1), .second, .val (.int xx), .val (.int yy), .val (.int vv), .val (.ref b1), .val (.int z16), .val (.int xx), .val (.int z22), .val (.int (xx + yy)), .val (.int z27), .unset, .unset] [(.ref b1)])) rfl (by rw [hml]; rfl) (Steps.refl _) (argsL := []) (rest := []) (lenOf pd___Z_171 rfl) rfl (by show 2 * 0 + _ ≤ _; exact Nat.le_of_eq rfl) (hb hby at_81) (fun _ _ => ⟨rfl, rfl, (by decide : 2 + 0 ≤ _), (by decide : 7 + 0 ≤ _)⟩)
  dsimp only [Pt.U, Pt.locs, Pt.cells, Pt.slots] at X32 l32 y32 z32 st32 hQ32
  subst l32 y32 z32
  obtain ⟨z32, rfl, rfl, e32, hz32_0⟩ := hQ32
  try rw [List.append_nil] at X32
  refine own_tr (S' := T32.setTop (mkF m 84 #[.val (.int p0), .val (.int p1), .val (.int p2), .val (.long q0), .second, .val (.long q1), .second, .val (.int xx), .val (.int yy), .val (.int vv), .val (.ref b1), .val (.int z16), .val (.int xx), .val (.int z22), .val (.int (xx + yy)), .val (.int z27), .unset, .unset] [(.int z32)])) st32 ?_
  refine own_via (S' := T32.setTop (mkF m 86 #[.val (.int p0), .val (.int p1), .val (.int p2), .val (.long q0), .second, .val (.long q1), .second, .val (.int xx), .val (.int yy), .val (.int vv), .val (.ref b1), .val (.int z16), .val (.int xx), .val (.int z22), .val (.int (xx + yy)), .val (.int z27), .val (.int z32), .unset] [])) (fun t k => XS.istore X32.here hx rfl (hb hby at_84) rfl (l' := #[.val (.int p0), .val (.int p1), .val (.int p2), .val (.long q0), .second, .val (.long q1), .second, .val (.int xx), .val (.int yy), .val (.int vv), .val (.ref b1), .val (.int z16), .val (.int xx), .val (.int z22), .val (.int (xx + yy)), .val (.int z27), .val (.int z32), .unset]) rfl k) ?_
  refine own_via (S' := T32.setTop (mkF m 88 #[.val (.int p0), .val (.int p1), .val (.int p2), .val (.long q0), .second, .val (.long q1), .second, .val (.int xx), .val (.int yy), .val (.int vv), .val (.ref b1), .val (.int z16), .val (.int xx), .val (.int z22), .val (.int (xx + yy)), .val (.int z27), .val (.int z32), .unset] [(.ref b1)])) (fun t k => XS.aload X32.here hx rfl (hb hby at_86) rfl rfl k) ?_
  refine own_via (S' := T32.setTop (mkF m 90 #[.val (.int p0), .val (.int p1), .val (.int p2), .val (.long q0), .second, .val (.long q1), .second, .val (.int xx), .val (.int yy), .val (.int vv), .val (.ref b1), .val (.int z16), .val (.int xx), .val (.int z22), .val (.int (xx + yy)), .val (.int z27), .val (.int z32), .unset] [(.int vv), (.ref b1)])) (fun t k => XS.iload X32.here hx rfl (hb hby at_88) rfl k) ?_
  obtain ⟨cq34, kq34, q34a, q34b, q34c⟩ := isOf hZ e32 c33
  obtain ⟨_, _, ⟨T34, L34, k34, n34⟩, -, X34, ⟨Lc34, hQ34, l34, y34, z34⟩, st34⟩ := X32.virtualBack hx (y := mt8) (z := mt8) hown (mvT hZ (wd71 hw)) (mvT hZ (wd72 hw)) (notFace_of_selects (args := #[]) (mvT hZ (wd74 hw))) (mvT hZ (wd74 hw)) (mvT hZ (wd73 hw)) (by decide) (backOf (W := 0) (own_failed l Z a0 hw [] b1 vv q0 r229 (0 : Int32) T29.heap n0 O31 c33 f29_0 f29_1 f29_2 (by first | assumption | exact Ne.symm (by assumption) | omega | decide)) hZ (wd75 hw) (wd3 hw) (by decide) (by decide)) q34a q34c (g := (mkF m 90 #[.val (.int p0), .val (.int p1), .val (.int p2), .val (.long q0), .second, .val (.long q1), .second, .val (.int xx), .val (.int yy), .val (.int vv), .val (.ref b1), .val (.int z16), .val (.int xx), .val (.int z22), .val (.int (xx + yy)), .val (.int z27), .val (.int z32), .unset] [(.int vv), (.ref b1)])) rfl (by rw [hml]; rfl) (Steps.refl _) (argsL := [(.int vv)]) (rest := []) (lenOf pd__I_I_227 rfl) rfl (by show 2 * 0 + _ ≤ _; exact Nat.le_of_eq rfl) (hb hby at_90) (fun _ _ => ⟨rfl, e32, (by decide : 2 + 0 ≤ _), (by decide : 7 + 0 ≤ _)⟩)
  dsimp only [Pt.U, Pt.locs, Pt.cells, Pt.slots] at X34 l34 y34 z34 st34 hQ34
  subst l34 y34 z34
  obtain ⟨rfl, N34q, K34q, f34_0, f34_1, f34_2⟩ := hQ34
  have N34 := Fr.app N29 N34q
  have sz35 : T29.heap.size ≤ T34.heap.size := K34q.1
  have O36 : Old Z n0 T34.heap := O31.keep K34q (allS (by omega : n0 ≤ b1) all0)
  refine own_tr (S' := T34.setTop (mkF m 93 #[.val (.int p0), .val (.int p1), .val (.int p2), .val (.long q0), .second, .val (.long q1), .second, .val (.int xx), .val (.int yy), .val (.int vv), .val (.ref b1), .val (.int z16), .val (.int xx), .val (.int z22), .val (.int (xx + yy)), .val (.int z27), .val (.int z32), .unset] [(.int ((0 : Int32) + vv))])) st34 ?_
  have rw37 : ((0 : Int32) + vv) = vv := Int32.zero_add vv
  rw [rw37]
  have f34_2_r37 : Fld Z T34.heap b1 "org/veilroute/service/TunnelPool$Standing" "failedTests" "I" (.int vv) := rw37 ▸ f34_2
  refine own_via (S' := T34.setTop (mkF m 95 #[.val (.int p0), .val (.int p1), .val (.int p2), .val (.long q0), .second, .val (.long q1), .second, .val (.int xx), .val (.int yy), .val (.int vv), .val (.ref b1), .val (.int z16), .val (.int xx), .val (.int z22), .val (.int (xx + yy)), .val (.int z27), .val (.int z32), .val (.int vv)] [])) (fun t k => XS.istore X34.here hx rfl (hb hby at_93) rfl (l' := #[.val (.int p0), .val (.int p1), .val (.int p2), .val (.long q0), .second, .val (.long q1), .second, .val (.int xx), .val (.int yy), .val (.int vv), .val (.ref b1), .val (.int z16), .val (.int xx), .val (.int z22), .val (.int (xx + yy)), .val (.int z27), .val (.int z32), .val (.int vv)]) rfl k) ?_
  refine own_via (S' := T34.setTop (mkF m 97 #[.val (.int p0), .val (.int p1), .val (.int p2), .val (.long q0), .second, .val (.long q1), .second, .val (.int xx), .val (.int yy), .val (.int vv), .val (.ref b1), .val (.int z16), .val (.int xx), .val (.int z22), .val (.int (xx + yy)), .val (.int z27), .val (.int z32), .val (.int vv)] [(.int z16)])) (fun t k => XS.iload X34.here hx rfl (hb hby at_95) rfl k) ?_
  obtain rfl : z16 = (1 : Int32) := hz16_0.trans (if_pos rfl)
  refine own_via (S' := T34.setTop (mkF m 100 #[.val (.int p0), .val (.int p1), .val (.int p2), .val (.long q0), .second, .val (.long q1), .second, .val (.int xx), .val (.int yy), .val (.int vv), .val (.ref b1), .val (.int (1 : Int32)), .val (.int xx), .val (.int z22), .val (.int (xx + yy)), .val (.int z27), .val (.int z32), .val (.int vv)] [])) (fun t k => XS.ifNo X34.here hx rfl (hb hby at_97) rfl ((if0 _ _).trans (feq (by decide : ¬ ((1 : Int32) = (0 : Int32)))).1) k) ?_
  refine own_via (S' := T34.setTop (mkF m 102 #[.val (.int p0), .val (.int p1), .val (.int p2), .val (.long q0), .second, .val (.long q1), .second, .val (.int xx), .val (.int yy), .val (.int vv), .val (.ref b1), .val (.int (1 : Int32)), .val (.int xx), .val (.int z22), .val (.int (xx + yy)), .val (.int z27), .val (.int z32), .val (.int vv)] [(.int xx)])) (fun t k => XS.iload X34.here hx rfl (hb hby at_100) rfl k) ?_
  refine own_via (S' := T34.setTop (mkF m 104 #[.val (.int p0), .val (.int p1), .val (.int p2), .val (.long q0), .second, .val (.long q1), .second, .val (.int xx), .val (.int yy), .val (.int vv), .val (.ref b1), .val (.int (1 : Int32)), .val (.int xx), .val (.int z22), .val (.int (xx + yy)), .val (.int z27), .val (.int z32), .val (.int vv)] [(.int xx), (.int xx)])) (fun t k => XS.iload X34.here hx rfl (hb hby at_102) rfl k) ?_
  refine own_via (S' := T34.setTop (mkF m 107 #[.val (.int p0), .val (.int p1), .val (.int p2), .val (.long q0), .second, .val (.long q1), .second, .val (.int xx), .val (.int yy), .val (.int vv), .val (.ref b1), .val (.int (1 : Int32)), .val (.int xx), .val (.int z22), .val (.int (xx + yy)), .val (.int z27), .val (.int z32), .val (.int vv)] [])) (fun t k => XS.icmpNo X34.here hx rfl (hb hby at_104) rfl (teq (rfl : xx = xx)).2 k) ?_
  refine own_via (S' := T34.setTop (mkF m 109 #[.val (.int p0), .val (.int p1), .val (.int p2), .val (.long q0), .second, .val (.long q1), .second, .val (.int xx), .val (.int yy), .val (.int vv), .val (.ref b1), .val (.int (1 : Int32)), .val (.int xx), .val (.int z22), .val (.int (xx + yy)), .val (.int z27), .val (.int z32), .val (.int vv)] [(.int z22)])) (fun t k => XS.iload X34.here hx rfl (hb hby at_107) rfl k) ?_
  refine own_via (S' := T34.setTop (mkF m 111 #[.val (.int p0), .val (.int p1), .val (.int p2), .val (.long q0), .second, .val (.long q1), .second, .val (.int xx), .val (.int yy), .val (.int vv), .val (.ref b1), .val (.int (1 : Int32)), .val (.int xx), .val (.int z22), .val (.int (xx + yy)), .val (.int z27), .val (.int z32), .val (.int vv)] [(.int xx), (.int z22)])) (fun t k => XS.iload X34.here hx rfl (hb hby at_109) rfl k) ?_
  by_cases hc111_39 : xx = (0 : Int32)
  · -- yes
    refine own_via (S' := T34.setTop (mkF m 114 #[.val (.int p0), .val (.int p1), .val (.int p2), .val (.long q0), .second, .val (.long q1), .second, .val (.int xx), .val (.int yy), .val (.int vv), .val (.ref b1), .val (.int (1 : Int32)), .val (.int xx), .val (.int z22), .val (.int (xx + yy)), .val (.int z27), .val (.int z32), .val (.int vv)] [(.int z22)])) (fun t k => XS.ifNo X34.here hx rfl (hb hby at_111) rfl ((if0 _ _).trans (teq hc111_39).2) k) ?_
    refine own_via (S' := T34.setTop (mkF m 115 #[.val (.int p0), .val (.int p1), .val (.int p2), .val (.long q0), .second, .val (.long q1), .second, .val (.int xx), .val (.int yy), .val (.int vv), .val (.ref b1), .val (.int (1 : Int32)), .val (.int xx), .val (.int z22), .val (.int (xx + yy)), .val (.int z27), .val (.int z32), .val (.int vv)] [(.int (1 : Int32)), (.int z22)])) (fun t k => XS.iconst X34.here hx rfl (hb hby at_114) k) ?_
    refine own_via (S' := T34.setTop (mkF m 119 #[.val (.int p0), .val (.int p1), .val (.int p2), .val (.long q0), .second, .val (.long q1), .second, .val (.int xx), .val (.int yy), .val (.int vv), .val (.ref b1), .val (.int (1 : Int32)), .val (.int xx), .val (.int z22), .val (.int (xx + yy)), .val (.int z27), .val (.int z32), .val (.int vv)] [(.int (1 : Int32)), (.int z22)])) (fun t k => XS.goto X34.here hx rfl (pc0 := 115) (pc' := 119) rfl (hb hby at_115) (by decide) (by decide) k) ?_
    obtain rfl : z22 = (1 : Int32) := hz22_0.trans (if_pos hc111_39)
    refine own_via (S' := T34.setTop (mkF m 122 #[.val (.int p0), .val (.int p1), .val (.int p2), .val (.long q0), .second, .val (.long q1), .second, .val (.int xx), .val (.int yy), .val (.int vv), .val (.ref b1), .val (.int (1 : Int32)), .val (.int xx), .val (.int (1 : Int32)), .val (.int (xx + yy)), .val (.int z27), .val (.int z32), .val (.int vv)] [])) (fun t k => XS.icmpNo X34.here hx rfl (hb hby at_119) rfl (teq (by decide : (1 : Int32) = (1 : Int32))).2 k) ?_
    refine own_via (S' := T34.setTop (mkF m 124 #[.val (.int p0), .val (.int p1), .val (.int p2), .val (.long q0), .second, .val (.long q1), .second, .val (.int xx), .val (.int yy), .val (.int vv), .val (.ref b1), .val (.int (1 : Int32)), .val (.int xx), .val (.int (1 : Int32)), .val (.int (xx + yy)), .val (.int z27), .val (.int z32), .val (.int vv)] [(.int (xx + yy))])) (fun t k => XS.iload X34.here hx rfl (hb hby at_122) rfl k) ?_
    refine own_via (S' := T34.setTop (mkF m 126 #[.val (.int p0), .val (.int p1), .val (.int p2), .val (.long q0), .second, .val (.long q1), .second, .val (.int xx), .val (.int yy), .val (.int vv), .val (.ref b1), .val (.int (1 : Int32)), .val (.int xx), .val (.int (1 : Int32)), .val (.int (xx + yy)), .val (.int z27), .val (.int z32), .val (.int vv)] [(.int xx), (.int (xx + yy))])) (fun t k => XS.iload X34.here hx rfl (hb hby at_124) rfl k) ?_
    refine own_via (S' := T34.setTop (mkF m 128 #[.val (.int p0), .val (.int p1), .val (.int p2), .val (.long q0), .second, .val (.long q1), .second, .val (.int xx), .val (.int yy), .val (.int vv), .val (.ref b1), .val (.int (1 : Int32)), .val (.int xx), .val (.int (1 : Int32)), .val (.int (xx + yy)), .val (.int z27), .val (.int z32), .val (.int vv)] [(.int yy), (.int xx), (.int (xx + yy))])) (fun t k => XS.iload X34.here hx rfl (hb hby at_126) rfl k) ?_
    refine own_via (S' := T34.setTop (mkF m 129 #[.val (.int p0), .val (.int p1), .val (.int p2), .val (.long q0), .second, .val (.long q1), .second, .val (.int xx), .val (.int yy), .val (.int vv), .val (.ref b1), .val (.int (1 : Int32)), .val (.int xx), .val (.int (1 : Int32)), .val (.int (xx + yy)), .val (.int z27), .val (.int z32), .val (.int vv)] [(.int (xx + yy)), (.int (xx + yy))])) (fun t k => XS.iadd X34.here hx rfl (hb hby at_128) rfl k) ?_
    refine own_via (S' := T34.setTop (mkF m 132 #[.val (.int p0), .val (.int p1), .val (.int p2), .val (.long q0), .second, .val (.long q1), .second, .val (.int xx), .val (.int yy), .val (.int vv), .val (.ref b1), .val (.int (1 : Int32)), .val (.int xx), .val (.int (1 : Int32)), .val (.int (xx + yy)), .val (.int z27), .val (.int z32), .val (.int vv)] [])) (fun t k => XS.icmpNo X34.here hx rfl (hb hby at_129) rfl (teq (rfl : (xx + yy) = (xx + yy))).2 k) ?_
    refine own_via (S' := T34.setTop (mkF m 134 #[.val (.int p0), .val (.int p1), .val (.int p2), .val (.long q0), .second, .val (.long q1), .second, .val (.int xx), .val (.int yy), .val (.int vv), .val (.ref b1), .val (.int (1 : Int32)), .val (.int xx), .val (.int (1 : Int32)), .val (.int (xx + yy)), .val (.int z27), .val (.int z32), .val (.int vv)] [(.int z27)])) (fun t k => XS.iload X34.here hx rfl (hb hby at_132) rfl k) ?_
    refine own_via (S' := T34.setTop (mkF m 136 #[.val (.int p0), .val (.int p1), .val (.int p2), .val (.long q0), .second, .val (.long q1), .second, .val (.int xx), .val (.int yy), .val (.int vv), .val (.ref b1), .val (.int (1 : Int32)), .val (.int xx), .val (.int (1 : Int32)), .val (.int (xx + yy)), .val (.int z27), .val (.int z32), .val (.int vv)] [(.int xx), (.int z27)])) (fun t k => XS.iload X34.here hx rfl (hb hby at_134) rfl k) ?_
    refine own_via (S' := T34.setTop (mkF m 138 #[.val (.int p0), .val (.int p1), .val (.int p2), .val (.long q0), .second, .val (.long q1), .second, .val (.int xx), .val (.int yy), .val (.int vv), .val (.ref b1), .val (.int (1 : Int32)), .val (.int xx), .val (.int (1 : Int32)), .val (.int (xx + yy)), .val (.int z27), .val (.int z32), .val (.int vv)] [(.int yy), (.int xx), (.int z27)])) (fun t k => XS.iload X34.here hx rfl (hb hby at_136) rfl k) ?_
    refine own_via (S' := T34.setTop (mkF m 139 #[.val (.int p0), .val (.int p1), .val (.int p2), .val (.long q0), .second, .val (.long q1), .second, .val (.int xx), .val (.int yy), .val (.int vv), .val (.ref b1), .val (.int (1 : Int32)), .val (.int xx), .val (.int (1 : Int32)), .val (.int (xx + yy)), .val (.int z27), .val (.int z32), .val (.int vv)] [(.int (xx + yy)), (.int z27)])) (fun t k => XS.iadd X34.here hx rfl (hb hby at_138) rfl k) ?_
    by_cases hc139_41 : (xx + yy) = (0 : Int32)
    · -- yes
      refine own_via (S' := T34.setTop (mkF m 142 #[.val (.int p0), .val (.int p1), .val (.int p2), .val (.long q0), .second, .val (.long q1), .second, .val (.int xx), .val (.int yy), .val (.int vv), .val (.ref b1), .val (.int (1 : Int32)), .val (.int xx), .val (.int (1 : Int32)), .val (.int (xx + yy)), .val (.int z27), .val (.int z32), .val (.int vv)] [(.int z27)])) (fun t k => XS.ifNo X34.here hx rfl (hb hby at_139) rfl ((if0 _ _).trans (teq hc139_41).2) k) ?_
      refine own_via (S' := T34.setTop (mkF m 143 #[.val (.int p0), .val (.int p1), .val (.int p2), .val (.long q0), .second, .val (.long q1), .second, .val (.int xx), .val (.int yy), .val (.int vv), .val (.ref b1), .val (.int (1 : Int32)), .val (.int xx), .val (.int (1 : Int32)), .val (.int (xx + yy)), .val (.int z27), .val (.int z32), .val (.int vv)] [(.int (1 : Int32)), (.int z27)])) (fun t k => XS.iconst X34.here hx rfl (hb hby at_142) k) ?_
      refine own_via (S' := T34.setTop (mkF m 147 #[.val (.int p0), .val (.int p1), .val (.int p2), .val (.long q0), .second, .val (.long q1), .second, .val (.int xx), .val (.int yy), .val (.int vv), .val (.ref b1), .val (.int (1 : Int32)), .val (.int xx), .val (.int (1 : Int32)), .val (.int (xx + yy)), .val (.int z27), .val (.int z32), .val (.int vv)] [(.int (1 : Int32)), (.int z27)])) (fun t k => XS.goto X34.here hx rfl (pc0 := 143) (pc' := 147) rfl (hb hby at_143) (by decide) (by decide) k) ?_
      obtain rfl : z27 = (1 : Int32) := hz27_0.trans (if_pos hc139_41)
      refine own_via (S' := T34.setTop (mkF m 150 #[.val (.int p0), .val (.int p1), .val (.int p2), .val (.long q0), .second, .val (.long q1), .second, .val (.int xx), .val (.int yy), .val (.int vv), .val (.ref b1), .val (.int (1 : Int32)), .val (.int xx), .val (.int (1 : Int32)), .val (.int (xx + yy)), .val (.int (1 : Int32)), .val (.int z32), .val (.int vv)] [])) (fun t k => XS.icmpNo X34.here hx rfl (hb hby at_147) rfl (teq (by decide : (1 : Int32) = (1 : Int32))).2 k) ?_
      refine own_via (S' := T34.setTop (mkF m 152 #[.val (.int p0), .val (.int p1), .val (.int p2), .val (.long q0), .second, .val (.long q1), .second, .val (.int xx), .val (.int yy), .val (.int vv), .val (.ref b1), .val (.int (1 : Int32)), .val (.int xx), .val (.int (1 : Int32)), .val (.int (xx + yy)), .val (.int (1 : Int32)), .val (.int z32), .val (.int vv)] [(.int z32)])) (fun t k => XS.iload X34.here hx rfl (hb hby at_150) rfl k) ?_
      obtain rfl : z32 = (1 : Int32) := hz32_0.trans (if_pos rfl)
      refine own_via (S' := T34.setTop (mkF m 155 #[.val (.int p0), .val (.int p1), .val (.int p2), .val (.long q0), .second, .val (.long q1), .second, .val (.int xx), .val (.int yy), .val (.int vv), .val (.ref b1), .val (.int (1 : Int32)), .val (.int xx), .val (.int (1 : Int32)), .val (.int (xx + yy)), .val (.int (1 : Int32)), .val (.int (1 : Int32)), .val (.int vv)] [])) (fun t k => XS.ifNo X34.here hx rfl (hb hby at_152) rfl ((if0 _ _).trans (feq (by decide : ¬ ((1 : Int32) = (0 : Int32)))).1) k) ?_
      refine own_via (S' := T34.setTop (mkF m 157 #[.val (.int p0), .val (.int p1), .val (.int p2), .val (.long q0), .second, .val (.long q1), .second, .val (.int xx), .val (.int yy), .val (.int vv), .val (.ref b1), .val (.int (1 : Int32)), .val (.int xx), .val (.int (1 : Int32)), .val (.int (xx + yy)), .val (.int (1 : Int32)), .val (.int (1 : Int32)), .val (.int vv)] [(.int vv)])) (fun t k => XS.iload X34.here hx rfl (hb hby at_155) rfl k) ?_
      refine own_via (S' := T34.setTop (mkF m 159 #[.val (.int p0), .val (.int p1), .val (.int p2), .val (.long q0), .second, .val (.long q1), .second, .val (.int xx), .val (.int yy), .val (.int vv), .val (.ref b1), .val (.int (1 : Int32)), .val (.int xx), .val (.int (1 : Int32)), .val (.int (xx + yy)), .val (.int (1 : Int32)), .val (.int (1 : Int32)), .val (.int vv)] [(.int vv), (.int vv)])) (fun t k => XS.iload X34.here hx rfl (hb hby at_157) rfl k) ?_
      refine own_via (S' := T34.setTop (mkF m 162 #[.val (.int p0), .val (.int p1), .val (.int p2), .val (.long q0), .second, .val (.long q1), .second, .val (.int xx), .val (.int yy), .val (.int vv), .val (.ref b1), .val (.int (1 : Int32)), .val (.int xx), .val (.int (1 : Int32)), .val (.int (xx + yy)), .val (.int (1 : Int32)), .val (.int (1 : Int32)), .val (.int vv)] [])) (fun t k => XS.icmpNo X34.here hx rfl (hb hby at_159) rfl (teq (rfl : vv = vv)).2 k) ?_
      refine own_via (S' := T34.setTop (mkF m 164 #[.val (.int p0), .val (.int p1), .val (.int p2), .val (.long q0), .second, .val (.long q1), .second, .val (.int xx), .val (.int yy), .val (.int vv), .val (.ref b1), .val (.int (1 : Int32)), .val (.int xx), .val (.int (1 : Int32)), .val (.int (xx + yy)), .val (.int (1 : Int32)), .val (.int (1 : Int32)), .val (.int vv)] [(.ref b1)])) (fun t k => XS.aload X34.here hx rfl (hb hby at_162) rfl rfl k) ?_
      have c45 : Exa Z T34.heap b1 "org/veilroute/service/TunnelPool$Standing" := (c33.keep K34q)
      obtain ⟨cq44, kq44, q44a, q44b, q44c⟩ := isOf hZ rfl c45
      obtain ⟨_, _, ⟨T44, L44, k44, n44⟩, -, X44, ⟨Lc44, hQ44, l44, y44, z44⟩, st44⟩ := X34.virtualBack hx (y := mt11) (z := mt11) hown (mvT hZ (wd85 hw)) (mvT hZ (wd86 hw)) (notFace_of_selects (args := #[]) (mvT hZ (wd88 hw))) (mvT hZ (wd88 hw)) (mvT hZ (wd87 hw)) (by decide) (backOf (W := 0) (own_end l Z a0 hw [] b1 q0 T34.heap n0 O36 f34_0) hZ (wd89 hw) (wd3 hw) (by decide) (by decide)) q44a q44c (g := (mkF m 164 #[.val (.int p0), .val (.int p1), .val (.int p2), .val (.long q0), .second, .val (.long q1), .second, .val (.int xx), .val (.int yy), .val (.int vv), .val (.ref b1), .val (.int (1 : Int32)), .val (.int xx), .val (.int (1 : Int32)), .val (.int (xx + yy)), .val (.int (1 : Int32)), .val (.int (1 : Int32)), .val (.int vv)] [(.ref b1)])) rfl (by rw [hml]; rfl) (Steps.refl _) (argsL := []) (rest := []) (lenOf pd___J_155 rfl) rfl (by show 2 * 0 + _ ≤ _; exact Nat.le_of_eq rfl) (hb hby at_164) (fun _ _ => ⟨rfl, rfl, (by decide : 2 + 0 ≤ _), (by decide : 7 + 0 ≤ _)⟩)
      dsimp only [Pt.U, Pt.locs, Pt.cells, Pt.slots] at X44 l44 y44 z44 st44 hQ44
      subst l44 y44 z44
      obtain ⟨rfl, rfl, e44⟩ := hQ44
      try rw [List.append_nil] at X44
      refine own_tr (S' := T44.setTop (mkF m 167 #[.val (.int p0), .val (.int p1), .val (.int p2), .val (.long q0), .second, .val (.long q1), .second, .val (.int xx), .val (.int yy), .val (.int vv), .val (.ref b1), .val (.int (1 : Int32)), .val (.int xx), .val (.int (1 : Int32)), .val (.int (xx + yy)), .val (.int (1 : Int32)), .val (.int (1 : Int32)), .val (.int vv)] [(.long q0)])) st44 ?_
      refine own_via (S' := T44.setTop (mkF m 168 #[.val (.int p0), .val (.int p1), .val (.int p2), .val (.long q0), .second, .val (.long q1), .second, .val (.int xx), .val (.int yy), .val (.int vv), .val (.ref b1), .val (.int (1 : Int32)), .val (.int xx), .val (.int (1 : Int32)), .val (.int (xx + yy)), .val (.int (1 : Int32)), .val (.int (1 : Int32)), .val (.int vv)] [(.long q0), (.long q0)])) (fun t k => XS.lloadN X44.here hx rfl (hb hby at_167) rfl k) ?_
      refine own_via (S' := T44.setTop (mkF m 169 #[.val (.int p0), .val (.int p1), .val (.int p2), .val (.long q0), .second, .val (.long q1), .second, .val (.int xx), .val (.int yy), .val (.int vv), .val (.ref b1), .val (.int (1 : Int32)), .val (.int xx), .val (.int (1 : Int32)), .val (.int (xx + yy)), .val (.int (1 : Int32)), .val (.int (1 : Int32)), .val (.int vv)] [(.int (lcmpW q0 q0))])) (fun t k => XS.lcmp X44.here hx rfl (hb hby at_168) rfl k) ?_
      refine own_via (S' := T44.setTop (mkF m 172 #[.val (.int p0), .val (.int p1), .val (.int p2), .val (.long q0), .second, .val (.long q1), .second, .val (.int xx), .val (.int yy), .val (.int vv), .val (.ref b1), .val (.int (1 : Int32)), .val (.int xx), .val (.int (1 : Int32)), .val (.int (xx + yy)), .val (.int (1 : Int32)), .val (.int (1 : Int32)), .val (.int vv)] [])) (fun t k => XS.ifNo X44.here hx rfl (hb hby at_169) rfl ((if0 _ _).trans (teq ((lw_eq _ _).mpr (rfl : q0 = q0))).2) k) ?_
      refine own_via (S' := T44.setTop (mkF m 173 #[.val (.int p0), .val (.int p1), .val (.int p2), .val (.long q0), .second, .val (.long q1), .second, .val (.int xx), .val (.int yy), .val (.int vv), .val (.ref b1), .val (.int (1 : Int32)), .val (.int xx), .val (.int (1 : Int32)), .val (.int (xx + yy)), .val (.int (1 : Int32)), .val (.int (1 : Int32)), .val (.int vv)] [(.int (1 : Int32))])) (fun t k => XS.iconst X44.here hx rfl (hb hby at_172) k) ?_
      refine own_via (S' := T44.setTop (mkF m 177 #[.val (.int p0), .val (.int p1), .val (.int p2), .val (.long q0), .second, .val (.long q1), .second, .val (.int xx), .val (.int yy), .val (.int vv), .val (.ref b1), .val (.int (1 : Int32)), .val (.int xx), .val (.int (1 : Int32)), .val (.int (xx + yy)), .val (.int (1 : Int32)), .val (.int (1 : Int32)), .val (.int vv)] [(.int (1 : Int32))])) (fun t k => XS.goto X44.here hx rfl (pc0 := 173) (pc' := 177) rfl (hb hby at_173) (by decide) (by decide) k) ?_
      refine own_ret (Q := Q_own_law Z p0 p1 p2 q0 q1 w wl h0 n0) (C := room_1.cells) (N := room_1.slots) X44 (v := some (.int (1 : Int32))) (fun h => by rw [Bd.returns] at h; cases h) Bd.notSynchronized ?_ (by decide) (by decide) (fun fs hr => retN X44 hx (t := .boolean) Bd.returns (by simp) (hb hby at_177) hr)
      show Q_own_law Z p0 p1 p2 q0 q1 w wl h0 n0 _ T44.heap _
      rw [e44]
      exact ⟨rfl, N34⟩
    · -- no
      refine own_via (S' := T34.setTop (mkF m 146 #[.val (.int p0), .val (.int p1), .val (.int p2), .val (.long q0), .second, .val (.long q1), .second, .val (.int xx), .val (.int yy), .val (.int vv), .val (.ref b1), .val (.int (1 : Int32)), .val (.int xx), .val (.int (1 : Int32)), .val (.int (xx + yy)), .val (.int z27), .val (.int z32), .val (.int vv)] [(.int z27)])) (fun t k => XS.ifYes X34.here hx rfl (pc0 := 139) (pc' := 146) rfl (hb hby at_139) rfl ((if0 _ _).trans (feq hc139_41).2) (by decide) (by decide) k) ?_
      refine own_via (S' := T34.setTop (mkF m 147 #[.val (.int p0), .val (.int p1), .val (.int p2), .val (.long q0), .second, .val (.long q1), .second, .val (.int xx), .val (.int yy), .val (.int vv), .val (.ref b1), .val (.int (1 : Int32)), .val (.int xx), .val (.int (1 : Int32)), .val (.int (xx + yy)), .val (.int z27), .val (.int z32), .val (.int vv)] [(.int (0 : Int32)), (.int z27)])) (fun t k => XS.iconst X34.here hx rfl (hb hby at_146) k) ?_
      obtain rfl : z27 = (0 : Int32) := hz27_0.trans (if_neg hc139_41)
      refine own_via (S' := T34.setTop (mkF m 150 #[.val (.int p0), .val (.int p1), .val (.int p2), .val (.long q0), .second, .val (.long q1), .second, .val (.int xx), .val (.int yy), .val (.int vv), .val (.ref b1), .val (.int (1 : Int32)), .val (.int xx), .val (.int (1 : Int32)), .val (.int (xx + yy)), .val (.int (0 : Int32)), .val (.int z32), .val (.int vv)] [])) (fun t k => XS.icmpNo X34.here hx rfl (hb hby at_147) rfl (teq (by decide : (0 : Int32) = (0 : Int32))).2 k) ?_
      refine own_via (S' := T34.setTop (mkF m 152 #[.val (.int p0), .val (.int p1), .val (.int p2), .val (.long q0), .second, .val (.long q1), .second, .val (.int xx), .val (.int yy), .val (.int vv), .val (.ref b1), .val (.int (1 : Int32)), .val (.int xx), .val (.int (1 : Int32)), .val (.int (xx + yy)), .val (.int (0 : Int32)), .val (.int z32), .val (.int vv)] [(.int z32)])) (fun t k => XS.iload X34.here hx rfl (hb hby at_150) rfl k) ?_
      obtain rfl : z32 = (1 : Int32) := hz32_0.trans (if_pos rfl)
      refine own_via (S' := T34.setTop (mkF m 155 #[.val (.int p0), .val (.int p1), .val (.int p2), .val (.long q0), .second, .val (.long q1), .second, .val (.int xx), .val (.int yy), .val (.int vv), .val (.ref b1), .val (.int (1 : Int32)), .val (.int xx), .val (.int (1 : Int32)), .val (.int (xx + yy)), .val (.int (0 : Int32)), .val (.int (1 : Int32)), .val (.int vv)] [])) (fun t k => XS.ifNo X34.here hx rfl (hb hby at_152) rfl ((if0 _ _).trans (feq (by decide : ¬ ((1 : Int32) = (0 : Int32)))).1) k) ?_
      refine own_via (S' := T34.setTop (mkF m 157 #[.val (.int p0), .val (.int p1), .val (.int p2), .val (.long q0), .second, .val (.long q1), .second, .val (.int xx), .val (.int yy), .val (.int vv), .val (.ref b1), .val (.int (1 : Int32)), .val (.int xx), .val (.int (1 : Int32)), .val (.int (xx + yy)), .val (.int (0 : Int32)), .val (.int (1 : Int32)), .val (.int vv)] [(.int vv)])) (fun t k => XS.iload X34.here hx rfl (hb hby at_155) rfl k) ?_
      refine own_via (S' := T34.setTop (mkF m 159 #[.val (.int p0), .val (.int p1), .val (.int p2), .val (.long q0), .second, .val (.long q1), .second, .val (.int xx), .val (.int yy), .val (.int vv), .val (.ref b1), .val (.int (1 : Int32)), .val (.int xx), .val (.int (1 : Int32)), .val (.int (xx + yy)), .val (.int (0 : Int32)), .val (.int (1 : Int32)), .val (.int vv)] [(.int vv), (.int vv)])) (fun t k => XS.iload X34.here hx rfl (hb hby at_157) rfl k) ?_
      refine own_via (S' := T34.setTop (mkF m 162 #[.val (.int p0), .val (.int p1), .val (.int p2), .val (.long q0), .second, .val (.long q1), .second, .val (.int xx), .val (.int yy), .val (.int vv), .val (.ref b1), .val (.int (1 : Int32)), .val (.int xx), .val (.int (1 : Int32)), .val (.int (xx + yy)), .val (.int (0 : Int32)), .val (.int (1 : Int32)), .val (.int vv)] [])) (fun t k => XS.icmpNo X34.here hx rfl (hb hby at_159) rfl (teq (rfl : vv = vv)).2 k) ?_
      refine own_via (S' := T34.setTop (mkF m 164 #[.val (.int p0), .val (.int p1), .val (.int p2), .val (.long q0), .second, .val (.long q1), .second, .val (.int xx), .val (.int yy), .val (.int vv), .val (.ref b1), .val (.int (1 : Int32)), .val (.int xx), .val (.int (1 : Int32)), .val (.int (xx + yy)), .val (.int (0 : Int32)), .val (.int (1 : Int32)), .val (.int vv)] [(.ref b1)])) (fun t k => XS.aload X34.here hx rfl (hb hby at_162) rfl rfl k) ?_
      have c49 : Exa Z T34.heap b1 "org/veilroute/service/TunnelPool$Standing" := (c33.keep K34q)
      obtain ⟨cq48, kq48, q48a, q48b, q48c⟩ := isOf hZ rfl c49
      obtain ⟨_, _, ⟨T48, L48, k48, n48⟩, -, X48, ⟨Lc48, hQ48, l48, y48, z48⟩, st48⟩ := X34.virtualBack hx (y := mt11) (z := mt11) hown (mvT hZ (wd85 hw)) (mvT hZ (wd86 hw)) (notFace_of_selects (args := #[]) (mvT hZ (wd88 hw))) (mvT hZ (wd88 hw)) (mvT hZ (wd87 hw)) (by decide) (backOf (W := 0) (own_end l Z a0 hw [] b1 q0 T34.heap n0 O36 f34_0) hZ (wd89 hw) (wd3 hw) (by decide) (by decide)) q48a q48c (g := (mkF m 164 #[.val (.int p0), .val (.int p1), .val (.int p2), .val (.long q0), .second, .val (.long q1), .second, .val (.int xx), .val (.int yy), .val (.int vv), .val (.ref b1), .val (.int (1 : Int32)), .val (.int xx), .val (.int (1 : Int32)), .val (.int (xx + yy)), .val (.int (0 : Int32)), .val (.int (1 : Int32)), .val (.int vv)] [(.ref b1)])) rfl (by rw [hml]; rfl) (Steps.refl _) (argsL := []) (rest := []) (lenOf pd___J_155 rfl) rfl (by show 2 * 0 + _ ≤ _; exact Nat.le_of_eq rfl) (hb hby at_164) (fun _ _ => ⟨rfl, rfl, (by decide : 2 + 0 ≤ _), (by decide : 7 + 0 ≤ _)⟩)
      dsimp only [Pt.U, Pt.locs, Pt.cells, Pt.slots] at X48 l48 y48 z48 st48 hQ48
      subst l48 y48 z48
      obtain ⟨rfl, rfl, e48⟩ := hQ48
      try rw [List.append_nil] at X48
      refine own_tr (S' := T48.setTop (mkF m 167 #[.val (.int p0), .val (.int p1), .val (.int p2), .val (.long q0), .second, .val (.long q1), .second, .val (.int xx), .val (.int yy), .val (.int vv), .val (.ref b1), .val (.int (1 : Int32)), .val (.int xx), .val (.int (1 : Int32)), .val (.int (xx + yy)), .val (.int (0 : Int32)), .val (.int (1 : Int32)), .val (.int vv)] [(.long q0)])) st48 ?_
      refine own_via (S' := T48.setTop (mkF m 168 #[.val (.int p0), .val (.int p1), .val (.int p2), .val (.long q0), .second, .val (.long q1), .second, .val (.int xx), .val (.int yy), .val (.int vv), .val (.ref b1), .val (.int (1 : Int32)), .val (.int xx), .val (.int (1 : Int32)), .val (.int (xx + yy)), .val (.int (0 : Int32)), .val (.int (1 : Int32)), .val (.int vv)] [(.long q0), (.long q0)])) (fun t k => XS.lloadN X48.here hx rfl (hb hby at_167) rfl k) ?_
      refine own_via (S' := T48.setTop (mkF m 169 #[.val (.int p0), .val (.int p1), .val (.int p2), .val (.long q0), .second, .val (.long q1), .second, .val (.int xx), .val (.int yy), .val (.int vv), .val (.ref b1), .val (.int (1 : Int32)), .val (.int xx), .val (.int (1 : Int32)), .val (.int (xx + yy)), .val (.int (0 : Int32)), .val (.int (1 : Int32)), .val (.int vv)] [(.int (lcmpW q0 q0))])) (fun t k => XS.lcmp X48.here hx rfl (hb hby at_168) rfl k) ?_
      refine own_via (S' := T48.setTop (mkF m 172 #[.val (.int p0), .val (.int p1), .val (.int p2), .val (.long q0), .second, .val (.long q1), .second, .val (.int xx), .val (.int yy), .val (.int vv), .val (.ref b1), .val (.int (1 : Int32)), .val (.int xx), .val (.int (1 : Int32)), .val (.int (xx + yy)), .val (.int (0 : Int32)), .val (.int (1 : Int32)), .val (.int vv)] [])) (fun t k => XS.ifNo X48.here hx rfl (hb hby at_169) rfl ((if0 _ _).trans (teq ((lw_eq _ _).mpr (rfl : q0 = q0))).2) k) ?_
      refine own_via (S' := T48.setTop (mkF m 173 #[.val (.int p0), .val (.int p1), .val (.int p2), .val (.long q0), .second, .val (.long q1), .second, .val (.int xx), .val (.int yy), .val (.int vv), .val (.ref b1), .val (.int (1 : Int32)), .val (.int xx), .val (.int (1 : Int32)), .val (.int (xx + yy)), .val (.int (0 : Int32)), .val (.int (1 : Int32)), .val (.int vv)] [(.int (1 : Int32))])) (fun t k => XS.iconst X48.here hx rfl (hb hby at_172) k) ?_
      refine own_via (S' := T48.setTop (mkF m 177 #[.val (.int p0), .val (.int p1), .val (.int p2), .val (.long q0), .second, .val (.long q1), .second, .val (.int xx), .val (.int yy), .val (.int vv), .val (.ref b1), .val (.int (1 : Int32)), .val (.int xx), .val (.int (1 : Int32)), .val (.int (xx + yy)), .val (.int (0 : Int32)), .val (.int (1 : Int32)), .val (.int vv)] [(.int (1 : Int32))])) (fun t k => XS.goto X48.here hx rfl (pc0 := 173) (pc' := 177) rfl (hb hby at_173) (by decide) (by decide) k) ?_
      refine own_ret (Q := Q_own_law Z p0 p1 p2 q0 q1 w wl h0 n0) (C := room_1.cells) (N := room_1.slots) X48 (v := some (.int (1 : Int32))) (fun h => by rw [Bd.returns] at h; cases h) Bd.notSynchronized ?_ (by decide) (by decide) (fun fs hr => retN X48 hx (t := .boolean) Bd.returns (by simp) (hb hby at_177) hr)
      show Q_own_law Z p0 p1 p2 q0 q1 w wl h0 n0 _ T48.heap _
      rw [e48]
      exact ⟨rfl, N34⟩
  · -- no
    refine own_via (S' := T34.setTop (mkF m 118 #[.val (.int p0), .val (.int p1), .val (.int p2), .val (.long q0), .second, .val (.long q1), .second, .val (.int xx), .val (.int yy), .val (.int vv), .val (.ref b1), .val (.int (1 : Int32)), .val (.int xx), .val (.int z22), .val (.int (xx + yy)), .val (.int z27), .val (.int z32), .val (.int vv)] [(.int z22)])) (fun t k => XS.ifYes X34.here hx rfl (pc0 := 111) (pc' := 118) rfl (hb hby at_111) rfl ((if0 _ _).trans (feq hc111_39).2) (by decide) (by decide) k) ?_
    refine own_via (S' := T34.setTop (mkF m 119 #[.val (.int p0), .val (.int p1), .val (.int p2), .val (.long q0), .second, .val (.long q1), .second, .val (.int xx), .val (.int yy), .val (.int vv), .val (.ref b1), .val (.int (1 : Int32)), .val (.int xx), .val (.int z22), .val (.int (xx + yy)), .val (.int z27), .val (.int z32), .val (.int vv)] [(.int (0 : Int32)), (.int z22)])) (fun t k => XS.iconst X34.here hx rfl (hb hby at_118) k) ?_
    obtain rfl : z22 = (0 : Int32) := hz22_0.trans (if_neg hc111_39)
    refine own_via (S' := T34.setTop (mkF m 122 #[.val (.int p0), .val (.int p1), .val (.int p2), .val (.long q0), .second, .val (.long q1), .second, .val (.int xx), .val (.int yy), .val (.int vv), .val (.ref b1), .val (.int (1 : Int32)), .val (.int xx), .val (.int (0 : Int32)), .val (.int (xx + yy)), .val (.int z27), .val (.int z32), .val (.int vv)] [])) (fun t k => XS.icmpNo X34.here hx rfl (hb hby at_119) rfl (teq (by decide : (0 : Int32) = (0 : Int32))).2 k) ?_
    refine own_via (S' := T34.setTop (mkF m 124 #[.val (.int p0), .val (.int p1), .val (.int p2), .val (.long q0), .second, .val (.long q1), .second, .val (.int xx), .val (.int yy), .val (.int vv), .val (.ref b1), .val (.int (1 : Int32)), .val (.int xx), .val (.int (0 : Int32)), .val (.int (xx + yy)), .val (.int z27), .val (.int z32), .val (.int vv)] [(.int (xx + yy))])) (fun t k => XS.iload X34.here hx rfl (hb hby at_122) rfl k) ?_
    refine own_via (S' := T34.setTop (mkF m 126 #[.val (.int p0), .val (.int p1), .val (.int p2), .val (.long q0), .second, .val (.long q1), .second, .val (.int xx), .val (.int yy), .val (.int vv), .val (.ref b1), .val (.int (1 : Int32)), .val (.int xx), .val (.int (0 : Int32)), .val (.int (xx + yy)), .val (.int z27), .val (.int z32), .val (.int vv)] [(.int xx), (.int (xx + yy))])) (fun t k => XS.iload X34.here hx rfl (hb hby at_124) rfl k) ?_
    refine own_via (S' := T34.setTop (mkF m 128 #[.val (.int p0), .val (.int p1), .val (.int p2), .val (.long q0), .second, .val (.long q1), .second, .val (.int xx), .val (.int yy), .val (.int vv), .val (.ref b1), .val (.int (1 : Int32)), .val (.int xx), .val (.int (0 : Int32)), .val (.int (xx + yy)), .val (.int z27), .val (.int z32), .val (.int vv)] [(.int yy), (.int xx), (.int (xx + yy))])) (fun t k => XS.iload X34.here hx rfl (hb hby at_126) rfl k) ?_
    refine own_via (S' := T34.setTop (mkF m 129 #[.val (.int p0), .val (.int p1), .val (.int p2), .val (.long q0), .second, .val (.long q1), .second, .val (.int xx), .val (.int yy), .val (.int vv), .val (.ref b1), .val (.int (1 : Int32)), .val (.int xx), .val (.int (0 : Int32)), .val (.int (xx + yy)), .val (.int z27), .val (.int z32), .val (.int vv)] [(.int (xx + yy)), (.int (xx + yy))])) (fun t k => XS.iadd X34.here hx rfl (hb hby at_128) rfl k) ?_
    refine own_via (S' := T34.setTop (mkF m 132 #[.val (.int p0), .val (.int p1), .val (.int p2), .val (.long q0), .second, .val (.long q1), .second, .val (.int xx), .val (.int yy), .val (.int vv), .val (.ref b1), .val (.int (1 : Int32)), .val (.int xx), .val (.int (0 : Int32)), .val (.int (xx + yy)), .val (.int z27), .val (.int z32), .val (.int vv)] [])) (fun t k => XS.icmpNo X34.here hx rfl (hb hby at_129) rfl (teq (rfl : (xx + yy) = (xx + yy))).2 k) ?_
    refine own_via (S' := T34.setTop (mkF m 134 #[.val (.int p0), .val (.int p1), .val (.int p2), .val (.long q0), .second, .val (.long q1), .second, .val (.int xx), .val (.int yy), .val (.int vv), .val (.ref b1), .val (.int (1 : Int32)), .val (.int xx), .val (.int (0 : Int32)), .val (.int (xx + yy)), .val (.int z27), .val (.int z32), .val (.int vv)] [(.int z27)])) (fun t k => XS.iload X34.here hx rfl (hb hby at_132) rfl k) ?_
    refine own_via (S' := T34.setTop (mkF m 136 #[.val (.int p0), .val (.int p1), .val (.int p2), .val (.long q0), .second, .val (.long q1), .second, .val (.int xx), .val (.int yy), .val (.int vv), .val (.ref b1), .val (.int (1 : Int32)), .val (.int xx), .val (.int (0 : Int32)), .val (.int (xx + yy)), .val (.int z27), .val (.int z32), .val (.int vv)] [(.int xx), (.int z27)])) (fun t k => XS.iload X34.here hx rfl (hb hby at_134) rfl k) ?_
    refine own_via (S' := T34.setTop (mkF m 138 #[.val (.int p0), .val (.int p1), .val (.int p2), .val (.long q0), .second, .val (.long q1), .second, .val (.int xx), .val (.int yy), .val (.int vv), .val (.ref b1), .val (.int (1 : Int32)), .val (.int xx), .val (.int (0 : Int32)), .val (.int (xx + yy)), .val (.int z27), .val (.int z32), .val (.int vv)] [(.int yy), (.int xx), (.int z27)])) (fun t k => XS.iload X34.here hx rfl (hb hby at_136) rfl k) ?_
    refine own_via (S' := T34.setTop (mkF m 139 #[.val (.int p0), .val (.int p1), .val (.int p2), .val (.long q0), .second, .val (.long q1), .second, .val (.int xx), .val (.int yy), .val (.int vv), .val (.ref b1), .val (.int (1 : Int32)), .val (.int xx), .val (.int (0 : Int32)), .val (.int (xx + yy)), .val (.int z27), .val (.int z32), .val (.int vv)] [(.int (xx + yy)), (.int z27)])) (fun t k => XS.iadd X34.here hx rfl (hb hby at_138) rfl k) ?_
    by_cases hc139_51 : (xx + yy) = (0 : Int32)
    · -- yes
      refine own_via (S' := T34.setTop (mkF m 142 #[.val (.int p0), .val (.int p1), .val (.int p2), .val (.long q0), .second, .val (.long q1), .second, .val (.int xx), .val (.int yy), .val (.int vv), .val (.ref b1), .val (.int (1 : Int32)), .val (.int xx), .val (.int (0 : Int32)), .val (.int (xx + yy)), .val (.int z27), .val (.int z32), .val (.int vv)] [(.int z27)])) (fun t k => XS.ifNo X34.here hx rfl (hb hby at_139) rfl ((if0 _ _).trans (teq hc139_51).2) k) ?_
      refine own_via (S' := T34.setTop (mkF m 143 #[.val (.int p0), .val (.int p1), .val (.int p2), .val (.long q0), .second, .val (.long q1), .second, .val (.int xx), .val (.int yy), .val (.int vv), .val (.ref b1), .val (.int (1 : Int32)), .val (.int xx), .val (.int (0 : Int32)), .val (.int (xx + yy)), .val (.int z27), .val (.int z32), .val (.int vv)] [(.int (1 : Int32)), (.int z27)])) (fun t k => XS.iconst X34.here hx rfl (hb hby at_142) k) ?_
      refine own_via (S' := T34.setTop (mkF m 147 #[.val (.int p0), .val (.int p1), .val (.int p2), .val (.long q0), .second, .val (.long q1), .second, .val (.int xx), .val (.int yy), .val (.int vv), .val (.ref b1), .val (.int (1 : Int32)), .val (.int xx), .val (.int (0 : Int32)), .val (.int (xx + yy)), .val (.int z27), .val (.int z32), .val (.int vv)] [(.int (1 : Int32)), (.int z27)])) (fun t k => XS.goto X34.here hx rfl (pc0 := 143) (pc' := 147) rfl (hb hby at_143) (by decide) (by decide) k) ?_
      obtain rfl : z27 = (1 : Int32) := hz27_0.trans (if_pos hc139_51)
      refine own_via (S' := T34.setTop (mkF m 150 #[.val (.int p0), .val (.int p1), .val (.int p2), .val (.long q0), .second, .val (.long q1), .second, .val (.int xx), .val (.int yy), .val (.int vv), .val (.ref b1), .val (.int (1 : Int32)), .val (.int xx), .val (.int (0 : Int32)), .val (.int (xx + yy)), .val (.int (1 : Int32)), .val (.int z32), .val (.int vv)] [])) (fun t k => XS.icmpNo X34.here hx rfl (hb hby at_147) rfl (teq (by decide : (1 : Int32) = (1 : Int32))).2 k) ?_
      refine own_via (S' := T34.setTop (mkF m 152 #[.val (.int p0), .val (.int p1), .val (.int p2), .val (.long q0), .second, .val (.long q1), .second, .val (.int xx), .val (.int yy), .val (.int vv), .val (.ref b1), .val (.int (1 : Int32)), .val (.int xx), .val (.int (0 : Int32)), .val (.int (xx + yy)), .val (.int (1 : Int32)), .val (.int z32), .val (.int vv)] [(.int z32)])) (fun t k => XS.iload X34.here hx rfl (hb hby at_150) rfl k) ?_
      obtain rfl : z32 = (1 : Int32) := hz32_0.trans (if_pos rfl)
      refine own_via (S' := T34.setTop (mkF m 155 #[.val (.int p0), .val (.int p1), .val (.int p2), .val (.long q0), .second, .val (.long q1), .second, .val (.int xx), .val (.int yy), .val (.int vv), .val (.ref b1), .val (.int (1 : Int32)), .val (.int xx), .val (.int (0 : Int32)), .val (.int (xx + yy)), .val (.int (1 : Int32)), .val (.int (1 : Int32)), .val (.int vv)] [])) (fun t k => XS.ifNo X34.here hx rfl (hb hby at_152) rfl ((if0 _ _).trans (feq (by decide : ¬ ((1 : Int32) = (0 : Int32)))).1) k) ?_
      refine own_via (S' := T34.setTop (mkF m 157 #[.val (.int p0), .val (.int p1), .val (.int p2), .val (.long q0), .second, .val (.long q1), .second, .val (.int xx), .val (.int yy), .val (.int vv), .val (.ref b1), .val (.int (1 : Int32)), .val (.int xx), .val (.int (0 : Int32)), .val (.int (xx + yy)), .val (.int (1 : Int32)), .val (.int (1 : Int32)), .val (.int vv)] [(.int vv)])) (fun t k => XS.iload X34.here hx rfl (hb hby at_155) rfl k) ?_
      refine own_via (S' := T34.setTop (mkF m 159 #[.val (.int p0), .val (.int p1), .val (.int p2), .val (.long q0), .second, .val (.long q1), .second, .val (.int xx), .val (.int yy), .val (.int vv), .val (.ref b1), .val (.int (1 : Int32)), .val (.int xx), .val (.int (0 : Int32)), .val (.int (xx + yy)), .val (.int (1 : Int32)), .val (.int (1 : Int32)), .val (.int vv)] [(.int vv), (.int vv)])) (fun t k => XS.iload X34.here hx rfl (hb hby at_157) rfl k) ?_
      refine own_via (S' := T34.setTop (mkF m 162 #[.val (.int p0), .val (.int p1), .val (.int p2), .val (.long q0), .second, .val (.long q1), .second, .val (.int xx), .val (.int yy), .val (.int vv), .val (.ref b1), .val (.int (1 : Int32)), .val (.int xx), .val (.int (0 : Int32)), .val (.int (xx + yy)), .val (.int (1 : Int32)), .val (.int (1 : Int32)), .val (.int vv)] [])) (fun t k => XS.icmpNo X34.here hx rfl (hb hby at_159) rfl (teq (rfl : vv = vv)).2 k) ?_
      refine own_via (S' := T34.setTop (mkF m 164 #[.val (.int p0), .val (.int p1), .val (.int p2), .val (.long q0), .second, .val (.long q1), .second, .val (.int xx), .val (.int yy), .val (.int vv), .val (.ref b1), .val (.int (1 : Int32)), .val (.int xx), .val (.int (0 : Int32)), .val (.int (xx + yy)), .val (.int (1 : Int32)), .val (.int (1 : Int32)), .val (.int vv)] [(.ref b1)])) (fun t k => XS.aload X34.here hx rfl (hb hby at_162) rfl rfl k) ?_
      have c55 : Exa Z T34.heap b1 "org/veilroute/service/TunnelPool$Standing" := (c33.keep K34q)
      obtain ⟨cq54, kq54, q54a, q54b, q54c⟩ := isOf hZ rfl c55
      obtain ⟨_, _, ⟨T54, L54, k54, n54⟩, -, X54, ⟨Lc54, hQ54, l54, y54, z54⟩, st54⟩ := X34.virtualBack hx (y := mt11) (z := mt11) hown (mvT hZ (wd85 hw)) (mvT hZ (wd86 hw)) (notFace_of_selects (args := #[]) (mvT hZ (wd88 hw))) (mvT hZ (wd88 hw)) (mvT hZ (wd87 hw)) (by decide) (backOf (W := 0) (own_end l Z a0 hw [] b1 q0 T34.heap n0 O36 f34_0) hZ (wd89 hw) (wd3 hw) (by decide) (by decide)) q54a q54c (g := (mkF m 164 #[.val (.int p0), .val (.int p1), .val (.int p2), .val (.long q0), .second, .val (.long q1), .second, .val (.int xx), .val (.int yy), .val (.int vv), .val (.ref b1), .val (.int (1 : Int32)), .val (.int xx), .val (.int (0 : Int32)), .val (.int (xx + yy)), .val (.int (1 : Int32)), .val (.int (1 : Int32)), .val (.int vv)] [(.ref b1)])) rfl (by rw [hml]; rfl) (Steps.refl _) (argsL := []) (rest := []) (lenOf pd___J_155 rfl) rfl (by show 2 * 0 + _ ≤ _; exact Nat.le_of_eq rfl) (hb hby at_164) (fun _ _ => ⟨rfl, rfl, (by decide : 2 + 0 ≤ _), (by decide : 7 + 0 ≤ _)⟩)
      dsimp only [Pt.U, Pt.locs, Pt.cells, Pt.slots] at X54 l54 y54 z54 st54 hQ54
      subst l54 y54 z54
      obtain ⟨rfl, rfl, e54⟩ := hQ54
      try rw [List.append_nil] at X54
      refine own_tr (S' := T54.setTop (mkF m 167 #[.val (.int p0), .val (.int p1), .val (.int p2), .val (.long q0), .second, .val (.long q1), .second, .val (.int xx), .val (.int yy), .val (.int vv), .val (.ref b1), .val (.int (1 : Int32)), .val (.int xx), .val (.int (0 : Int32)), .val (.int (xx + yy)), .val (.int (1 : Int32)), .val (.int (1 : Int32)), .val (.int vv)] [(.long q0)])) st54 ?_
      refine own_via (S' := T54.setTop (mkF m 168 #[.val (.int p0), .val (.int p1), .val (.int p2), .val (.long q0), .second, .val (.long q1), .second, .val (.int xx), .val (.int yy), .val (.int vv), .val (.ref b1), .val (.int (1 : Int32)), .val (.int xx), .val (.int (0 : Int32)), .val (.int (xx + yy)), .val (.int (1 : Int32)), .val (.int (1 : Int32)), .val (.int vv)] [(.long q0), (.long q0)])) (fun t k => XS.lloadN X54.here hx rfl (hb hby at_167) rfl k) ?_
      refine own_via (S' := T54.setTop (mkF m 169 #[.val (.int p0), .val (.int p1), .val (.int p2), .val (.long q0), .second, .val (.long q1), .second, .val (.int xx), .val (.int yy), .val (.int vv), .val (.ref b1), .val (.int (1 : Int32)), .val (.int xx), .val (.int (0 : Int32)), .val (.int (xx + yy)), .val (.int (1 : Int32)), .val (.int (1 : Int32)), .val (.int vv)] [(.int (lcmpW q0 q0))])) (fun t k => XS.lcmp X54.here hx rfl (hb hby at_168) rfl k) ?_
      refine own_via (S' := T54.setTop (mkF m 172 #[.val (.int p0), .val (.int p1), .val (.int p2), .val (.long q0), .second, .val (.long q1), .second, .val (.int xx), .val (.int yy), .val (.int vv), .val (.ref b1), .val (.int (1 : Int32)), .val (.int xx), .val (.int (0 : Int32)), .val (.int (xx + yy)), .val (.int (1 : Int32)), .val (.int (1 : Int32)), .val (.int vv)] [])) (fun t k => XS.ifNo X54.here hx rfl (hb hby at_169) rfl ((if0 _ _).trans (teq ((lw_eq _ _).mpr (rfl : q0 = q0))).2) k) ?_
      refine own_via (S' := T54.setTop (mkF m 173 #[.val (.int p0), .val (.int p1), .val (.int p2), .val (.long q0), .second, .val (.long q1), .second, .val (.int xx), .val (.int yy), .val (.int vv), .val (.ref b1), .val (.int (1 : Int32)), .val (.int xx), .val (.int (0 : Int32)), .val (.int (xx + yy)), .val (.int (1 : Int32)), .val (.int (1 : Int32)), .val (.int vv)] [(.int (1 : Int32))])) (fun t k => XS.iconst X54.here hx rfl (hb hby at_172) k) ?_
      refine own_via (S' := T54.setTop (mkF m 177 #[.val (.int p0), .val (.int p1), .val (.int p2), .val (.long q0), .second, .val (.long q1), .second, .val (.int xx), .val (.int yy), .val (.int vv), .val (.ref b1), .val (.int (1 : Int32)), .val (.int xx), .val (.int (0 : Int32)), .val (.int (xx + yy)), .val (.int (1 : Int32)), .val (.int (1 : Int32)), .val (.int vv)] [(.int (1 : Int32))])) (fun t k => XS.goto X54.here hx rfl (pc0 := 173) (pc' := 177) rfl (hb hby at_173) (by decide) (by decide) k) ?_
      refine own_ret (Q := Q_own_law Z p0 p1 p2 q0 q1 w wl h0 n0) (C := room_1.cells) (N := room_1.slots) X54 (v := some (.int (1 : Int32))) (fun h => by rw [Bd.returns] at h; cases h) Bd.notSynchronized ?_ (by decide) (by decide) (fun fs hr => retN X54 hx (t := .boolean) Bd.returns (by simp) (hb hby at_177) hr)
      show Q_own_law Z p0 p1 p2 q0 q1 w wl h0 n0 _ T54.heap _
      rw [e54]
      exact ⟨rfl, N34⟩
    · -- no
      refine own_via (S' := T34.setTop (mkF m 146 #[.val (.int p0), .val (.int p1), .val (.int p2), .val (.long q0), .second, .val (.long q1), .second, .val (.int xx), .val (.int yy), .val (.int vv), .val (.ref b1), .val (.int (1 : Int32)), .val (.int xx), .val (.int (0 : Int32)), .val (.int (xx + yy)), .val (.int z27), .val (.int z32), .val (.int vv)] [(.int z27)])) (fun t k => XS.ifYes X34.here hx rfl (pc0 := 139) (pc' := 146) rfl (hb hby at_139) rfl ((if0 _ _).trans (feq hc139_51).2) (by decide) (by decide) k) ?_
      refine own_via (S' := T34.setTop (mkF m 147 #[.val (.int p0), .val (.int p1), .val (.int p2), .val (.long q0), .second, .val (.long q1), .second, .val (.int xx), .val (.int yy), .val (.int vv), .val (.ref b1), .val (.int (1 : Int32)), .val (.int xx), .val (.int (0 : Int32)), .val (.int (xx + yy)), .val (.int z27), .val (.int z32), .val (.int vv)] [(.int (0 : Int32)), (.int z27)])) (fun t k => XS.iconst X34.here hx rfl (hb hby at_146) k) ?_
      obtain rfl : z27 = (0 : Int32) := hz27_0.trans (if_neg hc139_51)
      refine own_via (S' := T34.setTop (mkF m 150 #[.val (.int p0), .val (.int p1), .val (.int p2), .val (.long q0), .second, .val (.long q1), .second, .val (.int xx), .val (.int yy), .val (.int vv), .val (.ref b1), .val (.int (1 : Int32)), .val (.int xx), .val (.int (0 : Int32)), .val (.int (xx + yy)), .val (.int (0 : Int32)), .val (.int z32), .val (.int vv)] [])) (fun t k => XS.icmpNo X34.here hx rfl (hb hby at_147) rfl (teq (by decide : (0 : Int32) = (0 : Int32))).2 k) ?_
      refine own_via (S' := T34.setTop (mkF m 152 #[.val (.int p0), .val (.int p1), .val (.int p2), .val (.long q0), .second, .val (.long q1), .second, .val (.int xx), .val (.int yy), .val (.int vv), .val (.ref b1), .val (.int (1 : Int32)), .val (.int xx), .val (.int (0 : Int32)), .val (.int (xx + yy)), .val (.int (0 : Int32)), .val (.int z32), .val (.int vv)] [(.int z32)])) (fun t k => XS.iload X34.here hx rfl (hb hby at_150) rfl k) ?_
      obtain rfl : z32 = (1 : Int32) := hz32_0.trans (if_pos rfl)
      refine own_via (S' := T34.setTop (mkF m 155 #[.val (.int p0), .val (.int p1), .val (.int p2), .val (.long q0), .second, .val (.long q1), .second, .val (.int xx), .val (.int yy), .val (.int vv), .val (.ref b1), .val (.int (1 : Int32)), .val (.int xx), .val (.int (0 : Int32)), .val (.int (xx + yy)), .val (.int (0 : Int32)), .val (.int (1 : Int32)), .val (.int vv)] [])) (fun t k => XS.ifNo X34.here hx rfl (hb hby at_152) rfl ((if0 _ _).trans (feq (by decide : ¬ ((1 : Int32) = (0 : Int32)))).1) k) ?_
      refine own_via (S' := T34.setTop (mkF m 157 #[.val (.int p0), .val (.int p1), .val (.int p2), .val (.long q0), .second, .val (.long q1), .second, .val (.int xx), .val (.int yy), .val (.int vv), .val (.ref b1), .val (.int (1 : Int32)), .val (.int xx), .val (.int (0 : Int32)), .val (.int (xx + yy)), .val (.int (0 : Int32)), .val (.int (1 : Int32)), .val (.int vv)] [(.int vv)])) (fun t k => XS.iload X34.here hx rfl (hb hby at_155) rfl k) ?_
      refine own_via (S' := T34.setTop (mkF m 159 #[.val (.int p0), .val (.int p1), .val (.int p2), .val (.long q0), .second, .val (.long q1), .second, .val (.int xx), .val (.int yy), .val (.int vv), .val (.ref b1), .val (.int (1 : Int32)), .val (.int xx), .val (.int (0 : Int32)), .val (.int (xx + yy)), .val (.int (0 : Int32)), .val (.int (1 : Int32)), .val (.int vv)] [(.int vv), (.int vv)])) (fun t k => XS.iload X34.here hx rfl (hb hby at_157) rfl k) ?_
      refine own_via (S' := T34.setTop (mkF m 162 #[.val (.int p0), .val (.int p1), .val (.int p2), .val (.long q0), .second, .val (.long q1), .second, .val (.int xx), .val (.int yy), .val (.int vv), .val (.ref b1), .val (.int (1 : Int32)), .val (.int xx), .val (.int (0 : Int32)), .val (.int (xx + yy)), .val (.int (0 : Int32)), .val (.int (1 : Int32)), .val (.int vv)] [])) (fun t k => XS.icmpNo X34.here hx rfl (hb hby at_159) rfl (teq (rfl : vv = vv)).2 k) ?_
      refine own_via (S' := T34.setTop (mkF m 164 #[.val (.int p0), .val (.int p1), .val (.int p2), .val (.long q0), .second, .val (.long q1), .second, .val (.int xx), .val (.int yy), .val (.int vv), .val (.ref b1), .val (.int (1 : Int32)), .val (.int xx), .val (.int (0 : Int32)), .val (.int (xx + yy)), .val (.int (0 : Int32)), .val (.int (1 : Int32)), .val (.int vv)] [(.ref b1)])) (fun t k => XS.aload X34.here hx rfl (hb hby at_162) rfl rfl k) ?_
      have c59 : Exa Z T34.heap b1 "org/veilroute/service/TunnelPool$Standing" := (c33.keep K34q)
      obtain ⟨cq58, kq58, q58a, q58b, q58c⟩ := isOf hZ rfl c59
      obtain ⟨_, _, ⟨T58, L58, k58, n58⟩, -, X58, ⟨Lc58, hQ58, l58, y58, z58⟩, st58⟩ := X34.virtualBack hx (y := mt11) (z := mt11) hown (mvT hZ (wd85 hw)) (mvT hZ (wd86 hw)) (notFace_of_selects (args := #[]) (mvT hZ (wd88 hw))) (mvT hZ (wd88 hw)) (mvT hZ (wd87 hw)) (by decide) (backOf (W := 0) (own_end l Z a0 hw [] b1 q0 T34.heap n0 O36 f34_0) hZ (wd89 hw) (wd3 hw) (by decide) (by decide)) q58a q58c (g := (mkF m 164 #[.val (.int p0), .val (.int p1), .val (.int p2), .val (.long q0), .second, .val (.long q1), .second, .val (.int xx), .val (.int yy), .val (.int vv), .val (.ref b1), .val (.int (1 : Int32)), .val (.int xx), .val (.int (0 : Int32)), .val (.int (xx + yy)), .val (.int (0 : Int32)), .val (.int (1 : Int32)), .val (.int vv)] [(.ref b1)])) rfl (by rw [hml]; rfl) (Steps.refl _) (argsL := []) (rest := []) (lenOf pd___J_155 rfl) rfl (by show 2 * 0 + _ ≤ _; exact Nat.le_of_eq rfl) (hb hby at_164) (fun _ _ => ⟨rfl, rfl, (by decide : 2 + 0 ≤ _), (by decide : 7 + 0 ≤ _)⟩)
      dsimp only [Pt.U, Pt.locs, Pt.cells, Pt.slots] at X58 l58 y58 z58 st58 hQ58
      subst l58 y58 z58
      obtain ⟨rfl, rfl, e58⟩ := hQ58
      try rw [List.append_nil] at X58
      refine own_tr (S' := T58.setTop (mkF m 167 #[.val (.int p0), .val (.int p1), .val (.int p2), .val (.long q0), .second, .val (.long q1), .second, .val (.int xx), .val (.int yy), .val (.int vv), .val (.ref b1), .val (.int (1 : Int32)), .val (.int xx), .val (.int (0 : Int32)), .val (.int (xx + yy)), .val (.int (0 : Int32)), .val (.int (1 : Int32)), .val (.int vv)] [(.long q0)])) st58 ?_
      refine own_via (S' := T58.setTop (mkF m 168 #[.val (.int p0), .val (.int p1), .val (.int p2), .val (.long q0), .second, .val (.long q1), .second, .val (.int xx), .val (.int yy), .val (.int vv), .val (.ref b1), .val (.int (1 : Int32)), .val (.int xx), .val (.int (0 : Int32)), .val (.int (xx + yy)), .val (.int (0 : Int32)), .val (.int (1 : Int32)), .val (.int vv)] [(.long q0), (.long q0)])) (fun t k => XS.lloadN X58.here hx rfl (hb hby at_167) rfl k) ?_
      refine own_via (S' := T58.setTop (mkF m 169 #[.val (.int p0), .val (.int p1), .val (.int p2), .val (.long q0), .second, .val (.long q1), .second, .val (.int xx), .val (.int yy), .val (.int vv), .val (.ref b1), .val (.int (1 : Int32)), .val (.int xx), .val (.int (0 : Int32)), .val (.int (xx + yy)), .val (.int (0 : Int32)), .val (.int (1 : Int32)), .val (.int vv)] [(.int (lcmpW q0 q0))])) (fun t k => XS.lcmp X58.here hx rfl (hb hby at_168) rfl k) ?_
      refine own_via (S' := T58.setTop (mkF m 172 #[.val (.int p0), .val (.int p1), .val (.int p2), .val (.long q0), .second, .val (.long q1), .second, .val (.int xx), .val (.int yy), .val (.int vv), .val (.ref b1), .val (.int (1 : Int32)), .val (.int xx), .val (.int (0 : Int32)), .val (.int (xx + yy)), .val (.int (0 : Int32)), .val (.int (1 : Int32)), .val (.int vv)] [])) (fun t k => XS.ifNo X58.here hx rfl (hb hby at_169) rfl ((if0 _ _).trans (teq ((lw_eq _ _).mpr (rfl : q0 = q0))).2) k) ?_
      refine own_via (S' := T58.setTop (mkF m 173 #[.val (.int p0), .val (.int p1), .val (.int p2), .val (.long q0), .second, .val (.long q1), .second, .val (.int xx), .val (.int yy), .val (.int vv), .val (.ref b1), .val (.int (1 : Int32)), .val (.int xx), .val (.int (0 : Int32)), .val (.int (xx + yy)), .val (.int (0 : Int32)), .val (.int (1 : Int32)), .val (.int vv)] [(.int (1 : Int32))])) (fun t k => XS.iconst X58.here hx rfl (hb hby at_172) k) ?_
      refine own_via (S' := T58.setTop (mkF m 177 #[.val (.int p0), .val (.int p1), .val (.int p2), .val (.long q0), .second, .val (.long q1), .second, .val (.int xx), .val (.int yy), .val (.int vv), .val (.ref b1), .val (.int (1 : Int32)), .val (.int xx), .val (.int (0 : Int32)), .val (.int (xx + yy)), .val (.int (0 : Int32)), .val (.int (1 : Int32)), .val (.int vv)] [(.int (1 : Int32))])) (fun t k => XS.goto X58.here hx rfl (pc0 := 173) (pc' := 177) rfl (hb hby at_173) (by decide) (by decide) k) ?_
      refine own_ret (Q := Q_own_law Z p0 p1 p2 q0 q1 w wl h0 n0) (C := room_1.cells) (N := room_1.slots) X58 (v := some (.int (1 : Int32))) (fun h => by rw [Bd.returns] at h; cases h) Bd.notSynchronized ?_ (by decide) (by decide) (fun fs hr => retN X58 hx (t := .boolean) Bd.returns (by simp) (hb hby at_177) hr)
      show Q_own_law Z p0 p1 p2 q0 q1 w wl h0 n0 _ T58.heap _
      rw [e58]
      exact ⟨rfl, N34⟩
set_option maxRecDepth 65536 in
set_option maxHeartbeats 40000000 in
theorem comes_1 {Post : Tables → Env → Array Value → State → Outcome → State → Prop} (hpost : ∀ tb e args s v u, (limb_1_1.after args s (.returned v) u = true ∧ limb_1_2.after args s (.returned v) u = true ∧ True) → FrameEnd s (.returned v) u (Jvm.fieldLocs frame_1_writes args s ++ Jvm.arrayLocs frame_1_arrays args s ++ Jvm.staticLocs frame_1_statics s) 16 128 → Post tb e args s (.returned v) u) :
    ArmFor flags0 classFile x code maxLocals ret World_1 tables_1 room_1 Calls_1 rest_1 Pre_1 Post := by
  intro l hfl _ _ p e ha hc hk s m args below hf hA hF happ hP
  obtain ⟨hcalls, hrest, hpre⟩ := hP
  obtain ⟨-, -, -, hnamed, -, -, -, hat⟩ := (Spec.applies_iff hf).mp happ
  obtain ⟨hg, hn⟩ := and_e (Cond.before_iff.mp (show (Jvm.Cond.and given_1 narrow_1).before args s = true from hpre))
  obtain ⟨hcount, hg⟩ := and_e hg
  obtain ⟨hg0, hg⟩ := and_e hg
  obtain ⟨hg1, hg⟩ := and_e hg
  obtain ⟨hg2, hg⟩ := and_e hg
  obtain ⟨hg3, hg⟩ := and_e hg
  have hg4 := hg
  obtain ⟨w0, w1, w2, w3, w4, rfl⟩ : ∃ w0 w1 w2 w3 w4 : Value, args = #[w0, w1, w2, w3, w4] := by
    have hs : args.size = 5 := by simpa [Cond.value, given_1] using hcount
    obtain ⟨L⟩ := args
    match L, hs with
    | [w0, w1, w2, w3, w4], _ => exact ⟨w0, w1, w2, w3, w4, rfl⟩
  have hw := fun d (hd : d ∈ tables_1) => atoms_spec (ws := Jvm.Cond.code x code maxLocals ret :: tables_1) hat d (List.mem_cons_of_mem _ hd)
  have hfit : Fit s := fun {y c} hc i hi => by
    obtain ⟨ha, rfl⟩ := Array.getElem?_eq_some_iff.mp hc
    have q := List.all_eq_true.mp ((Array.all_eq_true_iff_forall_mem.mp hF) _ (Array.getElem_mem ha)) i (List.mem_range.mpr hi)
    simpa [Array.getElem?_eq_getElem hi] using q
  obtain ⟨hsets, hown0⟩ := atoms_of _ (rest_1_c_eq ▸ (show rest_1_c.before _ s = true from hrest))
  have hr0 := Cond.before_iff.mp hown0
  obtain ⟨i0, ei0⟩ := is_v hg0
  obtain rfl : w0 = (.int i0) := Option.some.inj ei0
  obtain ⟨i1, ei1⟩ := is_v hg1
  obtain rfl : w1 = (.int i1) := Option.some.inj ei1
  obtain ⟨i2, ei2⟩ := is_v hg2
  obtain rfl : w2 = (.int i2) := Option.some.inj ei2
  obtain ⟨i3, ei3⟩ := isL_v hg3
  obtain rfl : w3 = (.long i3) := Option.some.inj ei3
  obtain ⟨i4, ei4⟩ := isL_v hg4
  obtain rfl : w4 = (.long i4) := Option.some.inj ei4
  obtain ⟨w, eW⟩ := exa_v hn
  have S_w := Sta.start eW (Or.inr ⟨(wd11 hw), (wd12 hw)⟩)
  have hl := Cond.before_iff.mp (hsets _ (List.mem_of_getElem? (i := 2) rfl))
  obtain ⟨wl, eL⟩ := exa_v hl
  have S_l := Sta.start eL (Or.inl (hsets _ (List.mem_of_getElem? (i := 1) rfl)))
  have E_l := Exa.start eL hl
  have F_l : Fld s s.heap wl "java/util/ImmutableCollections$ListN" "allowNulls" "Z" (.int (0 : Int32)) := by
    have q := Cond.before_iff.mp (hsets _ (List.mem_of_getElem? (i := 6) rfl))
    obtain ⟨x, y, e1, e2, -, -⟩ := cmp_v (Or.inl q)
    rw [fld_at eL] at e1
    have F := Fld.start e1
    simp only [Cond.value, fld_at eL, e1, Term.int_eval] at q
    cases x <;> simp at q
    subst q
    exact F
  obtain ⟨n, o, h1, h2, h3, _, L, rfl, ⟨rfl, N⟩, hq⟩ := own_law l s _ hw tables_1 i0 i1 i2 i3 i4 w wl s.heap s.heap.size (Old.start s) S_w S_l E_l F_l p e ha hc hk s m _ below hf ((Spec.applies_iff_loose hf).mp happ).1 ⟨rfl, State.Warmed39.refl s, rfl⟩ trivial
  refine ⟨n, _, h1, h2, h3, hpost _ _ _ _ _ _ ⟨Cond.after_iff.mpr rfl, Cond.after_iff.mpr (eq_i res_at (Term.int_eval (1)) rfl), trivial⟩ ⟨hq.1, hq.2.1, (hq.2.2.sift fun y hy => Or.inr (N y hy)).mono (by decide) (by decide)⟩⟩
theorem main_1_1 : Claimed_1_1 := comes_1 fun _ _ _ _ _ _ h hF => ⟨h.1, hF⟩
theorem main_1_2 : Claimed_1_2 := comes_1 fun _ _ _ _ _ _ h hF => ⟨h.2.1, hF⟩
end Jvm.Pilot.@@N@@
namespace Jvm.Pilot.@@N@@
open Jvm Jvm.ClassFile Sem Op Lib Jvm.Free Jvm.Stand Jvm.Pilot.@@N@@.Jvm.D
/-! MADE BY PROGRAM (witnessworld.py) out of the Statement's table words and the real class files: 26 classes; the members and pool entries that the words name. The judged class is class 1, her method 1. -/
namespace start1
open Jvm.ClassFile
def u (s : String) : CpInfo := .utf8 (stringToUtf16 s)
/-- a pool by its gaps: so many unusable entries, then the entry; so many at the end -/
def gap : Nat → List CpInfo → List CpInfo
  | 0, r => r
  | n + 1, r => .unusable :: gap n r
def poolList (es : List (Nat × CpInfo)) (last : Nat) : List CpInfo := es.foldr (fun e r => gap e.1 (e.2 :: r)) (gap last [])
def pool (es : List (Nat × CpInfo)) (last : Nat) : Array CpInfo := ⟨poolList es last⟩
def fileOf (pool : Array CpInfo) (this : Nat) (attrs : Array Attribute := #[]) (ms : Array MethodInfo := #[]) (fl : Nat := 33) (sup : Nat := 0) (ifs : Array Nat := #[]) (fds : Array FieldInfo := #[]) : ClassFile where
  minorVersion := 0
  majorVersion := 65
  constantPool := pool
  accessFlags := fl
  thisClass := this
  superClass := sup
  interfaces := ifs
  fields := fds
  methods := ms
  attributes := attrs
def plain (name : String) (sup : Option ClassId) : Class where
  name := name
  kind := .ordinary
  loader := none
  accessFlags := 33
  super := sup
  interfaces := #[]
  cf := none
  fields := #[]
  methods := #[]
  instanceTypes := #[]
  staticTypes := #[]
  resolved := #[]
  callSites := []
  init := .initialized
  statics := none
  mirror := none

def pool0 : Array CpInfo := pool [(5, u "<init>"), (0, u "()V"), (1, .class_ 10), (1, u "java/lang/Object")] 113

def k0c0 : Code := { maxStack := 0, maxLocals := 1, code := object_method_1_code, exceptionTable := #[], attributes := #[] }
def k0m0 : Method := { name := "<init>", desc := "()V", sig := { parameters := [], returnType := none }, accessFlags := 1, code := some k0c0 }
/-- java/lang/Object -/
def k0 : Class := { plain "java/lang/Object" none with
  accessFlags := 33
  interfaces := #[]
  cf := some (fileOf pool0 8 #[] #[{ accessFlags := 1, nameIndex := 5, descriptorIndex := 6, attributes := #[] }] 33 0 #[] #[])
  fields := #[]
  methods := #[k0m0]
  instanceTypes := #[]
  staticTypes := #[]
  resolved := Array.replicate 124 none
  statics := none }

def pool1 : Array CpInfo := pool [(2, .class_ 4), (1, u "java/lang/Object"), (0, u "<init>"), (0, u "()V"), (0, .integer 1073741823), (0, .class_ 9), (0, u "org/veilroute/service/TunnelPool$Standing"), (0, .methodref 11 12), (0, .class_ 13), (0, .nameAndType 14 15), (0, u "org/veilroute/service/Tunnel"), (0, u "zeroHopOutbound"), (0, u "()Lorg/veilroute/service/Tunnel;"), (0, .methodref 8 17), (0, .nameAndType 5 18), (0, u "(Lorg/veilroute/service/Tunnel;JJ)V"), (0, .methodref 8 20), (0, .nameAndType 21 22), (0, u "sound"), (0, u "()Z"), (0, .methodref 8 24), (0, .nameAndType 25 26), (0, u "failed"), (0, u "(I)I"), (0, .methodref 8 28), (0, .nameAndType 29 30), (0, u "passed"), (0, u "(J)V"), (0, .methodref 8 32), (0, .nameAndType 33 34), (0, u "end"), (0, u "()J"), (0, .class_ 36), (0, u "org/veilroute/service/StandingFailedPinLaw"), (2, u "law"), (0, u "(IIIJJ)Z")] 7

def k1m0 : Method := { name := "<init>", desc := "()V", sig := { parameters := [], returnType := none }, accessFlags := 2, code := none }
def k1c1 : Code := { maxStack := 7, maxLocals := 18, code := code, exceptionTable := #[], attributes := #[] }
def k1m1 : Method := { name := "law", desc := "(IIIJJ)Z", sig := { parameters := [.int, .int, .int, .long, .long], returnType := some .boolean }, accessFlags := 9, code := some k1c1 }
/-- org/veilroute/service/StandingFailedPinLaw -/
def k1 : Class := { plain "org/veilroute/service/StandingFailedPinLaw" (some 0) with
  accessFlags := 49
  interfaces := #[]
  cf := some (fileOf pool1 35 #[] #[{ accessFlags := 2, nameIndex := 5, descriptorIndex := 6, attributes := #[] }, { accessFlags := 9, nameIndex := 39, descriptorIndex := 40, attributes := #[] }] 49 2 #[] #[])
  fields := #[]
  methods := #[k1m0, k1m1]
  instanceTypes := #[]
  staticTypes := #[]
  resolved := Array.replicate 48 none
  statics := none }

def pool2 : Array CpInfo := pool [(1, .methodref 2 3), (0, .class_ 4), (0, .nameAndType 5 6), (0, u "java/lang/Object"), (0, u "<init>"), (0, u "()V"), (0, .fieldref 8 9), (0, .class_ 10), (0, .nameAndType 11 12), (0, u "org/veilroute/service/TunnelPool$Standing"), (0, u "tunnel"), (0, u "Lorg/veilroute/service/Tunnel;"), (0, .fieldref 8 14), (0, .nameAndType 15 16), (0, u "end"), (0, u "J"), (0, .fieldref 8 18), (0, .nameAndType 19 16), (0, u "provenAfter"), (11, u "()Z"), (0, .fieldref 8 33), (0, .nameAndType 34 35), (0, u "failedTests"), (0, u "I"), (0, .methodref 37 38), (0, .class_ 39), (0, .nameAndType 40 41), (0, u "java/lang/Math"), (0, u "max"), (0, u "(JJ)J"), (0, u "(Lorg/veilroute/service/Tunnel;JJ)V"), (3, u "()J"), (3, u "passed"), (0, u "(J)V"), (0, u "sound"), (0, u "failed"), (0, u "(I)I"), (3, .class_ 59), (0, u "org/veilroute/service/TunnelPool")] 2

def k2c0 : Code := { maxStack := 3, maxLocals := 6, code := prog_176_method_1_code, exceptionTable := #[], attributes := #[] }
def k2m0 : Method := { name := "<init>", desc := "(Lorg/veilroute/service/Tunnel;JJ)V", sig := { parameters := [(.object "org/veilroute/service/Tunnel"), .long, .long], returnType := none }, accessFlags := 0, code := some k2c0 }
def k2c1 : Code := { maxStack := 2, maxLocals := 1, code := prog_176_method_3_code, exceptionTable := #[], attributes := #[] }
def k2m1 : Method := { name := "end", desc := "()J", sig := { parameters := [], returnType := some .long }, accessFlags := 0, code := some k2c1 }
def k2c2 : Code := { maxStack := 5, maxLocals := 3, code := prog_176_method_5_code, exceptionTable := #[], attributes := #[] }
def k2m2 : Method := { name := "passed", desc := "(J)V", sig := { parameters := [.long], returnType := none }, accessFlags := 0, code := some k2c2 }
def k2c3 : Code := { maxStack := 1, maxLocals := 1, code := prog_176_method_6_code, exceptionTable := #[], attributes := #[] }
def k2m3 : Method := { name := "sound", desc := "()Z", sig := { parameters := [], returnType := some .boolean }, accessFlags := 0, code := some k2c3 }
def k2c4 : Code := { maxStack := 3, maxLocals := 2, code := prog_176_method_7_code, exceptionTable := #[], attributes := #[] }
def k2m4 : Method := { name := "failed", desc := "(I)I", sig := { parameters := [.int], returnType := some .int }, accessFlags := 0, code := some k2c4 }
/-- org/veilroute/service/TunnelPool$Standing -/
def k2 : Class := { plain "org/veilroute/service/TunnelPool$Standing" (some 0) with
  accessFlags := 48
  interfaces := #[]
  cf := some (fileOf pool2 8 #[.nestHost 58] #[{ accessFlags := 0, nameIndex := 5, descriptorIndex := 42, attributes := #[] }, { accessFlags := 0, nameIndex := 15, descriptorIndex := 46, attributes := #[] }, { accessFlags := 0, nameIndex := 50, descriptorIndex := 51, attributes := #[] }, { accessFlags := 0, nameIndex := 52, descriptorIndex := 31, attributes := #[] }, { accessFlags := 0, nameIndex := 53, descriptorIndex := 54, attributes := #[] }] 48 2 #[] #[{ accessFlags := 18, nameIndex := 11, descriptorIndex := 12, attributes := #[] }, { accessFlags := 18, nameIndex := 15, descriptorIndex := 16, attributes := #[] }, { accessFlags := 66, nameIndex := 19, descriptorIndex := 16, attributes := #[] }, { accessFlags := 2, nameIndex := 34, descriptorIndex := 35, attributes := #[] }])
  fields := #[{ name := "tunnel", type := (.object "org/veilroute/service/Tunnel"), accessFlags := 18, slot := 0, constantValue := 0 }, { name := "end", type := .long, accessFlags := 18, slot := 1, constantValue := 0 }, { name := "provenAfter", type := .long, accessFlags := 66, slot := 2, constantValue := 0 }, { name := "failedTests", type := .int, accessFlags := 2, slot := 3, constantValue := 0 }]
  methods := #[k2m0, k2m1, k2m2, k2m3, k2m4]
  instanceTypes := #[(.object "org/veilroute/service/Tunnel"), .long, .long, .int]
  staticTypes := #[]
  resolved := Array.replicate 62 none
  statics := none }

def pool3 : Array CpInfo := pool [(1, .methodref 2 3), (0, .class_ 4), (0, .nameAndType 5 6), (0, u "java/lang/Object"), (0, u "<init>"), (0, u "()V"), (0, .class_ 8), (0, u "java/lang/Record")] 13

def k3c0 : Code := { maxStack := 1, maxLocals := 1, code := jdk_30_method_1_code, exceptionTable := #[], attributes := #[] }
def k3m0 : Method := { name := "<init>", desc := "()V", sig := { parameters := [], returnType := none }, accessFlags := 4, code := some k3c0 }
/-- java/lang/Record -/
def k3 : Class := { plain "java/lang/Record" (some 0) with
  accessFlags := 1057
  interfaces := #[]
  cf := some (fileOf pool3 7 #[] #[{ accessFlags := 4, nameIndex := 5, descriptorIndex := 6, attributes := #[] }] 1057 2 #[] #[])
  fields := #[]
  methods := #[k3m0]
  instanceTypes := #[]
  staticTypes := #[]
  resolved := Array.replicate 22 none
  statics := none }

def pool4 : Array CpInfo := pool [(1, .methodref 2 3), (0, .class_ 4), (0, .nameAndType 5 6), (0, u "java/lang/Record"), (0, u "<init>"), (0, u "()V"), (0, .interfaceMethodref 8 9), (0, .class_ 10), (0, .nameAndType 11 12), (0, u "java/util/List"), (0, u "copyOf"), (0, u "(Ljava/util/Collection;)Ljava/util/List;"), (0, .fieldref 14 15), (0, .class_ 16), (0, .nameAndType 17 18), (0, u "org/veilroute/service/Tunnel"), (0, u "direction"), (0, u "Lorg/veilroute/service/TunnelBuilder$Direction;"), (0, .fieldref 14 20), (0, .nameAndType 21 22), (0, u "hops"), (0, u "Ljava/util/List;"), (0, .fieldref 14 24), (0, .nameAndType 25 26), (0, u "receiveId"), (0, u "I"), (1, .class_ 30), (1, u "org/veilroute/service/TunnelBuilder$Direction"), (1, .interfaceMethodref 8 33), (0, .nameAndType 34 35), (0, u "of"), (0, u "()Ljava/util/List;"), (0, .methodref 14 37), (0, .nameAndType 5 38), (0, u "(Lorg/veilroute/service/TunnelBuilder$Direction;Ljava/util/List;I)V"), (0, .fieldref 28 40), (0, .nameAndType 41 18), (0, u "OUTBOUND"), (8, .class_ 51), (0, u "org/veilroute/service/Tunnel$Hop"), (45, u "zeroHopOutbound"), (0, u "()Lorg/veilroute/service/Tunnel;")] 37

def k4c0 : Code := { maxStack := 2, maxLocals := 4, code := prog_163_method_1_code, exceptionTable := #[], attributes := #[] }
def k4m0 : Method := { name := "<init>", desc := "(Lorg/veilroute/service/TunnelBuilder$Direction;Ljava/util/List;I)V", sig := { parameters := [(.object "org/veilroute/service/TunnelBuilder$Direction"), (.object "java/util/List"), .int], returnType := none }, accessFlags := 0, code := some k4c0 }
def k4c1 : Code := { maxStack := 5, maxLocals := 0, code := prog_163_method_3_code, exceptionTable := #[], attributes := #[] }
def k4m1 : Method := { name := "zeroHopOutbound", desc := "()Lorg/veilroute/service/Tunnel;", sig := { parameters := [], returnType := some (.object "org/veilroute/service/Tunnel") }, accessFlags := 8, code := some k4c1 }
/-- org/veilroute/service/Tunnel -/
def k4 : Class := { plain "org/veilroute/service/Tunnel" (some 3) with
  accessFlags := 48
  interfaces := #[]
  cf := some (fileOf pool4 14 #[.nestMembers #[50]] #[{ accessFlags := 0, nameIndex := 5, descriptorIndex := 38, attributes := #[] }, { accessFlags := 8, nameIndex := 97, descriptorIndex := 98, attributes := #[] }] 48 2 #[] #[{ accessFlags := 18, nameIndex := 17, descriptorIndex := 18, attributes := #[] }, { accessFlags := 18, nameIndex := 21, descriptorIndex := 22, attributes := #[] }, { accessFlags := 18, nameIndex := 25, descriptorIndex := 26, attributes := #[] }])
  fields := #[{ name := "direction", type := (.object "org/veilroute/service/TunnelBuilder$Direction"), accessFlags := 18, slot := 0, constantValue := 0 }, { name := "hops", type := (.object "java/util/List"), accessFlags := 18, slot := 1, constantValue := 0 }, { name := "receiveId", type := .int, accessFlags := 18, slot := 2, constantValue := 0 }]
  methods := #[k4m0, k4m1]
  instanceTypes := #[(.object "org/veilroute/service/TunnelBuilder$Direction"), (.object "java/util/List"), .int]
  staticTypes := #[]
  resolved := Array.replicate 136 none
  statics := none }

def pool5 : Array CpInfo := pool [(1, .class_ 2), (0, u "java/lang/constant/Constable"), (0, .class_ 4), (0, u "java/lang/Object")] 6

/-- java/lang/constant/Constable -/
def k5 : Class := { plain "java/lang/constant/Constable" (some 0) with
  accessFlags := 1537
  interfaces := #[]
  cf := some (fileOf pool5 1 #[] #[] 1537 3 #[] #[])
  fields := #[]
  methods := #[]
  instanceTypes := #[]
  staticTypes := #[]
  resolved := Array.replicate 11 none
  statics := none }

def pool6 : Array CpInfo := pool [(1, .class_ 2), (0, u "java/lang/Comparable"), (0, .class_ 4), (0, u "java/lang/Object")] 7

/-- java/lang/Comparable -/
def k6 : Class := { plain "java/lang/Comparable" (some 0) with
  accessFlags := 1537
  interfaces := #[]
  cf := some (fileOf pool6 1 #[] #[] 1537 3 #[] #[])
  fields := #[]
  methods := #[]
  instanceTypes := #[]
  staticTypes := #[]
  resolved := Array.replicate 12 none
  statics := none }

def pool7 : Array CpInfo := pool [(1, .class_ 2), (0, u "java/io/Serializable"), (0, .class_ 4), (0, u "java/lang/Object")] 2

/-- java/io/Serializable -/
def k7 : Class := { plain "java/io/Serializable" (some 0) with
  accessFlags := 1537
  interfaces := #[]
  cf := some (fileOf pool7 1 #[] #[] 1537 3 #[] #[])
  fields := #[]
  methods := #[]
  instanceTypes := #[]
  staticTypes := #[]
  resolved := Array.replicate 7 none
  statics := none }

def pool8 : Array CpInfo := pool [(2, .class_ 4), (1, u "java/lang/Enum"), (0, u "name"), (0, u "Ljava/lang/String;"), (2, u "ordinal"), (0, u "I"), (1, .class_ 14), (1, u "java/lang/Object"), (4, u "hash"), (86, .class_ 108), (1, u "java/lang/Enum$EnumDesc"), (2, .class_ 112), (0, u "java/lang/constant/Constable"), (0, .class_ 114), (0, u "java/lang/Comparable"), (0, .class_ 116), (0, u "java/io/Serializable")] 87

/-- java/lang/Enum -/
def k8 : Class := { plain "java/lang/Enum" (some 0) with
  accessFlags := 1057
  interfaces := #[5, 6, 7]
  cf := some (fileOf pool8 2 #[.nestMembers #[106]] #[] 1057 12 #[111, 113, 115] #[{ accessFlags := 18, nameIndex := 5, descriptorIndex := 6, attributes := #[] }, { accessFlags := 18, nameIndex := 9, descriptorIndex := 10, attributes := #[] }, { accessFlags := 2, nameIndex := 19, descriptorIndex := 10, attributes := #[] }])
  fields := #[{ name := "name", type := (.object "java/lang/String"), accessFlags := 18, slot := 0, constantValue := 0 }, { name := "ordinal", type := .int, accessFlags := 18, slot := 1, constantValue := 0 }, { name := "hash", type := .int, accessFlags := 2, slot := 2, constantValue := 0 }]
  methods := #[]
  instanceTypes := #[(.object "java/lang/String"), .int, .int]
  staticTypes := #[]
  resolved := Array.replicate 204 none
  statics := none }

def pool9 : Array CpInfo := pool [(1, .class_ 2), (0, u "org/veilroute/service/TunnelBuilder$Direction"), (2, u "INBOUND"), (0, u "Lorg/veilroute/service/TunnelBuilder$Direction;"), (2, u "OUTBOUND"), (2, u "$VALUES"), (0, u "[Lorg/veilroute/service/TunnelBuilder$Direction;"), (6, .class_ 22), (1, u "java/lang/Enum"), (25, .class_ 49), (0, u "org/veilroute/service/TunnelBuilder")] 2

/-- org/veilroute/service/TunnelBuilder$Direction -/
def k9 : Class := { plain "org/veilroute/service/TunnelBuilder$Direction" (some 8) with
  accessFlags := 16432
  interfaces := #[]
  cf := some (fileOf pool9 1 #[.nestHost 48] #[] 16432 20 #[] #[{ accessFlags := 16409, nameIndex := 5, descriptorIndex := 6, attributes := #[] }, { accessFlags := 16409, nameIndex := 9, descriptorIndex := 6, attributes := #[] }, { accessFlags := 4122, nameIndex := 12, descriptorIndex := 13, attributes := #[] }])
  fields := #[{ name := "INBOUND", type := (.object "org/veilroute/service/TunnelBuilder$Direction"), accessFlags := 16409, slot := 0, constantValue := 0 }, { name := "OUTBOUND", type := (.object "org/veilroute/service/TunnelBuilder$Direction"), accessFlags := 16409, slot := 1, constantValue := 0 }, { name := "$VALUES", type := (.array (.object "org/veilroute/service/TunnelBuilder$Direction")), accessFlags := 4122, slot := 2, constantValue := 0 }]
  methods := #[]
  instanceTypes := #[(.object "java/lang/String"), .int, .int]
  staticTypes := #[(.object "org/veilroute/service/TunnelBuilder$Direction"), (.object "org/veilroute/service/TunnelBuilder$Direction"), (.array (.object "org/veilroute/service/TunnelBuilder$Direction"))]
  resolved := Array.replicate 52 none
  statics := some 0 }

def pool10 : Array CpInfo := pool [(8, .class_ 10), (1, u "java/lang/Iterable"), (24, .class_ 36), (0, u "java/lang/Object")] 25

/-- java/lang/Iterable -/
def k10 : Class := { plain "java/lang/Iterable" (some 0) with
  accessFlags := 1537
  interfaces := #[]
  cf := some (fileOf pool10 8 #[] #[] 1537 35 #[] #[])
  fields := #[]
  methods := #[]
  instanceTypes := #[]
  staticTypes := #[]
  resolved := Array.replicate 62 none
  statics := none }

def pool11 : Array CpInfo := pool [(10, .class_ 12), (1, u "java/util/Collection"), (47, .class_ 61), (0, u "java/lang/Object"), (0, .class_ 63), (0, u "java/lang/Iterable")] 51

/-- java/util/Collection -/
def k11 : Class := { plain "java/util/Collection" (some 0) with
  accessFlags := 1537
  interfaces := #[10]
  cf := some (fileOf pool11 10 #[] #[] 1537 60 #[62] #[])
  fields := #[]
  methods := #[]
  instanceTypes := #[]
  staticTypes := #[]
  resolved := Array.replicate 115 none
  statics := none }

def pool12 : Array CpInfo := pool [(8, .class_ 10), (1, u "java/util/SequencedCollection"), (15, .class_ 27), (0, u "java/lang/Object"), (0, .class_ 29), (0, u "java/util/Collection")] 27

/-- java/util/SequencedCollection -/
def k12 : Class := { plain "java/util/SequencedCollection" (some 0) with
  accessFlags := 1537
  interfaces := #[11]
  cf := some (fileOf pool12 8 #[] #[] 1537 26 #[28] #[])
  fields := #[]
  methods := #[]
  instanceTypes := #[]
  staticTypes := #[]
  resolved := Array.replicate 57 none
  statics := none }

def pool13 : Array CpInfo := pool [(8, .class_ 10), (1, u "java/util/List"), (77, u "of"), (1, .fieldref 91 92), (0, .class_ 93), (0, .nameAndType 94 95), (0, u "java/util/ImmutableCollections"), (0, u "EMPTY_LIST"), (0, u "Ljava/util/ImmutableCollections$ListN;"), (7, .class_ 104), (0, u "java/lang/Object"), (7, .methodref 91 113), (0, .nameAndType 114 115), (0, u "listCopy"), (0, u "(Ljava/util/Collection;)Ljava/util/List;"), (3, u "()Ljava/util/List;"), (0, .class_ 121), (0, u "java/util/SequencedCollection"), (112, u "copyOf")] 16

def k13c0 : Code := { maxStack := 1, maxLocals := 0, code := jdk_40_method_36_code, exceptionTable := #[], attributes := #[] }
def k13m0 : Method := { name := "of", desc := "()Ljava/util/List;", sig := { parameters := [], returnType := some (.object "java/util/List") }, accessFlags := 9, code := some k13c0 }
def k13c1 : Code := { maxStack := 1, maxLocals := 1, code := jdk_40_method_48_code, exceptionTable := #[], attributes := #[] }
def k13m1 : Method := { name := "copyOf", desc := "(Ljava/util/Collection;)Ljava/util/List;", sig := { parameters := [(.object "java/util/Collection")], returnType := some (.object "java/util/List") }, accessFlags := 9, code := some k13c1 }
/-- java/util/List -/
def k13 : Class := { plain "java/util/List" (some 0) with
  accessFlags := 1537
  interfaces := #[12]
  cf := some (fileOf pool13 8 #[] #[{ accessFlags := 9, nameIndex := 88, descriptorIndex := 119, attributes := #[] }, { accessFlags := 9, nameIndex := 234, descriptorIndex := 115, attributes := #[] }] 1537 103 #[120] #[])
  fields := #[]
  methods := #[k13m0, k13m1]
  instanceTypes := #[]
  staticTypes := #[]
  resolved := Array.replicate 251 none
  statics := none }

def pool14 : Array CpInfo := pool [(2, .class_ 4), (1, u "java/lang/Object"), (0, u "<init>"), (0, u "()V"), (3, .class_ 11), (0, u "java/util/ImmutableCollections$List12"), (0, .class_ 13), (0, u "java/util/ImmutableCollections$ListN"), (0, .fieldref 12 15), (0, .nameAndType 16 17), (0, u "allowNulls"), (0, u "Z"), (0, .class_ 19), (0, u "java/util/List"), (27, .class_ 49), (1, u "java/util/ImmutableCollections"), (0, u "$assertionsDisabled"), (5, u "[Ljava/lang/Object;"), (5, u "EMPTY_LIST"), (0, u "Ljava/util/ImmutableCollections$ListN;"), (8, u "EMPTY_LIST_NULLS"), (22, u "SALT32L"), (0, u "J"), (2, u "REVERSE"), (6, u "archivedObjects"), (2, u "EMPTY"), (0, u "Ljava/lang/Object;"), (0, .class_ 112), (0, u "java/util/ImmutableCollections$SetN"), (5, u "EMPTY_SET"), (0, u "Ljava/util/ImmutableCollections$SetN;"), (0, .class_ 121), (0, u "java/util/ImmutableCollections$MapN"), (3, u "EMPTY_MAP"), (0, u "Ljava/util/ImmutableCollections$MapN;"), (4, u "EXPAND_FACTOR"), (0, u "I"), (9, u "listCopy"), (0, u "(Ljava/util/Collection;)Ljava/util/List;"), (25, .class_ 170), (0, u "java/util/ImmutableCollections$MapN$MapNIterator"), (0, .class_ 172), (0, u "java/util/ImmutableCollections$MapN$1"), (0, .class_ 174), (0, u "java/util/ImmutableCollections$Map1"), (0, .class_ 176), (0, u "java/util/ImmutableCollections$AbstractImmutableMap"), (0, .class_ 178), (0, u "java/util/ImmutableCollections$SetN$SetNIterator"), (0, .class_ 180), (0, u "java/util/ImmutableCollections$Set12"), (0, .class_ 182), (0, u "java/util/ImmutableCollections$Set12$1"), (0, .class_ 184), (0, u "java/util/ImmutableCollections$AbstractImmutableSet"), (0, .class_ 186), (0, u "java/util/ImmutableCollections$SubList"), (0, .class_ 188), (0, u "java/util/ImmutableCollections$ListItr"), (0, .class_ 190), (0, u "java/util/ImmutableCollections$AbstractImmutableList"), (0, .class_ 192), (0, u "java/util/ImmutableCollections$AbstractImmutableCollection"), (0, .class_ 194), (0, u "java/util/ImmutableCollections$Access"), (0, .class_ 196), (0, u "java/util/ImmutableCollections$Access$1")] 16

def k14m0 : Method := { name := "<init>", desc := "()V", sig := { parameters := [], returnType := none }, accessFlags := 2, code := none }
def k14c1 : Code := { maxStack := 1, maxLocals := 2, code := jdk_56_method_3_code, exceptionTable := #[], attributes := #[] }
def k14m1 : Method := { name := "listCopy", desc := "(Ljava/util/Collection;)Ljava/util/List;", sig := { parameters := [(.object "java/util/Collection")], returnType := some (.object "java/util/List") }, accessFlags := 8, code := some k14c1 }
/-- java/util/ImmutableCollections -/
def k14 : Class := { plain "java/util/ImmutableCollections" (some 0) with
  accessFlags := 32
  interfaces := #[]
  cf := some (fileOf pool14 47 #[.nestMembers #[120, 169, 171, 173, 175, 111, 177, 179, 181, 183, 12, 10, 185, 187, 189, 191, 193, 195]] #[{ accessFlags := 2, nameIndex := 5, descriptorIndex := 6, attributes := #[] }, { accessFlags := 8, nameIndex := 142, descriptorIndex := 143, attributes := #[] }] 32 2 #[] #[{ accessFlags := 26, nameIndex := 95, descriptorIndex := 96, attributes := #[] }, { accessFlags := 26, nameIndex := 99, descriptorIndex := 17, attributes := #[] }, { accessFlags := 10, nameIndex := 106, descriptorIndex := 56, attributes := #[] }, { accessFlags := 26, nameIndex := 109, descriptorIndex := 110, attributes := #[] }, { accessFlags := 24, nameIndex := 62, descriptorIndex := 63, attributes := #[] }, { accessFlags := 24, nameIndex := 72, descriptorIndex := 63, attributes := #[] }, { accessFlags := 24, nameIndex := 118, descriptorIndex := 119, attributes := #[] }, { accessFlags := 24, nameIndex := 125, descriptorIndex := 126, attributes := #[] }, { accessFlags := 24, nameIndex := 131, descriptorIndex := 132, attributes := #[] }, { accessFlags := 4120, nameIndex := 50, descriptorIndex := 17, attributes := #[] }])
  fields := #[{ name := "SALT32L", type := .long, accessFlags := 26, slot := 0, constantValue := 0 }, { name := "REVERSE", type := .boolean, accessFlags := 26, slot := 1, constantValue := 0 }, { name := "archivedObjects", type := (.array (.object "java/lang/Object")), accessFlags := 10, slot := 2, constantValue := 0 }, { name := "EMPTY", type := (.object "java/lang/Object"), accessFlags := 26, slot := 3, constantValue := 0 }, { name := "EMPTY_LIST", type := (.object "java/util/ImmutableCollections$ListN"), accessFlags := 24, slot := 4, constantValue := 0 }, { name := "EMPTY_LIST_NULLS", type := (.object "java/util/ImmutableCollections$ListN"), accessFlags := 24, slot := 5, constantValue := 0 }, { name := "EMPTY_SET", type := (.object "java/util/ImmutableCollections$SetN"), accessFlags := 24, slot := 6, constantValue := 0 }, { name := "EMPTY_MAP", type := (.object "java/util/ImmutableCollections$MapN"), accessFlags := 24, slot := 7, constantValue := 0 }, { name := "EXPAND_FACTOR", type := .int, accessFlags := 24, slot := 8, constantValue := 0 }, { name := "$assertionsDisabled", type := .boolean, accessFlags := 4120, slot := 9, constantValue := 0 }]
  methods := #[k14m0, k14m1]
  instanceTypes := #[]
  staticTypes := #[.long, .boolean, (.array (.object "java/lang/Object")), (.object "java/lang/Object"), (.object "java/util/ImmutableCollections$ListN"), (.object "java/util/ImmutableCollections$ListN"), (.object "java/util/ImmutableCollections$SetN"), (.object "java/util/ImmutableCollections$MapN"), .int, .boolean]
  resolved := Array.replicate 213 none
  statics := some 1 }

def pool15 : Array CpInfo := pool [(2, .class_ 4), (1, u "java/lang/Object"), (0, u "<init>"), (0, u "()V"), (1, .class_ 10), (1, u "java/util/AbstractCollection"), (66, .class_ 78), (0, u "java/util/Collection")] 81

def k15m0 : Method := { name := "<init>", desc := "()V", sig := { parameters := [], returnType := none }, accessFlags := 4, code := none }
/-- java/util/AbstractCollection -/
def k15 : Class := { plain "java/util/AbstractCollection" (some 0) with
  accessFlags := 1057
  interfaces := #[11]
  cf := some (fileOf pool15 8 #[] #[{ accessFlags := 4, nameIndex := 5, descriptorIndex := 6, attributes := #[] }] 1057 2 #[77] #[])
  fields := #[]
  methods := #[k15m0]
  instanceTypes := #[]
  staticTypes := #[]
  resolved := Array.replicate 160 none
  statics := none }

def pool16 : Array CpInfo := pool [(2, .class_ 4), (1, u "java/util/AbstractCollection"), (0, u "<init>"), (0, u "()V"), (1, .class_ 10), (1, u "java/util/ImmutableCollections"), (2, .class_ 14), (0, u "java/util/ImmutableCollections$AbstractImmutableCollection")] 41

def k16m0 : Method := { name := "<init>", desc := "()V", sig := { parameters := [], returnType := none }, accessFlags := 0, code := none }
/-- java/util/ImmutableCollections$AbstractImmutableCollection -/
def k16 : Class := { plain "java/util/ImmutableCollections$AbstractImmutableCollection" (some 15) with
  accessFlags := 1056
  interfaces := #[]
  cf := some (fileOf pool16 13 #[.nestHost 8] #[{ accessFlags := 0, nameIndex := 5, descriptorIndex := 6, attributes := #[] }] 1056 2 #[] #[])
  fields := #[]
  methods := #[k16m0]
  instanceTypes := #[]
  staticTypes := #[]
  resolved := Array.replicate 56 none
  statics := none }

def pool17 : Array CpInfo := pool [(1, .class_ 2), (0, u "java/util/RandomAccess"), (0, .class_ 4), (0, u "java/lang/Object")] 2

/-- java/util/RandomAccess -/
def k17 : Class := { plain "java/util/RandomAccess" (some 0) with
  accessFlags := 1537
  interfaces := #[]
  cf := some (fileOf pool17 1 #[] #[] 1537 3 #[] #[])
  fields := #[]
  methods := #[]
  instanceTypes := #[]
  staticTypes := #[]
  resolved := Array.replicate 7 none
  statics := none }

def pool18 : Array CpInfo := pool [(2, .class_ 4), (1, u "java/util/ImmutableCollections$AbstractImmutableCollection"), (0, u "<init>"), (0, u "()V"), (1, .class_ 10), (1, u "java/util/ImmutableCollections"), (3, .class_ 16), (1, u "java/util/ImmutableCollections$AbstractImmutableList"), (60, .class_ 78), (0, u "java/util/List"), (45, .class_ 125), (0, u "java/util/RandomAccess")] 70

def k18m0 : Method := { name := "<init>", desc := "()V", sig := { parameters := [], returnType := none }, accessFlags := 0, code := none }
/-- java/util/ImmutableCollections$AbstractImmutableList -/
def k18 : Class := { plain "java/util/ImmutableCollections$AbstractImmutableList" (some 16) with
  accessFlags := 1056
  interfaces := #[13, 17]
  cf := some (fileOf pool18 14 #[.nestHost 8] #[{ accessFlags := 0, nameIndex := 5, descriptorIndex := 6, attributes := #[] }] 1056 2 #[77, 124] #[])
  fields := #[]
  methods := #[k18m0]
  instanceTypes := #[]
  staticTypes := #[]
  resolved := Array.replicate 196 none
  statics := none }

def pool19 : Array CpInfo := pool [(2, .class_ 4), (1, u "java/util/ImmutableCollections$AbstractImmutableList"), (9, .class_ 16), (1, u "java/util/ImmutableCollections$List12"), (0, u "e0"), (0, u "Ljava/lang/Object;"), (1, .class_ 22), (1, u "java/util/ImmutableCollections"), (3, u "e1"), (43, .class_ 71), (0, u "java/io/Serializable")] 53

/-- java/util/ImmutableCollections$List12 -/
def k19 : Class := { plain "java/util/ImmutableCollections$List12" (some 18) with
  accessFlags := 48
  interfaces := #[7]
  cf := some (fileOf pool19 14 #[.nestHost 20] #[] 48 2 #[70] #[{ accessFlags := 18, nameIndex := 17, descriptorIndex := 18, attributes := #[] }, { accessFlags := 18, nameIndex := 26, descriptorIndex := 18, attributes := #[] }])
  fields := #[{ name := "e0", type := (.object "java/lang/Object"), accessFlags := 18, slot := 0, constantValue := 0 }, { name := "e1", type := (.object "java/lang/Object"), accessFlags := 18, slot := 1, constantValue := 0 }]
  methods := #[]
  instanceTypes := #[(.object "java/lang/Object"), (.object "java/lang/Object")]
  staticTypes := #[]
  resolved := Array.replicate 125 none
  statics := none }

def pool20 : Array CpInfo := pool [(2, .class_ 4), (1, u "java/util/ImmutableCollections$AbstractImmutableList"), (3, .class_ 10), (1, u "java/util/ImmutableCollections$ListN"), (0, u "elements"), (0, u "[Ljava/lang/Object;"), (2, u "allowNulls"), (0, u "Z"), (42, .class_ 60), (0, u "java/io/Serializable"), (53, .class_ 115), (0, u "java/util/ImmutableCollections")] 3

/-- java/util/ImmutableCollections$ListN -/
def k20 : Class := { plain "java/util/ImmutableCollections$ListN" (some 18) with
  accessFlags := 48
  interfaces := #[7]
  cf := some (fileOf pool20 8 #[.nestHost 114] #[] 48 2 #[59] #[{ accessFlags := 18, nameIndex := 11, descriptorIndex := 12, attributes := #[] }, { accessFlags := 18, nameIndex := 15, descriptorIndex := 16, attributes := #[] }])
  fields := #[{ name := "elements", type := (.array (.object "java/lang/Object")), accessFlags := 18, slot := 0, constantValue := 0 }, { name := "allowNulls", type := .boolean, accessFlags := 18, slot := 1, constantValue := 0 }]
  methods := #[]
  instanceTypes := #[(.array (.object "java/lang/Object")), .boolean]
  staticTypes := #[]
  resolved := Array.replicate 119 none
  statics := none }

def pool21 : Array CpInfo := pool [(1, .class_ 2), (0, u "java/lang/Math"), (1, .class_ 6), (1, u "java/lang/Object"), (0, u "<init>"), (0, u "()V"), (89, .class_ 100), (1, u "java/lang/Math$RandomNumberGeneratorHolder"), (20, u "(JJ)J"), (50, u "negativeZeroFloatBits"), (0, u "J"), (2, u "negativeZeroDoubleBits"), (21, u "max"), (46, u "$assertionsDisabled"), (0, u "Z"), (91, u "twoToTheDoubleScaleDown"), (0, u "D"), (4, u "twoToTheDoubleScaleUp"), (9, u "E"), (3, u "PI"), (2, u "TAU"), (2, u "DEGREES_TO_RADIANS"), (0, u "RADIANS_TO_DEGREES")] 94

def k21m0 : Method := { name := "<init>", desc := "()V", sig := { parameters := [], returnType := none }, accessFlags := 2, code := none }
def k21c1 : Code := { maxStack := 4, maxLocals := 4, code := jdk_29_method_66_code, exceptionTable := #[], attributes := #[] }
def k21m1 : Method := { name := "max", desc := "(JJ)J", sig := { parameters := [.long, .long], returnType := some .long }, accessFlags := 9, code := some k21c1 }
/-- java/lang/Math -/
def k21 : Class := { plain "java/lang/Math" (some 0) with
  accessFlags := 49
  interfaces := #[]
  cf := some (fileOf pool21 1 #[.nestMembers #[98]] #[{ accessFlags := 2, nameIndex := 7, descriptorIndex := 8, attributes := #[] }, { accessFlags := 9, nameIndex := 198, descriptorIndex := 121, attributes := #[] }] 49 4 #[] #[{ accessFlags := 25, nameIndex := 354, descriptorIndex := 339, attributes := #[] }, { accessFlags := 25, nameIndex := 358, descriptorIndex := 339, attributes := #[] }, { accessFlags := 25, nameIndex := 361, descriptorIndex := 339, attributes := #[] }, { accessFlags := 26, nameIndex := 364, descriptorIndex := 339, attributes := #[] }, { accessFlags := 26, nameIndex := 365, descriptorIndex := 339, attributes := #[] }, { accessFlags := 26, nameIndex := 172, descriptorIndex := 173, attributes := #[] }, { accessFlags := 26, nameIndex := 176, descriptorIndex := 173, attributes := #[] }, { accessFlags := 8, nameIndex := 344, descriptorIndex := 339, attributes := #[] }, { accessFlags := 8, nameIndex := 338, descriptorIndex := 339, attributes := #[] }, { accessFlags := 4120, nameIndex := 245, descriptorIndex := 246, attributes := #[] }])
  fields := #[{ name := "E", type := .double, accessFlags := 25, slot := 0, constantValue := 0 }, { name := "PI", type := .double, accessFlags := 25, slot := 1, constantValue := 0 }, { name := "TAU", type := .double, accessFlags := 25, slot := 2, constantValue := 0 }, { name := "DEGREES_TO_RADIANS", type := .double, accessFlags := 26, slot := 3, constantValue := 0 }, { name := "RADIANS_TO_DEGREES", type := .double, accessFlags := 26, slot := 4, constantValue := 0 }, { name := "negativeZeroFloatBits", type := .long, accessFlags := 26, slot := 5, constantValue := 0 }, { name := "negativeZeroDoubleBits", type := .long, accessFlags := 26, slot := 6, constantValue := 0 }, { name := "twoToTheDoubleScaleUp", type := .double, accessFlags := 8, slot := 7, constantValue := 0 }, { name := "twoToTheDoubleScaleDown", type := .double, accessFlags := 8, slot := 8, constantValue := 0 }, { name := "$assertionsDisabled", type := .boolean, accessFlags := 4120, slot := 9, constantValue := 0 }]
  methods := #[k21m0, k21m1]
  instanceTypes := #[]
  staticTypes := #[.double, .double, .double, .double, .double, .long, .long, .double, .double, .boolean]
  resolved := Array.replicate 460 none
  statics := none }

def pool22 : Array CpInfo := pool [(1, u "java/lang/Cloneable"), (0, .class_ 1), (0, u "java/lang/Object"), (0, .class_ 3)] 3

/-- java/lang/Cloneable -/
def k22 : Class := { plain "java/lang/Cloneable" (some 0) with
  accessFlags := 1537
  interfaces := #[]
  cf := some (fileOf pool22 2 #[] #[] 1537 4 #[] #[])
  fields := #[]
  methods := #[]
  instanceTypes := #[]
  staticTypes := #[]
  resolved := Array.replicate 8 none
  statics := none }

/-- the primitive byte -/
def k23 : Class := { plain "byte" none with kind := .primitive 'B', accessFlags := 0x411 }
/-- [B -/
def k24 : Class := { plain "[B" (some 0) with kind := .array 23 .byte, interfaces := #[22, 7], accessFlags := 1041 }

/-- [Ljava/lang/Object; -/
def k25 : Class := { plain "[Ljava/lang/Object;" (some 0) with kind := .array 0 (.object "java/lang/Object"), interfaces := #[22, 7], accessFlags := 1041 }

def heap : Heap := #[{ cls := 9, slots := #[.null, .ref 4, .null], vm := .statics 9 },
  { cls := 14, slots := #[.long 0, .int 0, .null, .null, .ref 3, .null, .null, .null, .int 0, .int 0], vm := .statics 14 },
  { cls := 25, slots := #[], vm := .none },
  { cls := 20, slots := #[.ref 2, .int 0], vm := .none },
  { cls := 9, slots := #[.null, .int 0, .int 0], vm := .none }]
def classes : Array Class := #[k0, k1, k2, k3, k4, k5, k6, k7, k8, k9, k10, k11, k12, k13, k14, k15, k16, k17, k18, k19, k20, k21, k22, k23, k24, k25]
def interned : List (Array UInt16 × Addr) := []
def slotsUsed : Nat := 18
def theMethod : MethodId := ⟨1, 1⟩
def args0 : Array Value := #[.int 5, .int 1, .int 2, .long 3, .long 4]
def aboutOver (below : List Frame) : State where
  vm := { classes := classes, interned := interned.toArray }
  heap := heap
  slotsUsed := slotsUsed
  threads := #[{ frames := .invoking theMethod args0 :: below }]
def below0 : List Frame := [.native { method := ⟨0, 0⟩, args := #[] }]
def about1 : State := aboutOver below0
def p0 : Program := .bare "" "" ""
def e0 : Env := launch0.env 0 0 0
theorem w_frames : about1.frames = Frame.invoking theMethod args0 :: below0 := rfl
set_option maxRecDepth 65536 in
theorem w_args : argsFit about1.vm theMethod args0 = true := by decide +kernel
set_option maxRecDepth 65536 in
theorem w_heap : heapFits about1 = true := by decide +kernel
set_option maxRecDepth 65536 in
theorem w_runnable : about1.curStatus? = some .runnable := by decide +kernel
set_option maxRecDepth 65536 in
theorem w_alone : about1.alone = true := by decide +kernel
set_option maxRecDepth 65536 in
theorem w_named : about1.methodNamed? x = some theMethod := by decide +kernel
set_option maxRecDepth 65536 in
theorem w_hears : about1.hears theMethod below0 = true := by decide +kernel
set_option maxRecDepth 65536 in
theorem w_ripe : about1.ripe theMethod args0 below0 = true := by decide +kernel
theorem w_running : about1.status = .running := rfl
set_option maxRecDepth 65536 in
theorem w_room : about1.hasRoom e0.platform room_1 = true :=
  launch0.hasRoom_least _ room_1 (by decide +kernel) (by decide +kernel) (by decide +kernel) (by decide +kernel) (by decide +kernel) (by decide +kernel)
theorem allAtoms_all (ts : List Jvm.Cond) (a : Array Jvm.Value) (st : Jvm.State) : (allAtoms ts).before a st = ts.all (fun c => c.before a st) := by
  induction ts with
  | nil => rfl
  | cons c t ih =>
    show (Jvm.Cond.and c (allAtoms t)).before a st = _
    rw [Jvm.Cond.before_and, ih, List.all_cons]
def words1 : List Jvm.Cond := Jvm.Cond.code x code maxLocals ret :: tables_1
/-- a 'code' word, met by the world's own term for the bytes: nothing is compared byte by byte -/
theorem code_word {y : MethodName} {bytes : ByteArray} {mx : Nat} {rt : Option FieldType} {a : Array Value} {s : State} {m : MethodId} {meth : Method} {c : Code} (h1 : s.methodNamed? y = some m) (h2 : s.vm.method? m = some meth) (h3 : meth.code = some c) (h4 : c.code = bytes)
    (h5 : (c.maxLocals == mx && c.exceptionTable.isEmpty && decide (c.maxStack ≤ mostOperands) && decide (meth.sig.returnType = rt) && !meth.locks && decide (parseMethodDescriptor y.desc = some meth.sig)) = true) : (Jvm.Cond.code y bytes mx rt).before a s = true := by
  simp only [Bool.and_eq_true, beq_iff_eq, Bool.not_eq_true', decide_eq_true_eq] at h5
  obtain ⟨⟨⟨⟨⟨g1, g2⟩, g3⟩, g4⟩, g5⟩, g6⟩ := h5
  simp [Cond.before, Cond.holds, Cond.value, h1, h2, h3, h4, g1, g2, g3, g4, g5, g6]
def isCode : Jvm.Cond → Bool
  | .code _ _ _ _ => true
  | _ => false
theorem all_split {L : List Jvm.Cond} {P : Jvm.Cond → Bool} (h1 : L.all (fun c => isCode c || P c) = true) (h2 : ∀ c ∈ L.filter isCode, P c = true) : L.all P = true := by
  refine List.all_eq_true.mpr fun c hc => ?_
  have h := List.all_eq_true.mp h1 c hc
  rcases Bool.eq_false_or_eq_true (isCode c) with hi | hi
  · exact h2 c (List.mem_filter.mpr ⟨hc, hi⟩)
  · simpa [hi] using h
set_option maxRecDepth 65536 in
theorem w_c0 : (Jvm.Cond.code x code maxLocals ret).before args0 about1 = true := code_word (m := ⟨1, 1⟩) (meth := k1m1) (c := k1c1) (by decide +kernel) rfl rfl rfl (by decide +kernel)
set_option maxRecDepth 65536 in
theorem w_c1 : (Jvm.Cond.code ({ cls := "org/veilroute/service/Tunnel", name := "zeroHopOutbound", desc := "()Lorg/veilroute/service/Tunnel;" } : Jvm.MethodName) prog_163_method_3_code (0 : Nat) (Option.some (Jvm.ClassFile.FieldType.object "org/veilroute/service/Tunnel"))).before args0 about1 = true := code_word (m := ⟨4, 1⟩) (meth := k4m1) (c := k4c1) (by decide +kernel) rfl rfl rfl (by decide +kernel)
set_option maxRecDepth 65536 in
theorem w_c2 : (Jvm.Cond.code ({ cls := "java/util/List", name := "of", desc := "()Ljava/util/List;" } : Jvm.MethodName) jdk_40_method_36_code (0 : Nat) (Option.some (Jvm.ClassFile.FieldType.object "java/util/List"))).before args0 about1 = true := code_word (m := ⟨13, 0⟩) (meth := k13m0) (c := k13c0) (by decide +kernel) rfl rfl rfl (by decide +kernel)
set_option maxRecDepth 65536 in
theorem w_c3 : (Jvm.Cond.code ({ cls := "org/veilroute/service/Tunnel", name := "<init>", desc := "(Lorg/veilroute/service/TunnelBuilder$Direction;Ljava/util/List;I)V" } : Jvm.MethodName) prog_163_method_1_code (4 : Nat) (Option.none : Option Jvm.ClassFile.FieldType)).before args0 about1 = true := code_word (m := ⟨4, 0⟩) (meth := k4m0) (c := k4c0) (by decide +kernel) rfl rfl rfl (by decide +kernel)
set_option maxRecDepth 65536 in
theorem w_c4 : (Jvm.Cond.code ({ cls := "java/lang/Record", name := "<init>", desc := "()V" } : Jvm.MethodName) jdk_30_method_1_code (1 : Nat) (Option.none : Option Jvm.ClassFile.FieldType)).before args0 about1 = true := code_word (m := ⟨3, 0⟩) (meth := k3m0) (c := k3c0) (by decide +kernel) rfl rfl rfl (by decide +kernel)
set_option maxRecDepth 65536 in
theorem w_c5 : (Jvm.Cond.code ({ cls := "java/lang/Object", name := "<init>", desc := "()V" } : Jvm.MethodName) object_method_1_code (1 : Nat) (Option.none : Option Jvm.ClassFile.FieldType)).before args0 about1 = true := code_word (m := ⟨0, 0⟩) (meth := k0m0) (c := k0c0) (by decide +kernel) rfl rfl rfl (by decide +kernel)
set_option maxRecDepth 65536 in
theorem w_c6 : (Jvm.Cond.code ({ cls := "java/util/List", name := "copyOf", desc := "(Ljava/util/Collection;)Ljava/util/List;" } : Jvm.MethodName) jdk_40_method_48_code (1 : Nat) (Option.some (Jvm.ClassFile.FieldType.object "java/util/List"))).before args0 about1 = true := code_word (m := ⟨13, 1⟩) (meth := k13m1) (c := k13c1) (by decide +kernel) rfl rfl rfl (by decide +kernel)
set_option maxRecDepth 65536 in
theorem w_c7 : (Jvm.Cond.code ({ cls := "java/util/ImmutableCollections", name := "listCopy", desc := "(Ljava/util/Collection;)Ljava/util/List;" } : Jvm.MethodName) jdk_56_method_3_code (2 : Nat) (Option.some (Jvm.ClassFile.FieldType.object "java/util/List"))).before args0 about1 = true := code_word (m := ⟨14, 1⟩) (meth := k14m1) (c := k14c1) (by decide +kernel) rfl rfl rfl (by decide +kernel)
set_option maxRecDepth 65536 in
theorem w_c8 : (Jvm.Cond.code ({ cls := "org/veilroute/service/TunnelPool$Standing", name := "<init>", desc := "(Lorg/veilroute/service/Tunnel;JJ)V" } : Jvm.MethodName) prog_176_method_1_code (6 : Nat) (Option.none : Option Jvm.ClassFile.FieldType)).before args0 about1 = true := code_word (m := ⟨2, 0⟩) (meth := k2m0) (c := k2c0) (by decide +kernel) rfl rfl rfl (by decide +kernel)
set_option maxRecDepth 65536 in
theorem w_c9 : (Jvm.Cond.code ({ cls := "org/veilroute/service/TunnelPool$Standing", name := "sound", desc := "()Z" } : Jvm.MethodName) prog_176_method_6_code (1 : Nat) (Option.some Jvm.ClassFile.FieldType.boolean)).before args0 about1 = true := code_word (m := ⟨2, 3⟩) (meth := k2m3) (c := k2c3) (by decide +kernel) rfl rfl rfl (by decide +kernel)
set_option maxRecDepth 65536 in
theorem w_c10 : (Jvm.Cond.code ({ cls := "org/veilroute/service/TunnelPool$Standing", name := "failed", desc := "(I)I" } : Jvm.MethodName) prog_176_method_7_code (2 : Nat) (Option.some Jvm.ClassFile.FieldType.int)).before args0 about1 = true := code_word (m := ⟨2, 4⟩) (meth := k2m4) (c := k2c4) (by decide +kernel) rfl rfl rfl (by decide +kernel)
set_option maxRecDepth 65536 in
theorem w_c11 : (Jvm.Cond.code ({ cls := "org/veilroute/service/TunnelPool$Standing", name := "passed", desc := "(J)V" } : Jvm.MethodName) prog_176_method_5_code (3 : Nat) (Option.none : Option Jvm.ClassFile.FieldType)).before args0 about1 = true := code_word (m := ⟨2, 2⟩) (meth := k2m2) (c := k2c2) (by decide +kernel) rfl rfl rfl (by decide +kernel)
set_option maxRecDepth 65536 in
theorem w_c12 : (Jvm.Cond.code ({ cls := "java/lang/Math", name := "max", desc := "(JJ)J" } : Jvm.MethodName) jdk_29_method_66_code (4 : Nat) (Option.some Jvm.ClassFile.FieldType.long)).before args0 about1 = true := code_word (m := ⟨21, 1⟩) (meth := k21m1) (c := k21c1) (by decide +kernel) rfl rfl rfl (by decide +kernel)
set_option maxRecDepth 65536 in
theorem w_c13 : (Jvm.Cond.code ({ cls := "org/veilroute/service/TunnelPool$Standing", name := "end", desc := "()J" } : Jvm.MethodName) prog_176_method_3_code (1 : Nat) (Option.some Jvm.ClassFile.FieldType.long)).before args0 about1 = true := code_word (m := ⟨2, 1⟩) (meth := k2m1) (c := k2c1) (by decide +kernel) rfl rfl rfl (by decide +kernel)
def codes1 : List Jvm.Cond := [Jvm.Cond.code x code maxLocals ret, Jvm.Cond.code ({ cls := "org/veilroute/service/Tunnel", name := "zeroHopOutbound", desc := "()Lorg/veilroute/service/Tunnel;" } : Jvm.MethodName) prog_163_method_3_code (0 : Nat) (Option.some (Jvm.ClassFile.FieldType.object "org/veilroute/service/Tunnel")), Jvm.Cond.code ({ cls := "java/util/List", name := "of", desc := "()Ljava/util/List;" } : Jvm.MethodName) jdk_40_method_36_code (0 : Nat) (Option.some (Jvm.ClassFile.FieldType.object "java/util/List")), Jvm.Cond.code ({ cls := "org/veilroute/service/Tunnel", name := "<init>", desc := "(Lorg/veilroute/service/TunnelBuilder$Direction;Ljava/util/List;I)V" } : Jvm.MethodName) prog_163_method_1_code (4 : Nat) (Option.none : Option Jvm.ClassFile.FieldType), Jvm.Cond.code ({ cls := "java/lang/Record", name := "<init>", desc := "()V" } : Jvm.MethodName) jdk_30_method_1_code (1 : Nat) (Option.none : Option Jvm.ClassFile.FieldType), Jvm.Cond.code ({ cls := "java/lang/Object", name := "<init>", desc := "()V" } : Jvm.MethodName) object_method_1_code (1 : Nat) (Option.none : Option Jvm.ClassFile.FieldType), Jvm.Cond.code ({ cls := "java/util/List", name := "copyOf", desc := "(Ljava/util/Collection;)Ljava/util/List;" } : Jvm.MethodName) jdk_40_method_48_code (1 : Nat) (Option.some (Jvm.ClassFile.FieldType.object "java/util/List")), Jvm.Cond.code ({ cls := "java/util/ImmutableCollections", name := "listCopy", desc := "(Ljava/util/Collection;)Ljava/util/List;" } : Jvm.MethodName) jdk_56_method_3_code (2 : Nat) (Option.some (Jvm.ClassFile.FieldType.object "java/util/List")), Jvm.Cond.code ({ cls := "org/veilroute/service/TunnelPool$Standing", name := "<init>", desc := "(Lorg/veilroute/service/Tunnel;JJ)V" } : Jvm.MethodName) prog_176_method_1_code (6 : Nat) (Option.none : Option Jvm.ClassFile.FieldType), Jvm.Cond.code ({ cls := "org/veilroute/service/TunnelPool$Standing", name := "sound", desc := "()Z" } : Jvm.MethodName) prog_176_method_6_code (1 : Nat) (Option.some Jvm.ClassFile.FieldType.boolean), Jvm.Cond.code ({ cls := "org/veilroute/service/TunnelPool$Standing", name := "failed", desc := "(I)I" } : Jvm.MethodName) prog_176_method_7_code (2 : Nat) (Option.some Jvm.ClassFile.FieldType.int), Jvm.Cond.code ({ cls := "org/veilroute/service/TunnelPool$Standing", name := "passed", desc := "(J)V" } : Jvm.MethodName) prog_176_method_5_code (3 : Nat) (Option.none : Option Jvm.ClassFile.FieldType), Jvm.Cond.code ({ cls := "java/lang/Math", name := "max", desc := "(JJ)J" } : Jvm.MethodName) jdk_29_method_66_code (4 : Nat) (Option.some Jvm.ClassFile.FieldType.long), Jvm.Cond.code ({ cls := "org/veilroute/service/TunnelPool$Standing", name := "end", desc := "()J" } : Jvm.MethodName) prog_176_method_3_code (1 : Nat) (Option.some Jvm.ClassFile.FieldType.long)]
set_option maxRecDepth 65536 in
theorem codes_eq : words1.filter isCode = codes1 := rfl
theorem w_codes : ∀ c ∈ words1.filter isCode, c.before args0 about1 = true := by
  rw [codes_eq]
  intro c hc
  simp only [codes1, List.mem_cons, List.not_mem_nil, or_false] at hc
  rcases hc with rfl | rfl | rfl | rfl | rfl | rfl | rfl | rfl | rfl | rfl | rfl | rfl | rfl | rfl
  · exact w_c0
  · exact w_c1
  · exact w_c2
  · exact w_c3
  · exact w_c4
  · exact w_c5
  · exact w_c6
  · exact w_c7
  · exact w_c8
  · exact w_c9
  · exact w_c10
  · exact w_c11
  · exact w_c12
  · exact w_c13
set_option maxRecDepth 65536 in
theorem w_t1 : (words1.take 24).all (fun c => isCode c || c.before args0 about1) = true := by decide +kernel
set_option maxRecDepth 65536 in
theorem w_t2 : ((words1.drop 24).take 24).all (fun c => isCode c || c.before args0 about1) = true := by decide +kernel
set_option maxRecDepth 65536 in
theorem w_t3 : (((words1.drop 24).drop 24).take 24).all (fun c => isCode c || c.before args0 about1) = true := by decide +kernel
set_option maxRecDepth 65536 in
theorem w_t4 : (((words1.drop 24).drop 24).drop 24).all (fun c => isCode c || c.before args0 about1) = true := by decide +kernel
theorem w_tables : (allAtoms (Jvm.Cond.code x code maxLocals ret :: tables_1)).before args0 about1 = true := by
  rw [allAtoms_all]
  show words1.all (fun c => c.before args0 about1) = true
  refine all_split ?_ w_codes
  rw [← List.take_append_drop 24 words1, List.all_append, w_t1, ← List.take_append_drop 24 (words1.drop 24), List.all_append, w_t2, ← List.take_append_drop 24 ((words1.drop 24).drop 24), List.all_append, w_t3, w_t4]
  rfl
set_option maxRecDepth 65536 in
theorem w_rest : rest_1_c.before args0 about1 = true := by decide +kernel
set_option maxRecDepth 65536 in
theorem w_case : (Jvm.Cond.and given_1 narrow_1).before args0 about1 = true := by decide +kernel
theorem w_applies : (headSpec (Jvm.Cond.code x code maxLocals ret :: tables_1) room_1).applies x e0.platform about1 = true :=
  (Spec.applies_iff w_frames).mpr ⟨w_running, w_runnable, w_alone, w_named, w_hears, w_ripe, w_room, w_tables⟩
theorem atStart : AtStart classFile x code maxLocals ret World_1 tables_1 room_1 Calls_1 rest_1 Pre_1 launch0 p0 e0 about1 theMethod args0 below0 :=
  ⟨lists_1, trivial, launch0.admits_env _ _ _, launch0.least_env, fairChoices_fair.cas, fairChoices_fair.clock, w_frames, w_args, w_heap, w_applies, trivial, w_rest, w_case⟩
end start1
theorem witness_1 : WitnessClaimed_1 := ⟨start1.p0, start1.e0, start1.about1, start1.theMethod, start1.args0, start1.below0, start1.atStart⟩
end Jvm.Pilot.@@N@@
