import JvmDerived
import JvmDerived.Pilot.@@N@@Statement
import JvmDerived.Pilot.@@N@@Code
set_option linter.unusedVariables false
set_option linter.unusedSimpArgs false
namespace Jvm.RoadKit
open Sem ClassFile Op Lib Jvm.Stand Jvm.Free Jvm.LawKit
section New
variable {p : Program} {l : Launch} {e : Env} {R : Room} {s : State} {m : MethodId} {args : Array Value} {below : List Frame} {meth : Method} {c : Code} {T : State} {locs : List Loc} {cells slots : Nat}
theorem own_retI (X : Stand p l e R s m args below meth c T locs cells slots) (hx : p.tables.exec = Jvm.exec) {pc : Nat} {Ls : Array Slot} {z : Int32} {rest : List Value} (hret : meth.sig.returnType = some .int) (hd : decode c.code pc = .ok (.ireturn, 1)) {fs : List Frame}
    (hl : ∀ (f : JFrame) (acts : List Action), f.method = m → f.locked = none → f.entered = [] → (doReturn e (T.setTop f) acts (some (.int z))).1 = T.setFrames fs) : Steps p.tables e below (T.setTop (mkF m pc Ls (.int z :: rest))) (T.setFrames fs) :=
  retOut X hx hret rfl (Or.inl ⟨rfl, Or.inl rfl, z, rfl⟩) hd hl
theorem own_retJ (X : Stand p l e R s m args below meth c T locs cells slots) (hx : p.tables.exec = Jvm.exec) {pc : Nat} {Ls : Array Slot} {z : Int64} {rest : List Value} (hret : meth.sig.returnType = some .long) (hd : decode c.code pc = .ok (.lreturn, 1)) {fs : List Frame}
    (hl : ∀ (f : JFrame) (acts : List Action), f.method = m → f.locked = none → f.entered = [] → (doReturn e (T.setTop f) acts (some (.long z))).1 = T.setFrames fs) : Steps p.tables e below (T.setTop (mkF m pc Ls (.long z :: rest))) (T.setFrames fs) :=
  retOut X hx hret rfl (Or.inr (Or.inl ⟨rfl, rfl, z, rfl⟩)) hd hl
theorem own_retA (X : Stand p l e R s m args below meth c T locs cells slots) (hx : p.tables.exec = Jvm.exec) {pc : Nat} {Ls : Array Slot} {w : Value} {t : FieldType} {rest : List Value} (hret : meth.sig.returnType = some t) (hn : narrow t w = w) (ht : t.isReference = true) (hw : w.isRef = true) (hd : decode c.code pc = .ok (.areturn, 1)) {fs : List Frame}
    (hl : ∀ (f : JFrame) (acts : List Action), f.method = m → f.locked = none → f.entered = [] → (doReturn e (T.setTop f) acts (some w)).1 = T.setFrames fs) : Steps p.tables e below (T.setTop (mkF m pc Ls (w :: rest))) (T.setFrames fs) :=
  retOut X hx hret hn (Or.inr (Or.inr (Or.inr (Or.inr ⟨rfl, ht, hw⟩)))) hd hl
end New
abbrev OwnGo (tb : Tables) (e : Env) (below : List Frame) (K : State → Outcome → Prop) (st : State) : Prop := ∃ s₂ o, Steps tb e below st s₂ ∧ s₂.status = .running ∧ Ended s₂ below o ∧ K s₂ o
theorem OwnGo.back {tb : Tables} {e : Env} {below : List Frame} {K : State → Outcome → Prop} {st : State} (st' : State) (h : ∀ t, Steps tb e below st' t → Steps tb e below st t) (g : OwnGo tb e below K st') : OwnGo tb e below K st := by
  obtain ⟨s₂, o, h1, h2⟩ := g
  exact ⟨s₂, o, h _ h1, h2⟩
abbrev OwnMg (tb : Tables) (e : Env) (below : List Frame) (D : State → Prop) (st : State) : Prop := ∃ st', D st' ∧ ∀ t, Steps tb e below st' t → Steps tb e below st t
theorem OwnMg.back {tb : Tables} {e : Env} {below : List Frame} {D : State → Prop} {st : State} (st' : State) (h : ∀ t, Steps tb e below st' t → Steps tb e below st t) (g : OwnMg tb e below D st') : OwnMg tb e below D st := by
  obtain ⟨s₂, h1, h2⟩ := g
  exact ⟨s₂, h1, fun t k => h t (h2 t k)⟩
theorem own_not {P Q : Prop} (h : P ↔ Q) (n : ¬ Q) : ¬ P := fun q => n (h.mp q)
theorem own_ne {a b n : Nat} (h : a < n) (q : b = n) : a ≠ b := Nat.ne_of_lt (q ▸ h)
theorem own_ne' {a b n : Nat} (h : a < n) (q : n ≤ b) : a ≠ b := Nat.ne_of_lt (Nat.lt_of_lt_of_le h q)
end Jvm.RoadKit
namespace Jvm.Pilot.@@N@@
open Jvm Jvm.ClassFile Sem Op Lib Jvm.Free Jvm.Stand Jvm.LawKit Jvm.RoadKit Bundle Jvm.Pilot.@@N@@.Jvm.D
theorem own_pn0 : plainName "java/lang/Number" = true := by first | (simp [plainName, overriddenIn]; done) | decide +kernel
theorem own_d7_0 : decode jdk_18_method_1_code 0 = .ok (.aload_n 0, 1) := by decide +kernel
theorem own_d7_1 : decode jdk_18_method_1_code 1 = .ok (.invokespecial 1, 3) := by decide +kernel
theorem own_d7_4 : decode jdk_18_method_1_code 4 = .ok (.return_, 1) := by decide +kernel
theorem own_pn1 : plainName "java/lang/Record" = true := by first | (simp [plainName, overriddenIn]; done) | decide +kernel
theorem own_d2_0 : decode jdk_30_method_1_code 0 = .ok (.aload_n 0, 1) := by decide +kernel
theorem own_d2_1 : decode jdk_30_method_1_code 1 = .ok (.invokespecial 1, 3) := by decide +kernel
theorem own_d2_4 : decode jdk_30_method_1_code 4 = .ok (.return_, 1) := by decide +kernel
theorem own_pn2 : plainName "java/lang/Integer" = true := by first | (simp [plainName, overriddenIn]; done) | decide +kernel
theorem own_d12_0 : decode jdk_33_method_23_code 0 = .ok (.aload_n 0, 1) := by decide +kernel
theorem own_d12_1 : decode jdk_33_method_23_code 1 = .ok (.invokespecial 202, 3) := by decide +kernel
theorem own_pd0 : parseMethodDescriptor "()V" = some ⟨[], none⟩ := by decide +kernel
theorem own_d12_4 : decode jdk_33_method_23_code 4 = .ok (.aload_n 0, 1) := by decide +kernel
theorem own_d12_5 : decode jdk_33_method_23_code 5 = .ok (.iload_n 1, 1) := by decide +kernel
theorem own_d12_6 : decode jdk_33_method_23_code 6 = .ok (.putfield 205, 3) := by decide +kernel
theorem own_d12_9 : decode jdk_33_method_23_code 9 = .ok (.return_, 1) := by decide +kernel
theorem own_d11_0 : decode jdk_33_method_22_code 0 = .ok (.iload_n 0, 1) := by decide +kernel
theorem own_d11_1 : decode jdk_33_method_22_code 1 = .ok (.bipush (-128), 2) := by decide +kernel
theorem own_d11_3 : decode jdk_33_method_22_code 3 = .ok (.if_icmp .lt 20, 3) := by decide +kernel
theorem own_d11_23 : decode jdk_33_method_22_code 23 = .ok (.new 1, 3) := by decide +kernel
theorem own_d11_26 : decode jdk_33_method_22_code 26 = .ok (.dup, 1) := by decide +kernel
theorem own_d11_27 : decode jdk_33_method_22_code 27 = .ok (.iload_n 0, 1) := by decide +kernel
theorem own_d11_28 : decode jdk_33_method_22_code 28 = .ok (.invokespecial 199, 3) := by decide +kernel
theorem own_pd1 : parseMethodDescriptor "(I)V" = some ⟨[.int], none⟩ := by decide +kernel
theorem own_d11_31 : decode jdk_33_method_22_code 31 = .ok (.areturn, 1) := by decide +kernel
theorem own_d11_6 : decode jdk_33_method_22_code 6 = .ok (.iload_n 0, 1) := by decide +kernel
theorem own_d11_7 : decode jdk_33_method_22_code 7 = .ok (.getstatic 191, 3) := by decide +kernel
theorem own_d11_10 : decode jdk_33_method_22_code 10 = .ok (.if_icmp .gt 13, 3) := by decide +kernel
theorem own_d11_13 : decode jdk_33_method_22_code 13 = .ok (.getstatic 195, 3) := by decide +kernel
theorem own_d11_16 : decode jdk_33_method_22_code 16 = .ok (.iload_n 0, 1) := by decide +kernel
theorem own_d11_17 : decode jdk_33_method_22_code 17 = .ok (.sipush 128, 3) := by decide +kernel
theorem own_d11_20 : decode jdk_33_method_22_code 20 = .ok (.iadd, 1) := by decide +kernel
theorem own_d11_21 : decode jdk_33_method_22_code 21 = .ok (.aaload, 1) := by decide +kernel
theorem own_d11_22 : decode jdk_33_method_22_code 22 = .ok (.areturn, 1) := by decide +kernel
theorem own_pn3 : plainName "java/math/BigInteger" = true := by first | (simp [plainName, overriddenIn]; done) | decide +kernel
theorem own_d6_0 : decode jdk_2097_method_30_code 0 = .ok (.aload_n 0, 1) := by decide +kernel
theorem own_d6_1 : decode jdk_2097_method_30_code 1 = .ok (.invokespecial 3, 3) := by decide +kernel
theorem own_d6_4 : decode jdk_2097_method_30_code 4 = .ok (.lload_n 1, 1) := by decide +kernel
theorem own_d6_5 : decode jdk_2097_method_30_code 5 = .ok (.lconst 0, 1) := by decide +kernel
theorem own_d6_6 : decode jdk_2097_method_30_code 6 = .ok (.lcmp, 1) := by decide +kernel
theorem own_d6_7 : decode jdk_2097_method_30_code 7 = .ok (.ifCond .ge 14, 3) := by decide +kernel
theorem own_d6_10 : decode jdk_2097_method_30_code 10 = .ok (.lload_n 1, 1) := by decide +kernel
theorem own_d6_11 : decode jdk_2097_method_30_code 11 = .ok (.lneg, 1) := by decide +kernel
theorem own_d6_12 : decode jdk_2097_method_30_code 12 = .ok (.lstore_n 1, 1) := by decide +kernel
theorem own_d6_13 : decode jdk_2097_method_30_code 13 = .ok (.aload_n 0, 1) := by decide +kernel
theorem own_d6_14 : decode jdk_2097_method_30_code 14 = .ok (.iconst (-1), 1) := by decide +kernel
theorem own_d6_15 : decode jdk_2097_method_30_code 15 = .ok (.putfield 32, 3) := by decide +kernel
theorem own_d6_18 : decode jdk_2097_method_30_code 18 = .ok (.goto 8, 3) := by decide +kernel
theorem own_d6_26 : decode jdk_2097_method_30_code 26 = .ok (.lload_n 1, 1) := by decide +kernel
theorem own_d6_27 : decode jdk_2097_method_30_code 27 = .ok (.bipush 32, 2) := by decide +kernel
theorem own_d6_29 : decode jdk_2097_method_30_code 29 = .ok (.lushr, 1) := by decide +kernel
theorem own_d6_30 : decode jdk_2097_method_30_code 30 = .ok (.l2i, 1) := by decide +kernel
theorem own_d6_31 : decode jdk_2097_method_30_code 31 = .ok (.istore_n 3, 1) := by decide +kernel
theorem own_d6_32 : decode jdk_2097_method_30_code 32 = .ok (.iload_n 3, 1) := by decide +kernel
theorem own_d6_33 : decode jdk_2097_method_30_code 33 = .ok (.ifCond .ne 21, 3) := by decide +kernel
theorem own_d6_36 : decode jdk_2097_method_30_code 36 = .ok (.aload_n 0, 1) := by decide +kernel
theorem own_d6_37 : decode jdk_2097_method_30_code 37 = .ok (.iconst 1, 1) := by decide +kernel
theorem own_d6_38 : decode jdk_2097_method_30_code 38 = .ok (.newarray .int, 2) := by decide +kernel
theorem own_d6_40 : decode jdk_2097_method_30_code 40 = .ok (.putfield 28, 3) := by decide +kernel
theorem own_d6_43 : decode jdk_2097_method_30_code 43 = .ok (.aload_n 0, 1) := by decide +kernel
theorem own_d6_44 : decode jdk_2097_method_30_code 44 = .ok (.getfield 28, 3) := by decide +kernel
theorem own_d6_47 : decode jdk_2097_method_30_code 47 = .ok (.iconst 0, 1) := by decide +kernel
theorem own_d6_48 : decode jdk_2097_method_30_code 48 = .ok (.lload_n 1, 1) := by decide +kernel
theorem own_d6_49 : decode jdk_2097_method_30_code 49 = .ok (.l2i, 1) := by decide +kernel
theorem own_d6_50 : decode jdk_2097_method_30_code 50 = .ok (.iastore, 1) := by decide +kernel
theorem own_d6_51 : decode jdk_2097_method_30_code 51 = .ok (.goto 25, 3) := by decide +kernel
theorem own_d6_76 : decode jdk_2097_method_30_code 76 = .ok (.return_, 1) := by decide +kernel
theorem own_d6_54 : decode jdk_2097_method_30_code 54 = .ok (.aload_n 0, 1) := by decide +kernel
theorem own_d6_55 : decode jdk_2097_method_30_code 55 = .ok (.iconst 2, 1) := by decide +kernel
theorem own_d6_56 : decode jdk_2097_method_30_code 56 = .ok (.newarray .int, 2) := by decide +kernel
theorem own_d6_58 : decode jdk_2097_method_30_code 58 = .ok (.putfield 28, 3) := by decide +kernel
theorem own_d6_61 : decode jdk_2097_method_30_code 61 = .ok (.aload_n 0, 1) := by decide +kernel
theorem own_d6_62 : decode jdk_2097_method_30_code 62 = .ok (.getfield 28, 3) := by decide +kernel
theorem own_d6_65 : decode jdk_2097_method_30_code 65 = .ok (.iconst 0, 1) := by decide +kernel
theorem own_d6_66 : decode jdk_2097_method_30_code 66 = .ok (.iload_n 3, 1) := by decide +kernel
theorem own_d6_67 : decode jdk_2097_method_30_code 67 = .ok (.iastore, 1) := by decide +kernel
theorem own_d6_68 : decode jdk_2097_method_30_code 68 = .ok (.aload_n 0, 1) := by decide +kernel
theorem own_d6_69 : decode jdk_2097_method_30_code 69 = .ok (.getfield 28, 3) := by decide +kernel
theorem own_d6_72 : decode jdk_2097_method_30_code 72 = .ok (.iconst 1, 1) := by decide +kernel
theorem own_d6_73 : decode jdk_2097_method_30_code 73 = .ok (.lload_n 1, 1) := by decide +kernel
theorem own_d6_74 : decode jdk_2097_method_30_code 74 = .ok (.l2i, 1) := by decide +kernel
theorem own_d6_75 : decode jdk_2097_method_30_code 75 = .ok (.iastore, 1) := by decide +kernel
theorem own_d6_21 : decode jdk_2097_method_30_code 21 = .ok (.aload_n 0, 1) := by decide +kernel
theorem own_d6_22 : decode jdk_2097_method_30_code 22 = .ok (.iconst 1, 1) := by decide +kernel
theorem own_d6_23 : decode jdk_2097_method_30_code 23 = .ok (.putfield 32, 3) := by decide +kernel
theorem own_d5_0 : decode jdk_2097_method_29_code 0 = .ok (.lload_n 0, 1) := by decide +kernel
theorem own_d5_1 : decode jdk_2097_method_29_code 1 = .ok (.lconst 0, 1) := by decide +kernel
theorem own_d5_2 : decode jdk_2097_method_29_code 2 = .ok (.lcmp, 1) := by decide +kernel
theorem own_d5_3 : decode jdk_2097_method_29_code 3 = .ok (.ifCond .ne 7, 3) := by decide +kernel
theorem own_d5_6 : decode jdk_2097_method_29_code 6 = .ok (.getstatic 22, 3) := by decide +kernel
theorem own_d5_9 : decode jdk_2097_method_29_code 9 = .ok (.areturn, 1) := by decide +kernel
theorem own_d5_10 : decode jdk_2097_method_29_code 10 = .ok (.lload_n 0, 1) := by decide +kernel
theorem own_d5_11 : decode jdk_2097_method_29_code 11 = .ok (.lconst 0, 1) := by decide +kernel
theorem own_d5_12 : decode jdk_2097_method_29_code 12 = .ok (.lcmp, 1) := by decide +kernel
theorem own_d5_13 : decode jdk_2097_method_29_code 13 = .ok (.ifCond .le 18, 3) := by decide +kernel
theorem own_d5_16 : decode jdk_2097_method_29_code 16 = .ok (.lload_n 0, 1) := by decide +kernel
theorem own_d5_17 : decode jdk_2097_method_29_code 17 = .ok (.ldc2_w 345, 3) := by decide +kernel
theorem own_d5_20 : decode jdk_2097_method_29_code 20 = .ok (.lcmp, 1) := by decide +kernel
theorem own_d5_21 : decode jdk_2097_method_29_code 21 = .ok (.ifCond .gt 10, 3) := by decide +kernel
theorem own_d5_31 : decode jdk_2097_method_29_code 31 = .ok (.lload_n 0, 1) := by decide +kernel
theorem own_d5_32 : decode jdk_2097_method_29_code 32 = .ok (.lconst 0, 1) := by decide +kernel
theorem own_d5_33 : decode jdk_2097_method_29_code 33 = .ok (.lcmp, 1) := by decide +kernel
theorem own_d5_34 : decode jdk_2097_method_29_code 34 = .ok (.ifCond .ge 19, 3) := by decide +kernel
theorem own_d5_37 : decode jdk_2097_method_29_code 37 = .ok (.lload_n 0, 1) := by decide +kernel
theorem own_d5_38 : decode jdk_2097_method_29_code 38 = .ok (.ldc2_w 351, 3) := by decide +kernel
theorem own_d5_41 : decode jdk_2097_method_29_code 41 = .ok (.lcmp, 1) := by decide +kernel
theorem own_d5_42 : decode jdk_2097_method_29_code 42 = .ok (.ifCond .lt 11, 3) := by decide +kernel
theorem own_d5_53 : decode jdk_2097_method_29_code 53 = .ok (.new 23, 3) := by decide +kernel
theorem own_d5_56 : decode jdk_2097_method_29_code 56 = .ok (.dup, 1) := by decide +kernel
theorem own_d5_57 : decode jdk_2097_method_29_code 57 = .ok (.lload_n 0, 1) := by decide +kernel
theorem own_d5_58 : decode jdk_2097_method_29_code 58 = .ok (.invokespecial 356, 3) := by decide +kernel
theorem own_pd2 : parseMethodDescriptor "(J)V" = some ⟨[.long], none⟩ := by decide +kernel
theorem own_d5_61 : decode jdk_2097_method_29_code 61 = .ok (.areturn, 1) := by decide +kernel
theorem own_d5_45 : decode jdk_2097_method_29_code 45 = .ok (.getstatic 353, 3) := by decide +kernel
theorem own_d5_48 : decode jdk_2097_method_29_code 48 = .ok (.lload_n 0, 1) := by decide +kernel
theorem own_d5_49 : decode jdk_2097_method_29_code 49 = .ok (.lneg, 1) := by decide +kernel
theorem own_d5_50 : decode jdk_2097_method_29_code 50 = .ok (.l2i, 1) := by decide +kernel
theorem own_d5_51 : decode jdk_2097_method_29_code 51 = .ok (.aaload, 1) := by decide +kernel
theorem own_d5_52 : decode jdk_2097_method_29_code 52 = .ok (.areturn, 1) := by decide +kernel
theorem own_d5_24 : decode jdk_2097_method_29_code 24 = .ok (.getstatic 347, 3) := by decide +kernel
theorem own_d5_27 : decode jdk_2097_method_29_code 27 = .ok (.lload_n 0, 1) := by decide +kernel
theorem own_d5_28 : decode jdk_2097_method_29_code 28 = .ok (.l2i, 1) := by decide +kernel
theorem own_d5_29 : decode jdk_2097_method_29_code 29 = .ok (.aaload, 1) := by decide +kernel
theorem own_d5_30 : decode jdk_2097_method_29_code 30 = .ok (.areturn, 1) := by decide +kernel
theorem own_pn4 : plainName "java/util/Objects" = true := by first | (simp [plainName, overriddenIn]; done) | decide +kernel
theorem own_d9_0 : decode jdk_31_method_11_code 0 = .ok (.aload_n 0, 1) := by decide +kernel
theorem own_d9_1 : decode jdk_31_method_11_code 1 = .ok (.ifnonnull 12, 3) := by decide +kernel
theorem own_d9_13 : decode jdk_31_method_11_code 13 = .ok (.aload_n 0, 1) := by decide +kernel
theorem own_d9_14 : decode jdk_31_method_11_code 14 = .ok (.areturn, 1) := by decide +kernel
theorem own_pn5 : plainName "plainsight/core/term/IntegerTerm" = true := by first | (simp [plainName, overriddenIn]; done) | decide +kernel
theorem own_d8_0 : decode prog_61_method_1_code 0 = .ok (.aload_n 0, 1) := by decide +kernel
theorem own_d8_1 : decode prog_61_method_1_code 1 = .ok (.invokespecial 1, 3) := by decide +kernel
theorem own_d8_4 : decode prog_61_method_1_code 4 = .ok (.aload_n 1, 1) := by decide +kernel
theorem own_d8_5 : decode prog_61_method_1_code 5 = .ok (.ldc 7, 2) := by decide +kernel
theorem own_wS {Z : State} {a0 : Array Value} (hw : ∀ d ∈ tables_1, d.before a0 Z = true) : ∀ a ∈ Bundle.stringAtoms, a.before a0 Z = true := by
  intro a ha
  simp only [Bundle.stringAtoms, List.mem_cons, List.not_mem_nil, or_false] at ha
  rcases ha with rfl | rfl | rfl | rfl | rfl | rfl | rfl
  · exact (hw _ (List.mem_of_getElem? (i := 50) rfl))
  · exact (hw _ (List.mem_of_getElem? (i := 51) rfl))
  · exact (hw _ (List.mem_of_getElem? (i := 52) rfl))
  · exact (hw _ (List.mem_of_getElem? (i := 53) rfl))
  · exact (hw _ (List.mem_of_getElem? (i := 54) rfl))
  · exact (hw _ (List.mem_of_getElem? (i := 55) rfl))
  · exact (hw _ (List.mem_of_getElem? (i := 56) rfl))
theorem own_d8_7 : decode prog_61_method_1_code 7 = .ok (.invokestatic 9, 3) := by decide +kernel
theorem own_pd3 : parseMethodDescriptor "(Ljava/lang/Object;Ljava/lang/String;)Ljava/lang/Object;" = some ⟨[(.object "java/lang/Object"), (.object "java/lang/String")], some (.object "java/lang/Object")⟩ := by decide +kernel
theorem own_d8_10 : decode prog_61_method_1_code 10 = .ok (.pop, 1) := by decide +kernel
theorem own_d8_11 : decode prog_61_method_1_code 11 = .ok (.aload_n 0, 1) := by decide +kernel
theorem own_d8_12 : decode prog_61_method_1_code 12 = .ok (.aload_n 1, 1) := by decide +kernel
theorem own_d8_13 : decode prog_61_method_1_code 13 = .ok (.putfield 15, 3) := by decide +kernel
theorem own_d8_16 : decode prog_61_method_1_code 16 = .ok (.return_, 1) := by decide +kernel
theorem own_d4_0 : decode prog_61_method_2_code 0 = .ok (.new 16, 3) := by decide +kernel
theorem own_d4_3 : decode prog_61_method_2_code 3 = .ok (.dup, 1) := by decide +kernel
theorem own_d4_4 : decode prog_61_method_2_code 4 = .ok (.lload_n 0, 1) := by decide +kernel
theorem own_d4_5 : decode prog_61_method_2_code 5 = .ok (.invokestatic 20, 3) := by decide +kernel
theorem own_pd4 : parseMethodDescriptor "(J)Ljava/math/BigInteger;" = some ⟨[.long], some (.object "java/math/BigInteger")⟩ := by decide +kernel
theorem own_d4_8 : decode prog_61_method_2_code 8 = .ok (.invokespecial 26, 3) := by decide +kernel
theorem own_pd5 : parseMethodDescriptor "(Ljava/math/BigInteger;)V" = some ⟨[(.object "java/math/BigInteger")], none⟩ := by decide +kernel
theorem own_d4_11 : decode prog_61_method_2_code 11 = .ok (.areturn, 1) := by decide +kernel
theorem own_pn6 : plainName "plainsight/core/term/BooleanTerm" = true := by first | (simp [plainName, overriddenIn]; done) | decide +kernel
theorem own_d1_0 : decode prog_57_method_1_code 0 = .ok (.aload_n 0, 1) := by decide +kernel
theorem own_d1_1 : decode prog_57_method_1_code 1 = .ok (.invokespecial 1, 3) := by decide +kernel
theorem own_d1_4 : decode prog_57_method_1_code 4 = .ok (.aload_n 0, 1) := by decide +kernel
theorem own_d1_5 : decode prog_57_method_1_code 5 = .ok (.iload_n 1, 1) := by decide +kernel
theorem own_d1_6 : decode prog_57_method_1_code 6 = .ok (.putfield 7, 3) := by decide +kernel
theorem own_d1_9 : decode prog_57_method_1_code 9 = .ok (.return_, 1) := by decide +kernel
theorem own_d10_0 : decode prog_57_method_3_code 0 = .ok (.aload_n 1, 1) := by decide +kernel
theorem own_d10_1 : decode prog_57_method_3_code 1 = .ok (.instanceof 8, 3) := by decide +kernel
theorem own_d10_4 : decode prog_57_method_3_code 4 = .ok (.ifCond .eq 23, 3) := by decide +kernel
theorem own_d10_27 : decode prog_57_method_3_code 27 = .ok (.iconst 0, 1) := by decide +kernel
theorem own_d10_28 : decode prog_57_method_3_code 28 = .ok (.ireturn, 1) := by decide +kernel
theorem own_d10_7 : decode prog_57_method_3_code 7 = .ok (.aload_n 1, 1) := by decide +kernel
theorem own_d10_8 : decode prog_57_method_3_code 8 = .ok (.checkcast 8, 3) := by decide +kernel
theorem own_d10_11 : decode prog_57_method_3_code 11 = .ok (.astore_n 2, 1) := by decide +kernel
theorem own_d10_12 : decode prog_57_method_3_code 12 = .ok (.aload_n 0, 1) := by decide +kernel
theorem own_d10_13 : decode prog_57_method_3_code 13 = .ok (.getfield 7, 3) := by decide +kernel
theorem own_d10_16 : decode prog_57_method_3_code 16 = .ok (.aload_n 2, 1) := by decide +kernel
theorem own_d10_17 : decode prog_57_method_3_code 17 = .ok (.getfield 7, 3) := by decide +kernel
theorem own_d10_20 : decode prog_57_method_3_code 20 = .ok (.if_icmp .ne 7, 3) := by decide +kernel
theorem own_d10_23 : decode prog_57_method_3_code 23 = .ok (.iconst 1, 1) := by decide +kernel
theorem own_d10_24 : decode prog_57_method_3_code 24 = .ok (.goto 4, 3) := by decide +kernel
theorem own_pn7 : plainName "plainsight/core/term/BooleanTermEqualsPinLaw" = true := by first | (simp [plainName, overriddenIn]; done) | decide +kernel
theorem own_pd6 : parseMethodDescriptor "(Z)V" = some ⟨[.boolean], none⟩ := by decide +kernel
theorem own_pd7 : parseMethodDescriptor "(Ljava/lang/Object;)Z" = some ⟨[(.object "java/lang/Object")], some .boolean⟩ := by decide +kernel
theorem own_pd8 : parseMethodDescriptor "(J)Lplainsight/core/term/IntegerTerm;" = some ⟨[.long], some (.object "plainsight/core/term/IntegerTerm")⟩ := by decide +kernel
theorem own_pd9 : parseMethodDescriptor "(I)Ljava/lang/Integer;" = some ⟨[.int], some (.object "java/lang/Integer")⟩ := by decide +kernel
theorem own_nsroot {Z : State} {a0 : Array Value} {O K : String} {n : Nat} (w : (Jvm.Cond.noSuperclass O).before a0 Z = true) (wk : (Jvm.Cond.instantiable K n).before a0 Z = true) (hn : O ≠ K) : NS Z O K := by
  obtain ⟨c, k, h1, h2, h3, -⟩ := Cond.noSuperclass_spec w
  obtain ⟨t, kt, g1, -⟩ := Cond.instantiable_spec wk
  refine ⟨c, t, h1, g1, fun fuel => ?_⟩
  cases fuel with
  | zero => rfl
  | succ f => simp [Vm.isSubclassAux, ids_ne h1 g1 hn, h2, h3]
theorem own_nsno {Z : State} {a0 : Array Value} {C S K : String} {n : Nat} (w : (Jvm.Cond.superclass C S).before a0 Z = true) (wk : (Jvm.Cond.instantiable K n).before a0 Z = true) (q : NS Z C K) (hn : C ≠ K) : ∃ c t, Z.vm.findClass C = some c ∧ Z.vm.findClass K = some t ∧ Z.vm.assignable c t = false := by
  obtain ⟨c, t, h0, g0, n3⟩ := q
  obtain ⟨p, k, kp, h1, h2, h3, h4, h5, -⟩ := Cond.superclass_spec h0 w
  obtain ⟨t', kt, g1, g2, g3, g4, -⟩ := Cond.instantiable_spec wk
  cases g0.symm.trans g1
  have gi : kt.isInterface = false := (Bool.or_eq_false_iff.mp g4).1
  refine ⟨c, t, h0, g0, ?_⟩
  show Z.vm.assignableAux (255 + 1) c t = false
  simp [Vm.assignableAux, ids_ne h0 g0 hn, h2, g2, h5, g3, gi, Vm.isSubclass, n3]
theorem own_eqI {args : Array Value} {first s : State} {o : Option Outcome} {idx : List Nat} {t : Term} {k : Int32} (h : (Jvm.Cond.eq t (.int k)).value args first o s idx = some true) : t.eval args first o idx s = some (.int k) := by
  obtain ⟨x, y, h1, h2, k1, k2⟩ := cmp_v (Or.inl h)
  have e : y = .int k := Option.some.inj (h2.symm.trans rfl)
  subst e
  obtain ⟨z, rfl⟩ := k2
  have q : z = k := by simpa [Cond.value, h1, h2] using h
  rw [h1, q]
theorem own_size {args : Array Value} {s : State} {t : Term} {a : Addr} {cl : Cell} {ty : FieldType} (ht : t.eval args s none [] s = some (.ref a)) (A : Arr s s.heap a cl ty) (h : (Jvm.Cond.eq (.length t) (.int 256)).value args s none s [] = some true) : cl.slots.size = 256 ∧ cl.slots.size < 2 ^ 31 := by
  have q := own_eqI h
  have h3 : cl.slots.size < 2 ^ 31 := by
    rcases Decidable.em (cl.slots.size < 2 ^ 31) with h' | h'
    · exact h'
    · simp [Term.eval, ht, A.fin (Vm.Alike.refl _), h'] at q
  have h4 := Value.int.inj (Option.some.inj ((len_f ht (A.fin (Vm.Alike.refl _)) h3).symm.trans q))
  have e := len_toInt h3
  rw [h4] at e
  have : (256 : Int32).toInt = 256 := rfl
  exact ⟨by omega, h3⟩
/-- an array of boxes that stood at the start: its length, and that each place holds an object of that class -/
def own_Box (Z : State) (ca : Addr) (B : String) : Prop := ∃ cl : Cell, Arr Z Z.heap ca cl (.object B) ∧ cl.slots.size = 256 ∧ ∀ j : Int32, ¬ (j < 0 ∨ cl.slots.size ≤ j.toNatClampNeg) → ∃ y, cl.slots[j.toNatClampNeg]? = some (.ref y) ∧ Exa Z Z.heap y B
theorem own_box {args : Array Value} {s : State} {t : Term} {B : String} {X : Jvm.Cond} {ca : Addr} (ht : ∀ idx, t.eval args s none idx s = some (.ref ca)) (h1 : (Jvm.Cond.arrayOf t (.object B)).value args s none s [] = some true) (h2 : (Jvm.Cond.eq (.length t) (.int 256)).value args s none s [] = some true)
    (h3 : (Jvm.Cond.all t (.and (.exactly (.elem t (.index 0)) B) X)).value args s none s [] = some true) : own_Box s ca B := by
  obtain ⟨cl, A⟩ := Arr.start (ht []) h1
  have hA := A.fin (Vm.Alike.refl _)
  have hz := (own_size (ht []) A h2).1
  refine ⟨cl, A, hz, fun j hj => ?_⟩
  have q := (and_e (Cond.all_elim (ht []) hA h3 j.toNatClampNeg (Nat.lt_of_not_le fun u => hj (Or.inr u)))).1
  obtain ⟨y, ey⟩ := exa_v q
  have E := exa_at ey q
  rw [elem_f (ht _) (idx_at (fun u => hj (Or.inl u))) hA (fun u => hj (Or.inl u))] at ey
  exact ⟨y, ey, E⟩
def own_Big (Z : State) (ca : Addr) : Prop := ∃ cl : Cell, Arr Z Z.heap ca cl (.object "java/math/BigInteger") ∧ cl.slots.size = 17 ∧ ∀ j : Int32, 1 ≤ j.toInt → j.toInt ≤ 16 → ∃ y, cl.slots[j.toNatClampNeg]? = some (.ref y)
theorem own_size17 {args : Array Value} {s : State} {t : Term} {a : Addr} {cl : Cell} {ty : FieldType} (ht : t.eval args s none [] s = some (.ref a)) (A : Arr s s.heap a cl ty) (h : (Jvm.Cond.eq (.length t) (.int 17)).value args s none s [] = some true) : cl.slots.size = 17 := by
  have q := own_eqI h
  have h3 : cl.slots.size < 2 ^ 31 := by
    rcases Decidable.em (cl.slots.size < 2 ^ 31) with h' | h'
    · exact h'
    · simp [Term.eval, ht, A.fin (Vm.Alike.refl _), h'] at q
  have h4 := Value.int.inj (Option.some.inj ((len_f ht (A.fin (Vm.Alike.refl _)) h3).symm.trans q))
  have e := len_toInt h3
  rw [h4] at e
  have : (17 : Int32).toInt = 17 := rfl
  omega
theorem own_at {args : Array Value} {s : State} {t : Term} {a : Addr} {cl : Cell} {ty : FieldType} {B : String} {k : Int32} (ht : t.eval args s none [] s = some (.ref a)) (A : Arr s s.heap a cl ty) (hk : ¬ k < 0) (h : (Jvm.Cond.exactly (.elem t (.int k)) B).value args s none s [] = some true) : ∃ y, cl.slots[k.toNatClampNeg]? = some (.ref y) := by
  obtain ⟨y, ey⟩ := exa_v h
  rw [elem_f ht (Term.int_eval k) (A.fin (Vm.Alike.refl _)) hk] at ey
  exact ⟨y, ey⟩
theorem own_j {j : Int32} (h1 : 1 ≤ j.toInt) (h2 : j.toInt ≤ 16) : j = 1 ∨ j = 2 ∨ j = 3 ∨ j = 4 ∨ j = 5 ∨ j = 6 ∨ j = 7 ∨ j = 8 ∨ j = 9 ∨ j = 10 ∨ j = 11 ∨ j = 12 ∨ j = 13 ∨ j = 14 ∨ j = 15 ∨ j = 16 := by
  simp only [← Int32.toInt_inj, Int32.reduceToInt]
  omega
theorem own_pos {x : Int64} (h1 : (0 : Int64) < x) (h2 : ¬ (16 : Int64) < x) : 1 ≤ (x.toInt32).toInt ∧ (x.toInt32).toInt ≤ 16 := by
  have a := c_l2i x
  have r := rng32 x.toInt32
  simp only [Int64.lt_iff_toInt_lt, Int64.reduceToInt] at *
  omega
theorem own_neg {x : Int64} (h1 : x < (0 : Int64)) (h2 : ¬ x < (-16 : Int64)) : 1 ≤ ((-x).toInt32).toInt ∧ ((-x).toInt32).toInt ≤ 16 := by
  have n := c_lneg x
  have a := c_l2i (-x)
  have r := rng32 (-x).toInt32
  have r2 := rng64 (-x)
  simp only [Int64.lt_iff_toInt_lt, Int64.reduceToInt] at *
  omega
theorem own_in17 {j : Int32} (h : 1 ≤ j.toInt ∧ j.toInt ≤ 16) : ¬ (j < 0 ∨ 17 ≤ j.toNatClampNeg) := by
  have e : j.toNatClampNeg = j.toInt.toNat := rfl
  simp only [Int32.lt_iff_toInt_lt, Int32.reduceToInt] at *
  omega
theorem own_iidx {x : Int32} (h1 : ¬ x < (-128 : Int32)) (h2 : ¬ (127 : Int32) < x) : ¬ (x + (128 : Int32) < 0 ∨ 256 ≤ (x + (128 : Int32)).toNatClampNeg) := by
  have s := c_iadd x 128
  have r2 := rng32 (x + 128)
  have r := rng32 x
  have e : (x + (128 : Int32)).toNatClampNeg = (x + (128 : Int32)).toInt.toNat := rfl
  simp only [Int32.lt_iff_toInt_lt, Int32.reduceToInt] at *
  omega
theorem own_num_ef (m : MethodId) (x0 : Addr) : entryFrame m #[(.ref x0)] 1 = mkF m 0 #[.val (.ref x0)] [] := by first | (simp [entryFrame, mkF, argsToLocals, Value.category]; done) | rfl
def own_num_Q (Z : State) (a : Addr) (h0 : Heap) (n0 : Nat) (rv : Option Value) (hN : Heap) (LL : List Loc) : Prop := rv = none ∧ Fr n0 LL ∧ hN = h0
set_option maxRecDepth 65536 in
set_option maxHeartbeats 40000000 in
theorem own_num (l : Launch) (Z : State) (a0 : Array Value) (hw : ∀ d ∈ tables_1, d.before a0 Z = true) (ws : List Jvm.Cond) (a : Addr) (h0 : Heap) (n0 : Nat) (Z0 : n0 ≤ h0.size) :
    MetFree l (⟨"java/lang/Number", "<init>", "()V"⟩ : MethodName) (head1 (Jvm.Cond.code (⟨"java/lang/Number", "<init>", "()V"⟩ : MethodName) jdk_18_method_1_code 1 none :: ws) ({ frames := 1, cells := 0, slots := 0, locals := 12 } : Room)) (fun aa UU => aa = #[(.ref a)] ∧ Z.Warmed39 UU.vm ∧ UU.heap = h0) (fun _ _ _ _ _ => True) (fun _ UU oo UU' => ∃ rv LL, oo = .returned rv ∧ own_num_Q Z a h0 n0 rv UU'.heap LL ∧ FrameEnd UU oo UU' LL ({ frames := 1, cells := 0, slots := 0, locals := 12 } : Room).cells ({ frames := 1, cells := 0, slots := 0, locals := 12 } : Room).slots) := by
  refine MetFree.of_bodySF (plainFor_of_name own_pn0) hisR ?_
  intro p e s m args below meth c s₁ Bd hml0 hP hK
  obtain ⟨rfl, hZ, hh⟩ := hP
  have hx := Bd.exec
  have hby := Bd.bytes
  have hml : c.maxLocals = 1 := hml0
  have hown : s.vm.findClass "java/lang/Number" = some m.cls := findClass_of_methodNamed Bd.named
  have hnm := (name_of_methodNamed Bd.named Bd.method).1
  have X0 : Stand p l e ({ frames := 1, cells := 0, slots := 0, locals := 12 } : Room) s m #[(.ref a)] below meth c s₁ [] 0 0 := Stand.of_body Bd
  have e0 : s₁.heap = h0 := by rw [← hh, Bd.state]; rfl
  have N0 := Fr.nil n0
  have K0 : Keep h0 h0 [] := Keep.refl h0 _
  refine (?_ : OwnGo p.tables e below (fun UU' oo => ∃ rv LL, oo = .returned rv ∧ own_num_Q Z a h0 n0 rv UU'.heap LL ∧ FrameEnd s oo UU' LL ({ frames := 1, cells := 0, slots := 0, locals := 12 } : Room).cells ({ frames := 1, cells := 0, slots := 0, locals := 12 } : Room).slots) _)
  refine OwnGo.back (s₁.setTop (mkF m 0 #[.val (.ref a)] [])) (fun tg kk => castTop (own_num_ef m a) kk) ?_
  refine OwnGo.back (s₁.setTop (mkF m 1 #[.val (.ref a)] [(.ref a)])) (fun tg kk => XS.aloadN X0.here hx rfl (hb hby own_d7_0) rfl rfl kk) ?_
  obtain ⟨T1, X1, e1, st1⟩ := initO X0 hx hZ hown (hw _ (List.mem_of_getElem? (i := 39) rfl)) (hw _ (List.mem_of_getElem? (i := 12) rfl)) (hw _ (List.mem_of_getElem? (i := 13) rfl)) e0 (g := (mkF m 1 #[.val (.ref a)] [(.ref a)])) rfl (by rw [hml]; rfl) rfl (hb hby own_d7_1) (by decide) (W := 0) (by show 2 * 0 + _ ≤ _; exact Nat.le_of_eq rfl) (by decide)
  refine OwnGo.back (T1.setTop (mkF m 4 #[.val (.ref a)] [])) (fun tg kk => st1 _ kk) ?_
  obtain ⟨fs, hr, hrun, hended, hW, hsame⟩ := X1.leave (v := none) (fun _ => rfl)
  refine ⟨_, _, ?_, hrun, hended, _, _, rfl, ?_, ⟨_, rfl⟩, hW, hsame.mono (by decide) (by decide)⟩
  · exact X1.returnOut hx Bd.returns (hb hby own_d7_4) hr
  · show own_num_Q Z a h0 n0 _ T1.heap _
    rw [e1]
    exact ⟨rfl, N0, rfl⟩
theorem own_rec_ef (m : MethodId) (x0 : Addr) : entryFrame m #[(.ref x0)] 1 = mkF m 0 #[.val (.ref x0)] [] := by first | (simp [entryFrame, mkF, argsToLocals, Value.category]; done) | rfl
def own_rec_Q (Z : State) (a : Addr) (h0 : Heap) (n0 : Nat) (rv : Option Value) (hN : Heap) (LL : List Loc) : Prop := rv = none ∧ Fr n0 LL ∧ hN = h0
set_option maxRecDepth 65536 in
set_option maxHeartbeats 40000000 in
theorem own_rec (l : Launch) (Z : State) (a0 : Array Value) (hw : ∀ d ∈ tables_1, d.before a0 Z = true) (ws : List Jvm.Cond) (a : Addr) (h0 : Heap) (n0 : Nat) (Z0 : n0 ≤ h0.size) :
    MetFree l (⟨"java/lang/Record", "<init>", "()V"⟩ : MethodName) (head1 (Jvm.Cond.code (⟨"java/lang/Record", "<init>", "()V"⟩ : MethodName) jdk_30_method_1_code 1 none :: ws) ({ frames := 1, cells := 0, slots := 0, locals := 12 } : Room)) (fun aa UU => aa = #[(.ref a)] ∧ Z.Warmed39 UU.vm ∧ UU.heap = h0) (fun _ _ _ _ _ => True) (fun _ UU oo UU' => ∃ rv LL, oo = .returned rv ∧ own_rec_Q Z a h0 n0 rv UU'.heap LL ∧ FrameEnd UU oo UU' LL ({ frames := 1, cells := 0, slots := 0, locals := 12 } : Room).cells ({ frames := 1, cells := 0, slots := 0, locals := 12 } : Room).slots) := by
  refine MetFree.of_bodySF (plainFor_of_name own_pn1) hisR ?_
  intro p e s m args below meth c s₁ Bd hml0 hP hK
  obtain ⟨rfl, hZ, hh⟩ := hP
  have hx := Bd.exec
  have hby := Bd.bytes
  have hml : c.maxLocals = 1 := hml0
  have hown : s.vm.findClass "java/lang/Record" = some m.cls := findClass_of_methodNamed Bd.named
  have hnm := (name_of_methodNamed Bd.named Bd.method).1
  have X0 : Stand p l e ({ frames := 1, cells := 0, slots := 0, locals := 12 } : Room) s m #[(.ref a)] below meth c s₁ [] 0 0 := Stand.of_body Bd
  have e0 : s₁.heap = h0 := by rw [← hh, Bd.state]; rfl
  have N0 := Fr.nil n0
  have K0 : Keep h0 h0 [] := Keep.refl h0 _
  refine (?_ : OwnGo p.tables e below (fun UU' oo => ∃ rv LL, oo = .returned rv ∧ own_rec_Q Z a h0 n0 rv UU'.heap LL ∧ FrameEnd s oo UU' LL ({ frames := 1, cells := 0, slots := 0, locals := 12 } : Room).cells ({ frames := 1, cells := 0, slots := 0, locals := 12 } : Room).slots) _)
  refine OwnGo.back (s₁.setTop (mkF m 0 #[.val (.ref a)] [])) (fun tg kk => castTop (own_rec_ef m a) kk) ?_
  refine OwnGo.back (s₁.setTop (mkF m 1 #[.val (.ref a)] [(.ref a)])) (fun tg kk => XS.aloadN X0.here hx rfl (hb hby own_d2_0) rfl rfl kk) ?_
  obtain ⟨T1, X1, e1, st1⟩ := initO X0 hx hZ hown (hw _ (List.mem_of_getElem? (i := 11) rfl)) (hw _ (List.mem_of_getElem? (i := 12) rfl)) (hw _ (List.mem_of_getElem? (i := 13) rfl)) e0 (g := (mkF m 1 #[.val (.ref a)] [(.ref a)])) rfl (by rw [hml]; rfl) rfl (hb hby own_d2_1) (by decide) (W := 0) (by show 2 * 0 + _ ≤ _; exact Nat.le_of_eq rfl) (by decide)
  refine OwnGo.back (T1.setTop (mkF m 4 #[.val (.ref a)] [])) (fun tg kk => st1 _ kk) ?_
  obtain ⟨fs, hr, hrun, hended, hW, hsame⟩ := X1.leave (v := none) (fun _ => rfl)
  refine ⟨_, _, ?_, hrun, hended, _, _, rfl, ?_, ⟨_, rfl⟩, hW, hsame.mono (by decide) (by decide)⟩
  · exact X1.returnOut hx Bd.returns (hb hby own_d2_4) hr
  · show own_rec_Q Z a h0 n0 _ T1.heap _
    rw [e1]
    exact ⟨rfl, N0, rfl⟩
theorem own_iini_ef (m : MethodId) (x0 : Addr) (x1 : Int32) : entryFrame m #[(.ref x0), (.int x1)] 2 = mkF m 0 #[.val (.ref x0), .val (.int x1)] [] := by first | (simp [entryFrame, mkF, argsToLocals, Value.category]; done) | rfl
def own_iini_Q (Z : State) (a : Addr) (x : Int32) (h0 : Heap) (n0 : Nat) (rv : Option Value) (hN : Heap) (LL : List Loc) : Prop := rv = none ∧ Fr n0 LL ∧ Keep h0 hN [a] ∧ Exa Z hN a "java/lang/Integer" ∧ Fld Z hN a "java/lang/Integer" "value" "I" (.int x)
set_option maxRecDepth 65536 in
set_option maxHeartbeats 40000000 in
theorem own_iini (l : Launch) (Z : State) (a0 : Array Value) (hw : ∀ d ∈ tables_1, d.before a0 Z = true) (ws : List Jvm.Cond) (a : Addr) (x : Int32) (h0 : Heap) (n0 : Nat) (Z0 : n0 ≤ h0.size) (E : Exa Z h0 a "java/lang/Integer") (F : Fld Z h0 a "java/lang/Integer" "value" "I" (.int (0 : Int32))) (g : n0 ≤ a) :
    MetFree l (⟨"java/lang/Integer", "<init>", "(I)V"⟩ : MethodName) (head1 (Jvm.Cond.code (⟨"java/lang/Integer", "<init>", "(I)V"⟩ : MethodName) jdk_33_method_23_code 2 none :: ws) ({ frames := 2, cells := 0, slots := 0, locals := 24 } : Room)) (fun aa UU => aa = #[(.ref a), (.int x)] ∧ Z.Warmed39 UU.vm ∧ UU.heap = h0) (fun _ _ _ _ _ => True) (fun _ UU oo UU' => ∃ rv LL, oo = .returned rv ∧ own_iini_Q Z a x h0 n0 rv UU'.heap LL ∧ FrameEnd UU oo UU' LL ({ frames := 2, cells := 0, slots := 0, locals := 24 } : Room).cells ({ frames := 2, cells := 0, slots := 0, locals := 24 } : Room).slots) := by
  refine MetFree.of_bodySF (plainFor_of_name own_pn2) hisR ?_
  intro p e s m args below meth c s₁ Bd hml0 hP hK
  obtain ⟨rfl, hZ, hh⟩ := hP
  have hx := Bd.exec
  have hby := Bd.bytes
  have hml : c.maxLocals = 2 := hml0
  have hown : s.vm.findClass "java/lang/Integer" = some m.cls := findClass_of_methodNamed Bd.named
  have hnm := (name_of_methodNamed Bd.named Bd.method).1
  have X0 : Stand p l e ({ frames := 2, cells := 0, slots := 0, locals := 24 } : Room) s m #[(.ref a), (.int x)] below meth c s₁ [] 0 0 := Stand.of_body Bd
  have e0 : s₁.heap = h0 := by rw [← hh, Bd.state]; rfl
  have N0 := Fr.nil n0
  have K0 : Keep h0 h0 [a] := Keep.refl h0 _
  refine (?_ : OwnGo p.tables e below (fun UU' oo => ∃ rv LL, oo = .returned rv ∧ own_iini_Q Z a x h0 n0 rv UU'.heap LL ∧ FrameEnd s oo UU' LL ({ frames := 2, cells := 0, slots := 0, locals := 24 } : Room).cells ({ frames := 2, cells := 0, slots := 0, locals := 24 } : Room).slots) _)
  refine OwnGo.back (s₁.setTop (mkF m 0 #[.val (.ref a), .val (.int x)] [])) (fun tg kk => castTop (own_iini_ef m a x) kk) ?_
  refine OwnGo.back (s₁.setTop (mkF m 1 #[.val (.ref a), .val (.int x)] [(.ref a)])) (fun tg kk => XS.aloadN X0.here hx rfl (hb hby own_d12_0) rfl rfl kk) ?_
  obtain ⟨_, _, ⟨T1, L1, k1, n1⟩, -, X1, ⟨Lc1, hQ1, l1, y1, z1⟩, st1⟩ := X0.specialBack hx (y := (⟨"java/lang/Number", "<init>", "()V"⟩ : MethodName)) rfl hown (mvT hZ (hw _ (List.mem_of_getElem? (i := 87) rfl))) (mvT hZ (hw _ (List.mem_of_getElem? (i := 34) rfl))) (mvT hZ (hw _ (List.mem_of_getElem? (i := 38) rfl))) (by decide) (backOf (W := 0) (own_num l Z a0 hw [] a h0 n0 Z0 ) hZ (hw _ (List.mem_of_getElem? (i := 38) rfl)) (hw _ (List.mem_of_getElem? (i := 37) rfl)) (by decide) (by decide)) (g := (mkF m 1 #[.val (.ref a), .val (.int x)] [(.ref a)])) rfl (by rw [hml]; rfl) (Steps.refl _) (a := a) (argsL := []) (rest := []) (lenOf own_pd0 rfl) rfl (by show 2 * 0 + _ ≤ _; exact Nat.le_of_eq rfl) (hb hby own_d12_1) (fun _ _ => ⟨rfl, e0, (by decide : 0 + 0 ≤ _), (by decide : 0 + 0 ≤ _)⟩)
  dsimp only [Pt.U, Pt.locs, Pt.cells, Pt.slots] at X1 l1 y1 z1 st1 hQ1
  subst l1 y1 z1
  obtain ⟨rfl, N1q, e1⟩ := hQ1
  have N1 := Fr.app N0 N1q
  refine OwnGo.back (T1.setTop (mkF m 4 #[.val (.ref a), .val (.int x)] [])) (fun tg kk => st1.trans kk) ?_
  refine OwnGo.back (T1.setTop (mkF m 5 #[.val (.ref a), .val (.int x)] [(.ref a)])) (fun tg kk => XS.aloadN X1.here hx rfl (hb hby own_d12_4) rfl rfl kk) ?_
  refine OwnGo.back (T1.setTop (mkF m 6 #[.val (.ref a), .val (.int x)] [(.int x), (.ref a)])) (fun tg kk => XS.iloadN X1.here hx rfl (hb hby own_d12_5) rfl kk) ?_
  obtain ⟨T2, h2, X2, e2, W2, st2⟩ := putF X1 hx hZ hown (host := "") (Or.inl (hw _ (List.mem_of_getElem? (i := 89) rfl))) Via.refl e1 F E (Or.inr ⟨(hw _ (List.mem_of_getElem? (i := 90) rfl)), rfl, hnm⟩) (hw _ (List.mem_of_getElem? (i := 82) rfl)) (ty := .int) (by decide) rfl rfl (g := (mkF m 6 #[.val (.ref a), .val (.int x)] [(.int x), (.ref a)])) rfl rfl (hb hby own_d12_6)
  have f3 : Fld Z h2 a "java/lang/Integer" "value" "I" (.int x) := F.same W2
  have f4 : Exa Z h2 a "java/lang/Integer" := E.wr W2
  have K5 : Keep h0 h2 [a] := K0.wr W2 (Or.inl (List.mem_of_getElem? (i := 0) rfl))
  have Z6 : n0 ≤ h2.size := Nat.le_trans Z0 (Keep.of_wr W2).1
  have N7 := Fr.snoc X2 N1 g
  refine OwnGo.back (T2.setTop (mkF m 9 #[.val (.ref a), .val (.int x)] [])) (fun tg kk => st2 _ kk) ?_
  obtain ⟨fs, hr, hrun, hended, hW, hsame⟩ := X2.leave (v := none) (fun _ => rfl)
  refine ⟨_, _, ?_, hrun, hended, _, _, rfl, ?_, ⟨_, rfl⟩, hW, hsame.mono (by decide) (by decide)⟩
  · exact X2.returnOut hx Bd.returns (hb hby own_d12_9) hr
  · show own_iini_Q Z a x h0 n0 _ T2.heap _
    rw [e2]
    exact ⟨rfl, N7, K5, f4, f3⟩
theorem own_ival_ef (m : MethodId) (x0 : Int32) : entryFrame m #[(.int x0)] 1 = mkF m 0 #[.val (.int x0)] [] := by first | (simp [entryFrame, mkF, argsToLocals, Value.category]; done) | rfl
def own_ival_Q (Z : State) (x : Int32) (ca : Addr) (h0 : Heap) (n0 : Nat) (rv : Option Value) (hN : Heap) (LL : List Loc) : Prop := ∃ (b : Addr), rv = some (.ref b) ∧ Fr n0 LL ∧ Keep h0 hN [] ∧ Exa Z hN b "java/lang/Integer"
set_option maxRecDepth 65536 in
set_option maxHeartbeats 40000000 in
theorem own_ival (l : Launch) (Z : State) (a0 : Array Value) (hw : ∀ d ∈ tables_1, d.before a0 Z = true) (ws : List Jvm.Cond) (x : Int32) (ca : Addr) (h0 : Heap) (n0 : Nat) (Z0 : n0 ≤ h0.size) (SI : Sta Z Z.heap "java/lang/Integer$IntegerCache" "cache" "[Ljava/lang/Integer;" (.ref ca)) (SI' : Sta Z Z.heap "java/lang/Integer$IntegerCache" "high" "I" (.int (127 : Int32))) (old : Old Z n0 h0) (hBI : own_Box Z ca "java/lang/Integer") :
    MetFree l (⟨"java/lang/Integer", "valueOf", "(I)Ljava/lang/Integer;"⟩ : MethodName) (head1 (Jvm.Cond.code (⟨"java/lang/Integer", "valueOf", "(I)Ljava/lang/Integer;"⟩ : MethodName) jdk_33_method_22_code 1 (some (.object "java/lang/Integer")) :: ws) ({ frames := 3, cells := 1, slots := 1, locals := 38 } : Room)) (fun aa UU => aa = #[(.int x)] ∧ Z.Warmed39 UU.vm ∧ UU.heap = h0) (fun _ _ _ _ _ => True) (fun _ UU oo UU' => ∃ rv LL, oo = .returned rv ∧ own_ival_Q Z x ca h0 n0 rv UU'.heap LL ∧ FrameEnd UU oo UU' LL ({ frames := 3, cells := 1, slots := 1, locals := 38 } : Room).cells ({ frames := 3, cells := 1, slots := 1, locals := 38 } : Room).slots) := by
  refine MetFree.of_bodySF (plainFor_of_name own_pn2) hisR ?_
  intro p e s m args below meth c s₁ Bd hml0 hP hK
  obtain ⟨rfl, hZ, hh⟩ := hP
  have hx := Bd.exec
  have hby := Bd.bytes
  have hml : c.maxLocals = 1 := hml0
  have hown : s.vm.findClass "java/lang/Integer" = some m.cls := findClass_of_methodNamed Bd.named
  have hnm := (name_of_methodNamed Bd.named Bd.method).1
  have X0 : Stand p l e ({ frames := 3, cells := 1, slots := 1, locals := 38 } : Room) s m #[(.int x)] below meth c s₁ [] 0 0 := Stand.of_body Bd
  have e0 : s₁.heap = h0 := by rw [← hh, Bd.state]; rfl
  have N0 := Fr.nil n0
  have K0 : Keep h0 h0 [] := Keep.refl h0 _
  refine (?_ : OwnGo p.tables e below (fun UU' oo => ∃ rv LL, oo = .returned rv ∧ own_ival_Q Z x ca h0 n0 rv UU'.heap LL ∧ FrameEnd s oo UU' LL ({ frames := 3, cells := 1, slots := 1, locals := 38 } : Room).cells ({ frames := 3, cells := 1, slots := 1, locals := 38 } : Room).slots) _)
  refine OwnGo.back (s₁.setTop (mkF m 0 #[.val (.int x)] [])) (fun tg kk => castTop (own_ival_ef m x) kk) ?_
  refine OwnGo.back (s₁.setTop (mkF m 1 #[.val (.int x)] [(.int x)])) (fun tg kk => XS.iloadN X0.here hx rfl (hb hby own_d11_0) rfl kk) ?_
  refine OwnGo.back (s₁.setTop (mkF m 3 #[.val (.int x)] [(.int (-128 : Int32)), (.int x)])) (fun tg kk => XS.bipush X0.here hx rfl (hb hby own_d11_1) kk) ?_
  by_cases hc1 : x < (-128 : Int32)
  ·
    refine OwnGo.back (s₁.setTop (mkF m 23 #[.val (.int x)] [])) (fun tg kk => XS.icmpYes X0.here hx rfl (pc0 := 3) (pc' := 23) rfl (hb hby own_d11_3) rfl (tlt hc1).1 (by decide) (by decide) kk) ?_
    obtain ⟨T2, h2, X2, e2, E2, A2, D2, -, st2⟩ := newO X0 hx hZ hown (hw _ (List.mem_of_getElem? (i := 81) rfl)) (hw _ (List.mem_of_getElem? (i := 82) rfl)) (hw _ (List.mem_of_getElem? (i := 74) rfl)) e0 (g := (mkF m 23 #[.val (.int x)] [])) rfl (hb hby own_d11_23) (by decide) (by decide)
    obtain ⟨b2, q2⟩ : ∃ z, z = h0.size := ⟨_, rfl⟩
    rw [← q2] at A2 D2 st2
    have g3 : n0 ≤ b2 := Nat.le_trans Z0 (Nat.le_of_eq q2.symm)
    have s4 : h0.size ≤ b2 := Nat.le_trans K0.1 (Nat.le_of_eq q2.symm)
    have f5 : Old Z n0 h2 := old.ext E2
    have K6 : Keep h0 h2 [] := K0.ext E2
    have Z7 : n0 ≤ h2.size := Nat.le_trans Z0 E2.1
    have f8 : Fld Z h2 b2 "java/lang/Integer" "value" "I" (.int (0 : Int32)) := D2 (Or.inr (hw _ (List.mem_of_getElem? (i := 90) rfl))) (ty := .int) (by decide)
    refine OwnGo.back (T2.setTop (mkF m 26 #[.val (.int x)] [(.ref b2)])) (fun tg kk => st2 _ kk) ?_
    refine OwnGo.back (T2.setTop (mkF m 27 #[.val (.int x)] [(.ref b2), (.ref b2)])) (fun tg kk => XS.dup X2.here hx rfl (hb hby own_d11_26) rfl rfl kk) ?_
    refine OwnGo.back (T2.setTop (mkF m 28 #[.val (.int x)] [(.int x), (.ref b2), (.ref b2)])) (fun tg kk => XS.iloadN X2.here hx rfl (hb hby own_d11_27) rfl kk) ?_
    obtain ⟨_, _, ⟨T9, L9, k9, n9⟩, -, X9, ⟨Lc9, hQ9, l9, y9, z9⟩, st9⟩ := X2.specialBack hx (y := (⟨"java/lang/Integer", "<init>", "(I)V"⟩ : MethodName)) rfl hown (mvT hZ (hw _ (List.mem_of_getElem? (i := 83) rfl))) (mvT hZ (hw _ (List.mem_of_getElem? (i := 84) rfl))) (mvT hZ (hw _ (List.mem_of_getElem? (i := 86) rfl))) (by decide) (backOf (W := 1) (own_iini l Z a0 hw [] b2 x h2 n0 Z7 A2 f8 g3) hZ (hw _ (List.mem_of_getElem? (i := 86) rfl)) (hw _ (List.mem_of_getElem? (i := 74) rfl)) (by decide) (by decide)) (g := (mkF m 28 #[.val (.int x)] [(.int x), (.ref b2), (.ref b2)])) rfl (by rw [hml]; rfl) (Steps.refl _) (a := b2) (argsL := [(.int x)]) (rest := [(.ref b2)]) (lenOf own_pd1 rfl) rfl (by show 2 * 0 + _ ≤ _; exact Nat.le_of_eq rfl) (hb hby own_d11_28) (fun _ _ => ⟨rfl, e2, (by decide : 1 + 0 ≤ _), (by decide : 1 + 0 ≤ _)⟩)
    dsimp only [Pt.U, Pt.locs, Pt.cells, Pt.slots] at X9 l9 y9 z9 st9 hQ9
    subst l9 y9 z9
    obtain ⟨rfl, N9q, Kc9, po10, po11⟩ := hQ9
    have N9 := Fr.app N0 N9q
    have f12 : Old Z n0 T9.heap := f5.keep Kc9 (allS g3 all0)
    have f13 : Exa Z T9.heap b2 "java/lang/Integer" := A2.keep Kc9
    have K14 : Keep h0 T9.heap [] := K6.trans Kc9 (allS (Or.inr s4) all0)
    have Z15 : n0 ≤ T9.heap.size := Nat.le_trans Z7 Kc9.1
    refine OwnGo.back (T9.setTop (mkF m 31 #[.val (.int x)] [(.ref b2)])) (fun tg kk => st9.trans kk) ?_
    obtain ⟨fs, hr, hrun, hended, hW, hsame⟩ := X9.leave (v := some (.ref b2)) (fun h => by rw [Bd.returns] at h; cases h)
    refine ⟨_, _, ?_, hrun, hended, _, _, rfl, ?_, ⟨_, rfl⟩, hW, hsame.mono (by decide) (by decide)⟩
    · exact own_retA X9 hx Bd.returns rfl rfl rfl (hb hby own_d11_31) hr
    · show own_ival_Q Z x ca h0 n0 _ T9.heap _
      exact ⟨b2, rfl, N9, K14, po10⟩
  ·
    refine OwnGo.back (s₁.setTop (mkF m 6 #[.val (.int x)] [])) (fun tg kk => XS.icmpNo X0.here hx rfl (hb hby own_d11_3) rfl (flt hc1).1 kk) ?_
    refine OwnGo.back (s₁.setTop (mkF m 7 #[.val (.int x)] [(.int x)])) (fun tg kk => XS.iloadN X0.here hx rfl (hb hby own_d11_6) rfl kk) ?_
    obtain ⟨T16, X16, e16, st16⟩ := getS2 X0 hx hZ hown (host := "") (Or.inl (hw _ (List.mem_of_getElem? (i := 76) rfl))) Via.refl e0 (SI'.ext old.2) (g := (mkF m 7 #[.val (.int x)] [(.int x)])) rfl (hb hby own_d11_7)
    refine OwnGo.back (T16.setTop (mkF m 10 #[.val (.int x)] [(.int (127 : Int32)), (.int x)])) (fun tg kk => st16 _ kk) ?_
    by_cases hc17 : (127 : Int32) < x
    ·
      refine OwnGo.back (T16.setTop (mkF m 23 #[.val (.int x)] [])) (fun tg kk => XS.icmpYes X16.here hx rfl (pc0 := 10) (pc' := 23) rfl (hb hby own_d11_10) rfl (tlt hc17).2.2.1 (by decide) (by decide) kk) ?_
      obtain ⟨T18, h18, X18, e18, E18, A18, D18, -, st18⟩ := newO X16 hx hZ hown (hw _ (List.mem_of_getElem? (i := 81) rfl)) (hw _ (List.mem_of_getElem? (i := 82) rfl)) (hw _ (List.mem_of_getElem? (i := 74) rfl)) e16 (g := (mkF m 23 #[.val (.int x)] [])) rfl (hb hby own_d11_23) (by decide) (by decide)
      obtain ⟨b18, q18⟩ : ∃ z, z = h0.size := ⟨_, rfl⟩
      rw [← q18] at A18 D18 st18
      have g19 : n0 ≤ b18 := Nat.le_trans Z0 (Nat.le_of_eq q18.symm)
      have s20 : h0.size ≤ b18 := Nat.le_trans K0.1 (Nat.le_of_eq q18.symm)
      have f21 : Old Z n0 h18 := old.ext E18
      have K22 : Keep h0 h18 [] := K0.ext E18
      have Z23 : n0 ≤ h18.size := Nat.le_trans Z0 E18.1
      have f24 : Fld Z h18 b18 "java/lang/Integer" "value" "I" (.int (0 : Int32)) := D18 (Or.inr (hw _ (List.mem_of_getElem? (i := 90) rfl))) (ty := .int) (by decide)
      refine OwnGo.back (T18.setTop (mkF m 26 #[.val (.int x)] [(.ref b18)])) (fun tg kk => st18 _ kk) ?_
      refine OwnGo.back (T18.setTop (mkF m 27 #[.val (.int x)] [(.ref b18), (.ref b18)])) (fun tg kk => XS.dup X18.here hx rfl (hb hby own_d11_26) rfl rfl kk) ?_
      refine OwnGo.back (T18.setTop (mkF m 28 #[.val (.int x)] [(.int x), (.ref b18), (.ref b18)])) (fun tg kk => XS.iloadN X18.here hx rfl (hb hby own_d11_27) rfl kk) ?_
      obtain ⟨_, _, ⟨T25, L25, k25, n25⟩, -, X25, ⟨Lc25, hQ25, l25, y25, z25⟩, st25⟩ := X18.specialBack hx (y := (⟨"java/lang/Integer", "<init>", "(I)V"⟩ : MethodName)) rfl hown (mvT hZ (hw _ (List.mem_of_getElem? (i := 83) rfl))) (mvT hZ (hw _ (List.mem_of_getElem? (i := 84) rfl))) (mvT hZ (hw _ (List.mem_of_getElem? (i := 86) rfl))) (by decide) (backOf (W := 1) (own_iini l Z a0 hw [] b18 x h18 n0 Z23 A18 f24 g19) hZ (hw _ (List.mem_of_getElem? (i := 86) rfl)) (hw _ (List.mem_of_getElem? (i := 74) rfl)) (by decide) (by decide)) (g := (mkF m 28 #[.val (.int x)] [(.int x), (.ref b18), (.ref b18)])) rfl (by rw [hml]; rfl) (Steps.refl _) (a := b18) (argsL := [(.int x)]) (rest := [(.ref b18)]) (lenOf own_pd1 rfl) rfl (by show 2 * 0 + _ ≤ _; exact Nat.le_of_eq rfl) (hb hby own_d11_28) (fun _ _ => ⟨rfl, e18, (by decide : 1 + 0 ≤ _), (by decide : 1 + 0 ≤ _)⟩)
      dsimp only [Pt.U, Pt.locs, Pt.cells, Pt.slots] at X25 l25 y25 z25 st25 hQ25
      subst l25 y25 z25
      obtain ⟨rfl, N25q, Kc25, po26, po27⟩ := hQ25
      have N25 := Fr.app N0 N25q
      have f28 : Old Z n0 T25.heap := f21.keep Kc25 (allS g19 all0)
      have f29 : Exa Z T25.heap b18 "java/lang/Integer" := A18.keep Kc25
      have K30 : Keep h0 T25.heap [] := K22.trans Kc25 (allS (Or.inr s20) all0)
      have Z31 : n0 ≤ T25.heap.size := Nat.le_trans Z23 Kc25.1
      refine OwnGo.back (T25.setTop (mkF m 31 #[.val (.int x)] [(.ref b18)])) (fun tg kk => st25.trans kk) ?_
      obtain ⟨fs, hr, hrun, hended, hW, hsame⟩ := X25.leave (v := some (.ref b18)) (fun h => by rw [Bd.returns] at h; cases h)
      refine ⟨_, _, ?_, hrun, hended, _, _, rfl, ?_, ⟨_, rfl⟩, hW, hsame.mono (by decide) (by decide)⟩
      · exact own_retA X25 hx Bd.returns rfl rfl rfl (hb hby own_d11_31) hr
      · show own_ival_Q Z x ca h0 n0 _ T25.heap _
        exact ⟨b18, rfl, N25, K30, po26⟩
    ·
      refine OwnGo.back (T16.setTop (mkF m 13 #[.val (.int x)] [])) (fun tg kk => XS.icmpNo X16.here hx rfl (hb hby own_d11_10) rfl (flt hc17).2.2.1 kk) ?_
      obtain ⟨T32, X32, e32, st32⟩ := getS2 X16 hx hZ hown (host := "") (Or.inl (hw _ (List.mem_of_getElem? (i := 78) rfl))) Via.refl e16 (SI.ext old.2) (g := (mkF m 13 #[.val (.int x)] [])) rfl (hb hby own_d11_13)
      refine OwnGo.back (T32.setTop (mkF m 16 #[.val (.int x)] [(.ref ca)])) (fun tg kk => st32 _ kk) ?_
      refine OwnGo.back (T32.setTop (mkF m 17 #[.val (.int x)] [(.int x), (.ref ca)])) (fun tg kk => XS.iloadN X32.here hx rfl (hb hby own_d11_16) rfl kk) ?_
      refine OwnGo.back (T32.setTop (mkF m 20 #[.val (.int x)] [(.int (128 : Int32)), (.int x), (.ref ca)])) (fun tg kk => XS.sipush X32.here hx rfl (hb hby own_d11_17) kk) ?_
      refine OwnGo.back (T32.setTop (mkF m 21 #[.val (.int x)] [(.int (x + (128 : Int32))), (.ref ca)])) (fun tg kk => XS.iadd X32.here hx rfl (hb hby own_d11_20) rfl kk) ?_
      obtain ⟨cl33, Ar33, sz33, el33⟩ := id hBI
      have hin33 : ¬ ((x + (128 : Int32)) < 0 ∨ cl33.slots.size ≤ ((x + (128 : Int32))).toNatClampNeg) := by rw [sz33]; exact own_iidx hc1 hc17
      obtain ⟨y33, hat33, Ey33⟩ := el33 _ hin33
      have Ex33 : Exa Z h0 y33 "java/lang/Integer" := Ey33.ext old.2
      have Ah33 := Ar33.ext old.2
      refine OwnGo.back (T32.setTop (mkF m 22 #[.val (.int x)] [(.ref y33)])) (fun tg kk => X32.aaload hx (j := (x + (128 : Int32))) (v := (.ref y33)) (by rw [e32]; exact Ah33.1) (State.isArrayOf_alike hZ.alike Ah33.2.1) rfl Ah33.2.2 hin33 hat33 (g := (mkF m 21 #[.val (.int x)] [(.int (x + (128 : Int32))), (.ref ca)])) rfl rfl (hb hby own_d11_21) _ kk) ?_
      obtain ⟨fs, hr, hrun, hended, hW, hsame⟩ := X32.leave (v := some (.ref y33)) (fun h => by rw [Bd.returns] at h; cases h)
      refine ⟨_, _, ?_, hrun, hended, _, _, rfl, ?_, ⟨_, rfl⟩, hW, hsame.mono (by decide) (by decide)⟩
      · exact own_retA X32 hx Bd.returns rfl rfl rfl (hb hby own_d11_22) hr
      · show own_ival_Q Z x ca h0 n0 _ T32.heap _
        rw [e32]
        exact ⟨y33, rfl, N0, K0, Ex33⟩
theorem own_bini_ef (m : MethodId) (x0 : Addr) (x1 : Int64) : entryFrame m #[(.ref x0), (.long x1)] 4 = mkF m 0 #[.val (.ref x0), .val (.long x1), .second, .unset] [] := by first | (simp [entryFrame, mkF, argsToLocals, Value.category]; done) | rfl
def own_bini_Q (Z : State) (a : Addr) (x : Int64) (h0 : Heap) (n0 : Nat) (rv : Option Value) (hN : Heap) (LL : List Loc) : Prop := rv = none ∧ Fr n0 LL ∧ Keep h0 hN [a] ∧ Exa Z hN a "java/math/BigInteger"
set_option maxRecDepth 65536 in
set_option maxHeartbeats 40000000 in
theorem own_bini (l : Launch) (Z : State) (a0 : Array Value) (hw : ∀ d ∈ tables_1, d.before a0 Z = true) (ws : List Jvm.Cond) (a : Addr) (x : Int64) (h0 : Heap) (n0 : Nat) (Z0 : n0 ≤ h0.size) (H0 : Exa Z h0 a "java/math/BigInteger") (H1 : Fld Z h0 a "java/math/BigInteger" "signum" "I" (.int (0 : Int32))) (H2 : Fld Z h0 a "java/math/BigInteger" "mag" "[I" .null) (H3 : n0 ≤ a) :
    MetFree l (⟨"java/math/BigInteger", "<init>", "(J)V"⟩ : MethodName) (head1 (Jvm.Cond.code (⟨"java/math/BigInteger", "<init>", "(J)V"⟩ : MethodName) jdk_2097_method_30_code 4 none :: ws) ({ frames := 2, cells := 1, slots := 2, locals := 24 } : Room)) (fun aa UU => aa = #[(.ref a), (.long x)] ∧ Z.Warmed39 UU.vm ∧ UU.heap = h0) (fun _ _ _ _ _ => True) (fun _ UU oo UU' => ∃ rv LL, oo = .returned rv ∧ own_bini_Q Z a x h0 n0 rv UU'.heap LL ∧ FrameEnd UU oo UU' LL ({ frames := 2, cells := 1, slots := 2, locals := 24 } : Room).cells ({ frames := 2, cells := 1, slots := 2, locals := 24 } : Room).slots) := by
  refine MetFree.of_bodySF (plainFor_of_name own_pn3) hisR ?_
  intro p e s m args below meth c s₁ Bd hml0 hP hK
  obtain ⟨rfl, hZ, hh⟩ := hP
  have hx := Bd.exec
  have hby := Bd.bytes
  have hml : c.maxLocals = 4 := hml0
  have hown : s.vm.findClass "java/math/BigInteger" = some m.cls := findClass_of_methodNamed Bd.named
  have hnm := (name_of_methodNamed Bd.named Bd.method).1
  have X0 : Stand p l e ({ frames := 2, cells := 1, slots := 2, locals := 24 } : Room) s m #[(.ref a), (.long x)] below meth c s₁ [] 0 0 := Stand.of_body Bd
  have e0 : s₁.heap = h0 := by rw [← hh, Bd.state]; rfl
  have N0 := Fr.nil n0
  have K0 : Keep h0 h0 [a] := Keep.refl h0 _
  refine (?_ : OwnGo p.tables e below (fun UU' oo => ∃ rv LL, oo = .returned rv ∧ own_bini_Q Z a x h0 n0 rv UU'.heap LL ∧ FrameEnd s oo UU' LL ({ frames := 2, cells := 1, slots := 2, locals := 24 } : Room).cells ({ frames := 2, cells := 1, slots := 2, locals := 24 } : Room).slots) _)
  refine OwnGo.back (s₁.setTop (mkF m 0 #[.val (.ref a), .val (.long x), .second, .unset] [])) (fun tg kk => castTop (own_bini_ef m a x) kk) ?_
  refine OwnGo.back (s₁.setTop (mkF m 1 #[.val (.ref a), .val (.long x), .second, .unset] [(.ref a)])) (fun tg kk => XS.aloadN X0.here hx rfl (hb hby own_d6_0) rfl rfl kk) ?_
  obtain ⟨_, _, ⟨T1, L1, k1, n1⟩, -, X1, ⟨Lc1, hQ1, l1, y1, z1⟩, st1⟩ := X0.specialBack hx (y := (⟨"java/lang/Number", "<init>", "()V"⟩ : MethodName)) rfl hown (mvT hZ (hw _ (List.mem_of_getElem? (i := 33) rfl))) (mvT hZ (hw _ (List.mem_of_getElem? (i := 34) rfl))) (mvT hZ (hw _ (List.mem_of_getElem? (i := 38) rfl))) (by decide) (backOf (W := 0) (own_num l Z a0 hw [] a h0 n0 Z0 ) hZ (hw _ (List.mem_of_getElem? (i := 38) rfl)) (hw _ (List.mem_of_getElem? (i := 37) rfl)) (by decide) (by decide)) (g := (mkF m 1 #[.val (.ref a), .val (.long x), .second, .unset] [(.ref a)])) rfl (by rw [hml]; rfl) (Steps.refl _) (a := a) (argsL := []) (rest := []) (lenOf own_pd0 rfl) rfl (by show 2 * 0 + _ ≤ _; exact Nat.le_of_eq rfl) (hb hby own_d6_1) (fun _ _ => ⟨rfl, e0, (by decide : 0 + 0 ≤ _), (by decide : 0 + 0 ≤ _)⟩)
  dsimp only [Pt.U, Pt.locs, Pt.cells, Pt.slots] at X1 l1 y1 z1 st1 hQ1
  subst l1 y1 z1
  obtain ⟨rfl, N1q, e1⟩ := hQ1
  have N1 := Fr.app N0 N1q
  refine OwnGo.back (T1.setTop (mkF m 4 #[.val (.ref a), .val (.long x), .second, .unset] [])) (fun tg kk => st1.trans kk) ?_
  refine OwnGo.back (T1.setTop (mkF m 5 #[.val (.ref a), .val (.long x), .second, .unset] [(.long x)])) (fun tg kk => XS.lloadN X1.here hx rfl (hb hby own_d6_4) rfl kk) ?_
  refine OwnGo.back (T1.setTop (mkF m 6 #[.val (.ref a), .val (.long x), .second, .unset] [(.long (0 : Int64)), (.long x)])) (fun tg kk => XS.lconst X1.here hx rfl (hb hby own_d6_5) kk) ?_
  refine OwnGo.back (T1.setTop (mkF m 7 #[.val (.ref a), .val (.long x), .second, .unset] [(.int (lcmpW x (0 : Int64)))])) (fun tg kk => XS.lcmp X1.here hx rfl (hb hby own_d6_6) rfl kk) ?_
  by_cases hc2 : x < (0 : Int64)
  ·
    refine OwnGo.back (T1.setTop (mkF m 10 #[.val (.ref a), .val (.long x), .second, .unset] [])) (fun tg kk => XS.ifNo X1.here hx rfl (hb hby own_d6_7) rfl ((if0 _ _).trans (tlt ((lw_lt _ _).mpr hc2)).2.1) kk) ?_
    refine OwnGo.back (T1.setTop (mkF m 11 #[.val (.ref a), .val (.long x), .second, .unset] [(.long x)])) (fun tg kk => XS.lloadN X1.here hx rfl (hb hby own_d6_10) rfl kk) ?_
    refine OwnGo.back (T1.setTop (mkF m 12 #[.val (.ref a), .val (.long x), .second, .unset] [(.long (-x))])) (fun tg kk => XS.lneg X1.here hx rfl (hb hby own_d6_11) rfl kk) ?_
    refine OwnGo.back (T1.setTop (mkF m 13 #[.val (.ref a), .val (.long (-x)), .second, .unset] [])) (fun tg kk => XS.lstoreN X1.here hx rfl (hb hby own_d6_12) rfl (l' := #[.val (.ref a), .val (.long (-x)), .second, .unset]) rfl kk) ?_
    refine OwnGo.back (T1.setTop (mkF m 14 #[.val (.ref a), .val (.long (-x)), .second, .unset] [(.ref a)])) (fun tg kk => XS.aloadN X1.here hx rfl (hb hby own_d6_13) rfl rfl kk) ?_
    refine OwnGo.back (T1.setTop (mkF m 15 #[.val (.ref a), .val (.long (-x)), .second, .unset] [(.int (-1 : Int32)), (.ref a)])) (fun tg kk => XS.iconst X1.here hx rfl (hb hby own_d6_14) kk) ?_
    obtain ⟨T3, h3, X3, e3, W3, st3⟩ := putF X1 hx hZ hown (host := "") (Or.inl (hw _ (List.mem_of_getElem? (i := 40) rfl))) Via.refl e1 H1 H0 (Or.inr ⟨(hw _ (List.mem_of_getElem? (i := 41) rfl)), rfl, hnm⟩) (hw _ (List.mem_of_getElem? (i := 28) rfl)) (ty := .int) (by decide) rfl rfl (g := (mkF m 15 #[.val (.ref a), .val (.long (-x)), .second, .unset] [(.int (-1 : Int32)), (.ref a)])) rfl rfl (hb hby own_d6_15)
    have f4 : Fld Z h3 a "java/math/BigInteger" "signum" "I" (.int (-1 : Int32)) := H1.same W3
    have f5 : Exa Z h3 a "java/math/BigInteger" := H0.wr W3
    have f6 : Fld Z h3 a "java/math/BigInteger" "mag" "[I" .null := H2.other W3 (Or.inr (slot_ne (Or.inr (hw _ (List.mem_of_getElem? (i := 44) rfl))) (Or.inr (hw _ (List.mem_of_getElem? (i := 41) rfl))) (by decide) (t := (.array .int)) (t' := .int) (by decide) (by decide)))
    have K7 : Keep h0 h3 [a] := K0.wr W3 (Or.inl (List.mem_of_getElem? (i := 0) rfl))
    have Z8 : n0 ≤ h3.size := Nat.le_trans Z0 (Keep.of_wr W3).1
    have N9 := Fr.snoc X3 N1 H3
    refine OwnGo.back (T3.setTop (mkF m 18 #[.val (.ref a), .val (.long (-x)), .second, .unset] [])) (fun tg kk => st3 _ kk) ?_
    refine OwnGo.back (T3.setTop (mkF m 26 #[.val (.ref a), .val (.long (-x)), .second, .unset] [])) (fun tg kk => XS.goto X3.here hx rfl (pc0 := 18) (pc' := 26) rfl (hb hby own_d6_18) (by decide) (by decide) kk) ?_
    refine OwnGo.back (T3.setTop (mkF m 27 #[.val (.ref a), .val (.long (-x)), .second, .unset] [(.long (-x))])) (fun tg kk => XS.lloadN X3.here hx rfl (hb hby own_d6_26) rfl kk) ?_
    refine OwnGo.back (T3.setTop (mkF m 29 #[.val (.ref a), .val (.long (-x)), .second, .unset] [(.int (32 : Int32)), (.long (-x))])) (fun tg kk => XS.bipush X3.here hx rfl (hb hby own_d6_27) kk) ?_
    refine OwnGo.back (T3.setTop (mkF m 30 #[.val (.ref a), .val (.long (-x)), .second, .unset] [(.long (((-x).toUInt64 >>> ((32 : Int32) &&& 0x3f).toInt64.toUInt64).toInt64))])) (fun tg kk => XS.lushr X3.here hx rfl (hb hby own_d6_29) rfl kk) ?_
    refine OwnGo.back (T3.setTop (mkF m 31 #[.val (.ref a), .val (.long (-x)), .second, .unset] [(.int ((((-x).toUInt64 >>> ((32 : Int32) &&& 0x3f).toInt64.toUInt64).toInt64).toInt32))])) (fun tg kk => XS.l2i X3.here hx rfl (hb hby own_d6_30) rfl kk) ?_
    refine OwnGo.back (T3.setTop (mkF m 32 #[.val (.ref a), .val (.long (-x)), .second, .val (.int ((((-x).toUInt64 >>> ((32 : Int32) &&& 0x3f).toInt64.toUInt64).toInt64).toInt32))] [])) (fun tg kk => XS.istoreN X3.here hx rfl (hb hby own_d6_31) rfl (l' := #[.val (.ref a), .val (.long (-x)), .second, .val (.int ((((-x).toUInt64 >>> ((32 : Int32) &&& 0x3f).toInt64.toUInt64).toInt64).toInt32))]) rfl kk) ?_
    refine OwnGo.back (T3.setTop (mkF m 33 #[.val (.ref a), .val (.long (-x)), .second, .val (.int ((((-x).toUInt64 >>> ((32 : Int32) &&& 0x3f).toInt64.toUInt64).toInt64).toInt32))] [(.int ((((-x).toUInt64 >>> ((32 : Int32) &&& 0x3f).toInt64.toUInt64).toInt64).toInt32))])) (fun tg kk => XS.iloadN X3.here hx rfl (hb hby own_d6_32) rfl kk) ?_
    by_cases hc10 : ((((-x).toUInt64 >>> ((32 : Int32) &&& 0x3f).toInt64.toUInt64).toInt64).toInt32) = (0 : Int32)
    ·
      refine OwnGo.back (T3.setTop (mkF m 36 #[.val (.ref a), .val (.long (-x)), .second, .val (.int ((((-x).toUInt64 >>> ((32 : Int32) &&& 0x3f).toInt64.toUInt64).toInt64).toInt32))] [])) (fun tg kk => XS.ifNo X3.here hx rfl (hb hby own_d6_33) rfl ((if0 _ _).trans (teq hc10).2) kk) ?_
      refine OwnGo.back (T3.setTop (mkF m 37 #[.val (.ref a), .val (.long (-x)), .second, .val (.int ((((-x).toUInt64 >>> ((32 : Int32) &&& 0x3f).toInt64.toUInt64).toInt64).toInt32))] [(.ref a)])) (fun tg kk => XS.aloadN X3.here hx rfl (hb hby own_d6_36) rfl rfl kk) ?_
      refine OwnGo.back (T3.setTop (mkF m 38 #[.val (.ref a), .val (.long (-x)), .second, .val (.int ((((-x).toUInt64 >>> ((32 : Int32) &&& 0x3f).toInt64.toUInt64).toInt64).toInt32))] [(.int (1 : Int32)), (.ref a)])) (fun tg kk => XS.iconst X3.here hx rfl (hb hby own_d6_37) kk) ?_
      obtain ⟨T11, h11, k11, X11, e11, E11, A11, st11⟩ := newP X3 hx hZ (hw _ (List.mem_of_getElem? (i := 42) rfl)) e3 (g := (mkF m 38 #[.val (.ref a), .val (.long (-x)), .second, .val (.int ((((-x).toUInt64 >>> ((32 : Int32) &&& 0x3f).toInt64.toUInt64).toInt64).toInt32))] [(.int (1 : Int32)), (.ref a)])) rfl (hb hby own_d6_38) rfl (by decide) (cap := 1) (by decide) (by decide) (by decide) (by decide)
      obtain ⟨b11, q11⟩ : ∃ z, z = h3.size := ⟨_, rfl⟩
      rw [← q11] at A11 st11
      have n12 : a ≠ b11 := own_ne f5.lt q11
      have g13 : n0 ≤ b11 := Nat.le_trans Z8 (Nat.le_of_eq q11.symm)
      have s14 : h0.size ≤ b11 := Nat.le_trans K7.1 (Nat.le_of_eq q11.symm)
      have f15 : Exa Z h11 a "java/math/BigInteger" := f5.ext E11
      have f16 : Fld Z h11 a "java/math/BigInteger" "mag" "[I" .null := f6.ext E11
      have f17 : Fld Z h11 a "java/math/BigInteger" "signum" "I" (.int (-1 : Int32)) := f4.ext E11
      have K18 : Keep h0 h11 [a] := K7.ext E11
      have Z19 : n0 ≤ h11.size := Nat.le_trans Z8 E11.1
      have f20 : Arv Z h11 b11 k11 .int (1 : Int32) [(.int (0 : Int32))] (.int (0 : Int32)) := (Arv.new A11 (by decide)).pad (pad_rep [] (.int (0 : Int32)) 1)
      refine OwnGo.back (T11.setTop (mkF m 40 #[.val (.ref a), .val (.long (-x)), .second, .val (.int ((((-x).toUInt64 >>> ((32 : Int32) &&& 0x3f).toInt64.toUInt64).toInt64).toInt32))] [(.ref b11), (.ref a)])) (fun tg kk => st11 _ kk) ?_
      obtain ⟨T21, h21, X21, e21, W21, st21⟩ := putF X11 hx hZ hown (host := "") (Or.inl (hw _ (List.mem_of_getElem? (i := 43) rfl))) Via.refl e11 f16 f15 (Or.inr ⟨(hw _ (List.mem_of_getElem? (i := 44) rfl)), rfl, hnm⟩) (hw _ (List.mem_of_getElem? (i := 28) rfl)) (ty := (.array .int)) (by decide) rfl rfl (g := (mkF m 40 #[.val (.ref a), .val (.long (-x)), .second, .val (.int ((((-x).toUInt64 >>> ((32 : Int32) &&& 0x3f).toInt64.toUInt64).toInt64).toInt32))] [(.ref b11), (.ref a)])) rfl rfl (hb hby own_d6_40)
      have f22 : Fld Z h21 a "java/math/BigInteger" "mag" "[I" (.ref b11) := f16.same W21
      have f23 : Exa Z h21 a "java/math/BigInteger" := f15.wr W21
      have f24 : Fld Z h21 a "java/math/BigInteger" "signum" "I" (.int (-1 : Int32)) := f17.other W21 (Or.inr (slot_ne (Or.inr (hw _ (List.mem_of_getElem? (i := 41) rfl))) (Or.inr (hw _ (List.mem_of_getElem? (i := 44) rfl))) (by decide) (t := .int) (t' := (.array .int)) (by decide) (by decide)))
      have f25 : Arv Z h21 b11 k11 .int (1 : Int32) [(.int (0 : Int32))] (.int (0 : Int32)) := f20.other W21 (Ne.symm n12)
      have K26 : Keep h0 h21 [a] := K18.wr W21 (Or.inl (List.mem_of_getElem? (i := 0) rfl))
      have Z27 : n0 ≤ h21.size := Nat.le_trans Z19 (Keep.of_wr W21).1
      have N28 := Fr.snoc X21 N9 H3
      refine OwnGo.back (T21.setTop (mkF m 43 #[.val (.ref a), .val (.long (-x)), .second, .val (.int ((((-x).toUInt64 >>> ((32 : Int32) &&& 0x3f).toInt64.toUInt64).toInt64).toInt32))] [])) (fun tg kk => st21 _ kk) ?_
      refine OwnGo.back (T21.setTop (mkF m 44 #[.val (.ref a), .val (.long (-x)), .second, .val (.int ((((-x).toUInt64 >>> ((32 : Int32) &&& 0x3f).toInt64.toUInt64).toInt64).toInt32))] [(.ref a)])) (fun tg kk => XS.aloadN X21.here hx rfl (hb hby own_d6_43) rfl rfl kk) ?_
      obtain ⟨T29, X29, e29, st29⟩ := getF X21 hx hZ hown (host := "") (Or.inl (hw _ (List.mem_of_getElem? (i := 43) rfl))) Via.refl e21 f22 (g := (mkF m 44 #[.val (.ref a), .val (.long (-x)), .second, .val (.int ((((-x).toUInt64 >>> ((32 : Int32) &&& 0x3f).toInt64.toUInt64).toInt64).toInt32))] [(.ref a)])) rfl rfl (hb hby own_d6_44)
      refine OwnGo.back (T29.setTop (mkF m 47 #[.val (.ref a), .val (.long (-x)), .second, .val (.int ((((-x).toUInt64 >>> ((32 : Int32) &&& 0x3f).toInt64.toUInt64).toInt64).toInt32))] [(.ref b11)])) (fun tg kk => st29 _ kk) ?_
      refine OwnGo.back (T29.setTop (mkF m 48 #[.val (.ref a), .val (.long (-x)), .second, .val (.int ((((-x).toUInt64 >>> ((32 : Int32) &&& 0x3f).toInt64.toUInt64).toInt64).toInt32))] [(.int (0 : Int32)), (.ref b11)])) (fun tg kk => XS.iconst X29.here hx rfl (hb hby own_d6_47) kk) ?_
      refine OwnGo.back (T29.setTop (mkF m 49 #[.val (.ref a), .val (.long (-x)), .second, .val (.int ((((-x).toUInt64 >>> ((32 : Int32) &&& 0x3f).toInt64.toUInt64).toInt64).toInt32))] [(.long (-x)), (.int (0 : Int32)), (.ref b11)])) (fun tg kk => XS.lloadN X29.here hx rfl (hb hby own_d6_48) rfl kk) ?_
      refine OwnGo.back (T29.setTop (mkF m 50 #[.val (.ref a), .val (.long (-x)), .second, .val (.int ((((-x).toUInt64 >>> ((32 : Int32) &&& 0x3f).toInt64.toUInt64).toInt64).toInt32))] [(.int ((-x).toInt32)), (.int (0 : Int32)), (.ref b11)])) (fun tg kk => XS.l2i X29.here hx rfl (hb hby own_d6_49) rfl kk) ?_
      obtain ⟨cl_30, Ar_30, qq_30, Sz_30, Ng_30, Hs_30, Gf_30⟩ := id f25
      have hin_30 : ¬ ((0 : Int32) < 0 ∨ cl_30.slots.size ≤ ((0 : Int32)).toNatClampNeg) := inb_of Sz_30 ⟨by decide, by decide⟩
      obtain ⟨T31, h31, X31, e31, W31, st31⟩ := stI X29 hx hZ e29 Ar_30 (j := (0 : Int32)) hin_30 (g := (mkF m 50 #[.val (.ref a), .val (.long (-x)), .second, .val (.int ((((-x).toUInt64 >>> ((32 : Int32) &&& 0x3f).toInt64.toUInt64).toInt64).toInt32))] [(.int ((-x).toInt32)), (.int (0 : Int32)), (.ref b11)])) rfl rfl (hb hby own_d6_50)
      have f32 : Arv Z h31 b11 k11 .int (1 : Int32) [(.int ((-x).toInt32))] (.int (0 : Int32)) := Arv.set Ar_30 qq_30 Sz_30 Ng_30 Hs_30 Gf_30 rfl W31 0 rfl (Nat.le_of_ble_eq_true rfl)
      have f33 : Exa Z h31 a "java/math/BigInteger" := f23.wr W31
      have f34 : Fld Z h31 a "java/math/BigInteger" "signum" "I" (.int (-1 : Int32)) := f24.other W31 (Or.inl n12)
      have f35 : Fld Z h31 a "java/math/BigInteger" "mag" "[I" (.ref b11) := f22.other W31 (Or.inl n12)
      have K36 : Keep h0 h31 [a] := K26.wr W31 (Or.inr s14)
      have Z37 : n0 ≤ h31.size := Nat.le_trans Z27 (Keep.of_wr W31).1
      have N38 := Fr.snoc X31 N28 g13
      refine OwnGo.back (T31.setTop (mkF m 51 #[.val (.ref a), .val (.long (-x)), .second, .val (.int ((((-x).toUInt64 >>> ((32 : Int32) &&& 0x3f).toInt64.toUInt64).toInt64).toInt32))] [])) (fun tg kk => st31 _ kk) ?_
      refine OwnGo.back (T31.setTop (mkF m 76 #[.val (.ref a), .val (.long (-x)), .second, .val (.int ((((-x).toUInt64 >>> ((32 : Int32) &&& 0x3f).toInt64.toUInt64).toInt64).toInt32))] [])) (fun tg kk => XS.goto X31.here hx rfl (pc0 := 51) (pc' := 76) rfl (hb hby own_d6_51) (by decide) (by decide) kk) ?_
      obtain ⟨fs, hr, hrun, hended, hW, hsame⟩ := X31.leave (v := none) (fun _ => rfl)
      refine ⟨_, _, ?_, hrun, hended, _, _, rfl, ?_, ⟨_, rfl⟩, hW, hsame.mono (by decide) (by decide)⟩
      · exact X31.returnOut hx Bd.returns (hb hby own_d6_76) hr
      · show own_bini_Q Z a x h0 n0 _ T31.heap _
        rw [e31]
        exact ⟨rfl, N38, K36, f33⟩
    ·
      refine OwnGo.back (T3.setTop (mkF m 54 #[.val (.ref a), .val (.long (-x)), .second, .val (.int ((((-x).toUInt64 >>> ((32 : Int32) &&& 0x3f).toInt64.toUInt64).toInt64).toInt32))] [])) (fun tg kk => XS.ifYes X3.here hx rfl (pc0 := 33) (pc' := 54) rfl (hb hby own_d6_33) rfl ((if0 _ _).trans (feq hc10).2) (by decide) (by decide) kk) ?_
      refine OwnGo.back (T3.setTop (mkF m 55 #[.val (.ref a), .val (.long (-x)), .second, .val (.int ((((-x).toUInt64 >>> ((32 : Int32) &&& 0x3f).toInt64.toUInt64).toInt64).toInt32))] [(.ref a)])) (fun tg kk => XS.aloadN X3.here hx rfl (hb hby own_d6_54) rfl rfl kk) ?_
      refine OwnGo.back (T3.setTop (mkF m 56 #[.val (.ref a), .val (.long (-x)), .second, .val (.int ((((-x).toUInt64 >>> ((32 : Int32) &&& 0x3f).toInt64.toUInt64).toInt64).toInt32))] [(.int (2 : Int32)), (.ref a)])) (fun tg kk => XS.iconst X3.here hx rfl (hb hby own_d6_55) kk) ?_
      obtain ⟨T39, h39, k39, X39, e39, E39, A39, st39⟩ := newP X3 hx hZ (hw _ (List.mem_of_getElem? (i := 42) rfl)) e3 (g := (mkF m 56 #[.val (.ref a), .val (.long (-x)), .second, .val (.int ((((-x).toUInt64 >>> ((32 : Int32) &&& 0x3f).toInt64.toUInt64).toInt64).toInt32))] [(.int (2 : Int32)), (.ref a)])) rfl (hb hby own_d6_56) rfl (by decide) (cap := 2) (by decide) (by decide) (by decide) (by decide)
      obtain ⟨b39, q39⟩ : ∃ z, z = h3.size := ⟨_, rfl⟩
      rw [← q39] at A39 st39
      have n40 : a ≠ b39 := own_ne f5.lt q39
      have g41 : n0 ≤ b39 := Nat.le_trans Z8 (Nat.le_of_eq q39.symm)
      have s42 : h0.size ≤ b39 := Nat.le_trans K7.1 (Nat.le_of_eq q39.symm)
      have f43 : Exa Z h39 a "java/math/BigInteger" := f5.ext E39
      have f44 : Fld Z h39 a "java/math/BigInteger" "mag" "[I" .null := f6.ext E39
      have f45 : Fld Z h39 a "java/math/BigInteger" "signum" "I" (.int (-1 : Int32)) := f4.ext E39
      have K46 : Keep h0 h39 [a] := K7.ext E39
      have Z47 : n0 ≤ h39.size := Nat.le_trans Z8 E39.1
      have f48 : Arv Z h39 b39 k39 .int (2 : Int32) [(.int (0 : Int32)), (.int (0 : Int32))] (.int (0 : Int32)) := (Arv.new A39 (by decide)).pad (pad_rep [] (.int (0 : Int32)) 2)
      refine OwnGo.back (T39.setTop (mkF m 58 #[.val (.ref a), .val (.long (-x)), .second, .val (.int ((((-x).toUInt64 >>> ((32 : Int32) &&& 0x3f).toInt64.toUInt64).toInt64).toInt32))] [(.ref b39), (.ref a)])) (fun tg kk => st39 _ kk) ?_
      obtain ⟨T49, h49, X49, e49, W49, st49⟩ := putF X39 hx hZ hown (host := "") (Or.inl (hw _ (List.mem_of_getElem? (i := 43) rfl))) Via.refl e39 f44 f43 (Or.inr ⟨(hw _ (List.mem_of_getElem? (i := 44) rfl)), rfl, hnm⟩) (hw _ (List.mem_of_getElem? (i := 28) rfl)) (ty := (.array .int)) (by decide) rfl rfl (g := (mkF m 58 #[.val (.ref a), .val (.long (-x)), .second, .val (.int ((((-x).toUInt64 >>> ((32 : Int32) &&& 0x3f).toInt64.toUInt64).toInt64).toInt32))] [(.ref b39), (.ref a)])) rfl rfl (hb hby own_d6_58)
      have f50 : Fld Z h49 a "java/math/BigInteger" "mag" "[I" (.ref b39) := f44.same W49
      have f51 : Exa Z h49 a "java/math/BigInteger" := f43.wr W49
      have f52 : Fld Z h49 a "java/math/BigInteger" "signum" "I" (.int (-1 : Int32)) := f45.other W49 (Or.inr (slot_ne (Or.inr (hw _ (List.mem_of_getElem? (i := 41) rfl))) (Or.inr (hw _ (List.mem_of_getElem? (i := 44) rfl))) (by decide) (t := .int) (t' := (.array .int)) (by decide) (by decide)))
      have f53 : Arv Z h49 b39 k39 .int (2 : Int32) [(.int (0 : Int32)), (.int (0 : Int32))] (.int (0 : Int32)) := f48.other W49 (Ne.symm n40)
      have K54 : Keep h0 h49 [a] := K46.wr W49 (Or.inl (List.mem_of_getElem? (i := 0) rfl))
      have Z55 : n0 ≤ h49.size := Nat.le_trans Z47 (Keep.of_wr W49).1
      have N56 := Fr.snoc X49 N9 H3
      refine OwnGo.back (T49.setTop (mkF m 61 #[.val (.ref a), .val (.long (-x)), .second, .val (.int ((((-x).toUInt64 >>> ((32 : Int32) &&& 0x3f).toInt64.toUInt64).toInt64).toInt32))] [])) (fun tg kk => st49 _ kk) ?_
      refine OwnGo.back (T49.setTop (mkF m 62 #[.val (.ref a), .val (.long (-x)), .second, .val (.int ((((-x).toUInt64 >>> ((32 : Int32) &&& 0x3f).toInt64.toUInt64).toInt64).toInt32))] [(.ref a)])) (fun tg kk => XS.aloadN X49.here hx rfl (hb hby own_d6_61) rfl rfl kk) ?_
      obtain ⟨T57, X57, e57, st57⟩ := getF X49 hx hZ hown (host := "") (Or.inl (hw _ (List.mem_of_getElem? (i := 43) rfl))) Via.refl e49 f50 (g := (mkF m 62 #[.val (.ref a), .val (.long (-x)), .second, .val (.int ((((-x).toUInt64 >>> ((32 : Int32) &&& 0x3f).toInt64.toUInt64).toInt64).toInt32))] [(.ref a)])) rfl rfl (hb hby own_d6_62)
      refine OwnGo.back (T57.setTop (mkF m 65 #[.val (.ref a), .val (.long (-x)), .second, .val (.int ((((-x).toUInt64 >>> ((32 : Int32) &&& 0x3f).toInt64.toUInt64).toInt64).toInt32))] [(.ref b39)])) (fun tg kk => st57 _ kk) ?_
      refine OwnGo.back (T57.setTop (mkF m 66 #[.val (.ref a), .val (.long (-x)), .second, .val (.int ((((-x).toUInt64 >>> ((32 : Int32) &&& 0x3f).toInt64.toUInt64).toInt64).toInt32))] [(.int (0 : Int32)), (.ref b39)])) (fun tg kk => XS.iconst X57.here hx rfl (hb hby own_d6_65) kk) ?_
      refine OwnGo.back (T57.setTop (mkF m 67 #[.val (.ref a), .val (.long (-x)), .second, .val (.int ((((-x).toUInt64 >>> ((32 : Int32) &&& 0x3f).toInt64.toUInt64).toInt64).toInt32))] [(.int ((((-x).toUInt64 >>> ((32 : Int32) &&& 0x3f).toInt64.toUInt64).toInt64).toInt32)), (.int (0 : Int32)), (.ref b39)])) (fun tg kk => XS.iloadN X57.here hx rfl (hb hby own_d6_66) rfl kk) ?_
      obtain ⟨cl_58, Ar_58, qq_58, Sz_58, Ng_58, Hs_58, Gf_58⟩ := id f53
      have hin_58 : ¬ ((0 : Int32) < 0 ∨ cl_58.slots.size ≤ ((0 : Int32)).toNatClampNeg) := inb_of Sz_58 ⟨by decide, by decide⟩
      obtain ⟨T59, h59, X59, e59, W59, st59⟩ := stI X57 hx hZ e57 Ar_58 (j := (0 : Int32)) hin_58 (g := (mkF m 67 #[.val (.ref a), .val (.long (-x)), .second, .val (.int ((((-x).toUInt64 >>> ((32 : Int32) &&& 0x3f).toInt64.toUInt64).toInt64).toInt32))] [(.int ((((-x).toUInt64 >>> ((32 : Int32) &&& 0x3f).toInt64.toUInt64).toInt64).toInt32)), (.int (0 : Int32)), (.ref b39)])) rfl rfl (hb hby own_d6_67)
      have f60 : Arv Z h59 b39 k39 .int (2 : Int32) [(.int ((((-x).toUInt64 >>> ((32 : Int32) &&& 0x3f).toInt64.toUInt64).toInt64).toInt32)), (.int (0 : Int32))] (.int (0 : Int32)) := Arv.set Ar_58 qq_58 Sz_58 Ng_58 Hs_58 Gf_58 rfl W59 0 rfl (Nat.le_of_ble_eq_true rfl)
      have f61 : Exa Z h59 a "java/math/BigInteger" := f51.wr W59
      have f62 : Fld Z h59 a "java/math/BigInteger" "signum" "I" (.int (-1 : Int32)) := f52.other W59 (Or.inl n40)
      have f63 : Fld Z h59 a "java/math/BigInteger" "mag" "[I" (.ref b39) := f50.other W59 (Or.inl n40)
      have K64 : Keep h0 h59 [a] := K54.wr W59 (Or.inr s42)
      have Z65 : n0 ≤ h59.size := Nat.le_trans Z55 (Keep.of_wr W59).1
      have N66 := Fr.snoc X59 N56 g41
      refine OwnGo.back (T59.setTop (mkF m 68 #[.val (.ref a), .val (.long (-x)), .second, .val (.int ((((-x).toUInt64 >>> ((32 : Int32) &&& 0x3f).toInt64.toUInt64).toInt64).toInt32))] [])) (fun tg kk => st59 _ kk) ?_
      refine OwnGo.back (T59.setTop (mkF m 69 #[.val (.ref a), .val (.long (-x)), .second, .val (.int ((((-x).toUInt64 >>> ((32 : Int32) &&& 0x3f).toInt64.toUInt64).toInt64).toInt32))] [(.ref a)])) (fun tg kk => XS.aloadN X59.here hx rfl (hb hby own_d6_68) rfl rfl kk) ?_
      obtain ⟨T67, X67, e67, st67⟩ := getF X59 hx hZ hown (host := "") (Or.inl (hw _ (List.mem_of_getElem? (i := 43) rfl))) Via.refl e59 f63 (g := (mkF m 69 #[.val (.ref a), .val (.long (-x)), .second, .val (.int ((((-x).toUInt64 >>> ((32 : Int32) &&& 0x3f).toInt64.toUInt64).toInt64).toInt32))] [(.ref a)])) rfl rfl (hb hby own_d6_69)
      refine OwnGo.back (T67.setTop (mkF m 72 #[.val (.ref a), .val (.long (-x)), .second, .val (.int ((((-x).toUInt64 >>> ((32 : Int32) &&& 0x3f).toInt64.toUInt64).toInt64).toInt32))] [(.ref b39)])) (fun tg kk => st67 _ kk) ?_
      refine OwnGo.back (T67.setTop (mkF m 73 #[.val (.ref a), .val (.long (-x)), .second, .val (.int ((((-x).toUInt64 >>> ((32 : Int32) &&& 0x3f).toInt64.toUInt64).toInt64).toInt32))] [(.int (1 : Int32)), (.ref b39)])) (fun tg kk => XS.iconst X67.here hx rfl (hb hby own_d6_72) kk) ?_
      refine OwnGo.back (T67.setTop (mkF m 74 #[.val (.ref a), .val (.long (-x)), .second, .val (.int ((((-x).toUInt64 >>> ((32 : Int32) &&& 0x3f).toInt64.toUInt64).toInt64).toInt32))] [(.long (-x)), (.int (1 : Int32)), (.ref b39)])) (fun tg kk => XS.lloadN X67.here hx rfl (hb hby own_d6_73) rfl kk) ?_
      refine OwnGo.back (T67.setTop (mkF m 75 #[.val (.ref a), .val (.long (-x)), .second, .val (.int ((((-x).toUInt64 >>> ((32 : Int32) &&& 0x3f).toInt64.toUInt64).toInt64).toInt32))] [(.int ((-x).toInt32)), (.int (1 : Int32)), (.ref b39)])) (fun tg kk => XS.l2i X67.here hx rfl (hb hby own_d6_74) rfl kk) ?_
      obtain ⟨cl_68, Ar_68, qq_68, Sz_68, Ng_68, Hs_68, Gf_68⟩ := id f60
      have hin_68 : ¬ ((1 : Int32) < 0 ∨ cl_68.slots.size ≤ ((1 : Int32)).toNatClampNeg) := inb_of Sz_68 ⟨by decide, by decide⟩
      obtain ⟨T69, h69, X69, e69, W69, st69⟩ := stI X67 hx hZ e67 Ar_68 (j := (1 : Int32)) hin_68 (g := (mkF m 75 #[.val (.ref a), .val (.long (-x)), .second, .val (.int ((((-x).toUInt64 >>> ((32 : Int32) &&& 0x3f).toInt64.toUInt64).toInt64).toInt32))] [(.int ((-x).toInt32)), (.int (1 : Int32)), (.ref b39)])) rfl rfl (hb hby own_d6_75)
      have f70 : Arv Z h69 b39 k39 .int (2 : Int32) [(.int ((((-x).toUInt64 >>> ((32 : Int32) &&& 0x3f).toInt64.toUInt64).toInt64).toInt32)), (.int ((-x).toInt32))] (.int (0 : Int32)) := Arv.set Ar_68 qq_68 Sz_68 Ng_68 Hs_68 Gf_68 rfl W69 1 rfl (Nat.le_of_ble_eq_true rfl)
      have f71 : Exa Z h69 a "java/math/BigInteger" := f61.wr W69
      have f72 : Fld Z h69 a "java/math/BigInteger" "signum" "I" (.int (-1 : Int32)) := f62.other W69 (Or.inl n40)
      have f73 : Fld Z h69 a "java/math/BigInteger" "mag" "[I" (.ref b39) := f63.other W69 (Or.inl n40)
      have K74 : Keep h0 h69 [a] := K64.wr W69 (Or.inr s42)
      have Z75 : n0 ≤ h69.size := Nat.le_trans Z65 (Keep.of_wr W69).1
      have N76 := Fr.snoc X69 N66 g41
      refine OwnGo.back (T69.setTop (mkF m 76 #[.val (.ref a), .val (.long (-x)), .second, .val (.int ((((-x).toUInt64 >>> ((32 : Int32) &&& 0x3f).toInt64.toUInt64).toInt64).toInt32))] [])) (fun tg kk => st69 _ kk) ?_
      obtain ⟨fs, hr, hrun, hended, hW, hsame⟩ := X69.leave (v := none) (fun _ => rfl)
      refine ⟨_, _, ?_, hrun, hended, _, _, rfl, ?_, ⟨_, rfl⟩, hW, hsame.mono (by decide) (by decide)⟩
      · exact X69.returnOut hx Bd.returns (hb hby own_d6_76) hr
      · show own_bini_Q Z a x h0 n0 _ T69.heap _
        rw [e69]
        exact ⟨rfl, N76, K74, f71⟩
  ·
    refine OwnGo.back (T1.setTop (mkF m 21 #[.val (.ref a), .val (.long x), .second, .unset] [])) (fun tg kk => XS.ifYes X1.here hx rfl (pc0 := 7) (pc' := 21) rfl (hb hby own_d6_7) rfl ((if0 _ _).trans (flt (own_not (lw_lt _ _) hc2)).2.1) (by decide) (by decide) kk) ?_
    refine OwnGo.back (T1.setTop (mkF m 22 #[.val (.ref a), .val (.long x), .second, .unset] [(.ref a)])) (fun tg kk => XS.aloadN X1.here hx rfl (hb hby own_d6_21) rfl rfl kk) ?_
    refine OwnGo.back (T1.setTop (mkF m 23 #[.val (.ref a), .val (.long x), .second, .unset] [(.int (1 : Int32)), (.ref a)])) (fun tg kk => XS.iconst X1.here hx rfl (hb hby own_d6_22) kk) ?_
    obtain ⟨T77, h77, X77, e77, W77, st77⟩ := putF X1 hx hZ hown (host := "") (Or.inl (hw _ (List.mem_of_getElem? (i := 40) rfl))) Via.refl e1 H1 H0 (Or.inr ⟨(hw _ (List.mem_of_getElem? (i := 41) rfl)), rfl, hnm⟩) (hw _ (List.mem_of_getElem? (i := 28) rfl)) (ty := .int) (by decide) rfl rfl (g := (mkF m 23 #[.val (.ref a), .val (.long x), .second, .unset] [(.int (1 : Int32)), (.ref a)])) rfl rfl (hb hby own_d6_23)
    have f78 : Fld Z h77 a "java/math/BigInteger" "signum" "I" (.int (1 : Int32)) := H1.same W77
    have f79 : Exa Z h77 a "java/math/BigInteger" := H0.wr W77
    have f80 : Fld Z h77 a "java/math/BigInteger" "mag" "[I" .null := H2.other W77 (Or.inr (slot_ne (Or.inr (hw _ (List.mem_of_getElem? (i := 44) rfl))) (Or.inr (hw _ (List.mem_of_getElem? (i := 41) rfl))) (by decide) (t := (.array .int)) (t' := .int) (by decide) (by decide)))
    have K81 : Keep h0 h77 [a] := K0.wr W77 (Or.inl (List.mem_of_getElem? (i := 0) rfl))
    have Z82 : n0 ≤ h77.size := Nat.le_trans Z0 (Keep.of_wr W77).1
    have N83 := Fr.snoc X77 N1 H3
    refine OwnGo.back (T77.setTop (mkF m 26 #[.val (.ref a), .val (.long x), .second, .unset] [])) (fun tg kk => st77 _ kk) ?_
    refine OwnGo.back (T77.setTop (mkF m 27 #[.val (.ref a), .val (.long x), .second, .unset] [(.long x)])) (fun tg kk => XS.lloadN X77.here hx rfl (hb hby own_d6_26) rfl kk) ?_
    refine OwnGo.back (T77.setTop (mkF m 29 #[.val (.ref a), .val (.long x), .second, .unset] [(.int (32 : Int32)), (.long x)])) (fun tg kk => XS.bipush X77.here hx rfl (hb hby own_d6_27) kk) ?_
    refine OwnGo.back (T77.setTop (mkF m 30 #[.val (.ref a), .val (.long x), .second, .unset] [(.long ((x.toUInt64 >>> ((32 : Int32) &&& 0x3f).toInt64.toUInt64).toInt64))])) (fun tg kk => XS.lushr X77.here hx rfl (hb hby own_d6_29) rfl kk) ?_
    refine OwnGo.back (T77.setTop (mkF m 31 #[.val (.ref a), .val (.long x), .second, .unset] [(.int (((x.toUInt64 >>> ((32 : Int32) &&& 0x3f).toInt64.toUInt64).toInt64).toInt32))])) (fun tg kk => XS.l2i X77.here hx rfl (hb hby own_d6_30) rfl kk) ?_
    refine OwnGo.back (T77.setTop (mkF m 32 #[.val (.ref a), .val (.long x), .second, .val (.int (((x.toUInt64 >>> ((32 : Int32) &&& 0x3f).toInt64.toUInt64).toInt64).toInt32))] [])) (fun tg kk => XS.istoreN X77.here hx rfl (hb hby own_d6_31) rfl (l' := #[.val (.ref a), .val (.long x), .second, .val (.int (((x.toUInt64 >>> ((32 : Int32) &&& 0x3f).toInt64.toUInt64).toInt64).toInt32))]) rfl kk) ?_
    refine OwnGo.back (T77.setTop (mkF m 33 #[.val (.ref a), .val (.long x), .second, .val (.int (((x.toUInt64 >>> ((32 : Int32) &&& 0x3f).toInt64.toUInt64).toInt64).toInt32))] [(.int (((x.toUInt64 >>> ((32 : Int32) &&& 0x3f).toInt64.toUInt64).toInt64).toInt32))])) (fun tg kk => XS.iloadN X77.here hx rfl (hb hby own_d6_32) rfl kk) ?_
    by_cases hc84 : (((x.toUInt64 >>> ((32 : Int32) &&& 0x3f).toInt64.toUInt64).toInt64).toInt32) = (0 : Int32)
    ·
      refine OwnGo.back (T77.setTop (mkF m 36 #[.val (.ref a), .val (.long x), .second, .val (.int (((x.toUInt64 >>> ((32 : Int32) &&& 0x3f).toInt64.toUInt64).toInt64).toInt32))] [])) (fun tg kk => XS.ifNo X77.here hx rfl (hb hby own_d6_33) rfl ((if0 _ _).trans (teq hc84).2) kk) ?_
      refine OwnGo.back (T77.setTop (mkF m 37 #[.val (.ref a), .val (.long x), .second, .val (.int (((x.toUInt64 >>> ((32 : Int32) &&& 0x3f).toInt64.toUInt64).toInt64).toInt32))] [(.ref a)])) (fun tg kk => XS.aloadN X77.here hx rfl (hb hby own_d6_36) rfl rfl kk) ?_
      refine OwnGo.back (T77.setTop (mkF m 38 #[.val (.ref a), .val (.long x), .second, .val (.int (((x.toUInt64 >>> ((32 : Int32) &&& 0x3f).toInt64.toUInt64).toInt64).toInt32))] [(.int (1 : Int32)), (.ref a)])) (fun tg kk => XS.iconst X77.here hx rfl (hb hby own_d6_37) kk) ?_
      obtain ⟨T85, h85, k85, X85, e85, E85, A85, st85⟩ := newP X77 hx hZ (hw _ (List.mem_of_getElem? (i := 42) rfl)) e77 (g := (mkF m 38 #[.val (.ref a), .val (.long x), .second, .val (.int (((x.toUInt64 >>> ((32 : Int32) &&& 0x3f).toInt64.toUInt64).toInt64).toInt32))] [(.int (1 : Int32)), (.ref a)])) rfl (hb hby own_d6_38) rfl (by decide) (cap := 1) (by decide) (by decide) (by decide) (by decide)
      obtain ⟨b85, q85⟩ : ∃ z, z = h77.size := ⟨_, rfl⟩
      rw [← q85] at A85 st85
      have n86 : a ≠ b85 := own_ne f79.lt q85
      have g87 : n0 ≤ b85 := Nat.le_trans Z82 (Nat.le_of_eq q85.symm)
      have s88 : h0.size ≤ b85 := Nat.le_trans K81.1 (Nat.le_of_eq q85.symm)
      have f89 : Exa Z h85 a "java/math/BigInteger" := f79.ext E85
      have f90 : Fld Z h85 a "java/math/BigInteger" "mag" "[I" .null := f80.ext E85
      have f91 : Fld Z h85 a "java/math/BigInteger" "signum" "I" (.int (1 : Int32)) := f78.ext E85
      have K92 : Keep h0 h85 [a] := K81.ext E85
      have Z93 : n0 ≤ h85.size := Nat.le_trans Z82 E85.1
      have f94 : Arv Z h85 b85 k85 .int (1 : Int32) [(.int (0 : Int32))] (.int (0 : Int32)) := (Arv.new A85 (by decide)).pad (pad_rep [] (.int (0 : Int32)) 1)
      refine OwnGo.back (T85.setTop (mkF m 40 #[.val (.ref a), .val (.long x), .second, .val (.int (((x.toUInt64 >>> ((32 : Int32) &&& 0x3f).toInt64.toUInt64).toInt64).toInt32))] [(.ref b85), (.ref a)])) (fun tg kk => st85 _ kk) ?_
      obtain ⟨T95, h95, X95, e95, W95, st95⟩ := putF X85 hx hZ hown (host := "") (Or.inl (hw _ (List.mem_of_getElem? (i := 43) rfl))) Via.refl e85 f90 f89 (Or.inr ⟨(hw _ (List.mem_of_getElem? (i := 44) rfl)), rfl, hnm⟩) (hw _ (List.mem_of_getElem? (i := 28) rfl)) (ty := (.array .int)) (by decide) rfl rfl (g := (mkF m 40 #[.val (.ref a), .val (.long x), .second, .val (.int (((x.toUInt64 >>> ((32 : Int32) &&& 0x3f).toInt64.toUInt64).toInt64).toInt32))] [(.ref b85), (.ref a)])) rfl rfl (hb hby own_d6_40)
      have f96 : Fld Z h95 a "java/math/BigInteger" "mag" "[I" (.ref b85) := f90.same W95
      have f97 : Exa Z h95 a "java/math/BigInteger" := f89.wr W95
      have f98 : Fld Z h95 a "java/math/BigInteger" "signum" "I" (.int (1 : Int32)) := f91.other W95 (Or.inr (slot_ne (Or.inr (hw _ (List.mem_of_getElem? (i := 41) rfl))) (Or.inr (hw _ (List.mem_of_getElem? (i := 44) rfl))) (by decide) (t := .int) (t' := (.array .int)) (by decide) (by decide)))
      have f99 : Arv Z h95 b85 k85 .int (1 : Int32) [(.int (0 : Int32))] (.int (0 : Int32)) := f94.other W95 (Ne.symm n86)
      have K100 : Keep h0 h95 [a] := K92.wr W95 (Or.inl (List.mem_of_getElem? (i := 0) rfl))
      have Z101 : n0 ≤ h95.size := Nat.le_trans Z93 (Keep.of_wr W95).1
      have N102 := Fr.snoc X95 N83 H3
      refine OwnGo.back (T95.setTop (mkF m 43 #[.val (.ref a), .val (.long x), .second, .val (.int (((x.toUInt64 >>> ((32 : Int32) &&& 0x3f).toInt64.toUInt64).toInt64).toInt32))] [])) (fun tg kk => st95 _ kk) ?_
      refine OwnGo.back (T95.setTop (mkF m 44 #[.val (.ref a), .val (.long x), .second, .val (.int (((x.toUInt64 >>> ((32 : Int32) &&& 0x3f).toInt64.toUInt64).toInt64).toInt32))] [(.ref a)])) (fun tg kk => XS.aloadN X95.here hx rfl (hb hby own_d6_43) rfl rfl kk) ?_
      obtain ⟨T103, X103, e103, st103⟩ := getF X95 hx hZ hown (host := "") (Or.inl (hw _ (List.mem_of_getElem? (i := 43) rfl))) Via.refl e95 f96 (g := (mkF m 44 #[.val (.ref a), .val (.long x), .second, .val (.int (((x.toUInt64 >>> ((32 : Int32) &&& 0x3f).toInt64.toUInt64).toInt64).toInt32))] [(.ref a)])) rfl rfl (hb hby own_d6_44)
      refine OwnGo.back (T103.setTop (mkF m 47 #[.val (.ref a), .val (.long x), .second, .val (.int (((x.toUInt64 >>> ((32 : Int32) &&& 0x3f).toInt64.toUInt64).toInt64).toInt32))] [(.ref b85)])) (fun tg kk => st103 _ kk) ?_
      refine OwnGo.back (T103.setTop (mkF m 48 #[.val (.ref a), .val (.long x), .second, .val (.int (((x.toUInt64 >>> ((32 : Int32) &&& 0x3f).toInt64.toUInt64).toInt64).toInt32))] [(.int (0 : Int32)), (.ref b85)])) (fun tg kk => XS.iconst X103.here hx rfl (hb hby own_d6_47) kk) ?_
      refine OwnGo.back (T103.setTop (mkF m 49 #[.val (.ref a), .val (.long x), .second, .val (.int (((x.toUInt64 >>> ((32 : Int32) &&& 0x3f).toInt64.toUInt64).toInt64).toInt32))] [(.long x), (.int (0 : Int32)), (.ref b85)])) (fun tg kk => XS.lloadN X103.here hx rfl (hb hby own_d6_48) rfl kk) ?_
      refine OwnGo.back (T103.setTop (mkF m 50 #[.val (.ref a), .val (.long x), .second, .val (.int (((x.toUInt64 >>> ((32 : Int32) &&& 0x3f).toInt64.toUInt64).toInt64).toInt32))] [(.int (x.toInt32)), (.int (0 : Int32)), (.ref b85)])) (fun tg kk => XS.l2i X103.here hx rfl (hb hby own_d6_49) rfl kk) ?_
      obtain ⟨cl_104, Ar_104, qq_104, Sz_104, Ng_104, Hs_104, Gf_104⟩ := id f99
      have hin_104 : ¬ ((0 : Int32) < 0 ∨ cl_104.slots.size ≤ ((0 : Int32)).toNatClampNeg) := inb_of Sz_104 ⟨by decide, by decide⟩
      obtain ⟨T105, h105, X105, e105, W105, st105⟩ := stI X103 hx hZ e103 Ar_104 (j := (0 : Int32)) hin_104 (g := (mkF m 50 #[.val (.ref a), .val (.long x), .second, .val (.int (((x.toUInt64 >>> ((32 : Int32) &&& 0x3f).toInt64.toUInt64).toInt64).toInt32))] [(.int (x.toInt32)), (.int (0 : Int32)), (.ref b85)])) rfl rfl (hb hby own_d6_50)
      have f106 : Arv Z h105 b85 k85 .int (1 : Int32) [(.int (x.toInt32))] (.int (0 : Int32)) := Arv.set Ar_104 qq_104 Sz_104 Ng_104 Hs_104 Gf_104 rfl W105 0 rfl (Nat.le_of_ble_eq_true rfl)
      have f107 : Exa Z h105 a "java/math/BigInteger" := f97.wr W105
      have f108 : Fld Z h105 a "java/math/BigInteger" "signum" "I" (.int (1 : Int32)) := f98.other W105 (Or.inl n86)
      have f109 : Fld Z h105 a "java/math/BigInteger" "mag" "[I" (.ref b85) := f96.other W105 (Or.inl n86)
      have K110 : Keep h0 h105 [a] := K100.wr W105 (Or.inr s88)
      have Z111 : n0 ≤ h105.size := Nat.le_trans Z101 (Keep.of_wr W105).1
      have N112 := Fr.snoc X105 N102 g87
      refine OwnGo.back (T105.setTop (mkF m 51 #[.val (.ref a), .val (.long x), .second, .val (.int (((x.toUInt64 >>> ((32 : Int32) &&& 0x3f).toInt64.toUInt64).toInt64).toInt32))] [])) (fun tg kk => st105 _ kk) ?_
      refine OwnGo.back (T105.setTop (mkF m 76 #[.val (.ref a), .val (.long x), .second, .val (.int (((x.toUInt64 >>> ((32 : Int32) &&& 0x3f).toInt64.toUInt64).toInt64).toInt32))] [])) (fun tg kk => XS.goto X105.here hx rfl (pc0 := 51) (pc' := 76) rfl (hb hby own_d6_51) (by decide) (by decide) kk) ?_
      obtain ⟨fs, hr, hrun, hended, hW, hsame⟩ := X105.leave (v := none) (fun _ => rfl)
      refine ⟨_, _, ?_, hrun, hended, _, _, rfl, ?_, ⟨_, rfl⟩, hW, hsame.mono (by decide) (by decide)⟩
      · exact X105.returnOut hx Bd.returns (hb hby own_d6_76) hr
      · show own_bini_Q Z a x h0 n0 _ T105.heap _
        rw [e105]
        exact ⟨rfl, N112, K110, f107⟩
    ·
      refine OwnGo.back (T77.setTop (mkF m 54 #[.val (.ref a), .val (.long x), .second, .val (.int (((x.toUInt64 >>> ((32 : Int32) &&& 0x3f).toInt64.toUInt64).toInt64).toInt32))] [])) (fun tg kk => XS.ifYes X77.here hx rfl (pc0 := 33) (pc' := 54) rfl (hb hby own_d6_33) rfl ((if0 _ _).trans (feq hc84).2) (by decide) (by decide) kk) ?_
      refine OwnGo.back (T77.setTop (mkF m 55 #[.val (.ref a), .val (.long x), .second, .val (.int (((x.toUInt64 >>> ((32 : Int32) &&& 0x3f).toInt64.toUInt64).toInt64).toInt32))] [(.ref a)])) (fun tg kk => XS.aloadN X77.here hx rfl (hb hby own_d6_54) rfl rfl kk) ?_
      refine OwnGo.back (T77.setTop (mkF m 56 #[.val (.ref a), .val (.long x), .second, .val (.int (((x.toUInt64 >>> ((32 : Int32) &&& 0x3f).toInt64.toUInt64).toInt64).toInt32))] [(.int (2 : Int32)), (.ref a)])) (fun tg kk => XS.iconst X77.here hx rfl (hb hby own_d6_55) kk) ?_
      obtain ⟨T113, h113, k113, X113, e113, E113, A113, st113⟩ := newP X77 hx hZ (hw _ (List.mem_of_getElem? (i := 42) rfl)) e77 (g := (mkF m 56 #[.val (.ref a), .val (.long x), .second, .val (.int (((x.toUInt64 >>> ((32 : Int32) &&& 0x3f).toInt64.toUInt64).toInt64).toInt32))] [(.int (2 : Int32)), (.ref a)])) rfl (hb hby own_d6_56) rfl (by decide) (cap := 2) (by decide) (by decide) (by decide) (by decide)
      obtain ⟨b113, q113⟩ : ∃ z, z = h77.size := ⟨_, rfl⟩
      rw [← q113] at A113 st113
      have n114 : a ≠ b113 := own_ne f79.lt q113
      have g115 : n0 ≤ b113 := Nat.le_trans Z82 (Nat.le_of_eq q113.symm)
      have s116 : h0.size ≤ b113 := Nat.le_trans K81.1 (Nat.le_of_eq q113.symm)
      have f117 : Exa Z h113 a "java/math/BigInteger" := f79.ext E113
      have f118 : Fld Z h113 a "java/math/BigInteger" "mag" "[I" .null := f80.ext E113
      have f119 : Fld Z h113 a "java/math/BigInteger" "signum" "I" (.int (1 : Int32)) := f78.ext E113
      have K120 : Keep h0 h113 [a] := K81.ext E113
      have Z121 : n0 ≤ h113.size := Nat.le_trans Z82 E113.1
      have f122 : Arv Z h113 b113 k113 .int (2 : Int32) [(.int (0 : Int32)), (.int (0 : Int32))] (.int (0 : Int32)) := (Arv.new A113 (by decide)).pad (pad_rep [] (.int (0 : Int32)) 2)
      refine OwnGo.back (T113.setTop (mkF m 58 #[.val (.ref a), .val (.long x), .second, .val (.int (((x.toUInt64 >>> ((32 : Int32) &&& 0x3f).toInt64.toUInt64).toInt64).toInt32))] [(.ref b113), (.ref a)])) (fun tg kk => st113 _ kk) ?_
      obtain ⟨T123, h123, X123, e123, W123, st123⟩ := putF X113 hx hZ hown (host := "") (Or.inl (hw _ (List.mem_of_getElem? (i := 43) rfl))) Via.refl e113 f118 f117 (Or.inr ⟨(hw _ (List.mem_of_getElem? (i := 44) rfl)), rfl, hnm⟩) (hw _ (List.mem_of_getElem? (i := 28) rfl)) (ty := (.array .int)) (by decide) rfl rfl (g := (mkF m 58 #[.val (.ref a), .val (.long x), .second, .val (.int (((x.toUInt64 >>> ((32 : Int32) &&& 0x3f).toInt64.toUInt64).toInt64).toInt32))] [(.ref b113), (.ref a)])) rfl rfl (hb hby own_d6_58)
      have f124 : Fld Z h123 a "java/math/BigInteger" "mag" "[I" (.ref b113) := f118.same W123
      have f125 : Exa Z h123 a "java/math/BigInteger" := f117.wr W123
      have f126 : Fld Z h123 a "java/math/BigInteger" "signum" "I" (.int (1 : Int32)) := f119.other W123 (Or.inr (slot_ne (Or.inr (hw _ (List.mem_of_getElem? (i := 41) rfl))) (Or.inr (hw _ (List.mem_of_getElem? (i := 44) rfl))) (by decide) (t := .int) (t' := (.array .int)) (by decide) (by decide)))
      have f127 : Arv Z h123 b113 k113 .int (2 : Int32) [(.int (0 : Int32)), (.int (0 : Int32))] (.int (0 : Int32)) := f122.other W123 (Ne.symm n114)
      have K128 : Keep h0 h123 [a] := K120.wr W123 (Or.inl (List.mem_of_getElem? (i := 0) rfl))
      have Z129 : n0 ≤ h123.size := Nat.le_trans Z121 (Keep.of_wr W123).1
      have N130 := Fr.snoc X123 N83 H3
      refine OwnGo.back (T123.setTop (mkF m 61 #[.val (.ref a), .val (.long x), .second, .val (.int (((x.toUInt64 >>> ((32 : Int32) &&& 0x3f).toInt64.toUInt64).toInt64).toInt32))] [])) (fun tg kk => st123 _ kk) ?_
      refine OwnGo.back (T123.setTop (mkF m 62 #[.val (.ref a), .val (.long x), .second, .val (.int (((x.toUInt64 >>> ((32 : Int32) &&& 0x3f).toInt64.toUInt64).toInt64).toInt32))] [(.ref a)])) (fun tg kk => XS.aloadN X123.here hx rfl (hb hby own_d6_61) rfl rfl kk) ?_
      obtain ⟨T131, X131, e131, st131⟩ := getF X123 hx hZ hown (host := "") (Or.inl (hw _ (List.mem_of_getElem? (i := 43) rfl))) Via.refl e123 f124 (g := (mkF m 62 #[.val (.ref a), .val (.long x), .second, .val (.int (((x.toUInt64 >>> ((32 : Int32) &&& 0x3f).toInt64.toUInt64).toInt64).toInt32))] [(.ref a)])) rfl rfl (hb hby own_d6_62)
      refine OwnGo.back (T131.setTop (mkF m 65 #[.val (.ref a), .val (.long x), .second, .val (.int (((x.toUInt64 >>> ((32 : Int32) &&& 0x3f).toInt64.toUInt64).toInt64).toInt32))] [(.ref b113)])) (fun tg kk => st131 _ kk) ?_
      refine OwnGo.back (T131.setTop (mkF m 66 #[.val (.ref a), .val (.long x), .second, .val (.int (((x.toUInt64 >>> ((32 : Int32) &&& 0x3f).toInt64.toUInt64).toInt64).toInt32))] [(.int (0 : Int32)), (.ref b113)])) (fun tg kk => XS.iconst X131.here hx rfl (hb hby own_d6_65) kk) ?_
      refine OwnGo.back (T131.setTop (mkF m 67 #[.val (.ref a), .val (.long x), .second, .val (.int (((x.toUInt64 >>> ((32 : Int32) &&& 0x3f).toInt64.toUInt64).toInt64).toInt32))] [(.int (((x.toUInt64 >>> ((32 : Int32) &&& 0x3f).toInt64.toUInt64).toInt64).toInt32)), (.int (0 : Int32)), (.ref b113)])) (fun tg kk => XS.iloadN X131.here hx rfl (hb hby own_d6_66) rfl kk) ?_
      obtain ⟨cl_132, Ar_132, qq_132, Sz_132, Ng_132, Hs_132, Gf_132⟩ := id f127
      have hin_132 : ¬ ((0 : Int32) < 0 ∨ cl_132.slots.size ≤ ((0 : Int32)).toNatClampNeg) := inb_of Sz_132 ⟨by decide, by decide⟩
      obtain ⟨T133, h133, X133, e133, W133, st133⟩ := stI X131 hx hZ e131 Ar_132 (j := (0 : Int32)) hin_132 (g := (mkF m 67 #[.val (.ref a), .val (.long x), .second, .val (.int (((x.toUInt64 >>> ((32 : Int32) &&& 0x3f).toInt64.toUInt64).toInt64).toInt32))] [(.int (((x.toUInt64 >>> ((32 : Int32) &&& 0x3f).toInt64.toUInt64).toInt64).toInt32)), (.int (0 : Int32)), (.ref b113)])) rfl rfl (hb hby own_d6_67)
      have f134 : Arv Z h133 b113 k113 .int (2 : Int32) [(.int (((x.toUInt64 >>> ((32 : Int32) &&& 0x3f).toInt64.toUInt64).toInt64).toInt32)), (.int (0 : Int32))] (.int (0 : Int32)) := Arv.set Ar_132 qq_132 Sz_132 Ng_132 Hs_132 Gf_132 rfl W133 0 rfl (Nat.le_of_ble_eq_true rfl)
      have f135 : Exa Z h133 a "java/math/BigInteger" := f125.wr W133
      have f136 : Fld Z h133 a "java/math/BigInteger" "signum" "I" (.int (1 : Int32)) := f126.other W133 (Or.inl n114)
      have f137 : Fld Z h133 a "java/math/BigInteger" "mag" "[I" (.ref b113) := f124.other W133 (Or.inl n114)
      have K138 : Keep h0 h133 [a] := K128.wr W133 (Or.inr s116)
      have Z139 : n0 ≤ h133.size := Nat.le_trans Z129 (Keep.of_wr W133).1
      have N140 := Fr.snoc X133 N130 g115
      refine OwnGo.back (T133.setTop (mkF m 68 #[.val (.ref a), .val (.long x), .second, .val (.int (((x.toUInt64 >>> ((32 : Int32) &&& 0x3f).toInt64.toUInt64).toInt64).toInt32))] [])) (fun tg kk => st133 _ kk) ?_
      refine OwnGo.back (T133.setTop (mkF m 69 #[.val (.ref a), .val (.long x), .second, .val (.int (((x.toUInt64 >>> ((32 : Int32) &&& 0x3f).toInt64.toUInt64).toInt64).toInt32))] [(.ref a)])) (fun tg kk => XS.aloadN X133.here hx rfl (hb hby own_d6_68) rfl rfl kk) ?_
      obtain ⟨T141, X141, e141, st141⟩ := getF X133 hx hZ hown (host := "") (Or.inl (hw _ (List.mem_of_getElem? (i := 43) rfl))) Via.refl e133 f137 (g := (mkF m 69 #[.val (.ref a), .val (.long x), .second, .val (.int (((x.toUInt64 >>> ((32 : Int32) &&& 0x3f).toInt64.toUInt64).toInt64).toInt32))] [(.ref a)])) rfl rfl (hb hby own_d6_69)
      refine OwnGo.back (T141.setTop (mkF m 72 #[.val (.ref a), .val (.long x), .second, .val (.int (((x.toUInt64 >>> ((32 : Int32) &&& 0x3f).toInt64.toUInt64).toInt64).toInt32))] [(.ref b113)])) (fun tg kk => st141 _ kk) ?_
      refine OwnGo.back (T141.setTop (mkF m 73 #[.val (.ref a), .val (.long x), .second, .val (.int (((x.toUInt64 >>> ((32 : Int32) &&& 0x3f).toInt64.toUInt64).toInt64).toInt32))] [(.int (1 : Int32)), (.ref b113)])) (fun tg kk => XS.iconst X141.here hx rfl (hb hby own_d6_72) kk) ?_
      refine OwnGo.back (T141.setTop (mkF m 74 #[.val (.ref a), .val (.long x), .second, .val (.int (((x.toUInt64 >>> ((32 : Int32) &&& 0x3f).toInt64.toUInt64).toInt64).toInt32))] [(.long x), (.int (1 : Int32)), (.ref b113)])) (fun tg kk => XS.lloadN X141.here hx rfl (hb hby own_d6_73) rfl kk) ?_
      refine OwnGo.back (T141.setTop (mkF m 75 #[.val (.ref a), .val (.long x), .second, .val (.int (((x.toUInt64 >>> ((32 : Int32) &&& 0x3f).toInt64.toUInt64).toInt64).toInt32))] [(.int (x.toInt32)), (.int (1 : Int32)), (.ref b113)])) (fun tg kk => XS.l2i X141.here hx rfl (hb hby own_d6_74) rfl kk) ?_
      obtain ⟨cl_142, Ar_142, qq_142, Sz_142, Ng_142, Hs_142, Gf_142⟩ := id f134
      have hin_142 : ¬ ((1 : Int32) < 0 ∨ cl_142.slots.size ≤ ((1 : Int32)).toNatClampNeg) := inb_of Sz_142 ⟨by decide, by decide⟩
      obtain ⟨T143, h143, X143, e143, W143, st143⟩ := stI X141 hx hZ e141 Ar_142 (j := (1 : Int32)) hin_142 (g := (mkF m 75 #[.val (.ref a), .val (.long x), .second, .val (.int (((x.toUInt64 >>> ((32 : Int32) &&& 0x3f).toInt64.toUInt64).toInt64).toInt32))] [(.int (x.toInt32)), (.int (1 : Int32)), (.ref b113)])) rfl rfl (hb hby own_d6_75)
      have f144 : Arv Z h143 b113 k113 .int (2 : Int32) [(.int (((x.toUInt64 >>> ((32 : Int32) &&& 0x3f).toInt64.toUInt64).toInt64).toInt32)), (.int (x.toInt32))] (.int (0 : Int32)) := Arv.set Ar_142 qq_142 Sz_142 Ng_142 Hs_142 Gf_142 rfl W143 1 rfl (Nat.le_of_ble_eq_true rfl)
      have f145 : Exa Z h143 a "java/math/BigInteger" := f135.wr W143
      have f146 : Fld Z h143 a "java/math/BigInteger" "signum" "I" (.int (1 : Int32)) := f136.other W143 (Or.inl n114)
      have f147 : Fld Z h143 a "java/math/BigInteger" "mag" "[I" (.ref b113) := f137.other W143 (Or.inl n114)
      have K148 : Keep h0 h143 [a] := K138.wr W143 (Or.inr s116)
      have Z149 : n0 ≤ h143.size := Nat.le_trans Z139 (Keep.of_wr W143).1
      have N150 := Fr.snoc X143 N140 g115
      refine OwnGo.back (T143.setTop (mkF m 76 #[.val (.ref a), .val (.long x), .second, .val (.int (((x.toUInt64 >>> ((32 : Int32) &&& 0x3f).toInt64.toUInt64).toInt64).toInt32))] [])) (fun tg kk => st143 _ kk) ?_
      obtain ⟨fs, hr, hrun, hended, hW, hsame⟩ := X143.leave (v := none) (fun _ => rfl)
      refine ⟨_, _, ?_, hrun, hended, _, _, rfl, ?_, ⟨_, rfl⟩, hW, hsame.mono (by decide) (by decide)⟩
      · exact X143.returnOut hx Bd.returns (hb hby own_d6_76) hr
      · show own_bini_Q Z a x h0 n0 _ T143.heap _
        rw [e143]
        exact ⟨rfl, N150, K148, f145⟩
theorem own_bval_ef (m : MethodId) (x0 : Int64) : entryFrame m #[(.long x0)] 2 = mkF m 0 #[.val (.long x0), .second] [] := by first | (simp [entryFrame, mkF, argsToLocals, Value.category]; done) | rfl
def own_bval_Q (Z : State) (x : Int64) (bz : Addr) (bp : Addr) (bn : Addr) (h0 : Heap) (n0 : Nat) (rv : Option Value) (hN : Heap) (LL : List Loc) : Prop := ∃ (b : Addr), rv = some (.ref b) ∧ Fr n0 LL ∧ Keep h0 hN []
set_option maxRecDepth 65536 in
set_option maxHeartbeats 40000000 in
theorem own_bval (l : Launch) (Z : State) (a0 : Array Value) (hw : ∀ d ∈ tables_1, d.before a0 Z = true) (ws : List Jvm.Cond) (x : Int64) (bz : Addr) (bp : Addr) (bn : Addr) (h0 : Heap) (n0 : Nat) (Z0 : n0 ≤ h0.size) (SZ : Sta Z Z.heap "java/math/BigInteger" "ZERO" "Ljava/math/BigInteger;" (.ref bz)) (SP : Sta Z Z.heap "java/math/BigInteger" "posConst" "[Ljava/math/BigInteger;" (.ref bp)) (SN : Sta Z Z.heap "java/math/BigInteger" "negConst" "[Ljava/math/BigInteger;" (.ref bn)) (old : Old Z n0 h0) (hP : own_Big Z bp) (hN : own_Big Z bn) :
    MetFree l (⟨"java/math/BigInteger", "valueOf", "(J)Ljava/math/BigInteger;"⟩ : MethodName) (head1 (Jvm.Cond.code (⟨"java/math/BigInteger", "valueOf", "(J)Ljava/math/BigInteger;"⟩ : MethodName) jdk_2097_method_29_code 2 (some (.object "java/math/BigInteger")) :: ws) ({ frames := 3, cells := 2, slots := 8, locals := 40 } : Room)) (fun aa UU => aa = #[(.long x)] ∧ Z.Warmed39 UU.vm ∧ UU.heap = h0) (fun _ _ _ _ _ => True) (fun _ UU oo UU' => ∃ rv LL, oo = .returned rv ∧ own_bval_Q Z x bz bp bn h0 n0 rv UU'.heap LL ∧ FrameEnd UU oo UU' LL ({ frames := 3, cells := 2, slots := 8, locals := 40 } : Room).cells ({ frames := 3, cells := 2, slots := 8, locals := 40 } : Room).slots) := by
  refine MetFree.of_bodySF (plainFor_of_name own_pn3) hisR ?_
  intro p e s m args below meth c s₁ Bd hml0 hP hK
  obtain ⟨rfl, hZ, hh⟩ := hP
  have hx := Bd.exec
  have hby := Bd.bytes
  have hml : c.maxLocals = 2 := hml0
  have hown : s.vm.findClass "java/math/BigInteger" = some m.cls := findClass_of_methodNamed Bd.named
  have hnm := (name_of_methodNamed Bd.named Bd.method).1
  have X0 : Stand p l e ({ frames := 3, cells := 2, slots := 8, locals := 40 } : Room) s m #[(.long x)] below meth c s₁ [] 0 0 := Stand.of_body Bd
  have e0 : s₁.heap = h0 := by rw [← hh, Bd.state]; rfl
  have N0 := Fr.nil n0
  have K0 : Keep h0 h0 [] := Keep.refl h0 _
  refine (?_ : OwnGo p.tables e below (fun UU' oo => ∃ rv LL, oo = .returned rv ∧ own_bval_Q Z x bz bp bn h0 n0 rv UU'.heap LL ∧ FrameEnd s oo UU' LL ({ frames := 3, cells := 2, slots := 8, locals := 40 } : Room).cells ({ frames := 3, cells := 2, slots := 8, locals := 40 } : Room).slots) _)
  refine OwnGo.back (s₁.setTop (mkF m 0 #[.val (.long x), .second] [])) (fun tg kk => castTop (own_bval_ef m x) kk) ?_
  refine OwnGo.back (s₁.setTop (mkF m 1 #[.val (.long x), .second] [(.long x)])) (fun tg kk => XS.lloadN X0.here hx rfl (hb hby own_d5_0) rfl kk) ?_
  refine OwnGo.back (s₁.setTop (mkF m 2 #[.val (.long x), .second] [(.long (0 : Int64)), (.long x)])) (fun tg kk => XS.lconst X0.here hx rfl (hb hby own_d5_1) kk) ?_
  refine OwnGo.back (s₁.setTop (mkF m 3 #[.val (.long x), .second] [(.int (lcmpW x (0 : Int64)))])) (fun tg kk => XS.lcmp X0.here hx rfl (hb hby own_d5_2) rfl kk) ?_
  by_cases hc1 : x = (0 : Int64)
  ·
    refine OwnGo.back (s₁.setTop (mkF m 6 #[.val (.long x), .second] [])) (fun tg kk => XS.ifNo X0.here hx rfl (hb hby own_d5_3) rfl ((if0 _ _).trans (teq ((lw_eq _ _).mpr hc1)).2) kk) ?_
    obtain ⟨T2, X2, e2, st2⟩ := getS2 X0 hx hZ hown (host := "") (Or.inl (hw _ (List.mem_of_getElem? (i := 95) rfl))) Via.refl e0 (SZ.ext old.2) (g := (mkF m 6 #[.val (.long x), .second] [])) rfl (hb hby own_d5_6)
    refine OwnGo.back (T2.setTop (mkF m 9 #[.val (.long x), .second] [(.ref bz)])) (fun tg kk => st2 _ kk) ?_
    obtain ⟨fs, hr, hrun, hended, hW, hsame⟩ := X2.leave (v := some (.ref bz)) (fun h => by rw [Bd.returns] at h; cases h)
    refine ⟨_, _, ?_, hrun, hended, _, _, rfl, ?_, ⟨_, rfl⟩, hW, hsame.mono (by decide) (by decide)⟩
    · exact own_retA X2 hx Bd.returns rfl rfl rfl (hb hby own_d5_9) hr
    · show own_bval_Q Z x bz bp bn h0 n0 _ T2.heap _
      rw [e2]
      exact ⟨bz, rfl, N0, K0⟩
  ·
    refine OwnGo.back (s₁.setTop (mkF m 10 #[.val (.long x), .second] [])) (fun tg kk => XS.ifYes X0.here hx rfl (pc0 := 3) (pc' := 10) rfl (hb hby own_d5_3) rfl ((if0 _ _).trans (feq (own_not (lw_eq _ _) hc1)).2) (by decide) (by decide) kk) ?_
    refine OwnGo.back (s₁.setTop (mkF m 11 #[.val (.long x), .second] [(.long x)])) (fun tg kk => XS.lloadN X0.here hx rfl (hb hby own_d5_10) rfl kk) ?_
    refine OwnGo.back (s₁.setTop (mkF m 12 #[.val (.long x), .second] [(.long (0 : Int64)), (.long x)])) (fun tg kk => XS.lconst X0.here hx rfl (hb hby own_d5_11) kk) ?_
    refine OwnGo.back (s₁.setTop (mkF m 13 #[.val (.long x), .second] [(.int (lcmpW x (0 : Int64)))])) (fun tg kk => XS.lcmp X0.here hx rfl (hb hby own_d5_12) rfl kk) ?_
    by_cases hc3 : (0 : Int64) < x
    ·
      refine OwnGo.back (s₁.setTop (mkF m 16 #[.val (.long x), .second] [])) (fun tg kk => XS.ifNo X0.here hx rfl (hb hby own_d5_13) rfl ((if0 _ _).trans (tlt ((lw_gt _ _).mpr hc3)).2.2.2) kk) ?_
      refine OwnGo.back (s₁.setTop (mkF m 17 #[.val (.long x), .second] [(.long x)])) (fun tg kk => XS.lloadN X0.here hx rfl (hb hby own_d5_16) rfl kk) ?_
      refine OwnGo.back (s₁.setTop (mkF m 20 #[.val (.long x), .second] [(.long (16 : Int64)), (.long x)])) (fun tg kk => Jvm.Stand.ldc2J X0 hx hown (mvT hZ (hw _ (List.mem_of_getElem? (i := 91) rfl))) rfl (hb hby own_d5_17) kk) ?_
      refine OwnGo.back (s₁.setTop (mkF m 21 #[.val (.long x), .second] [(.int (lcmpW x (16 : Int64)))])) (fun tg kk => XS.lcmp X0.here hx rfl (hb hby own_d5_20) rfl kk) ?_
      by_cases hc4 : (16 : Int64) < x
      ·
        refine OwnGo.back (s₁.setTop (mkF m 31 #[.val (.long x), .second] [])) (fun tg kk => XS.ifYes X0.here hx rfl (pc0 := 21) (pc' := 31) rfl (hb hby own_d5_21) rfl ((if0 _ _).trans (tlt ((lw_gt _ _).mpr hc4)).2.2.1) (by decide) (by decide) kk) ?_
        refine OwnGo.back (s₁.setTop (mkF m 32 #[.val (.long x), .second] [(.long x)])) (fun tg kk => XS.lloadN X0.here hx rfl (hb hby own_d5_31) rfl kk) ?_
        refine OwnGo.back (s₁.setTop (mkF m 33 #[.val (.long x), .second] [(.long (0 : Int64)), (.long x)])) (fun tg kk => XS.lconst X0.here hx rfl (hb hby own_d5_32) kk) ?_
        refine OwnGo.back (s₁.setTop (mkF m 34 #[.val (.long x), .second] [(.int (lcmpW x (0 : Int64)))])) (fun tg kk => XS.lcmp X0.here hx rfl (hb hby own_d5_33) rfl kk) ?_
        by_cases hc5 : x < (0 : Int64)
        ·
          refine OwnGo.back (s₁.setTop (mkF m 37 #[.val (.long x), .second] [])) (fun tg kk => XS.ifNo X0.here hx rfl (hb hby own_d5_34) rfl ((if0 _ _).trans (tlt ((lw_lt _ _).mpr hc5)).2.1) kk) ?_
          refine OwnGo.back (s₁.setTop (mkF m 38 #[.val (.long x), .second] [(.long x)])) (fun tg kk => XS.lloadN X0.here hx rfl (hb hby own_d5_37) rfl kk) ?_
          refine OwnGo.back (s₁.setTop (mkF m 41 #[.val (.long x), .second] [(.long (-16 : Int64)), (.long x)])) (fun tg kk => Jvm.Stand.ldc2J X0 hx hown (mvT hZ (hw _ (List.mem_of_getElem? (i := 26) rfl))) rfl (hb hby own_d5_38) kk) ?_
          refine OwnGo.back (s₁.setTop (mkF m 42 #[.val (.long x), .second] [(.int (lcmpW x (-16 : Int64)))])) (fun tg kk => XS.lcmp X0.here hx rfl (hb hby own_d5_41) rfl kk) ?_
          by_cases hc6 : x < (-16 : Int64)
          ·
            refine OwnGo.back (s₁.setTop (mkF m 53 #[.val (.long x), .second] [])) (fun tg kk => XS.ifYes X0.here hx rfl (pc0 := 42) (pc' := 53) rfl (hb hby own_d5_42) rfl ((if0 _ _).trans (tlt ((lw_lt _ _).mpr hc6)).1) (by decide) (by decide) kk) ?_
            obtain ⟨T7, h7, X7, e7, E7, A7, D7, -, st7⟩ := newO X0 hx hZ hown (hw _ (List.mem_of_getElem? (i := 27) rfl)) (hw _ (List.mem_of_getElem? (i := 28) rfl)) (hw _ (List.mem_of_getElem? (i := 24) rfl)) e0 (g := (mkF m 53 #[.val (.long x), .second] [])) rfl (hb hby own_d5_53) (by decide) (by decide)
            obtain ⟨b7, q7⟩ : ∃ z, z = h0.size := ⟨_, rfl⟩
            rw [← q7] at A7 D7 st7
            have g8 : n0 ≤ b7 := Nat.le_trans Z0 (Nat.le_of_eq q7.symm)
            have s9 : h0.size ≤ b7 := Nat.le_trans K0.1 (Nat.le_of_eq q7.symm)
            have f10 : Old Z n0 h7 := old.ext E7
            have K11 : Keep h0 h7 [] := K0.ext E7
            have Z12 : n0 ≤ h7.size := Nat.le_trans Z0 E7.1
            have f13 : Fld Z h7 b7 "java/math/BigInteger" "signum" "I" (.int (0 : Int32)) := D7 (Or.inr (hw _ (List.mem_of_getElem? (i := 41) rfl))) (ty := .int) (by decide)
            have f14 : Fld Z h7 b7 "java/math/BigInteger" "mag" "[I" .null := D7 (Or.inr (hw _ (List.mem_of_getElem? (i := 44) rfl))) (ty := (.array .int)) (by decide)
            refine OwnGo.back (T7.setTop (mkF m 56 #[.val (.long x), .second] [(.ref b7)])) (fun tg kk => st7 _ kk) ?_
            refine OwnGo.back (T7.setTop (mkF m 57 #[.val (.long x), .second] [(.ref b7), (.ref b7)])) (fun tg kk => XS.dup X7.here hx rfl (hb hby own_d5_56) rfl rfl kk) ?_
            refine OwnGo.back (T7.setTop (mkF m 58 #[.val (.long x), .second] [(.long x), (.ref b7), (.ref b7)])) (fun tg kk => XS.lloadN X7.here hx rfl (hb hby own_d5_57) rfl kk) ?_
            obtain ⟨_, _, ⟨T15, L15, k15, n15⟩, -, X15, ⟨Lc15, hQ15, l15, y15, z15⟩, st15⟩ := X7.specialBack hx (y := (⟨"java/math/BigInteger", "<init>", "(J)V"⟩ : MethodName)) rfl hown (mvT hZ (hw _ (List.mem_of_getElem? (i := 29) rfl))) (mvT hZ (hw _ (List.mem_of_getElem? (i := 30) rfl))) (mvT hZ (hw _ (List.mem_of_getElem? (i := 32) rfl))) (by decide) (backOf (W := 1) (own_bini l Z a0 hw [] b7 x h7 n0 Z12 A7 f13 f14 g8) hZ (hw _ (List.mem_of_getElem? (i := 32) rfl)) (hw _ (List.mem_of_getElem? (i := 24) rfl)) (by decide) (by decide)) (g := (mkF m 58 #[.val (.long x), .second] [(.long x), (.ref b7), (.ref b7)])) rfl (by rw [hml]; rfl) (Steps.refl _) (a := b7) (argsL := [(.long x)]) (rest := [(.ref b7)]) (lenOf own_pd2 rfl) rfl (by show 2 * 0 + _ ≤ _; exact Nat.le_of_eq rfl) (hb hby own_d5_58) (fun _ _ => ⟨rfl, e7, (by decide : 1 + 1 ≤ _), (by decide : 6 + 2 ≤ _)⟩)
            dsimp only [Pt.U, Pt.locs, Pt.cells, Pt.slots] at X15 l15 y15 z15 st15 hQ15
            subst l15 y15 z15
            obtain ⟨rfl, N15q, Kc15, po16⟩ := hQ15
            have N15 := Fr.app N0 N15q
            have f17 : Old Z n0 T15.heap := f10.keep Kc15 (allS g8 all0)
            have f18 : Exa Z T15.heap b7 "java/math/BigInteger" := A7.keep Kc15
            have K19 : Keep h0 T15.heap [] := K11.trans Kc15 (allS (Or.inr s9) all0)
            have Z20 : n0 ≤ T15.heap.size := Nat.le_trans Z12 Kc15.1
            refine OwnGo.back (T15.setTop (mkF m 61 #[.val (.long x), .second] [(.ref b7)])) (fun tg kk => st15.trans kk) ?_
            obtain ⟨fs, hr, hrun, hended, hW, hsame⟩ := X15.leave (v := some (.ref b7)) (fun h => by rw [Bd.returns] at h; cases h)
            refine ⟨_, _, ?_, hrun, hended, _, _, rfl, ?_, ⟨_, rfl⟩, hW, hsame.mono (by decide) (by decide)⟩
            · exact own_retA X15 hx Bd.returns rfl rfl rfl (hb hby own_d5_61) hr
            · show own_bval_Q Z x bz bp bn h0 n0 _ T15.heap _
              exact ⟨b7, rfl, N15, K19⟩
          ·
            refine OwnGo.back (s₁.setTop (mkF m 45 #[.val (.long x), .second] [])) (fun tg kk => XS.ifNo X0.here hx rfl (hb hby own_d5_42) rfl ((if0 _ _).trans (flt (own_not (lw_lt _ _) hc6)).1) kk) ?_
            obtain ⟨T21, X21, e21, st21⟩ := getS2 X0 hx hZ hown (host := "") (Or.inl (hw _ (List.mem_of_getElem? (i := 94) rfl))) Via.refl e0 (SN.ext old.2) (g := (mkF m 45 #[.val (.long x), .second] [])) rfl (hb hby own_d5_45)
            refine OwnGo.back (T21.setTop (mkF m 48 #[.val (.long x), .second] [(.ref bn)])) (fun tg kk => st21 _ kk) ?_
            refine OwnGo.back (T21.setTop (mkF m 49 #[.val (.long x), .second] [(.long x), (.ref bn)])) (fun tg kk => XS.lloadN X21.here hx rfl (hb hby own_d5_48) rfl kk) ?_
            refine OwnGo.back (T21.setTop (mkF m 50 #[.val (.long x), .second] [(.long (-x)), (.ref bn)])) (fun tg kk => XS.lneg X21.here hx rfl (hb hby own_d5_49) rfl kk) ?_
            refine OwnGo.back (T21.setTop (mkF m 51 #[.val (.long x), .second] [(.int ((-x).toInt32)), (.ref bn)])) (fun tg kk => XS.l2i X21.here hx rfl (hb hby own_d5_50) rfl kk) ?_
            obtain ⟨cl22, Ar22, sz22, el22⟩ := id hN
            have hj22 := own_neg hc5 hc6
            have hin22 : ¬ (((-x).toInt32) < 0 ∨ cl22.slots.size ≤ (((-x).toInt32)).toNatClampNeg) := by rw [sz22]; exact own_in17 hj22
            obtain ⟨y22, hat22⟩ := el22 _ hj22.1 hj22.2
            have Ah22 := Ar22.ext old.2
            refine OwnGo.back (T21.setTop (mkF m 52 #[.val (.long x), .second] [(.ref y22)])) (fun tg kk => X21.aaload hx (j := ((-x).toInt32)) (v := (.ref y22)) (by rw [e21]; exact Ah22.1) (State.isArrayOf_alike hZ.alike Ah22.2.1) rfl Ah22.2.2 hin22 hat22 (g := (mkF m 51 #[.val (.long x), .second] [(.int ((-x).toInt32)), (.ref bn)])) rfl rfl (hb hby own_d5_51) _ kk) ?_
            obtain ⟨fs, hr, hrun, hended, hW, hsame⟩ := X21.leave (v := some (.ref y22)) (fun h => by rw [Bd.returns] at h; cases h)
            refine ⟨_, _, ?_, hrun, hended, _, _, rfl, ?_, ⟨_, rfl⟩, hW, hsame.mono (by decide) (by decide)⟩
            · exact own_retA X21 hx Bd.returns rfl rfl rfl (hb hby own_d5_52) hr
            · show own_bval_Q Z x bz bp bn h0 n0 _ T21.heap _
              rw [e21]
              exact ⟨y22, rfl, N0, K0⟩
        ·
          refine OwnGo.back (s₁.setTop (mkF m 53 #[.val (.long x), .second] [])) (fun tg kk => XS.ifYes X0.here hx rfl (pc0 := 34) (pc' := 53) rfl (hb hby own_d5_34) rfl ((if0 _ _).trans (flt (own_not (lw_lt _ _) hc5)).2.1) (by decide) (by decide) kk) ?_
          obtain ⟨T23, h23, X23, e23, E23, A23, D23, -, st23⟩ := newO X0 hx hZ hown (hw _ (List.mem_of_getElem? (i := 27) rfl)) (hw _ (List.mem_of_getElem? (i := 28) rfl)) (hw _ (List.mem_of_getElem? (i := 24) rfl)) e0 (g := (mkF m 53 #[.val (.long x), .second] [])) rfl (hb hby own_d5_53) (by decide) (by decide)
          obtain ⟨b23, q23⟩ : ∃ z, z = h0.size := ⟨_, rfl⟩
          rw [← q23] at A23 D23 st23
          have g24 : n0 ≤ b23 := Nat.le_trans Z0 (Nat.le_of_eq q23.symm)
          have s25 : h0.size ≤ b23 := Nat.le_trans K0.1 (Nat.le_of_eq q23.symm)
          have f26 : Old Z n0 h23 := old.ext E23
          have K27 : Keep h0 h23 [] := K0.ext E23
          have Z28 : n0 ≤ h23.size := Nat.le_trans Z0 E23.1
          have f29 : Fld Z h23 b23 "java/math/BigInteger" "signum" "I" (.int (0 : Int32)) := D23 (Or.inr (hw _ (List.mem_of_getElem? (i := 41) rfl))) (ty := .int) (by decide)
          have f30 : Fld Z h23 b23 "java/math/BigInteger" "mag" "[I" .null := D23 (Or.inr (hw _ (List.mem_of_getElem? (i := 44) rfl))) (ty := (.array .int)) (by decide)
          refine OwnGo.back (T23.setTop (mkF m 56 #[.val (.long x), .second] [(.ref b23)])) (fun tg kk => st23 _ kk) ?_
          refine OwnGo.back (T23.setTop (mkF m 57 #[.val (.long x), .second] [(.ref b23), (.ref b23)])) (fun tg kk => XS.dup X23.here hx rfl (hb hby own_d5_56) rfl rfl kk) ?_
          refine OwnGo.back (T23.setTop (mkF m 58 #[.val (.long x), .second] [(.long x), (.ref b23), (.ref b23)])) (fun tg kk => XS.lloadN X23.here hx rfl (hb hby own_d5_57) rfl kk) ?_
          obtain ⟨_, _, ⟨T31, L31, k31, n31⟩, -, X31, ⟨Lc31, hQ31, l31, y31, z31⟩, st31⟩ := X23.specialBack hx (y := (⟨"java/math/BigInteger", "<init>", "(J)V"⟩ : MethodName)) rfl hown (mvT hZ (hw _ (List.mem_of_getElem? (i := 29) rfl))) (mvT hZ (hw _ (List.mem_of_getElem? (i := 30) rfl))) (mvT hZ (hw _ (List.mem_of_getElem? (i := 32) rfl))) (by decide) (backOf (W := 1) (own_bini l Z a0 hw [] b23 x h23 n0 Z28 A23 f29 f30 g24) hZ (hw _ (List.mem_of_getElem? (i := 32) rfl)) (hw _ (List.mem_of_getElem? (i := 24) rfl)) (by decide) (by decide)) (g := (mkF m 58 #[.val (.long x), .second] [(.long x), (.ref b23), (.ref b23)])) rfl (by rw [hml]; rfl) (Steps.refl _) (a := b23) (argsL := [(.long x)]) (rest := [(.ref b23)]) (lenOf own_pd2 rfl) rfl (by show 2 * 0 + _ ≤ _; exact Nat.le_of_eq rfl) (hb hby own_d5_58) (fun _ _ => ⟨rfl, e23, (by decide : 1 + 1 ≤ _), (by decide : 6 + 2 ≤ _)⟩)
          dsimp only [Pt.U, Pt.locs, Pt.cells, Pt.slots] at X31 l31 y31 z31 st31 hQ31
          subst l31 y31 z31
          obtain ⟨rfl, N31q, Kc31, po32⟩ := hQ31
          have N31 := Fr.app N0 N31q
          have f33 : Old Z n0 T31.heap := f26.keep Kc31 (allS g24 all0)
          have f34 : Exa Z T31.heap b23 "java/math/BigInteger" := A23.keep Kc31
          have K35 : Keep h0 T31.heap [] := K27.trans Kc31 (allS (Or.inr s25) all0)
          have Z36 : n0 ≤ T31.heap.size := Nat.le_trans Z28 Kc31.1
          refine OwnGo.back (T31.setTop (mkF m 61 #[.val (.long x), .second] [(.ref b23)])) (fun tg kk => st31.trans kk) ?_
          obtain ⟨fs, hr, hrun, hended, hW, hsame⟩ := X31.leave (v := some (.ref b23)) (fun h => by rw [Bd.returns] at h; cases h)
          refine ⟨_, _, ?_, hrun, hended, _, _, rfl, ?_, ⟨_, rfl⟩, hW, hsame.mono (by decide) (by decide)⟩
          · exact own_retA X31 hx Bd.returns rfl rfl rfl (hb hby own_d5_61) hr
          · show own_bval_Q Z x bz bp bn h0 n0 _ T31.heap _
            exact ⟨b23, rfl, N31, K35⟩
      ·
        refine OwnGo.back (s₁.setTop (mkF m 24 #[.val (.long x), .second] [])) (fun tg kk => XS.ifNo X0.here hx rfl (hb hby own_d5_21) rfl ((if0 _ _).trans (flt (own_not (lw_gt _ _) hc4)).2.2.1) kk) ?_
        obtain ⟨T37, X37, e37, st37⟩ := getS2 X0 hx hZ hown (host := "") (Or.inl (hw _ (List.mem_of_getElem? (i := 92) rfl))) Via.refl e0 (SP.ext old.2) (g := (mkF m 24 #[.val (.long x), .second] [])) rfl (hb hby own_d5_24)
        refine OwnGo.back (T37.setTop (mkF m 27 #[.val (.long x), .second] [(.ref bp)])) (fun tg kk => st37 _ kk) ?_
        refine OwnGo.back (T37.setTop (mkF m 28 #[.val (.long x), .second] [(.long x), (.ref bp)])) (fun tg kk => XS.lloadN X37.here hx rfl (hb hby own_d5_27) rfl kk) ?_
        refine OwnGo.back (T37.setTop (mkF m 29 #[.val (.long x), .second] [(.int (x.toInt32)), (.ref bp)])) (fun tg kk => XS.l2i X37.here hx rfl (hb hby own_d5_28) rfl kk) ?_
        obtain ⟨cl38, Ar38, sz38, el38⟩ := id hP
        have hj38 := own_pos hc3 hc4
        have hin38 : ¬ ((x.toInt32) < 0 ∨ cl38.slots.size ≤ ((x.toInt32)).toNatClampNeg) := by rw [sz38]; exact own_in17 hj38
        obtain ⟨y38, hat38⟩ := el38 _ hj38.1 hj38.2
        have Ah38 := Ar38.ext old.2
        refine OwnGo.back (T37.setTop (mkF m 30 #[.val (.long x), .second] [(.ref y38)])) (fun tg kk => X37.aaload hx (j := (x.toInt32)) (v := (.ref y38)) (by rw [e37]; exact Ah38.1) (State.isArrayOf_alike hZ.alike Ah38.2.1) rfl Ah38.2.2 hin38 hat38 (g := (mkF m 29 #[.val (.long x), .second] [(.int (x.toInt32)), (.ref bp)])) rfl rfl (hb hby own_d5_29) _ kk) ?_
        obtain ⟨fs, hr, hrun, hended, hW, hsame⟩ := X37.leave (v := some (.ref y38)) (fun h => by rw [Bd.returns] at h; cases h)
        refine ⟨_, _, ?_, hrun, hended, _, _, rfl, ?_, ⟨_, rfl⟩, hW, hsame.mono (by decide) (by decide)⟩
        · exact own_retA X37 hx Bd.returns rfl rfl rfl (hb hby own_d5_30) hr
        · show own_bval_Q Z x bz bp bn h0 n0 _ T37.heap _
          rw [e37]
          exact ⟨y38, rfl, N0, K0⟩
    ·
      refine OwnGo.back (s₁.setTop (mkF m 31 #[.val (.long x), .second] [])) (fun tg kk => XS.ifYes X0.here hx rfl (pc0 := 13) (pc' := 31) rfl (hb hby own_d5_13) rfl ((if0 _ _).trans (flt (own_not (lw_gt _ _) hc3)).2.2.2) (by decide) (by decide) kk) ?_
      refine OwnGo.back (s₁.setTop (mkF m 32 #[.val (.long x), .second] [(.long x)])) (fun tg kk => XS.lloadN X0.here hx rfl (hb hby own_d5_31) rfl kk) ?_
      refine OwnGo.back (s₁.setTop (mkF m 33 #[.val (.long x), .second] [(.long (0 : Int64)), (.long x)])) (fun tg kk => XS.lconst X0.here hx rfl (hb hby own_d5_32) kk) ?_
      refine OwnGo.back (s₁.setTop (mkF m 34 #[.val (.long x), .second] [(.int (lcmpW x (0 : Int64)))])) (fun tg kk => XS.lcmp X0.here hx rfl (hb hby own_d5_33) rfl kk) ?_
      by_cases hc39 : x < (0 : Int64)
      ·
        refine OwnGo.back (s₁.setTop (mkF m 37 #[.val (.long x), .second] [])) (fun tg kk => XS.ifNo X0.here hx rfl (hb hby own_d5_34) rfl ((if0 _ _).trans (tlt ((lw_lt _ _).mpr hc39)).2.1) kk) ?_
        refine OwnGo.back (s₁.setTop (mkF m 38 #[.val (.long x), .second] [(.long x)])) (fun tg kk => XS.lloadN X0.here hx rfl (hb hby own_d5_37) rfl kk) ?_
        refine OwnGo.back (s₁.setTop (mkF m 41 #[.val (.long x), .second] [(.long (-16 : Int64)), (.long x)])) (fun tg kk => Jvm.Stand.ldc2J X0 hx hown (mvT hZ (hw _ (List.mem_of_getElem? (i := 26) rfl))) rfl (hb hby own_d5_38) kk) ?_
        refine OwnGo.back (s₁.setTop (mkF m 42 #[.val (.long x), .second] [(.int (lcmpW x (-16 : Int64)))])) (fun tg kk => XS.lcmp X0.here hx rfl (hb hby own_d5_41) rfl kk) ?_
        by_cases hc40 : x < (-16 : Int64)
        ·
          refine OwnGo.back (s₁.setTop (mkF m 53 #[.val (.long x), .second] [])) (fun tg kk => XS.ifYes X0.here hx rfl (pc0 := 42) (pc' := 53) rfl (hb hby own_d5_42) rfl ((if0 _ _).trans (tlt ((lw_lt _ _).mpr hc40)).1) (by decide) (by decide) kk) ?_
          obtain ⟨T41, h41, X41, e41, E41, A41, D41, -, st41⟩ := newO X0 hx hZ hown (hw _ (List.mem_of_getElem? (i := 27) rfl)) (hw _ (List.mem_of_getElem? (i := 28) rfl)) (hw _ (List.mem_of_getElem? (i := 24) rfl)) e0 (g := (mkF m 53 #[.val (.long x), .second] [])) rfl (hb hby own_d5_53) (by decide) (by decide)
          obtain ⟨b41, q41⟩ : ∃ z, z = h0.size := ⟨_, rfl⟩
          rw [← q41] at A41 D41 st41
          have g42 : n0 ≤ b41 := Nat.le_trans Z0 (Nat.le_of_eq q41.symm)
          have s43 : h0.size ≤ b41 := Nat.le_trans K0.1 (Nat.le_of_eq q41.symm)
          have f44 : Old Z n0 h41 := old.ext E41
          have K45 : Keep h0 h41 [] := K0.ext E41
          have Z46 : n0 ≤ h41.size := Nat.le_trans Z0 E41.1
          have f47 : Fld Z h41 b41 "java/math/BigInteger" "signum" "I" (.int (0 : Int32)) := D41 (Or.inr (hw _ (List.mem_of_getElem? (i := 41) rfl))) (ty := .int) (by decide)
          have f48 : Fld Z h41 b41 "java/math/BigInteger" "mag" "[I" .null := D41 (Or.inr (hw _ (List.mem_of_getElem? (i := 44) rfl))) (ty := (.array .int)) (by decide)
          refine OwnGo.back (T41.setTop (mkF m 56 #[.val (.long x), .second] [(.ref b41)])) (fun tg kk => st41 _ kk) ?_
          refine OwnGo.back (T41.setTop (mkF m 57 #[.val (.long x), .second] [(.ref b41), (.ref b41)])) (fun tg kk => XS.dup X41.here hx rfl (hb hby own_d5_56) rfl rfl kk) ?_
          refine OwnGo.back (T41.setTop (mkF m 58 #[.val (.long x), .second] [(.long x), (.ref b41), (.ref b41)])) (fun tg kk => XS.lloadN X41.here hx rfl (hb hby own_d5_57) rfl kk) ?_
          obtain ⟨_, _, ⟨T49, L49, k49, n49⟩, -, X49, ⟨Lc49, hQ49, l49, y49, z49⟩, st49⟩ := X41.specialBack hx (y := (⟨"java/math/BigInteger", "<init>", "(J)V"⟩ : MethodName)) rfl hown (mvT hZ (hw _ (List.mem_of_getElem? (i := 29) rfl))) (mvT hZ (hw _ (List.mem_of_getElem? (i := 30) rfl))) (mvT hZ (hw _ (List.mem_of_getElem? (i := 32) rfl))) (by decide) (backOf (W := 1) (own_bini l Z a0 hw [] b41 x h41 n0 Z46 A41 f47 f48 g42) hZ (hw _ (List.mem_of_getElem? (i := 32) rfl)) (hw _ (List.mem_of_getElem? (i := 24) rfl)) (by decide) (by decide)) (g := (mkF m 58 #[.val (.long x), .second] [(.long x), (.ref b41), (.ref b41)])) rfl (by rw [hml]; rfl) (Steps.refl _) (a := b41) (argsL := [(.long x)]) (rest := [(.ref b41)]) (lenOf own_pd2 rfl) rfl (by show 2 * 0 + _ ≤ _; exact Nat.le_of_eq rfl) (hb hby own_d5_58) (fun _ _ => ⟨rfl, e41, (by decide : 1 + 1 ≤ _), (by decide : 6 + 2 ≤ _)⟩)
          dsimp only [Pt.U, Pt.locs, Pt.cells, Pt.slots] at X49 l49 y49 z49 st49 hQ49
          subst l49 y49 z49
          obtain ⟨rfl, N49q, Kc49, po50⟩ := hQ49
          have N49 := Fr.app N0 N49q
          have f51 : Old Z n0 T49.heap := f44.keep Kc49 (allS g42 all0)
          have f52 : Exa Z T49.heap b41 "java/math/BigInteger" := A41.keep Kc49
          have K53 : Keep h0 T49.heap [] := K45.trans Kc49 (allS (Or.inr s43) all0)
          have Z54 : n0 ≤ T49.heap.size := Nat.le_trans Z46 Kc49.1
          refine OwnGo.back (T49.setTop (mkF m 61 #[.val (.long x), .second] [(.ref b41)])) (fun tg kk => st49.trans kk) ?_
          obtain ⟨fs, hr, hrun, hended, hW, hsame⟩ := X49.leave (v := some (.ref b41)) (fun h => by rw [Bd.returns] at h; cases h)
          refine ⟨_, _, ?_, hrun, hended, _, _, rfl, ?_, ⟨_, rfl⟩, hW, hsame.mono (by decide) (by decide)⟩
          · exact own_retA X49 hx Bd.returns rfl rfl rfl (hb hby own_d5_61) hr
          · show own_bval_Q Z x bz bp bn h0 n0 _ T49.heap _
            exact ⟨b41, rfl, N49, K53⟩
        ·
          refine OwnGo.back (s₁.setTop (mkF m 45 #[.val (.long x), .second] [])) (fun tg kk => XS.ifNo X0.here hx rfl (hb hby own_d5_42) rfl ((if0 _ _).trans (flt (own_not (lw_lt _ _) hc40)).1) kk) ?_
          obtain ⟨T55, X55, e55, st55⟩ := getS2 X0 hx hZ hown (host := "") (Or.inl (hw _ (List.mem_of_getElem? (i := 94) rfl))) Via.refl e0 (SN.ext old.2) (g := (mkF m 45 #[.val (.long x), .second] [])) rfl (hb hby own_d5_45)
          refine OwnGo.back (T55.setTop (mkF m 48 #[.val (.long x), .second] [(.ref bn)])) (fun tg kk => st55 _ kk) ?_
          refine OwnGo.back (T55.setTop (mkF m 49 #[.val (.long x), .second] [(.long x), (.ref bn)])) (fun tg kk => XS.lloadN X55.here hx rfl (hb hby own_d5_48) rfl kk) ?_
          refine OwnGo.back (T55.setTop (mkF m 50 #[.val (.long x), .second] [(.long (-x)), (.ref bn)])) (fun tg kk => XS.lneg X55.here hx rfl (hb hby own_d5_49) rfl kk) ?_
          refine OwnGo.back (T55.setTop (mkF m 51 #[.val (.long x), .second] [(.int ((-x).toInt32)), (.ref bn)])) (fun tg kk => XS.l2i X55.here hx rfl (hb hby own_d5_50) rfl kk) ?_
          obtain ⟨cl56, Ar56, sz56, el56⟩ := id hN
          have hj56 := own_neg hc39 hc40
          have hin56 : ¬ (((-x).toInt32) < 0 ∨ cl56.slots.size ≤ (((-x).toInt32)).toNatClampNeg) := by rw [sz56]; exact own_in17 hj56
          obtain ⟨y56, hat56⟩ := el56 _ hj56.1 hj56.2
          have Ah56 := Ar56.ext old.2
          refine OwnGo.back (T55.setTop (mkF m 52 #[.val (.long x), .second] [(.ref y56)])) (fun tg kk => X55.aaload hx (j := ((-x).toInt32)) (v := (.ref y56)) (by rw [e55]; exact Ah56.1) (State.isArrayOf_alike hZ.alike Ah56.2.1) rfl Ah56.2.2 hin56 hat56 (g := (mkF m 51 #[.val (.long x), .second] [(.int ((-x).toInt32)), (.ref bn)])) rfl rfl (hb hby own_d5_51) _ kk) ?_
          obtain ⟨fs, hr, hrun, hended, hW, hsame⟩ := X55.leave (v := some (.ref y56)) (fun h => by rw [Bd.returns] at h; cases h)
          refine ⟨_, _, ?_, hrun, hended, _, _, rfl, ?_, ⟨_, rfl⟩, hW, hsame.mono (by decide) (by decide)⟩
          · exact own_retA X55 hx Bd.returns rfl rfl rfl (hb hby own_d5_52) hr
          · show own_bval_Q Z x bz bp bn h0 n0 _ T55.heap _
            rw [e55]
            exact ⟨y56, rfl, N0, K0⟩
      ·
        refine OwnGo.back (s₁.setTop (mkF m 53 #[.val (.long x), .second] [])) (fun tg kk => XS.ifYes X0.here hx rfl (pc0 := 34) (pc' := 53) rfl (hb hby own_d5_34) rfl ((if0 _ _).trans (flt (own_not (lw_lt _ _) hc39)).2.1) (by decide) (by decide) kk) ?_
        obtain ⟨T57, h57, X57, e57, E57, A57, D57, -, st57⟩ := newO X0 hx hZ hown (hw _ (List.mem_of_getElem? (i := 27) rfl)) (hw _ (List.mem_of_getElem? (i := 28) rfl)) (hw _ (List.mem_of_getElem? (i := 24) rfl)) e0 (g := (mkF m 53 #[.val (.long x), .second] [])) rfl (hb hby own_d5_53) (by decide) (by decide)
        obtain ⟨b57, q57⟩ : ∃ z, z = h0.size := ⟨_, rfl⟩
        rw [← q57] at A57 D57 st57
        have g58 : n0 ≤ b57 := Nat.le_trans Z0 (Nat.le_of_eq q57.symm)
        have s59 : h0.size ≤ b57 := Nat.le_trans K0.1 (Nat.le_of_eq q57.symm)
        have f60 : Old Z n0 h57 := old.ext E57
        have K61 : Keep h0 h57 [] := K0.ext E57
        have Z62 : n0 ≤ h57.size := Nat.le_trans Z0 E57.1
        have f63 : Fld Z h57 b57 "java/math/BigInteger" "signum" "I" (.int (0 : Int32)) := D57 (Or.inr (hw _ (List.mem_of_getElem? (i := 41) rfl))) (ty := .int) (by decide)
        have f64 : Fld Z h57 b57 "java/math/BigInteger" "mag" "[I" .null := D57 (Or.inr (hw _ (List.mem_of_getElem? (i := 44) rfl))) (ty := (.array .int)) (by decide)
        refine OwnGo.back (T57.setTop (mkF m 56 #[.val (.long x), .second] [(.ref b57)])) (fun tg kk => st57 _ kk) ?_
        refine OwnGo.back (T57.setTop (mkF m 57 #[.val (.long x), .second] [(.ref b57), (.ref b57)])) (fun tg kk => XS.dup X57.here hx rfl (hb hby own_d5_56) rfl rfl kk) ?_
        refine OwnGo.back (T57.setTop (mkF m 58 #[.val (.long x), .second] [(.long x), (.ref b57), (.ref b57)])) (fun tg kk => XS.lloadN X57.here hx rfl (hb hby own_d5_57) rfl kk) ?_
        obtain ⟨_, _, ⟨T65, L65, k65, n65⟩, -, X65, ⟨Lc65, hQ65, l65, y65, z65⟩, st65⟩ := X57.specialBack hx (y := (⟨"java/math/BigInteger", "<init>", "(J)V"⟩ : MethodName)) rfl hown (mvT hZ (hw _ (List.mem_of_getElem? (i := 29) rfl))) (mvT hZ (hw _ (List.mem_of_getElem? (i := 30) rfl))) (mvT hZ (hw _ (List.mem_of_getElem? (i := 32) rfl))) (by decide) (backOf (W := 1) (own_bini l Z a0 hw [] b57 x h57 n0 Z62 A57 f63 f64 g58) hZ (hw _ (List.mem_of_getElem? (i := 32) rfl)) (hw _ (List.mem_of_getElem? (i := 24) rfl)) (by decide) (by decide)) (g := (mkF m 58 #[.val (.long x), .second] [(.long x), (.ref b57), (.ref b57)])) rfl (by rw [hml]; rfl) (Steps.refl _) (a := b57) (argsL := [(.long x)]) (rest := [(.ref b57)]) (lenOf own_pd2 rfl) rfl (by show 2 * 0 + _ ≤ _; exact Nat.le_of_eq rfl) (hb hby own_d5_58) (fun _ _ => ⟨rfl, e57, (by decide : 1 + 1 ≤ _), (by decide : 6 + 2 ≤ _)⟩)
        dsimp only [Pt.U, Pt.locs, Pt.cells, Pt.slots] at X65 l65 y65 z65 st65 hQ65
        subst l65 y65 z65
        obtain ⟨rfl, N65q, Kc65, po66⟩ := hQ65
        have N65 := Fr.app N0 N65q
        have f67 : Old Z n0 T65.heap := f60.keep Kc65 (allS g58 all0)
        have f68 : Exa Z T65.heap b57 "java/math/BigInteger" := A57.keep Kc65
        have K69 : Keep h0 T65.heap [] := K61.trans Kc65 (allS (Or.inr s59) all0)
        have Z70 : n0 ≤ T65.heap.size := Nat.le_trans Z62 Kc65.1
        refine OwnGo.back (T65.setTop (mkF m 61 #[.val (.long x), .second] [(.ref b57)])) (fun tg kk => st65.trans kk) ?_
        obtain ⟨fs, hr, hrun, hended, hW, hsame⟩ := X65.leave (v := some (.ref b57)) (fun h => by rw [Bd.returns] at h; cases h)
        refine ⟨_, _, ?_, hrun, hended, _, _, rfl, ?_, ⟨_, rfl⟩, hW, hsame.mono (by decide) (by decide)⟩
        · exact own_retA X65 hx Bd.returns rfl rfl rfl (hb hby own_d5_61) hr
        · show own_bval_Q Z x bz bp bn h0 n0 _ T65.heap _
          exact ⟨b57, rfl, N65, K69⟩
theorem own_rnn_ef (m : MethodId) (x0 : Addr) (x1 : Addr) : entryFrame m #[(.ref x0), (.ref x1)] 2 = mkF m 0 #[.val (.ref x0), .val (.ref x1)] [] := by first | (simp [entryFrame, mkF, argsToLocals, Value.category]; done) | rfl
def own_rnn_Q (Z : State) (a : Addr) (b : Addr) (h0 : Heap) (n0 : Nat) (rv : Option Value) (hN : Heap) (LL : List Loc) : Prop := rv = some (.ref a) ∧ Fr n0 LL ∧ hN = h0
set_option maxRecDepth 65536 in
set_option maxHeartbeats 40000000 in
theorem own_rnn (l : Launch) (Z : State) (a0 : Array Value) (hw : ∀ d ∈ tables_1, d.before a0 Z = true) (ws : List Jvm.Cond) (a : Addr) (b : Addr) (h0 : Heap) (n0 : Nat) (Z0 : n0 ≤ h0.size) :
    MetFree l (⟨"java/util/Objects", "requireNonNull", "(Ljava/lang/Object;Ljava/lang/String;)Ljava/lang/Object;"⟩ : MethodName) (head1 (Jvm.Cond.code (⟨"java/util/Objects", "requireNonNull", "(Ljava/lang/Object;Ljava/lang/String;)Ljava/lang/Object;"⟩ : MethodName) jdk_31_method_11_code 2 (some (.object "java/lang/Object")) :: ws) ({ frames := 0, cells := 0, slots := 0, locals := 0 } : Room)) (fun aa UU => aa = #[(.ref a), (.ref b)] ∧ Z.Warmed39 UU.vm ∧ UU.heap = h0) (fun _ _ _ _ _ => True) (fun _ UU oo UU' => ∃ rv LL, oo = .returned rv ∧ own_rnn_Q Z a b h0 n0 rv UU'.heap LL ∧ FrameEnd UU oo UU' LL ({ frames := 0, cells := 0, slots := 0, locals := 0 } : Room).cells ({ frames := 0, cells := 0, slots := 0, locals := 0 } : Room).slots) := by
  refine MetFree.of_bodySF (plainFor_of_name own_pn4) hisR ?_
  intro p e s m args below meth c s₁ Bd hml0 hP hK
  obtain ⟨rfl, hZ, hh⟩ := hP
  have hx := Bd.exec
  have hby := Bd.bytes
  have hml : c.maxLocals = 2 := hml0
  have hown : s.vm.findClass "java/util/Objects" = some m.cls := findClass_of_methodNamed Bd.named
  have hnm := (name_of_methodNamed Bd.named Bd.method).1
  have X0 : Stand p l e ({ frames := 0, cells := 0, slots := 0, locals := 0 } : Room) s m #[(.ref a), (.ref b)] below meth c s₁ [] 0 0 := Stand.of_body Bd
  have e0 : s₁.heap = h0 := by rw [← hh, Bd.state]; rfl
  have N0 := Fr.nil n0
  have K0 : Keep h0 h0 [] := Keep.refl h0 _
  refine (?_ : OwnGo p.tables e below (fun UU' oo => ∃ rv LL, oo = .returned rv ∧ own_rnn_Q Z a b h0 n0 rv UU'.heap LL ∧ FrameEnd s oo UU' LL ({ frames := 0, cells := 0, slots := 0, locals := 0 } : Room).cells ({ frames := 0, cells := 0, slots := 0, locals := 0 } : Room).slots) _)
  refine OwnGo.back (s₁.setTop (mkF m 0 #[.val (.ref a), .val (.ref b)] [])) (fun tg kk => castTop (own_rnn_ef m a b) kk) ?_
  refine OwnGo.back (s₁.setTop (mkF m 1 #[.val (.ref a), .val (.ref b)] [(.ref a)])) (fun tg kk => XS.aloadN X0.here hx rfl (hb hby own_d9_0) rfl rfl kk) ?_
  refine OwnGo.back (s₁.setTop (mkF m 13 #[.val (.ref a), .val (.ref b)] [])) (fun tg kk => XS.ifnonnullYes X0.here hx rfl (pc0 := 1) (pc' := 13) rfl (hb hby own_d9_1) rfl (by decide) (by decide) kk) ?_
  refine OwnGo.back (s₁.setTop (mkF m 14 #[.val (.ref a), .val (.ref b)] [(.ref a)])) (fun tg kk => XS.aloadN X0.here hx rfl (hb hby own_d9_13) rfl rfl kk) ?_
  obtain ⟨fs, hr, hrun, hended, hW, hsame⟩ := X0.leave (v := some (.ref a)) (fun h => by rw [Bd.returns] at h; cases h)
  refine ⟨_, _, ?_, hrun, hended, _, _, rfl, ?_, ⟨_, rfl⟩, hW, hsame.mono (by decide) (by decide)⟩
  · exact own_retA X0 hx Bd.returns rfl rfl rfl (hb hby own_d9_14) hr
  · show own_rnn_Q Z a b h0 n0 _ s₁.heap _
    rw [e0]
    exact ⟨rfl, N0, rfl⟩
theorem own_itini_ef (m : MethodId) (x0 : Addr) (x1 : Addr) : entryFrame m #[(.ref x0), (.ref x1)] 2 = mkF m 0 #[.val (.ref x0), .val (.ref x1)] [] := by first | (simp [entryFrame, mkF, argsToLocals, Value.category]; done) | rfl
def own_itini_Q (Z : State) (a : Addr) (b : Addr) (h0 : Heap) (n0 : Nat) (rv : Option Value) (hN : Heap) (LL : List Loc) : Prop := rv = none ∧ Fr n0 LL ∧ Keep h0 hN [a] ∧ Exa Z hN a "plainsight/core/term/IntegerTerm"
set_option maxRecDepth 65536 in
set_option maxHeartbeats 40000000 in
theorem own_itini (l : Launch) (Z : State) (a0 : Array Value) (hw : ∀ d ∈ tables_1, d.before a0 Z = true) (ws : List Jvm.Cond) (a : Addr) (b : Addr) (h0 : Heap) (n0 : Nat) (Z0 : n0 ≤ h0.size) (H0 : Exa Z h0 a "plainsight/core/term/IntegerTerm") (H1 : Fld Z h0 a "plainsight/core/term/IntegerTerm" "value" "Ljava/math/BigInteger;" .null) (H2 : n0 ≤ a) :
    MetFree l (⟨"plainsight/core/term/IntegerTerm", "<init>", "(Ljava/math/BigInteger;)V"⟩ : MethodName) (head1 (Jvm.Cond.code (⟨"plainsight/core/term/IntegerTerm", "<init>", "(Ljava/math/BigInteger;)V"⟩ : MethodName) prog_61_method_1_code 2 none :: ws) ({ frames := 2, cells := 2, slots := 24, locals := 24 } : Room)) (fun aa UU => aa = #[(.ref a), (.ref b)] ∧ Z.Warmed39 UU.vm ∧ UU.heap = h0) (fun _ _ _ _ _ => True) (fun _ UU oo UU' => ∃ rv LL, oo = .returned rv ∧ own_itini_Q Z a b h0 n0 rv UU'.heap LL ∧ ReturnedEndW UU oo UU' LL ({ frames := 2, cells := 2, slots := 24, locals := 24 } : Room).cells ({ frames := 2, cells := 2, slots := 24, locals := 24 } : Room).slots) := by
  refine MetFree.of_bodySF (plainFor_of_name own_pn5) hisR ?_
  intro p e s m args below meth c s₁ Bd hml0 hP hK
  obtain ⟨rfl, hZ, hh⟩ := hP
  have hx := Bd.exec
  have hby := Bd.bytes
  have hml : c.maxLocals = 2 := hml0
  have hown : s.vm.findClass "plainsight/core/term/IntegerTerm" = some m.cls := findClass_of_methodNamed Bd.named
  have hnm := (name_of_methodNamed Bd.named Bd.method).1
  have hS : s.Since s.vm 0 := State.WarmedH.since (State.WarmedH.refl s) 0
  have hk0 : 0 ≤ h0.size := Nat.zero_le _
  have hZ : Z.Warmed39 (s.setVm s.vm).vm := hZ
  have hown : (s.setVm s.vm).vm.findClass "plainsight/core/term/IntegerTerm" = some m.cls := hown
  have X0 : Stand p l e ({ frames := 2, cells := 2, slots := 24, locals := 24 } : Room) (s.setVm s.vm) m #[(.ref a), (.ref b)] below meth c s₁ [] 0 0 := Stand.of_body Bd
  have e0 : s₁.heap = h0 := by rw [← hh, Bd.state]; rfl
  have N0 := Fr.nil n0
  have K0 : Keep h0 h0 [a] := Keep.refl h0 _
  refine (?_ : OwnGo p.tables e below (fun UU' oo => ∃ rv LL, oo = .returned rv ∧ own_itini_Q Z a b h0 n0 rv UU'.heap LL ∧ ReturnedEndW s oo UU' LL ({ frames := 2, cells := 2, slots := 24, locals := 24 } : Room).cells ({ frames := 2, cells := 2, slots := 24, locals := 24 } : Room).slots) _)
  refine OwnGo.back (s₁.setTop (mkF m 0 #[.val (.ref a), .val (.ref b)] [])) (fun tg kk => castTop (own_itini_ef m a b) kk) ?_
  refine OwnGo.back (s₁.setTop (mkF m 1 #[.val (.ref a), .val (.ref b)] [(.ref a)])) (fun tg kk => XS.aloadN X0.here hx rfl (hb hby own_d8_0) rfl rfl kk) ?_
  obtain ⟨_, _, ⟨T1, L1, k1, n1⟩, -, X1, ⟨Lc1, hQ1, l1, y1, z1⟩, st1⟩ := X0.specialBack hx (y := (⟨"java/lang/Record", "<init>", "()V"⟩ : MethodName)) rfl hown (mvT hZ (hw _ (List.mem_of_getElem? (i := 48) rfl))) (mvT hZ (hw _ (List.mem_of_getElem? (i := 7) rfl))) (mvT hZ (hw _ (List.mem_of_getElem? (i := 10) rfl))) (by decide) (backOf (W := 0) (own_rec l Z a0 hw [] a h0 n0 Z0 ) hZ (hw _ (List.mem_of_getElem? (i := 10) rfl)) (hw _ (List.mem_of_getElem? (i := 9) rfl)) (by decide) (by decide)) (g := (mkF m 1 #[.val (.ref a), .val (.ref b)] [(.ref a)])) rfl (by rw [hml]; rfl) (Steps.refl _) (a := a) (argsL := []) (rest := []) (lenOf own_pd0 rfl) rfl (by show 2 * 0 + _ ≤ _; exact Nat.le_of_eq rfl) (hb hby own_d8_1) (fun _ _ => ⟨rfl, e0, (by decide : 0 + 0 ≤ _), (by decide : 0 + 0 ≤ _)⟩)
  dsimp only [Pt.U, Pt.locs, Pt.cells, Pt.slots] at X1 l1 y1 z1 st1 hQ1
  subst l1 y1 z1
  obtain ⟨rfl, N1q, e1⟩ := hQ1
  have N1 := Fr.app N0 N1q
  refine OwnGo.back (T1.setTop (mkF m 4 #[.val (.ref a), .val (.ref b)] [])) (fun tg kk => st1.trans kk) ?_
  refine OwnGo.back (T1.setTop (mkF m 5 #[.val (.ref a), .val (.ref b)] [(.ref b)])) (fun tg kk => XS.aloadN X1.here hx rfl (hb hby own_d8_4) rfl rfl kk) ?_
  obtain ⟨sa2, T2, h2, kS2, X2, e2, E2, hS, hk2, hZ, hown, st2⟩ := ldcS X1 hx hZ hown (hw _ (List.mem_of_getElem? (i := 49) rfl)) (own_wS hw) e1 hS hk0 (g := (mkF m 5 #[.val (.ref a), .val (.ref b)] [(.ref b)])) rfl (hb hby own_d8_5) (n := 20) (by decide) (by decide) (by decide) (by decide)
  have f3 : Exa Z h2 a "plainsight/core/term/IntegerTerm" := H0.ext E2
  have f4 : Fld Z h2 a "plainsight/core/term/IntegerTerm" "value" "Ljava/math/BigInteger;" .null := H1.ext E2
  have K5 : Keep h0 h2 [a] := K0.ext E2
  have Z6 : n0 ≤ h2.size := Nat.le_trans Z0 E2.1
  refine OwnGo.back (T2.setTop (mkF m 7 #[.val (.ref a), .val (.ref b)] [(.ref sa2), (.ref b)])) (fun tg kk => st2 _ kk) ?_
  obtain ⟨_, _, ⟨T7, L7, k7, n7⟩, -, X7, ⟨Lc7, hQ7, l7, y7, z7⟩, st7⟩ := Jvm.LawKit.callS X2 hx (y := (⟨"java/util/Objects", "requireNonNull", "(Ljava/lang/Object;Ljava/lang/String;)Ljava/lang/Object;"⟩ : MethodName)) hown (mvT hZ (hw _ (List.mem_of_getElem? (i := 57) rfl))) (mvT hZ (hw _ (List.mem_of_getElem? (i := 58) rfl))) (mvT hZ (hw _ (List.mem_of_getElem? (i := 59) rfl))) (mvT hZ (hw _ (List.mem_of_getElem? (i := 60) rfl))) (by decide) (backOf (W := 0) (own_rnn l Z a0 hw [] b sa2 h2 n0 Z6 ) hZ (hw _ (List.mem_of_getElem? (i := 60) rfl)) (hw _ (List.mem_of_getElem? (i := 59) rfl)) (by decide) (by decide)) (g := (mkF m 7 #[.val (.ref a), .val (.ref b)] [(.ref sa2), (.ref b)])) rfl (by rw [hml]; rfl) (argsL := [(.ref b), (.ref sa2)]) (rest := []) (lenOf own_pd3 rfl) rfl (by show 2 * 0 + _ ≤ _; exact Nat.le_of_eq rfl) (hb hby own_d8_7) (fun _ _ => ⟨rfl, e2, (by decide : 2 + 0 ≤ _), (by decide : 24 + 0 ≤ _)⟩)
  dsimp only [Pt.U, Pt.locs, Pt.cells, Pt.slots] at X7 l7 y7 z7 st7 hQ7
  subst l7 y7 z7
  obtain ⟨rfl, N7q, e7⟩ := hQ7
  have N7 := Fr.app N1 N7q
  refine OwnGo.back (T7.setTop (mkF m 10 #[.val (.ref a), .val (.ref b)] [(.ref b)])) (fun tg kk => st7 _ kk) ?_
  refine OwnGo.back (T7.setTop (mkF m 11 #[.val (.ref a), .val (.ref b)] [])) (fun tg kk => XS.pop X7.here hx rfl (hb hby own_d8_10) rfl rfl kk) ?_
  refine OwnGo.back (T7.setTop (mkF m 12 #[.val (.ref a), .val (.ref b)] [(.ref a)])) (fun tg kk => XS.aloadN X7.here hx rfl (hb hby own_d8_11) rfl rfl kk) ?_
  refine OwnGo.back (T7.setTop (mkF m 13 #[.val (.ref a), .val (.ref b)] [(.ref b), (.ref a)])) (fun tg kk => XS.aloadN X7.here hx rfl (hb hby own_d8_12) rfl rfl kk) ?_
  obtain ⟨T8, h8, X8, e8, W8, st8⟩ := putF X7 hx hZ hown (host := "") (Or.inl (hw _ (List.mem_of_getElem? (i := 61) rfl))) Via.refl e7 f4 f3 (Or.inr ⟨(hw _ (List.mem_of_getElem? (i := 62) rfl)), rfl, hnm⟩) (hw _ (List.mem_of_getElem? (i := 21) rfl)) (ty := (.object "java/math/BigInteger")) (by decide) rfl rfl (g := (mkF m 13 #[.val (.ref a), .val (.ref b)] [(.ref b), (.ref a)])) rfl rfl (hb hby own_d8_13)
  have f9 : Fld Z h8 a "plainsight/core/term/IntegerTerm" "value" "Ljava/math/BigInteger;" (.ref b) := f4.same W8
  have f10 : Exa Z h8 a "plainsight/core/term/IntegerTerm" := f3.wr W8
  have K11 : Keep h0 h8 [a] := K5.wr W8 (Or.inl (List.mem_of_getElem? (i := 0) rfl))
  have Z12 : n0 ≤ h8.size := Nat.le_trans Z6 (Keep.of_wr W8).1
  have N13 := Fr.snoc X8 N7 H2
  refine OwnGo.back (T8.setTop (mkF m 16 #[.val (.ref a), .val (.ref b)] [])) (fun tg kk => st8 _ kk) ?_
  obtain ⟨fs, hr, hrun, hended, -, hW, hI, hsame⟩ := X8.leaveW hS (by rw [e8]; exact (Nat.le_trans hk2 (Keep.of_wr W8).1)) (v := none) (fun _ => rfl)
  refine ⟨_, _, ?_, hrun, hended, _, _, rfl, ?_, ⟨_, rfl⟩, hW, hI, hsame.mono (by decide) (by decide)⟩
  · exact X8.returnOut hx Bd.returns (hb hby own_d8_16) hr
  · show own_itini_Q Z a b h0 n0 _ T8.heap _
    rw [e8]
    exact ⟨rfl, N13, K11, f10⟩
theorem own_of_ef (m : MethodId) (x0 : Int64) : entryFrame m #[(.long x0)] 2 = mkF m 0 #[.val (.long x0), .second] [] := by first | (simp [entryFrame, mkF, argsToLocals, Value.category]; done) | rfl
def own_of_Q (Z : State) (x : Int64) (bz : Addr) (bp : Addr) (bn : Addr) (h0 : Heap) (n0 : Nat) (rv : Option Value) (hN : Heap) (LL : List Loc) : Prop := ∃ (b : Addr), rv = some (.ref b) ∧ Fr n0 LL ∧ Keep h0 hN [] ∧ h0.size ≤ b ∧ Exa Z hN b "plainsight/core/term/IntegerTerm"
set_option maxRecDepth 65536 in
set_option maxHeartbeats 40000000 in
theorem own_of (l : Launch) (Z : State) (a0 : Array Value) (hw : ∀ d ∈ tables_1, d.before a0 Z = true) (ws : List Jvm.Cond) (x : Int64) (bz : Addr) (bp : Addr) (bn : Addr) (h0 : Heap) (n0 : Nat) (Z0 : n0 ≤ h0.size) (SZ : Sta Z Z.heap "java/math/BigInteger" "ZERO" "Ljava/math/BigInteger;" (.ref bz)) (SP : Sta Z Z.heap "java/math/BigInteger" "posConst" "[Ljava/math/BigInteger;" (.ref bp)) (SN : Sta Z Z.heap "java/math/BigInteger" "negConst" "[Ljava/math/BigInteger;" (.ref bn)) (old : Old Z n0 h0) (hP : own_Big Z bp) (hN : own_Big Z bn) :
    MetFree l (⟨"plainsight/core/term/IntegerTerm", "of", "(J)Lplainsight/core/term/IntegerTerm;"⟩ : MethodName) (head1 (Jvm.Cond.code (⟨"plainsight/core/term/IntegerTerm", "of", "(J)Lplainsight/core/term/IntegerTerm;"⟩ : MethodName) prog_61_method_2_code 2 (some (.object "plainsight/core/term/IntegerTerm")) :: ws) ({ frames := 4, cells := 5, slots := 33, locals := 55 } : Room)) (fun aa UU => aa = #[(.long x)] ∧ Z.Warmed39 UU.vm ∧ UU.heap = h0) (fun _ _ _ _ _ => True) (fun _ UU oo UU' => ∃ rv LL, oo = .returned rv ∧ own_of_Q Z x bz bp bn h0 n0 rv UU'.heap LL ∧ ReturnedEndW UU oo UU' LL ({ frames := 4, cells := 5, slots := 33, locals := 55 } : Room).cells ({ frames := 4, cells := 5, slots := 33, locals := 55 } : Room).slots) := by
  refine MetFree.of_bodySF (plainFor_of_name own_pn5) hisR ?_
  intro p e s m args below meth c s₁ Bd hml0 hP hK
  obtain ⟨rfl, hZ, hh⟩ := hP
  have hx := Bd.exec
  have hby := Bd.bytes
  have hml : c.maxLocals = 2 := hml0
  have hown : s.vm.findClass "plainsight/core/term/IntegerTerm" = some m.cls := findClass_of_methodNamed Bd.named
  have hnm := (name_of_methodNamed Bd.named Bd.method).1
  have hS : s.Since s.vm 0 := State.WarmedH.since (State.WarmedH.refl s) 0
  have hk0 : 0 ≤ h0.size := Nat.zero_le _
  have hZ : Z.Warmed39 (s.setVm s.vm).vm := hZ
  have hown : (s.setVm s.vm).vm.findClass "plainsight/core/term/IntegerTerm" = some m.cls := hown
  have X0 : Stand p l e ({ frames := 4, cells := 5, slots := 33, locals := 55 } : Room) (s.setVm s.vm) m #[(.long x)] below meth c s₁ [] 0 0 := Stand.of_body Bd
  have e0 : s₁.heap = h0 := by rw [← hh, Bd.state]; rfl
  have N0 := Fr.nil n0
  have K0 : Keep h0 h0 [] := Keep.refl h0 _
  refine (?_ : OwnGo p.tables e below (fun UU' oo => ∃ rv LL, oo = .returned rv ∧ own_of_Q Z x bz bp bn h0 n0 rv UU'.heap LL ∧ ReturnedEndW s oo UU' LL ({ frames := 4, cells := 5, slots := 33, locals := 55 } : Room).cells ({ frames := 4, cells := 5, slots := 33, locals := 55 } : Room).slots) _)
  refine OwnGo.back (s₁.setTop (mkF m 0 #[.val (.long x), .second] [])) (fun tg kk => castTop (own_of_ef m x) kk) ?_
  obtain ⟨T1, h1, X1, e1, E1, A1, D1, -, st1⟩ := newO X0 hx hZ hown (hw _ (List.mem_of_getElem? (i := 20) rfl)) (hw _ (List.mem_of_getElem? (i := 21) rfl)) (hw _ (List.mem_of_getElem? (i := 18) rfl)) e0 (g := (mkF m 0 #[.val (.long x), .second] [])) rfl (hb hby own_d4_0) (by decide) (by decide)
  obtain ⟨b1, q1⟩ : ∃ z, z = h0.size := ⟨_, rfl⟩
  rw [← q1] at A1 D1 st1
  have g2 : n0 ≤ b1 := Nat.le_trans Z0 (Nat.le_of_eq q1.symm)
  have s3 : h0.size ≤ b1 := Nat.le_trans K0.1 (Nat.le_of_eq q1.symm)
  have f4 : Old Z n0 h1 := old.ext E1
  have K5 : Keep h0 h1 [] := K0.ext E1
  have Z6 : n0 ≤ h1.size := Nat.le_trans Z0 E1.1
  have f7 : Fld Z h1 b1 "plainsight/core/term/IntegerTerm" "value" "Ljava/math/BigInteger;" .null := D1 (Or.inr (hw _ (List.mem_of_getElem? (i := 62) rfl))) (ty := (.object "java/math/BigInteger")) (by decide)
  refine OwnGo.back (T1.setTop (mkF m 3 #[.val (.long x), .second] [(.ref b1)])) (fun tg kk => st1 _ kk) ?_
  refine OwnGo.back (T1.setTop (mkF m 4 #[.val (.long x), .second] [(.ref b1), (.ref b1)])) (fun tg kk => XS.dup X1.here hx rfl (hb hby own_d4_3) rfl rfl kk) ?_
  refine OwnGo.back (T1.setTop (mkF m 5 #[.val (.long x), .second] [(.long x), (.ref b1), (.ref b1)])) (fun tg kk => XS.lloadN X1.here hx rfl (hb hby own_d4_4) rfl kk) ?_
  obtain ⟨_, _, ⟨T8, L8, k8, n8⟩, -, X8, ⟨Lc8, hQ8, l8, y8, z8⟩, st8⟩ := Jvm.LawKit.callS X1 hx (y := (⟨"java/math/BigInteger", "valueOf", "(J)Ljava/math/BigInteger;"⟩ : MethodName)) hown (mvT hZ (hw _ (List.mem_of_getElem? (i := 22) rfl))) (mvT hZ (hw _ (List.mem_of_getElem? (i := 23) rfl))) (mvT hZ (hw _ (List.mem_of_getElem? (i := 24) rfl))) (mvT hZ (hw _ (List.mem_of_getElem? (i := 25) rfl))) (by decide) (backOf (W := 2) (own_bval l Z a0 hw [] x bz bp bn h1 n0 Z6 SZ SP SN f4 hP hN) hZ (hw _ (List.mem_of_getElem? (i := 25) rfl)) (hw _ (List.mem_of_getElem? (i := 24) rfl)) (by decide) (by decide)) (g := (mkF m 5 #[.val (.long x), .second] [(.long x), (.ref b1), (.ref b1)])) rfl (by rw [hml]; rfl) (argsL := [(.long x)]) (rest := [(.ref b1), (.ref b1)]) (lenOf own_pd4 rfl) rfl (by show 2 * 0 + _ ≤ _; exact Nat.le_of_eq rfl) (hb hby own_d4_5) (fun _ _ => ⟨rfl, e1, (by decide : 1 + 2 ≤ _), (by decide : 1 + 8 ≤ _)⟩)
  dsimp only [Pt.U, Pt.locs, Pt.cells, Pt.slots] at X8 l8 y8 z8 st8 hQ8
  subst l8 y8 z8
  obtain ⟨b_9, rfl, N8q, Kc8⟩ := hQ8
  have N8 := Fr.app N0 N8q
  have f10 : Old Z n0 T8.heap := f4.keep Kc8 all0
  have f11 : Exa Z T8.heap b1 "plainsight/core/term/IntegerTerm" := A1.keep Kc8
  have f12 : Fld Z T8.heap b1 "plainsight/core/term/IntegerTerm" "value" "Ljava/math/BigInteger;" .null := f7.keep Kc8 nin0
  have K13 : Keep h0 T8.heap [] := K5.trans Kc8 all0
  have Z14 : n0 ≤ T8.heap.size := Nat.le_trans Z6 Kc8.1
  refine OwnGo.back (T8.setTop (mkF m 8 #[.val (.long x), .second] [(.ref b_9), (.ref b1), (.ref b1)])) (fun tg kk => st8 _ kk) ?_
  obtain ⟨_, _, ⟨T15, L15, k15, n15⟩, -, X15, hs15, hg15, ⟨Lc15, hQ15, l15, y15, z15⟩, st15⟩ := X8.specialBackS hx (y := (⟨"plainsight/core/term/IntegerTerm", "<init>", "(Ljava/math/BigInteger;)V"⟩ : MethodName)) rfl hown (mvT hZ (hw _ (List.mem_of_getElem? (i := 45) rfl))) (mvT hZ (hw _ (List.mem_of_getElem? (i := 46) rfl))) (mvT hZ (hw _ (List.mem_of_getElem? (i := 47) rfl))) (by decide) (backOfS (W := 1) (own_itini l Z a0 hw [] b1 b_9 T8.heap n0 Z14 f11 f12 g2) hZ (hw _ (List.mem_of_getElem? (i := 47) rfl)) (hw _ (List.mem_of_getElem? (i := 18) rfl)) (by decide) (by decide)) (g := (mkF m 8 #[.val (.long x), .second] [(.ref b_9), (.ref b1), (.ref b1)])) rfl (by rw [hml]; rfl) (Steps.refl _) (a := b1) (argsL := [(.ref b_9)]) (rest := [(.ref b1)]) (lenOf own_pd5 rfl) rfl (by show 2 * 0 + _ ≤ _; exact Nat.le_of_eq rfl) (hb hby own_d4_8) (fun _ _ => ⟨rfl, rfl, (by decide : 3 + 2 ≤ _), (by decide : 9 + 24 ≤ _)⟩)
  dsimp only [Pt.U, Pt.locs, Pt.cells, Pt.slots] at X15 l15 y15 z15 st15 hQ15 hs15 hg15
  subst l15 y15 z15
  obtain ⟨X15, hS, hZ, hown⟩ := rebS hS (Nat.le_trans (Nat.le_trans hk0 E1.1) Kc8.1) X15 hs15 hg15 hZ hown
  obtain ⟨rfl, N15q, Kc15, po16⟩ := hQ15
  have N15 := Fr.app N8 N15q
  have f17 : Old Z n0 T15.heap := f10.keep Kc15 (allS g2 all0)
  have f18 : Exa Z T15.heap b1 "plainsight/core/term/IntegerTerm" := f11.keep Kc15
  have K19 : Keep h0 T15.heap [] := K13.trans Kc15 (allS (Or.inr s3) all0)
  have Z20 : n0 ≤ T15.heap.size := Nat.le_trans Z14 Kc15.1
  refine OwnGo.back (T15.setTop (mkF m 11 #[.val (.long x), .second] [(.ref b1)])) (fun tg kk => st15.trans kk) ?_
  obtain ⟨fs, hr, hrun, hended, -, hW, hI, hsame⟩ := X15.leaveW hS (Nat.le_refl _) (v := some (.ref b1)) (fun h => by rw [Bd.returns] at h; cases h)
  refine ⟨_, _, ?_, hrun, hended, _, _, rfl, ?_, ⟨_, rfl⟩, hW, hI, hsame.mono (by decide) (by decide)⟩
  · exact own_retA X15 hx Bd.returns rfl rfl rfl (hb hby own_d4_11) hr
  · show own_of_Q Z x bz bp bn h0 n0 _ T15.heap _
    exact ⟨b1, rfl, N15, K19, s3, po16⟩
theorem own_bt_ef (m : MethodId) (x0 : Addr) (x1 : Int32) : entryFrame m #[(.ref x0), (.int x1)] 2 = mkF m 0 #[.val (.ref x0), .val (.int x1)] [] := by first | (simp [entryFrame, mkF, argsToLocals, Value.category]; done) | rfl
def own_bt_Q (Z : State) (a : Addr) (t : Int32) (h0 : Heap) (n0 : Nat) (rv : Option Value) (hN : Heap) (LL : List Loc) : Prop := rv = none ∧ Fr n0 LL ∧ Keep h0 hN [a] ∧ Exa Z hN a "plainsight/core/term/BooleanTerm" ∧ Fld Z hN a "plainsight/core/term/BooleanTerm" "value" "Z" (.int t)
set_option maxRecDepth 65536 in
set_option maxHeartbeats 40000000 in
theorem own_bt (l : Launch) (Z : State) (a0 : Array Value) (hw : ∀ d ∈ tables_1, d.before a0 Z = true) (ws : List Jvm.Cond) (a : Addr) (t : Int32) (h0 : Heap) (n0 : Nat) (Z0 : n0 ≤ h0.size) (H0 : Exa Z h0 a "plainsight/core/term/BooleanTerm") (H1 : Fld Z h0 a "plainsight/core/term/BooleanTerm" "value" "Z" (.int (0 : Int32))) (H2 : n0 ≤ a) (ht : t = 0 ∨ t = 1) :
    MetFree l (⟨"plainsight/core/term/BooleanTerm", "<init>", "(Z)V"⟩ : MethodName) (head1 (Jvm.Cond.code (⟨"plainsight/core/term/BooleanTerm", "<init>", "(Z)V"⟩ : MethodName) prog_57_method_1_code 2 none :: ws) ({ frames := 2, cells := 0, slots := 0, locals := 24 } : Room)) (fun aa UU => aa = #[(.ref a), (.int t)] ∧ Z.Warmed39 UU.vm ∧ UU.heap = h0) (fun _ _ _ _ _ => True) (fun _ UU oo UU' => ∃ rv LL, oo = .returned rv ∧ own_bt_Q Z a t h0 n0 rv UU'.heap LL ∧ FrameEnd UU oo UU' LL ({ frames := 2, cells := 0, slots := 0, locals := 24 } : Room).cells ({ frames := 2, cells := 0, slots := 0, locals := 24 } : Room).slots) := by
  refine MetFree.of_bodySF (plainFor_of_name own_pn6) hisR ?_
  intro p e s m args below meth c s₁ Bd hml0 hP hK
  obtain ⟨rfl, hZ, hh⟩ := hP
  have hx := Bd.exec
  have hby := Bd.bytes
  have hml : c.maxLocals = 2 := hml0
  have hown : s.vm.findClass "plainsight/core/term/BooleanTerm" = some m.cls := findClass_of_methodNamed Bd.named
  have hnm := (name_of_methodNamed Bd.named Bd.method).1
  have X0 : Stand p l e ({ frames := 2, cells := 0, slots := 0, locals := 24 } : Room) s m #[(.ref a), (.int t)] below meth c s₁ [] 0 0 := Stand.of_body Bd
  have e0 : s₁.heap = h0 := by rw [← hh, Bd.state]; rfl
  have N0 := Fr.nil n0
  have K0 : Keep h0 h0 [a] := Keep.refl h0 _
  refine (?_ : OwnGo p.tables e below (fun UU' oo => ∃ rv LL, oo = .returned rv ∧ own_bt_Q Z a t h0 n0 rv UU'.heap LL ∧ FrameEnd s oo UU' LL ({ frames := 2, cells := 0, slots := 0, locals := 24 } : Room).cells ({ frames := 2, cells := 0, slots := 0, locals := 24 } : Room).slots) _)
  refine OwnGo.back (s₁.setTop (mkF m 0 #[.val (.ref a), .val (.int t)] [])) (fun tg kk => castTop (own_bt_ef m a t) kk) ?_
  refine OwnGo.back (s₁.setTop (mkF m 1 #[.val (.ref a), .val (.int t)] [(.ref a)])) (fun tg kk => XS.aloadN X0.here hx rfl (hb hby own_d1_0) rfl rfl kk) ?_
  obtain ⟨_, _, ⟨T1, L1, k1, n1⟩, -, X1, ⟨Lc1, hQ1, l1, y1, z1⟩, st1⟩ := X0.specialBack hx (y := (⟨"java/lang/Record", "<init>", "()V"⟩ : MethodName)) rfl hown (mvT hZ (hw _ (List.mem_of_getElem? (i := 6) rfl))) (mvT hZ (hw _ (List.mem_of_getElem? (i := 7) rfl))) (mvT hZ (hw _ (List.mem_of_getElem? (i := 10) rfl))) (by decide) (backOf (W := 0) (own_rec l Z a0 hw [] a h0 n0 Z0 ) hZ (hw _ (List.mem_of_getElem? (i := 10) rfl)) (hw _ (List.mem_of_getElem? (i := 9) rfl)) (by decide) (by decide)) (g := (mkF m 1 #[.val (.ref a), .val (.int t)] [(.ref a)])) rfl (by rw [hml]; rfl) (Steps.refl _) (a := a) (argsL := []) (rest := []) (lenOf own_pd0 rfl) rfl (by show 2 * 0 + _ ≤ _; exact Nat.le_of_eq rfl) (hb hby own_d1_1) (fun _ _ => ⟨rfl, e0, (by decide : 0 + 0 ≤ _), (by decide : 0 + 0 ≤ _)⟩)
  dsimp only [Pt.U, Pt.locs, Pt.cells, Pt.slots] at X1 l1 y1 z1 st1 hQ1
  subst l1 y1 z1
  obtain ⟨rfl, N1q, e1⟩ := hQ1
  have N1 := Fr.app N0 N1q
  refine OwnGo.back (T1.setTop (mkF m 4 #[.val (.ref a), .val (.int t)] [])) (fun tg kk => st1.trans kk) ?_
  refine OwnGo.back (T1.setTop (mkF m 5 #[.val (.ref a), .val (.int t)] [(.ref a)])) (fun tg kk => XS.aloadN X1.here hx rfl (hb hby own_d1_4) rfl rfl kk) ?_
  refine OwnGo.back (T1.setTop (mkF m 6 #[.val (.ref a), .val (.int t)] [(.int t), (.ref a)])) (fun tg kk => XS.iloadN X1.here hx rfl (hb hby own_d1_5) rfl kk) ?_
  obtain ⟨T2, h2, X2, e2, W2, st2⟩ := putF X1 hx hZ hown (host := "") (Or.inl (hw _ (List.mem_of_getElem? (i := 14) rfl))) Via.refl e1 H1 H0 (Or.inr ⟨(hw _ (List.mem_of_getElem? (i := 15) rfl)), rfl, hnm⟩) (hw _ (List.mem_of_getElem? (i := 1) rfl)) (ty := .boolean) (by decide) (by rcases ht with h | h <;> rw [h] <;> rfl) (by rcases ht with h | h <;> rw [h] <;> rfl) (g := (mkF m 6 #[.val (.ref a), .val (.int t)] [(.int t), (.ref a)])) rfl rfl (hb hby own_d1_6)
  have f3 : Fld Z h2 a "plainsight/core/term/BooleanTerm" "value" "Z" (.int t) := H1.same W2
  have f4 : Exa Z h2 a "plainsight/core/term/BooleanTerm" := H0.wr W2
  have K5 : Keep h0 h2 [a] := K0.wr W2 (Or.inl (List.mem_of_getElem? (i := 0) rfl))
  have Z6 : n0 ≤ h2.size := Nat.le_trans Z0 (Keep.of_wr W2).1
  have N7 := Fr.snoc X2 N1 H2
  refine OwnGo.back (T2.setTop (mkF m 9 #[.val (.ref a), .val (.int t)] [])) (fun tg kk => st2 _ kk) ?_
  obtain ⟨fs, hr, hrun, hended, hW, hsame⟩ := X2.leave (v := none) (fun _ => rfl)
  refine ⟨_, _, ?_, hrun, hended, _, _, rfl, ?_, ⟨_, rfl⟩, hW, hsame.mono (by decide) (by decide)⟩
  · exact X2.returnOut hx Bd.returns (hb hby own_d1_9) hr
  · show own_bt_Q Z a t h0 n0 _ T2.heap _
    rw [e2]
    exact ⟨rfl, N7, K5, f4, f3⟩
theorem own_eqn_ef (m : MethodId) (x0 : Addr) : entryFrame m #[(.ref x0), .null] 3 = mkF m 0 #[.val (.ref x0), .val .null, .unset] [] := by first | (simp [entryFrame, mkF, argsToLocals, Value.category]; done) | rfl
def own_eqn_Q (Z : State) (a : Addr) (h0 : Heap) (n0 : Nat) (rv : Option Value) (hN : Heap) (LL : List Loc) : Prop := rv = some (.int (0 : Int32)) ∧ Fr n0 LL ∧ hN = h0
set_option maxRecDepth 65536 in
set_option maxHeartbeats 40000000 in
theorem own_eqn (l : Launch) (Z : State) (a0 : Array Value) (hw : ∀ d ∈ tables_1, d.before a0 Z = true) (ws : List Jvm.Cond) (a : Addr) (h0 : Heap) (n0 : Nat) (Z0 : n0 ≤ h0.size) :
    MetFree l (⟨"plainsight/core/term/BooleanTerm", "equals", "(Ljava/lang/Object;)Z"⟩ : MethodName) (head1 (Jvm.Cond.code (⟨"plainsight/core/term/BooleanTerm", "equals", "(Ljava/lang/Object;)Z"⟩ : MethodName) prog_57_method_3_code 3 (some .boolean) :: ws) ({ frames := 0, cells := 0, slots := 0, locals := 0 } : Room)) (fun aa UU => aa = #[(.ref a), .null] ∧ Z.Warmed39 UU.vm ∧ UU.heap = h0) (fun _ _ _ _ _ => True) (fun _ UU oo UU' => ∃ rv LL, oo = .returned rv ∧ own_eqn_Q Z a h0 n0 rv UU'.heap LL ∧ FrameEnd UU oo UU' LL ({ frames := 0, cells := 0, slots := 0, locals := 0 } : Room).cells ({ frames := 0, cells := 0, slots := 0, locals := 0 } : Room).slots) := by
  refine MetFree.of_bodySF (plainFor_of_name own_pn6) hisR ?_
  intro p e s m args below meth c s₁ Bd hml0 hP hK
  obtain ⟨rfl, hZ, hh⟩ := hP
  have hx := Bd.exec
  have hby := Bd.bytes
  have hml : c.maxLocals = 3 := hml0
  have hown : s.vm.findClass "plainsight/core/term/BooleanTerm" = some m.cls := findClass_of_methodNamed Bd.named
  have hnm := (name_of_methodNamed Bd.named Bd.method).1
  have X0 : Stand p l e ({ frames := 0, cells := 0, slots := 0, locals := 0 } : Room) s m #[(.ref a), .null] below meth c s₁ [] 0 0 := Stand.of_body Bd
  have e0 : s₁.heap = h0 := by rw [← hh, Bd.state]; rfl
  have N0 := Fr.nil n0
  have K0 : Keep h0 h0 [] := Keep.refl h0 _
  refine (?_ : OwnGo p.tables e below (fun UU' oo => ∃ rv LL, oo = .returned rv ∧ own_eqn_Q Z a h0 n0 rv UU'.heap LL ∧ FrameEnd s oo UU' LL ({ frames := 0, cells := 0, slots := 0, locals := 0 } : Room).cells ({ frames := 0, cells := 0, slots := 0, locals := 0 } : Room).slots) _)
  refine OwnGo.back (s₁.setTop (mkF m 0 #[.val (.ref a), .val .null, .unset] [])) (fun tg kk => castTop (own_eqn_ef m a) kk) ?_
  refine OwnGo.back (s₁.setTop (mkF m 1 #[.val (.ref a), .val .null, .unset] [.null])) (fun tg kk => XS.aloadN X0.here hx rfl (hb hby own_d10_0) rfl rfl kk) ?_
  refine OwnGo.back (s₁.setTop (mkF m 4 #[.val (.ref a), .val .null, .unset] [(.int (0 : Int32))])) (fun tg kk => X0.instanceofNull hx (g := (mkF m 1 #[.val (.ref a), .val .null, .unset] [.null])) rfl rfl (hb hby own_d10_1) _ kk) ?_
  refine OwnGo.back (s₁.setTop (mkF m 27 #[.val (.ref a), .val .null, .unset] [])) (fun tg kk => XS.ifYes X0.here hx rfl (pc0 := 4) (pc' := 27) rfl (hb hby own_d10_4) rfl ((if0 _ _).trans (teq (by decide : (0 : Int32) = (0 : Int32))).1) (by decide) (by decide) kk) ?_
  refine OwnGo.back (s₁.setTop (mkF m 28 #[.val (.ref a), .val .null, .unset] [(.int (0 : Int32))])) (fun tg kk => XS.iconst X0.here hx rfl (hb hby own_d10_27) kk) ?_
  obtain ⟨fs, hr, hrun, hended, hW, hsame⟩ := X0.leave (v := some (.int (0 : Int32))) (fun h => by rw [Bd.returns] at h; cases h)
  refine ⟨_, _, ?_, hrun, hended, _, _, rfl, ?_, ⟨_, rfl⟩, hW, hsame.mono (by decide) (by decide)⟩
  · exact retN X0 hx (t := .boolean) Bd.returns (by simp) (hb hby own_d10_28) hr
  · show own_eqn_Q Z a h0 n0 _ s₁.heap _
    rw [e0]
    exact ⟨rfl, N0, rfl⟩
theorem own_eqi_ef (m : MethodId) (x0 : Addr) (x1 : Addr) : entryFrame m #[(.ref x0), (.ref x1)] 3 = mkF m 0 #[.val (.ref x0), .val (.ref x1), .unset] [] := by first | (simp [entryFrame, mkF, argsToLocals, Value.category]; done) | rfl
def own_eqi_Q (Z : State) (a : Addr) (b : Addr) (h0 : Heap) (n0 : Nat) (rv : Option Value) (hN : Heap) (LL : List Loc) : Prop := rv = some (.int (0 : Int32)) ∧ Fr n0 LL ∧ hN = h0
set_option maxRecDepth 65536 in
set_option maxHeartbeats 40000000 in
theorem own_eqi (l : Launch) (Z : State) (a0 : Array Value) (hw : ∀ d ∈ tables_1, d.before a0 Z = true) (ws : List Jvm.Cond) (a : Addr) (b : Addr) (h0 : Heap) (n0 : Nat) (Z0 : n0 ≤ h0.size) (H0 : Exa Z h0 b "plainsight/core/term/IntegerTerm") :
    MetFree l (⟨"plainsight/core/term/BooleanTerm", "equals", "(Ljava/lang/Object;)Z"⟩ : MethodName) (head1 (Jvm.Cond.code (⟨"plainsight/core/term/BooleanTerm", "equals", "(Ljava/lang/Object;)Z"⟩ : MethodName) prog_57_method_3_code 3 (some .boolean) :: ws) ({ frames := 0, cells := 0, slots := 0, locals := 0 } : Room)) (fun aa UU => aa = #[(.ref a), (.ref b)] ∧ Z.Warmed39 UU.vm ∧ UU.heap = h0) (fun _ _ _ _ _ => True) (fun _ UU oo UU' => ∃ rv LL, oo = .returned rv ∧ own_eqi_Q Z a b h0 n0 rv UU'.heap LL ∧ FrameEnd UU oo UU' LL ({ frames := 0, cells := 0, slots := 0, locals := 0 } : Room).cells ({ frames := 0, cells := 0, slots := 0, locals := 0 } : Room).slots) := by
  refine MetFree.of_bodySF (plainFor_of_name own_pn6) hisR ?_
  intro p e s m args below meth c s₁ Bd hml0 hP hK
  obtain ⟨rfl, hZ, hh⟩ := hP
  have hx := Bd.exec
  have hby := Bd.bytes
  have hml : c.maxLocals = 3 := hml0
  have hown : s.vm.findClass "plainsight/core/term/BooleanTerm" = some m.cls := findClass_of_methodNamed Bd.named
  have hnm := (name_of_methodNamed Bd.named Bd.method).1
  have X0 : Stand p l e ({ frames := 0, cells := 0, slots := 0, locals := 0 } : Room) s m #[(.ref a), (.ref b)] below meth c s₁ [] 0 0 := Stand.of_body Bd
  have e0 : s₁.heap = h0 := by rw [← hh, Bd.state]; rfl
  have N0 := Fr.nil n0
  have K0 : Keep h0 h0 [] := Keep.refl h0 _
  refine (?_ : OwnGo p.tables e below (fun UU' oo => ∃ rv LL, oo = .returned rv ∧ own_eqi_Q Z a b h0 n0 rv UU'.heap LL ∧ FrameEnd s oo UU' LL ({ frames := 0, cells := 0, slots := 0, locals := 0 } : Room).cells ({ frames := 0, cells := 0, slots := 0, locals := 0 } : Room).slots) _)
  refine OwnGo.back (s₁.setTop (mkF m 0 #[.val (.ref a), .val (.ref b), .unset] [])) (fun tg kk => castTop (own_eqi_ef m a b) kk) ?_
  refine OwnGo.back (s₁.setTop (mkF m 1 #[.val (.ref a), .val (.ref b), .unset] [(.ref b)])) (fun tg kk => XS.aloadN X0.here hx rfl (hb hby own_d10_0) rfl rfl kk) ?_
  obtain ⟨T1, X1, e1, st1⟩ := instNo X0 hx hZ hown (hw _ (List.mem_of_getElem? (i := 68) rfl)) e0 H0 (own_nsno (hw _ (List.mem_of_getElem? (i := 69) rfl)) (hw _ (List.mem_of_getElem? (i := 1) rfl)) (NS.step (hw _ (List.mem_of_getElem? (i := 69) rfl)) (NS.step (hw _ (List.mem_of_getElem? (i := 70) rfl)) (own_nsroot (hw _ (List.mem_of_getElem? (i := 71) rfl)) (hw _ (List.mem_of_getElem? (i := 1) rfl)) (by decide)) (by decide)) (by decide)) (by decide)) (g := (mkF m 1 #[.val (.ref a), .val (.ref b), .unset] [(.ref b)])) rfl rfl (hb hby own_d10_1)
  refine OwnGo.back (T1.setTop (mkF m 4 #[.val (.ref a), .val (.ref b), .unset] [(.int (0 : Int32))])) (fun tg kk => st1 _ kk) ?_
  refine OwnGo.back (T1.setTop (mkF m 27 #[.val (.ref a), .val (.ref b), .unset] [])) (fun tg kk => XS.ifYes X1.here hx rfl (pc0 := 4) (pc' := 27) rfl (hb hby own_d10_4) rfl ((if0 _ _).trans (teq (by decide : (0 : Int32) = (0 : Int32))).1) (by decide) (by decide) kk) ?_
  refine OwnGo.back (T1.setTop (mkF m 28 #[.val (.ref a), .val (.ref b), .unset] [(.int (0 : Int32))])) (fun tg kk => XS.iconst X1.here hx rfl (hb hby own_d10_27) kk) ?_
  obtain ⟨fs, hr, hrun, hended, hW, hsame⟩ := X1.leave (v := some (.int (0 : Int32))) (fun h => by rw [Bd.returns] at h; cases h)
  refine ⟨_, _, ?_, hrun, hended, _, _, rfl, ?_, ⟨_, rfl⟩, hW, hsame.mono (by decide) (by decide)⟩
  · exact retN X1 hx (t := .boolean) Bd.returns (by simp) (hb hby own_d10_28) hr
  · show own_eqi_Q Z a b h0 n0 _ T1.heap _
    rw [e1]
    exact ⟨rfl, N0, rfl⟩
theorem own_eqj_ef (m : MethodId) (x0 : Addr) (x1 : Addr) : entryFrame m #[(.ref x0), (.ref x1)] 3 = mkF m 0 #[.val (.ref x0), .val (.ref x1), .unset] [] := by first | (simp [entryFrame, mkF, argsToLocals, Value.category]; done) | rfl
def own_eqj_Q (Z : State) (a : Addr) (b : Addr) (h0 : Heap) (n0 : Nat) (rv : Option Value) (hN : Heap) (LL : List Loc) : Prop := rv = some (.int (0 : Int32)) ∧ Fr n0 LL ∧ hN = h0
set_option maxRecDepth 65536 in
set_option maxHeartbeats 40000000 in
theorem own_eqj (l : Launch) (Z : State) (a0 : Array Value) (hw : ∀ d ∈ tables_1, d.before a0 Z = true) (ws : List Jvm.Cond) (a : Addr) (b : Addr) (h0 : Heap) (n0 : Nat) (Z0 : n0 ≤ h0.size) (H0 : Exa Z h0 b "java/lang/Integer") :
    MetFree l (⟨"plainsight/core/term/BooleanTerm", "equals", "(Ljava/lang/Object;)Z"⟩ : MethodName) (head1 (Jvm.Cond.code (⟨"plainsight/core/term/BooleanTerm", "equals", "(Ljava/lang/Object;)Z"⟩ : MethodName) prog_57_method_3_code 3 (some .boolean) :: ws) ({ frames := 0, cells := 0, slots := 0, locals := 0 } : Room)) (fun aa UU => aa = #[(.ref a), (.ref b)] ∧ Z.Warmed39 UU.vm ∧ UU.heap = h0) (fun _ _ _ _ _ => True) (fun _ UU oo UU' => ∃ rv LL, oo = .returned rv ∧ own_eqj_Q Z a b h0 n0 rv UU'.heap LL ∧ FrameEnd UU oo UU' LL ({ frames := 0, cells := 0, slots := 0, locals := 0 } : Room).cells ({ frames := 0, cells := 0, slots := 0, locals := 0 } : Room).slots) := by
  refine MetFree.of_bodySF (plainFor_of_name own_pn6) hisR ?_
  intro p e s m args below meth c s₁ Bd hml0 hP hK
  obtain ⟨rfl, hZ, hh⟩ := hP
  have hx := Bd.exec
  have hby := Bd.bytes
  have hml : c.maxLocals = 3 := hml0
  have hown : s.vm.findClass "plainsight/core/term/BooleanTerm" = some m.cls := findClass_of_methodNamed Bd.named
  have hnm := (name_of_methodNamed Bd.named Bd.method).1
  have X0 : Stand p l e ({ frames := 0, cells := 0, slots := 0, locals := 0 } : Room) s m #[(.ref a), (.ref b)] below meth c s₁ [] 0 0 := Stand.of_body Bd
  have e0 : s₁.heap = h0 := by rw [← hh, Bd.state]; rfl
  have N0 := Fr.nil n0
  have K0 : Keep h0 h0 [] := Keep.refl h0 _
  refine (?_ : OwnGo p.tables e below (fun UU' oo => ∃ rv LL, oo = .returned rv ∧ own_eqj_Q Z a b h0 n0 rv UU'.heap LL ∧ FrameEnd s oo UU' LL ({ frames := 0, cells := 0, slots := 0, locals := 0 } : Room).cells ({ frames := 0, cells := 0, slots := 0, locals := 0 } : Room).slots) _)
  refine OwnGo.back (s₁.setTop (mkF m 0 #[.val (.ref a), .val (.ref b), .unset] [])) (fun tg kk => castTop (own_eqj_ef m a b) kk) ?_
  refine OwnGo.back (s₁.setTop (mkF m 1 #[.val (.ref a), .val (.ref b), .unset] [(.ref b)])) (fun tg kk => XS.aloadN X0.here hx rfl (hb hby own_d10_0) rfl rfl kk) ?_
  obtain ⟨T1, X1, e1, st1⟩ := instNo X0 hx hZ hown (hw _ (List.mem_of_getElem? (i := 68) rfl)) e0 H0 (own_nsno (hw _ (List.mem_of_getElem? (i := 79) rfl)) (hw _ (List.mem_of_getElem? (i := 1) rfl)) (NS.step (hw _ (List.mem_of_getElem? (i := 79) rfl)) (NS.step (hw _ (List.mem_of_getElem? (i := 80) rfl)) (own_nsroot (hw _ (List.mem_of_getElem? (i := 71) rfl)) (hw _ (List.mem_of_getElem? (i := 1) rfl)) (by decide)) (by decide)) (by decide)) (by decide)) (g := (mkF m 1 #[.val (.ref a), .val (.ref b), .unset] [(.ref b)])) rfl rfl (hb hby own_d10_1)
  refine OwnGo.back (T1.setTop (mkF m 4 #[.val (.ref a), .val (.ref b), .unset] [(.int (0 : Int32))])) (fun tg kk => st1 _ kk) ?_
  refine OwnGo.back (T1.setTop (mkF m 27 #[.val (.ref a), .val (.ref b), .unset] [])) (fun tg kk => XS.ifYes X1.here hx rfl (pc0 := 4) (pc' := 27) rfl (hb hby own_d10_4) rfl ((if0 _ _).trans (teq (by decide : (0 : Int32) = (0 : Int32))).1) (by decide) (by decide) kk) ?_
  refine OwnGo.back (T1.setTop (mkF m 28 #[.val (.ref a), .val (.ref b), .unset] [(.int (0 : Int32))])) (fun tg kk => XS.iconst X1.here hx rfl (hb hby own_d10_27) kk) ?_
  obtain ⟨fs, hr, hrun, hended, hW, hsame⟩ := X1.leave (v := some (.int (0 : Int32))) (fun h => by rw [Bd.returns] at h; cases h)
  refine ⟨_, _, ?_, hrun, hended, _, _, rfl, ?_, ⟨_, rfl⟩, hW, hsame.mono (by decide) (by decide)⟩
  · exact retN X1 hx (t := .boolean) Bd.returns (by simp) (hb hby own_d10_28) hr
  · show own_eqj_Q Z a b h0 n0 _ T1.heap _
    rw [e1]
    exact ⟨rfl, N0, rfl⟩
theorem own_eqt_ef (m : MethodId) (x0 : Addr) (x1 : Addr) : entryFrame m #[(.ref x0), (.ref x1)] 3 = mkF m 0 #[.val (.ref x0), .val (.ref x1), .unset] [] := by first | (simp [entryFrame, mkF, argsToLocals, Value.category]; done) | rfl
def own_eqt_Q (Z : State) (a : Addr) (b : Addr) (v0 : Int32) (v1 : Int32) (h0 : Heap) (n0 : Nat) (rv : Option Value) (hN : Heap) (LL : List Loc) : Prop := ∃ (r : Int32), rv = some (.int r) ∧ Fr n0 LL ∧ hN = h0 ∧ ((r = 1 ∧ v0 = v1) ∨ (r = 0 ∧ ¬ v0 = v1))
set_option maxRecDepth 65536 in
set_option maxHeartbeats 40000000 in
theorem own_eqt (l : Launch) (Z : State) (a0 : Array Value) (hw : ∀ d ∈ tables_1, d.before a0 Z = true) (ws : List Jvm.Cond) (a : Addr) (b : Addr) (v0 : Int32) (v1 : Int32) (h0 : Heap) (n0 : Nat) (Z0 : n0 ≤ h0.size) (H0 : Exa Z h0 b "plainsight/core/term/BooleanTerm") (H1 : Fld Z h0 a "plainsight/core/term/BooleanTerm" "value" "Z" (.int v0)) (H2 : Fld Z h0 b "plainsight/core/term/BooleanTerm" "value" "Z" (.int v1)) :
    MetFree l (⟨"plainsight/core/term/BooleanTerm", "equals", "(Ljava/lang/Object;)Z"⟩ : MethodName) (head1 (Jvm.Cond.code (⟨"plainsight/core/term/BooleanTerm", "equals", "(Ljava/lang/Object;)Z"⟩ : MethodName) prog_57_method_3_code 3 (some .boolean) :: ws) ({ frames := 0, cells := 0, slots := 0, locals := 0 } : Room)) (fun aa UU => aa = #[(.ref a), (.ref b)] ∧ Z.Warmed39 UU.vm ∧ UU.heap = h0) (fun _ _ _ _ _ => True) (fun _ UU oo UU' => ∃ rv LL, oo = .returned rv ∧ own_eqt_Q Z a b v0 v1 h0 n0 rv UU'.heap LL ∧ FrameEnd UU oo UU' LL ({ frames := 0, cells := 0, slots := 0, locals := 0 } : Room).cells ({ frames := 0, cells := 0, slots := 0, locals := 0 } : Room).slots) := by
  refine MetFree.of_bodySF (plainFor_of_name own_pn6) hisR ?_
  intro p e s m args below meth c s₁ Bd hml0 hP hK
  obtain ⟨rfl, hZ, hh⟩ := hP
  have hx := Bd.exec
  have hby := Bd.bytes
  have hml : c.maxLocals = 3 := hml0
  have hown : s.vm.findClass "plainsight/core/term/BooleanTerm" = some m.cls := findClass_of_methodNamed Bd.named
  have hnm := (name_of_methodNamed Bd.named Bd.method).1
  have X0 : Stand p l e ({ frames := 0, cells := 0, slots := 0, locals := 0 } : Room) s m #[(.ref a), (.ref b)] below meth c s₁ [] 0 0 := Stand.of_body Bd
  have e0 : s₁.heap = h0 := by rw [← hh, Bd.state]; rfl
  have N0 := Fr.nil n0
  have K0 : Keep h0 h0 [] := Keep.refl h0 _
  refine (?_ : OwnGo p.tables e below (fun UU' oo => ∃ rv LL, oo = .returned rv ∧ own_eqt_Q Z a b v0 v1 h0 n0 rv UU'.heap LL ∧ FrameEnd s oo UU' LL ({ frames := 0, cells := 0, slots := 0, locals := 0 } : Room).cells ({ frames := 0, cells := 0, slots := 0, locals := 0 } : Room).slots) _)
  refine OwnGo.back (s₁.setTop (mkF m 0 #[.val (.ref a), .val (.ref b), .unset] [])) (fun tg kk => castTop (own_eqt_ef m a b) kk) ?_
  refine OwnGo.back (s₁.setTop (mkF m 1 #[.val (.ref a), .val (.ref b), .unset] [(.ref b)])) (fun tg kk => XS.aloadN X0.here hx rfl (hb hby own_d10_0) rfl rfl kk) ?_
  obtain ⟨T1, X1, e1, st1⟩ := instY X0 hx hZ hown (hw _ (List.mem_of_getElem? (i := 68) rfl)) e0 (Ins.self H0) (g := (mkF m 1 #[.val (.ref a), .val (.ref b), .unset] [(.ref b)])) rfl rfl (hb hby own_d10_1)
  refine OwnGo.back (T1.setTop (mkF m 4 #[.val (.ref a), .val (.ref b), .unset] [(.int (1 : Int32))])) (fun tg kk => st1 _ kk) ?_
  refine OwnGo.back (T1.setTop (mkF m 7 #[.val (.ref a), .val (.ref b), .unset] [])) (fun tg kk => XS.ifNo X1.here hx rfl (hb hby own_d10_4) rfl ((if0 _ _).trans (feq (by decide : ¬ ((1 : Int32) = (0 : Int32)))).1) kk) ?_
  refine OwnGo.back (T1.setTop (mkF m 8 #[.val (.ref a), .val (.ref b), .unset] [(.ref b)])) (fun tg kk => XS.aloadN X1.here hx rfl (hb hby own_d10_7) rfl rfl kk) ?_
  obtain ⟨T2, X2, e2, st2⟩ := castY X1 hx hZ hown (hw _ (List.mem_of_getElem? (i := 68) rfl)) e1 (Ins.self H0) (g := (mkF m 8 #[.val (.ref a), .val (.ref b), .unset] [(.ref b)])) rfl rfl (hb hby own_d10_8)
  refine OwnGo.back (T2.setTop (mkF m 11 #[.val (.ref a), .val (.ref b), .unset] [(.ref b)])) (fun tg kk => st2 _ kk) ?_
  refine OwnGo.back (T2.setTop (mkF m 12 #[.val (.ref a), .val (.ref b), .val (.ref b)] [])) (fun tg kk => XS.astoreN X2.here hx rfl (hb hby own_d10_11) rfl rfl (l' := #[.val (.ref a), .val (.ref b), .val (.ref b)]) rfl kk) ?_
  refine OwnGo.back (T2.setTop (mkF m 13 #[.val (.ref a), .val (.ref b), .val (.ref b)] [(.ref a)])) (fun tg kk => XS.aloadN X2.here hx rfl (hb hby own_d10_12) rfl rfl kk) ?_
  obtain ⟨T3, X3, e3, st3⟩ := getF X2 hx hZ hown (host := "") (Or.inl (hw _ (List.mem_of_getElem? (i := 14) rfl))) Via.refl e2 H1 (g := (mkF m 13 #[.val (.ref a), .val (.ref b), .val (.ref b)] [(.ref a)])) rfl rfl (hb hby own_d10_13)
  refine OwnGo.back (T3.setTop (mkF m 16 #[.val (.ref a), .val (.ref b), .val (.ref b)] [(.int v0)])) (fun tg kk => st3 _ kk) ?_
  refine OwnGo.back (T3.setTop (mkF m 17 #[.val (.ref a), .val (.ref b), .val (.ref b)] [(.ref b), (.int v0)])) (fun tg kk => XS.aloadN X3.here hx rfl (hb hby own_d10_16) rfl rfl kk) ?_
  obtain ⟨T4, X4, e4, st4⟩ := getF X3 hx hZ hown (host := "") (Or.inl (hw _ (List.mem_of_getElem? (i := 14) rfl))) Via.refl e3 H2 (g := (mkF m 17 #[.val (.ref a), .val (.ref b), .val (.ref b)] [(.ref b), (.int v0)])) rfl rfl (hb hby own_d10_17)
  refine OwnGo.back (T4.setTop (mkF m 20 #[.val (.ref a), .val (.ref b), .val (.ref b)] [(.int v1), (.int v0)])) (fun tg kk => st4 _ kk) ?_
  by_cases hc5 : v0 = v1
  ·
    refine OwnGo.back (T4.setTop (mkF m 23 #[.val (.ref a), .val (.ref b), .val (.ref b)] [])) (fun tg kk => XS.icmpNo X4.here hx rfl (hb hby own_d10_20) rfl (teq hc5).2 kk) ?_
    refine OwnGo.back (T4.setTop (mkF m 24 #[.val (.ref a), .val (.ref b), .val (.ref b)] [(.int (1 : Int32))])) (fun tg kk => XS.iconst X4.here hx rfl (hb hby own_d10_23) kk) ?_
    refine OwnGo.back (T4.setTop (mkF m 28 #[.val (.ref a), .val (.ref b), .val (.ref b)] [(.int (1 : Int32))])) (fun tg kk => XS.goto X4.here hx rfl (pc0 := 24) (pc' := 28) rfl (hb hby own_d10_24) (by decide) (by decide) kk) ?_
    obtain ⟨fs, hr, hrun, hended, hW, hsame⟩ := X4.leave (v := some (.int (1 : Int32))) (fun h => by rw [Bd.returns] at h; cases h)
    refine ⟨_, _, ?_, hrun, hended, _, _, rfl, ?_, ⟨_, rfl⟩, hW, hsame.mono (by decide) (by decide)⟩
    · exact retN X4 hx (t := .boolean) Bd.returns (by simp) (hb hby own_d10_28) hr
    · show own_eqt_Q Z a b v0 v1 h0 n0 _ T4.heap _
      rw [e4]
      exact ⟨(1 : Int32), rfl, N0, rfl, (by (simp only [true_and, and_true, false_and, and_false, or_false, false_or, or_true, true_or, not_true_eq_false, not_false_eq_true, eq_self, Int32.lt_iff_toInt_lt, Int32.le_iff_toInt_le, ← Int32.toInt_inj, Int32.reduceToInt, Int64.lt_iff_toInt_lt, Int64.le_iff_toInt_le, ← Int64.toInt_inj, Int64.reduceToInt] at hc5 ⊢) <;> omega)⟩
  ·
    refine OwnGo.back (T4.setTop (mkF m 27 #[.val (.ref a), .val (.ref b), .val (.ref b)] [])) (fun tg kk => XS.icmpYes X4.here hx rfl (pc0 := 20) (pc' := 27) rfl (hb hby own_d10_20) rfl (feq hc5).2 (by decide) (by decide) kk) ?_
    refine OwnGo.back (T4.setTop (mkF m 28 #[.val (.ref a), .val (.ref b), .val (.ref b)] [(.int (0 : Int32))])) (fun tg kk => XS.iconst X4.here hx rfl (hb hby own_d10_27) kk) ?_
    obtain ⟨fs, hr, hrun, hended, hW, hsame⟩ := X4.leave (v := some (.int (0 : Int32))) (fun h => by rw [Bd.returns] at h; cases h)
    refine ⟨_, _, ?_, hrun, hended, _, _, rfl, ?_, ⟨_, rfl⟩, hW, hsame.mono (by decide) (by decide)⟩
    · exact retN X4 hx (t := .boolean) Bd.returns (by simp) (hb hby own_d10_28) hr
    · show own_eqt_Q Z a b v0 v1 h0 n0 _ T4.heap _
      rw [e4]
      exact ⟨(0 : Int32), rfl, N0, rfl, (by (simp only [true_and, and_true, false_and, and_false, or_false, false_or, or_true, true_or, not_true_eq_false, not_false_eq_true, eq_self, Int32.lt_iff_toInt_lt, Int32.le_iff_toInt_le, ← Int32.toInt_inj, Int32.reduceToInt, Int64.lt_iff_toInt_lt, Int64.le_iff_toInt_le, ← Int64.toInt_inj, Int64.reduceToInt] at hc5 ⊢) <;> omega)⟩
theorem own_law_ef (m : MethodId) (x0 : Int32) (x1 : Int32) (x2 : Int32) (x3 : Int64) : entryFrame m #[(.int x0), (.int x1), (.int x2), (.long x3)] maxLocals = mkF m 0 #[.val (.int x0), .val (.int x1), .val (.int x2), .val (.long x3), .second, .unset, .unset, .unset, .unset, .unset, .unset] [] := by first | (simp [entryFrame, mkF, argsToLocals, Value.category, maxLocals]; done) | rfl
def own_law_Q (Z : State) (p1 : Int32) (p2 : Int32) (p3 : Int32) (p4 : Int64) (ca : Addr) (bz : Addr) (bp : Addr) (bn : Addr) (h0 : Heap) (n0 : Nat) (rv : Option Value) (hN : Heap) (LL : List Loc) : Prop := rv = some (.int (1 : Int32)) ∧ Fr n0 LL ∧ Keep h0 hN []
set_option maxRecDepth 65536 in
set_option maxHeartbeats 40000000 in
theorem own_law (l : Launch) (Z : State) (a0 : Array Value) (hw : ∀ d ∈ tables_1, d.before a0 Z = true) (ws : List Jvm.Cond) (p1 : Int32) (p2 : Int32) (p3 : Int32) (p4 : Int64) (ca : Addr) (bz : Addr) (bp : Addr) (bn : Addr) (h0 : Heap) (n0 : Nat) (Z0 : n0 ≤ h0.size) (SI : Sta Z Z.heap "java/lang/Integer$IntegerCache" "cache" "[Ljava/lang/Integer;" (.ref ca)) (SI' : Sta Z Z.heap "java/lang/Integer$IntegerCache" "high" "I" (.int (127 : Int32))) (old : Old Z n0 h0) (hBI : own_Box Z ca "java/lang/Integer") (SZ : Sta Z Z.heap "java/math/BigInteger" "ZERO" "Ljava/math/BigInteger;" (.ref bz)) (SP : Sta Z Z.heap "java/math/BigInteger" "posConst" "[Ljava/math/BigInteger;" (.ref bp)) (SN : Sta Z Z.heap "java/math/BigInteger" "negConst" "[Ljava/math/BigInteger;" (.ref bn)) (hP : own_Big Z bp) (hN : own_Big Z bn) :
    MetFree l x (head1 (Jvm.Cond.code x code maxLocals ret :: ws) room_1) (fun aa UU => aa = #[(.int p1), (.int p2), (.int p3), (.long p4)] ∧ Z.Warmed39 UU.vm ∧ UU.heap = h0) (fun _ _ _ _ _ => True) (fun _ UU oo UU' => ∃ rv LL, oo = .returned rv ∧ own_law_Q Z p1 p2 p3 p4 ca bz bp bn h0 n0 rv UU'.heap LL ∧ ReturnedEndW UU oo UU' LL room_1.cells room_1.slots) := by
  refine MetFree.of_bodySF (plainFor_of_name own_pn7) hisR ?_
  intro p e s m args below meth c s₁ Bd hml0 hP hK
  obtain ⟨rfl, hZ, hh⟩ := hP
  have hx := Bd.exec
  have hby := Bd.bytes
  have hml : c.maxLocals = 11 := hml0
  have hown : s.vm.findClass "plainsight/core/term/BooleanTermEqualsPinLaw" = some m.cls := findClass_of_methodNamed Bd.named
  have hnm := (name_of_methodNamed Bd.named Bd.method).1
  have hS : s.Since s.vm 0 := State.WarmedH.since (State.WarmedH.refl s) 0
  have hk0 : 0 ≤ h0.size := Nat.zero_le _
  have hZ : Z.Warmed39 (s.setVm s.vm).vm := hZ
  have hown : (s.setVm s.vm).vm.findClass "plainsight/core/term/BooleanTermEqualsPinLaw" = some m.cls := hown
  have X0 : Stand p l e room_1 (s.setVm s.vm) m #[(.int p1), (.int p2), (.int p3), (.long p4)] below meth c s₁ [] 0 0 := Stand.of_body Bd
  have e0 : s₁.heap = h0 := by rw [← hh, Bd.state]; rfl
  have N0 := Fr.nil n0
  have K0 : Keep h0 h0 [] := Keep.refl h0 _
  refine (?_ : OwnGo p.tables e below (fun UU' oo => ∃ rv LL, oo = .returned rv ∧ own_law_Q Z p1 p2 p3 p4 ca bz bp bn h0 n0 rv UU'.heap LL ∧ ReturnedEndW s oo UU' LL room_1.cells room_1.slots) _)
  refine OwnGo.back (s₁.setTop (mkF m 0 #[.val (.int p1), .val (.int p2), .val (.int p3), .val (.long p4), .second, .unset, .unset, .unset, .unset, .unset, .unset] [])) (fun tg kk => castTop (own_law_ef m p1 p2 p3 p4) kk) ?_
  obtain ⟨_, ⟨m2, rfl, hm3⟩, dm4⟩ : OwnMg p.tables e below (fun st' => ∃ (m2 : Int32), st' = s₁.setTop (mkF m 11 #[.val (.int p1), .val (.int p2), .val (.int p3), .val (.long p4), .second, .unset, .unset, .unset, .unset, .unset, .unset] [(.int m2)]) ∧ ((((p1 &&& (1 : Int32)) = (0 : Int32)) ∧ m2 = (0 : Int32)) ∨ ((¬ ((p1 &&& (1 : Int32)) = (0 : Int32))) ∧ m2 = (1 : Int32)))) (s₁.setTop (mkF m 0 #[.val (.int p1), .val (.int p2), .val (.int p3), .val (.long p4), .second, .unset, .unset, .unset, .unset, .unset, .unset] [])) := by
    refine OwnMg.back (s₁.setTop (mkF m 1 #[.val (.int p1), .val (.int p2), .val (.int p3), .val (.long p4), .second, .unset, .unset, .unset, .unset, .unset, .unset] [(.int p1)])) (fun tg kk => XS.iloadN X0.here hx rfl (hb hby at_0) rfl kk) ?_
    refine OwnMg.back (s₁.setTop (mkF m 2 #[.val (.int p1), .val (.int p2), .val (.int p3), .val (.long p4), .second, .unset, .unset, .unset, .unset, .unset, .unset] [(.int (1 : Int32)), (.int p1)])) (fun tg kk => XS.iconst X0.here hx rfl (hb hby at_1) kk) ?_
    refine OwnMg.back (s₁.setTop (mkF m 3 #[.val (.int p1), .val (.int p2), .val (.int p3), .val (.long p4), .second, .unset, .unset, .unset, .unset, .unset, .unset] [(.int (p1 &&& (1 : Int32)))])) (fun tg kk => XS.iand X0.here hx rfl (hb hby at_2) rfl kk) ?_
    by_cases hc10 : (p1 &&& (1 : Int32)) = (0 : Int32)
    ·
      refine OwnMg.back (s₁.setTop (mkF m 10 #[.val (.int p1), .val (.int p2), .val (.int p3), .val (.long p4), .second, .unset, .unset, .unset, .unset, .unset, .unset] [])) (fun tg kk => XS.ifYes X0.here hx rfl (pc0 := 3) (pc' := 10) rfl (hb hby at_3) rfl ((if0 _ _).trans (teq hc10).1) (by decide) (by decide) kk) ?_
      refine OwnMg.back (s₁.setTop (mkF m 11 #[.val (.int p1), .val (.int p2), .val (.int p3), .val (.long p4), .second, .unset, .unset, .unset, .unset, .unset, .unset] [(.int (0 : Int32))])) (fun tg kk => XS.iconst X0.here hx rfl (hb hby at_10) kk) ?_
      exact ⟨_, ⟨(0 : Int32), rfl, Or.inl ⟨hc10, rfl⟩⟩, fun tg kk => kk⟩
    ·
      refine OwnMg.back (s₁.setTop (mkF m 6 #[.val (.int p1), .val (.int p2), .val (.int p3), .val (.long p4), .second, .unset, .unset, .unset, .unset, .unset, .unset] [])) (fun tg kk => XS.ifNo X0.here hx rfl (hb hby at_3) rfl ((if0 _ _).trans (feq hc10).1) kk) ?_
      refine OwnMg.back (s₁.setTop (mkF m 7 #[.val (.int p1), .val (.int p2), .val (.int p3), .val (.long p4), .second, .unset, .unset, .unset, .unset, .unset, .unset] [(.int (1 : Int32))])) (fun tg kk => XS.iconst X0.here hx rfl (hb hby at_6) kk) ?_
      refine OwnMg.back (s₁.setTop (mkF m 11 #[.val (.int p1), .val (.int p2), .val (.int p3), .val (.long p4), .second, .unset, .unset, .unset, .unset, .unset, .unset] [(.int (1 : Int32))])) (fun tg kk => XS.goto X0.here hx rfl (pc0 := 7) (pc' := 11) rfl (hb hby at_7) (by decide) (by decide) kk) ?_
      exact ⟨_, ⟨(1 : Int32), rfl, Or.inr (⟨hc10, rfl⟩)⟩, fun tg kk => kk⟩
  refine OwnGo.back (s₁.setTop (mkF m 11 #[.val (.int p1), .val (.int p2), .val (.int p3), .val (.long p4), .second, .unset, .unset, .unset, .unset, .unset, .unset] [(.int m2)])) dm4 ?_
  refine OwnGo.back (s₁.setTop (mkF m 13 #[.val (.int p1), .val (.int p2), .val (.int p3), .val (.long p4), .second, .val (.int m2), .unset, .unset, .unset, .unset, .unset] [])) (fun tg kk => XS.istore X0.here hx rfl (hb hby at_11) rfl (l' := #[.val (.int p1), .val (.int p2), .val (.int p3), .val (.long p4), .second, .val (.int m2), .unset, .unset, .unset, .unset, .unset]) rfl kk) ?_
  obtain ⟨_, ⟨m12, rfl, hm13⟩, dm14⟩ : OwnMg p.tables e below (fun st' => ∃ (m12 : Int32), st' = s₁.setTop (mkF m 24 #[.val (.int p1), .val (.int p2), .val (.int p3), .val (.long p4), .second, .val (.int m2), .unset, .unset, .unset, .unset, .unset] [(.int m12)]) ∧ ((((p2 &&& (1 : Int32)) = (0 : Int32)) ∧ m12 = (0 : Int32)) ∨ ((¬ ((p2 &&& (1 : Int32)) = (0 : Int32))) ∧ m12 = (1 : Int32)))) (s₁.setTop (mkF m 13 #[.val (.int p1), .val (.int p2), .val (.int p3), .val (.long p4), .second, .val (.int m2), .unset, .unset, .unset, .unset, .unset] [])) := by
    refine OwnMg.back (s₁.setTop (mkF m 14 #[.val (.int p1), .val (.int p2), .val (.int p3), .val (.long p4), .second, .val (.int m2), .unset, .unset, .unset, .unset, .unset] [(.int p2)])) (fun tg kk => XS.iloadN X0.here hx rfl (hb hby at_13) rfl kk) ?_
    refine OwnMg.back (s₁.setTop (mkF m 15 #[.val (.int p1), .val (.int p2), .val (.int p3), .val (.long p4), .second, .val (.int m2), .unset, .unset, .unset, .unset, .unset] [(.int (1 : Int32)), (.int p2)])) (fun tg kk => XS.iconst X0.here hx rfl (hb hby at_14) kk) ?_
    refine OwnMg.back (s₁.setTop (mkF m 16 #[.val (.int p1), .val (.int p2), .val (.int p3), .val (.long p4), .second, .val (.int m2), .unset, .unset, .unset, .unset, .unset] [(.int (p2 &&& (1 : Int32)))])) (fun tg kk => XS.iand X0.here hx rfl (hb hby at_15) rfl kk) ?_
    by_cases hc20 : (p2 &&& (1 : Int32)) = (0 : Int32)
    ·
      refine OwnMg.back (s₁.setTop (mkF m 23 #[.val (.int p1), .val (.int p2), .val (.int p3), .val (.long p4), .second, .val (.int m2), .unset, .unset, .unset, .unset, .unset] [])) (fun tg kk => XS.ifYes X0.here hx rfl (pc0 := 16) (pc' := 23) rfl (hb hby at_16) rfl ((if0 _ _).trans (teq hc20).1) (by decide) (by decide) kk) ?_
      refine OwnMg.back (s₁.setTop (mkF m 24 #[.val (.int p1), .val (.int p2), .val (.int p3), .val (.long p4), .second, .val (.int m2), .unset, .unset, .unset, .unset, .unset] [(.int (0 : Int32))])) (fun tg kk => XS.iconst X0.here hx rfl (hb hby at_23) kk) ?_
      exact ⟨_, ⟨(0 : Int32), rfl, Or.inl ⟨hc20, rfl⟩⟩, fun tg kk => kk⟩
    ·
      refine OwnMg.back (s₁.setTop (mkF m 19 #[.val (.int p1), .val (.int p2), .val (.int p3), .val (.long p4), .second, .val (.int m2), .unset, .unset, .unset, .unset, .unset] [])) (fun tg kk => XS.ifNo X0.here hx rfl (hb hby at_16) rfl ((if0 _ _).trans (feq hc20).1) kk) ?_
      refine OwnMg.back (s₁.setTop (mkF m 20 #[.val (.int p1), .val (.int p2), .val (.int p3), .val (.long p4), .second, .val (.int m2), .unset, .unset, .unset, .unset, .unset] [(.int (1 : Int32))])) (fun tg kk => XS.iconst X0.here hx rfl (hb hby at_19) kk) ?_
      refine OwnMg.back (s₁.setTop (mkF m 24 #[.val (.int p1), .val (.int p2), .val (.int p3), .val (.long p4), .second, .val (.int m2), .unset, .unset, .unset, .unset, .unset] [(.int (1 : Int32))])) (fun tg kk => XS.goto X0.here hx rfl (pc0 := 20) (pc' := 24) rfl (hb hby at_20) (by decide) (by decide) kk) ?_
      exact ⟨_, ⟨(1 : Int32), rfl, Or.inr (⟨hc20, rfl⟩)⟩, fun tg kk => kk⟩
  refine OwnGo.back (s₁.setTop (mkF m 24 #[.val (.int p1), .val (.int p2), .val (.int p3), .val (.long p4), .second, .val (.int m2), .unset, .unset, .unset, .unset, .unset] [(.int m12)])) dm14 ?_
  refine OwnGo.back (s₁.setTop (mkF m 26 #[.val (.int p1), .val (.int p2), .val (.int p3), .val (.long p4), .second, .val (.int m2), .val (.int m12), .unset, .unset, .unset, .unset] [])) (fun tg kk => XS.istore X0.here hx rfl (hb hby at_24) rfl (l' := #[.val (.int p1), .val (.int p2), .val (.int p3), .val (.long p4), .second, .val (.int m2), .val (.int m12), .unset, .unset, .unset, .unset]) rfl kk) ?_
  obtain ⟨T21, h21, X21, e21, E21, A21, D21, -, st21⟩ := newO X0 hx hZ hown (hw _ (List.mem_of_getElem? (i := 0) rfl)) (hw _ (List.mem_of_getElem? (i := 1) rfl)) (hw _ (List.mem_of_getElem? (i := 2) rfl)) e0 (g := (mkF m 26 #[.val (.int p1), .val (.int p2), .val (.int p3), .val (.long p4), .second, .val (.int m2), .val (.int m12), .unset, .unset, .unset, .unset] [])) rfl (hb hby at_26) (by decide) (by decide)
  obtain ⟨b21, q21⟩ : ∃ z, z = h0.size := ⟨_, rfl⟩
  rw [← q21] at A21 D21 st21
  have g22 : n0 ≤ b21 := Nat.le_trans Z0 (Nat.le_of_eq q21.symm)
  have s23 : h0.size ≤ b21 := Nat.le_trans K0.1 (Nat.le_of_eq q21.symm)
  have f24 : Old Z n0 h21 := old.ext E21
  have K25 : Keep h0 h21 [] := K0.ext E21
  have Z26 : n0 ≤ h21.size := Nat.le_trans Z0 E21.1
  have f27 : Fld Z h21 b21 "plainsight/core/term/BooleanTerm" "value" "Z" (.int (0 : Int32)) := D21 (Or.inr (hw _ (List.mem_of_getElem? (i := 15) rfl))) (ty := .boolean) (by decide)
  refine OwnGo.back (T21.setTop (mkF m 29 #[.val (.int p1), .val (.int p2), .val (.int p3), .val (.long p4), .second, .val (.int m2), .val (.int m12), .unset, .unset, .unset, .unset] [(.ref b21)])) (fun tg kk => st21 _ kk) ?_
  refine OwnGo.back (T21.setTop (mkF m 30 #[.val (.int p1), .val (.int p2), .val (.int p3), .val (.long p4), .second, .val (.int m2), .val (.int m12), .unset, .unset, .unset, .unset] [(.ref b21), (.ref b21)])) (fun tg kk => XS.dup X21.here hx rfl (hb hby at_29) rfl rfl kk) ?_
  refine OwnGo.back (T21.setTop (mkF m 32 #[.val (.int p1), .val (.int p2), .val (.int p3), .val (.long p4), .second, .val (.int m2), .val (.int m12), .unset, .unset, .unset, .unset] [(.int m2), (.ref b21), (.ref b21)])) (fun tg kk => XS.iload X21.here hx rfl (hb hby at_30) rfl kk) ?_
  obtain ⟨_, _, ⟨T28, L28, k28, n28⟩, -, X28, ⟨Lc28, hQ28, l28, y28, z28⟩, st28⟩ := X21.specialBack hx (y := (⟨"plainsight/core/term/BooleanTerm", "<init>", "(Z)V"⟩ : MethodName)) rfl hown (mvT hZ (hw _ (List.mem_of_getElem? (i := 3) rfl))) (mvT hZ (hw _ (List.mem_of_getElem? (i := 4) rfl))) (mvT hZ (hw _ (List.mem_of_getElem? (i := 5) rfl))) (by decide) (backOf (W := 1) (own_bt l Z a0 hw [] b21 m2 h21 n0 Z26 A21 f27 g22 (by (simp only [true_and, and_true, false_and, and_false, or_false, false_or, or_true, true_or, not_true_eq_false, not_false_eq_true, eq_self, Int32.lt_iff_toInt_lt, Int32.le_iff_toInt_le, ← Int32.toInt_inj, Int32.reduceToInt, Int64.lt_iff_toInt_lt, Int64.le_iff_toInt_le, ← Int64.toInt_inj, Int64.reduceToInt] at hBI hP hN hm3 hm13 ⊢) <;> omega)) hZ (hw _ (List.mem_of_getElem? (i := 5) rfl)) (hw _ (List.mem_of_getElem? (i := 2) rfl)) (by decide) (by decide)) (g := (mkF m 32 #[.val (.int p1), .val (.int p2), .val (.int p3), .val (.long p4), .second, .val (.int m2), .val (.int m12), .unset, .unset, .unset, .unset] [(.int m2), (.ref b21), (.ref b21)])) rfl (by rw [hml]; rfl) (Steps.refl _) (a := b21) (argsL := [(.int m2)]) (rest := [(.ref b21)]) (lenOf own_pd6 rfl) rfl (by show 2 * 0 + _ ≤ _; exact Nat.le_of_eq rfl) (hb hby at_32) (fun _ _ => ⟨rfl, e21, (by decide : 1 + 0 ≤ _), (by decide : 1 + 0 ≤ _)⟩)
  dsimp only [Pt.U, Pt.locs, Pt.cells, Pt.slots] at X28 l28 y28 z28 st28 hQ28
  subst l28 y28 z28
  obtain ⟨rfl, N28q, Kc28, po29, po30⟩ := hQ28
  have N28 := Fr.app N0 N28q
  have f31 : Old Z n0 T28.heap := f24.keep Kc28 (allS g22 all0)
  have f32 : Exa Z T28.heap b21 "plainsight/core/term/BooleanTerm" := A21.keep Kc28
  have K33 : Keep h0 T28.heap [] := K25.trans Kc28 (allS (Or.inr s23) all0)
  have Z34 : n0 ≤ T28.heap.size := Nat.le_trans Z26 Kc28.1
  refine OwnGo.back (T28.setTop (mkF m 35 #[.val (.int p1), .val (.int p2), .val (.int p3), .val (.long p4), .second, .val (.int m2), .val (.int m12), .unset, .unset, .unset, .unset] [(.ref b21)])) (fun tg kk => st28.trans kk) ?_
  refine OwnGo.back (T28.setTop (mkF m 37 #[.val (.int p1), .val (.int p2), .val (.int p3), .val (.long p4), .second, .val (.int m2), .val (.int m12), .val (.ref b21), .unset, .unset, .unset] [])) (fun tg kk => XS.astore X28.here hx rfl (hb hby at_35) rfl rfl (l' := #[.val (.int p1), .val (.int p2), .val (.int p3), .val (.long p4), .second, .val (.int m2), .val (.int m12), .val (.ref b21), .unset, .unset, .unset]) rfl kk) ?_
  refine OwnGo.back (T28.setTop (mkF m 38 #[.val (.int p1), .val (.int p2), .val (.int p3), .val (.long p4), .second, .val (.int m2), .val (.int m12), .val (.ref b21), .unset, .unset, .unset] [(.int p3)])) (fun tg kk => XS.iloadN X28.here hx rfl (hb hby at_37) rfl kk) ?_
  refine OwnGo.back (T28.setTop (mkF m 39 #[.val (.int p1), .val (.int p2), .val (.int p3), .val (.long p4), .second, .val (.int m2), .val (.int m12), .val (.ref b21), .unset, .unset, .unset] [(.int (3 : Int32)), (.int p3)])) (fun tg kk => XS.iconst X28.here hx rfl (hb hby at_38) kk) ?_
  refine OwnGo.back (T28.setTop (mkF m 40 #[.val (.int p1), .val (.int p2), .val (.int p3), .val (.long p4), .second, .val (.int m2), .val (.int m12), .val (.ref b21), .unset, .unset, .unset] [(.int (p3 &&& (3 : Int32)))])) (fun tg kk => XS.iand X28.here hx rfl (hb hby at_39) rfl kk) ?_
  refine OwnGo.back (T28.setTop (mkF m 42 #[.val (.int p1), .val (.int p2), .val (.int p3), .val (.long p4), .second, .val (.int m2), .val (.int m12), .val (.ref b21), .val (.int (p3 &&& (3 : Int32))), .unset, .unset] [])) (fun tg kk => XS.istore X28.here hx rfl (hb hby at_40) rfl (l' := #[.val (.int p1), .val (.int p2), .val (.int p3), .val (.long p4), .second, .val (.int m2), .val (.int m12), .val (.ref b21), .val (.int (p3 &&& (3 : Int32))), .unset, .unset]) rfl kk) ?_
  refine OwnGo.back (T28.setTop (mkF m 44 #[.val (.int p1), .val (.int p2), .val (.int p3), .val (.long p4), .second, .val (.int m2), .val (.int m12), .val (.ref b21), .val (.int (p3 &&& (3 : Int32))), .unset, .unset] [(.int (p3 &&& (3 : Int32)))])) (fun tg kk => XS.iload X28.here hx rfl (hb hby at_42) rfl kk) ?_
  by_cases hc35 : (p3 &&& (3 : Int32)) = (0 : Int32)
  ·
    refine OwnGo.back (T28.setTop (mkF m 47 #[.val (.int p1), .val (.int p2), .val (.int p3), .val (.long p4), .second, .val (.int m2), .val (.int m12), .val (.ref b21), .val (.int (p3 &&& (3 : Int32))), .unset, .unset] [])) (fun tg kk => XS.ifNo X28.here hx rfl (hb hby at_44) rfl ((if0 _ _).trans (teq hc35).2) kk) ?_
    obtain ⟨T36, h36, X36, e36, E36, A36, D36, -, st36⟩ := newO X28 hx hZ hown (hw _ (List.mem_of_getElem? (i := 0) rfl)) (hw _ (List.mem_of_getElem? (i := 1) rfl)) (hw _ (List.mem_of_getElem? (i := 2) rfl)) rfl (g := (mkF m 47 #[.val (.int p1), .val (.int p2), .val (.int p3), .val (.long p4), .second, .val (.int m2), .val (.int m12), .val (.ref b21), .val (.int (p3 &&& (3 : Int32))), .unset, .unset] [])) rfl (hb hby at_47) (by decide) (by decide)
    obtain ⟨b36, q36⟩ : ∃ z, z = T28.heap.size := ⟨_, rfl⟩
    rw [← q36] at A36 D36 st36
    have n37 : b21 ≠ b36 := own_ne po29.lt q36
    have g38 : n0 ≤ b36 := Nat.le_trans Z34 (Nat.le_of_eq q36.symm)
    have s39 : h0.size ≤ b36 := Nat.le_trans K33.1 (Nat.le_of_eq q36.symm)
    have f40 : Old Z n0 h36 := f31.ext E36
    have f41 : Exa Z h36 b21 "plainsight/core/term/BooleanTerm" := po29.ext E36
    have f42 : Fld Z h36 b21 "plainsight/core/term/BooleanTerm" "value" "Z" (.int m2) := po30.ext E36
    have K43 : Keep h0 h36 [] := K33.ext E36
    have Z44 : n0 ≤ h36.size := Nat.le_trans Z34 E36.1
    have f45 : Fld Z h36 b36 "plainsight/core/term/BooleanTerm" "value" "Z" (.int (0 : Int32)) := D36 (Or.inr (hw _ (List.mem_of_getElem? (i := 15) rfl))) (ty := .boolean) (by decide)
    refine OwnGo.back (T36.setTop (mkF m 50 #[.val (.int p1), .val (.int p2), .val (.int p3), .val (.long p4), .second, .val (.int m2), .val (.int m12), .val (.ref b21), .val (.int (p3 &&& (3 : Int32))), .unset, .unset] [(.ref b36)])) (fun tg kk => st36 _ kk) ?_
    refine OwnGo.back (T36.setTop (mkF m 51 #[.val (.int p1), .val (.int p2), .val (.int p3), .val (.long p4), .second, .val (.int m2), .val (.int m12), .val (.ref b21), .val (.int (p3 &&& (3 : Int32))), .unset, .unset] [(.ref b36), (.ref b36)])) (fun tg kk => XS.dup X36.here hx rfl (hb hby at_50) rfl rfl kk) ?_
    refine OwnGo.back (T36.setTop (mkF m 53 #[.val (.int p1), .val (.int p2), .val (.int p3), .val (.long p4), .second, .val (.int m2), .val (.int m12), .val (.ref b21), .val (.int (p3 &&& (3 : Int32))), .unset, .unset] [(.int m12), (.ref b36), (.ref b36)])) (fun tg kk => XS.iload X36.here hx rfl (hb hby at_51) rfl kk) ?_
    obtain ⟨_, _, ⟨T46, L46, k46, n46⟩, -, X46, ⟨Lc46, hQ46, l46, y46, z46⟩, st46⟩ := X36.specialBack hx (y := (⟨"plainsight/core/term/BooleanTerm", "<init>", "(Z)V"⟩ : MethodName)) rfl hown (mvT hZ (hw _ (List.mem_of_getElem? (i := 3) rfl))) (mvT hZ (hw _ (List.mem_of_getElem? (i := 4) rfl))) (mvT hZ (hw _ (List.mem_of_getElem? (i := 5) rfl))) (by decide) (backOf (W := 1) (own_bt l Z a0 hw [] b36 m12 h36 n0 Z44 A36 f45 g38 (by (simp only [true_and, and_true, false_and, and_false, or_false, false_or, or_true, true_or, not_true_eq_false, not_false_eq_true, eq_self, Int32.lt_iff_toInt_lt, Int32.le_iff_toInt_le, ← Int32.toInt_inj, Int32.reduceToInt, Int64.lt_iff_toInt_lt, Int64.le_iff_toInt_le, ← Int64.toInt_inj, Int64.reduceToInt] at hc35 hBI hP hN hm3 hm13 ⊢) <;> omega)) hZ (hw _ (List.mem_of_getElem? (i := 5) rfl)) (hw _ (List.mem_of_getElem? (i := 2) rfl)) (by decide) (by decide)) (g := (mkF m 53 #[.val (.int p1), .val (.int p2), .val (.int p3), .val (.long p4), .second, .val (.int m2), .val (.int m12), .val (.ref b21), .val (.int (p3 &&& (3 : Int32))), .unset, .unset] [(.int m12), (.ref b36), (.ref b36)])) rfl (by rw [hml]; rfl) (Steps.refl _) (a := b36) (argsL := [(.int m12)]) (rest := [(.ref b36)]) (lenOf own_pd6 rfl) rfl (by show 2 * 0 + _ ≤ _; exact Nat.le_of_eq rfl) (hb hby at_53) (fun _ _ => ⟨rfl, e36, (by decide : 2 + 0 ≤ _), (by decide : 2 + 0 ≤ _)⟩)
    dsimp only [Pt.U, Pt.locs, Pt.cells, Pt.slots] at X46 l46 y46 z46 st46 hQ46
    subst l46 y46 z46
    obtain ⟨rfl, N46q, Kc46, po47, po48⟩ := hQ46
    have N46 := Fr.app N28 N46q
    have f49 : Old Z n0 T46.heap := f40.keep Kc46 (allS g38 all0)
    have f50 : Exa Z T46.heap b21 "plainsight/core/term/BooleanTerm" := f41.keep Kc46
    have f51 : Fld Z T46.heap b21 "plainsight/core/term/BooleanTerm" "value" "Z" (.int m2) := f42.keep Kc46 (ninS n37 nin0)
    have f52 : Exa Z T46.heap b36 "plainsight/core/term/BooleanTerm" := A36.keep Kc46
    have K53 : Keep h0 T46.heap [] := K43.trans Kc46 (allS (Or.inr s39) all0)
    have Z54 : n0 ≤ T46.heap.size := Nat.le_trans Z44 Kc46.1
    refine OwnGo.back (T46.setTop (mkF m 56 #[.val (.int p1), .val (.int p2), .val (.int p3), .val (.long p4), .second, .val (.int m2), .val (.int m12), .val (.ref b21), .val (.int (p3 &&& (3 : Int32))), .unset, .unset] [(.ref b36)])) (fun tg kk => st46.trans kk) ?_
    refine OwnGo.back (T46.setTop (mkF m 58 #[.val (.int p1), .val (.int p2), .val (.int p3), .val (.long p4), .second, .val (.int m2), .val (.int m12), .val (.ref b21), .val (.int (p3 &&& (3 : Int32))), .val (.ref b36), .unset] [])) (fun tg kk => XS.astore X46.here hx rfl (hb hby at_56) rfl rfl (l' := #[.val (.int p1), .val (.int p2), .val (.int p3), .val (.long p4), .second, .val (.int m2), .val (.int m12), .val (.ref b21), .val (.int (p3 &&& (3 : Int32))), .val (.ref b36), .unset]) rfl kk) ?_
    refine OwnGo.back (T46.setTop (mkF m 60 #[.val (.int p1), .val (.int p2), .val (.int p3), .val (.long p4), .second, .val (.int m2), .val (.int m12), .val (.ref b21), .val (.int (p3 &&& (3 : Int32))), .val (.ref b36), .unset] [(.int m2)])) (fun tg kk => XS.iload X46.here hx rfl (hb hby at_58) rfl kk) ?_
    refine OwnGo.back (T46.setTop (mkF m 62 #[.val (.int p1), .val (.int p2), .val (.int p3), .val (.long p4), .second, .val (.int m2), .val (.int m12), .val (.ref b21), .val (.int (p3 &&& (3 : Int32))), .val (.ref b36), .unset] [(.int m12), (.int m2)])) (fun tg kk => XS.iload X46.here hx rfl (hb hby at_60) rfl kk) ?_
    by_cases hc55 : m2 = m12
    ·
      refine OwnGo.back (T46.setTop (mkF m 65 #[.val (.int p1), .val (.int p2), .val (.int p3), .val (.long p4), .second, .val (.int m2), .val (.int m12), .val (.ref b21), .val (.int (p3 &&& (3 : Int32))), .val (.ref b36), .unset] [])) (fun tg kk => XS.icmpNo X46.here hx rfl (hb hby at_62) rfl (teq hc55).2 kk) ?_
      refine OwnGo.back (T46.setTop (mkF m 66 #[.val (.int p1), .val (.int p2), .val (.int p3), .val (.long p4), .second, .val (.int m2), .val (.int m12), .val (.ref b21), .val (.int (p3 &&& (3 : Int32))), .val (.ref b36), .unset] [(.int (1 : Int32))])) (fun tg kk => XS.iconst X46.here hx rfl (hb hby at_65) kk) ?_
      refine OwnGo.back (T46.setTop (mkF m 70 #[.val (.int p1), .val (.int p2), .val (.int p3), .val (.long p4), .second, .val (.int m2), .val (.int m12), .val (.ref b21), .val (.int (p3 &&& (3 : Int32))), .val (.ref b36), .unset] [(.int (1 : Int32))])) (fun tg kk => XS.goto X46.here hx rfl (pc0 := 66) (pc' := 70) rfl (hb hby at_66) (by decide) (by decide) kk) ?_
      refine OwnGo.back (T46.setTop (mkF m 72 #[.val (.int p1), .val (.int p2), .val (.int p3), .val (.long p4), .second, .val (.int m2), .val (.int m12), .val (.ref b21), .val (.int (p3 &&& (3 : Int32))), .val (.ref b36), .val (.int (1 : Int32))] [])) (fun tg kk => XS.istore X46.here hx rfl (hb hby at_70) rfl (l' := #[.val (.int p1), .val (.int p2), .val (.int p3), .val (.long p4), .second, .val (.int m2), .val (.int m12), .val (.ref b21), .val (.int (p3 &&& (3 : Int32))), .val (.ref b36), .val (.int (1 : Int32))]) rfl kk) ?_
      refine OwnGo.back (T46.setTop (mkF m 117 #[.val (.int p1), .val (.int p2), .val (.int p3), .val (.long p4), .second, .val (.int m2), .val (.int m12), .val (.ref b21), .val (.int (p3 &&& (3 : Int32))), .val (.ref b36), .val (.int (1 : Int32))] [])) (fun tg kk => XS.goto X46.here hx rfl (pc0 := 72) (pc' := 117) rfl (hb hby at_72) (by decide) (by decide) kk) ?_
      refine OwnGo.back (T46.setTop (mkF m 119 #[.val (.int p1), .val (.int p2), .val (.int p3), .val (.long p4), .second, .val (.int m2), .val (.int m12), .val (.ref b21), .val (.int (p3 &&& (3 : Int32))), .val (.ref b36), .val (.int (1 : Int32))] [(.ref b21)])) (fun tg kk => XS.aload X46.here hx rfl (hb hby at_117) rfl rfl kk) ?_
      refine OwnGo.back (T46.setTop (mkF m 121 #[.val (.int p1), .val (.int p2), .val (.int p3), .val (.long p4), .second, .val (.int m2), .val (.int m12), .val (.ref b21), .val (.int (p3 &&& (3 : Int32))), .val (.ref b36), .val (.int (1 : Int32))] [(.ref b36), (.ref b21)])) (fun tg kk => XS.aload X46.here hx rfl (hb hby at_119) rfl rfl kk) ?_
      obtain ⟨cq56, kq56, q56a, q56b, q56c⟩ := isOf hZ rfl f50
      obtain ⟨_, _, ⟨T56, L56, k56, n56⟩, -, X56, ⟨Lc56, hQ56, l56, y56, z56⟩, st56⟩ := X46.virtualBack hx (y := (⟨"plainsight/core/term/BooleanTerm", "equals", "(Ljava/lang/Object;)Z"⟩ : MethodName)) (z := (⟨"plainsight/core/term/BooleanTerm", "equals", "(Ljava/lang/Object;)Z"⟩ : MethodName)) hown (mvT hZ (hw _ (List.mem_of_getElem? (i := 63) rfl))) (mvT hZ (hw _ (List.mem_of_getElem? (i := 64) rfl))) (notFace_of_selects (args := #[]) (mvT hZ (hw _ (List.mem_of_getElem? (i := 66) rfl)))) (mvT hZ (hw _ (List.mem_of_getElem? (i := 66) rfl))) (mvT hZ (hw _ (List.mem_of_getElem? (i := 65) rfl))) (by decide) (backOf (W := 0) (own_eqt l Z a0 hw [] b21 b36 m2 m12 T46.heap n0 Z54 po47 f51 po48) hZ (hw _ (List.mem_of_getElem? (i := 67) rfl)) (hw _ (List.mem_of_getElem? (i := 2) rfl)) (by decide) (by decide)) q56a q56c (g := (mkF m 121 #[.val (.int p1), .val (.int p2), .val (.int p3), .val (.long p4), .second, .val (.int m2), .val (.int m12), .val (.ref b21), .val (.int (p3 &&& (3 : Int32))), .val (.ref b36), .val (.int (1 : Int32))] [(.ref b36), (.ref b21)])) rfl (by rw [hml]; rfl) (Steps.refl _) (argsL := [(.ref b36)]) (rest := []) (lenOf own_pd7 rfl) rfl (by show 2 * 0 + _ ≤ _; exact Nat.le_of_eq rfl) (hb hby at_121) (fun _ _ => ⟨rfl, rfl, (by decide : 2 + 0 ≤ _), (by decide : 2 + 0 ≤ _)⟩)
      dsimp only [Pt.U, Pt.locs, Pt.cells, Pt.slots] at X56 l56 y56 z56 st56 hQ56
      subst l56 y56 z56
      obtain ⟨r_57, rfl, N56q, e56, po58⟩ := hQ56
      have N56 := Fr.app N46 N56q
      refine OwnGo.back (T56.setTop (mkF m 124 #[.val (.int p1), .val (.int p2), .val (.int p3), .val (.long p4), .second, .val (.int m2), .val (.int m12), .val (.ref b21), .val (.int (p3 &&& (3 : Int32))), .val (.ref b36), .val (.int (1 : Int32))] [(.int r_57)])) (fun tg kk => st56.trans kk) ?_
      refine OwnGo.back (T56.setTop (mkF m 126 #[.val (.int p1), .val (.int p2), .val (.int p3), .val (.long p4), .second, .val (.int m2), .val (.int m12), .val (.ref b21), .val (.int (p3 &&& (3 : Int32))), .val (.ref b36), .val (.int (1 : Int32))] [(.int (1 : Int32)), (.int r_57)])) (fun tg kk => XS.iload X56.here hx rfl (hb hby at_124) rfl kk) ?_
      refine OwnGo.back (T56.setTop (mkF m 129 #[.val (.int p1), .val (.int p2), .val (.int p3), .val (.long p4), .second, .val (.int m2), .val (.int m12), .val (.ref b21), .val (.int (p3 &&& (3 : Int32))), .val (.ref b36), .val (.int (1 : Int32))] [])) (fun tg kk => XS.icmpNo X56.here hx rfl (hb hby at_126) rfl (teq (by (simp only [true_and, and_true, false_and, and_false, or_false, false_or, or_true, true_or, not_true_eq_false, not_false_eq_true, eq_self, Int32.lt_iff_toInt_lt, Int32.le_iff_toInt_le, ← Int32.toInt_inj, Int32.reduceToInt, Int64.lt_iff_toInt_lt, Int64.le_iff_toInt_le, ← Int64.toInt_inj, Int64.reduceToInt] at hc35 hc55 hBI hP hN hm3 hm13 po58 ⊢) <;> omega : r_57 = (1 : Int32))).2 kk) ?_
      refine OwnGo.back (T56.setTop (mkF m 130 #[.val (.int p1), .val (.int p2), .val (.int p3), .val (.long p4), .second, .val (.int m2), .val (.int m12), .val (.ref b21), .val (.int (p3 &&& (3 : Int32))), .val (.ref b36), .val (.int (1 : Int32))] [(.int (1 : Int32))])) (fun tg kk => XS.iconst X56.here hx rfl (hb hby at_129) kk) ?_
      refine OwnGo.back (T56.setTop (mkF m 134 #[.val (.int p1), .val (.int p2), .val (.int p3), .val (.long p4), .second, .val (.int m2), .val (.int m12), .val (.ref b21), .val (.int (p3 &&& (3 : Int32))), .val (.ref b36), .val (.int (1 : Int32))] [(.int (1 : Int32))])) (fun tg kk => XS.goto X56.here hx rfl (pc0 := 130) (pc' := 134) rfl (hb hby at_130) (by decide) (by decide) kk) ?_
      obtain ⟨fs, hr, hrun, hended, -, hW, hI, hsame⟩ := X56.leaveW hS (by rw [e56]; exact (Nat.le_trans (Nat.le_trans (Nat.le_trans (Nat.le_trans hk0 E21.1) Kc28.1) E36.1) Kc46.1)) (v := some (.int (1 : Int32))) (fun h => by rw [Bd.returns] at h; cases h)
      refine ⟨_, _, ?_, hrun, hended, _, _, rfl, ?_, ⟨_, rfl⟩, hW, hI, hsame.mono (by decide) (by decide)⟩
      · exact retN X56 hx (t := .boolean) Bd.returns (by simp) (hb hby at_134) hr
      · show own_law_Q Z p1 p2 p3 p4 ca bz bp bn h0 n0 _ T56.heap _
        rw [e56]
        exact ⟨rfl, N56, K53⟩
    ·
      refine OwnGo.back (T46.setTop (mkF m 69 #[.val (.int p1), .val (.int p2), .val (.int p3), .val (.long p4), .second, .val (.int m2), .val (.int m12), .val (.ref b21), .val (.int (p3 &&& (3 : Int32))), .val (.ref b36), .unset] [])) (fun tg kk => XS.icmpYes X46.here hx rfl (pc0 := 62) (pc' := 69) rfl (hb hby at_62) rfl (feq hc55).2 (by decide) (by decide) kk) ?_
      refine OwnGo.back (T46.setTop (mkF m 70 #[.val (.int p1), .val (.int p2), .val (.int p3), .val (.long p4), .second, .val (.int m2), .val (.int m12), .val (.ref b21), .val (.int (p3 &&& (3 : Int32))), .val (.ref b36), .unset] [(.int (0 : Int32))])) (fun tg kk => XS.iconst X46.here hx rfl (hb hby at_69) kk) ?_
      refine OwnGo.back (T46.setTop (mkF m 72 #[.val (.int p1), .val (.int p2), .val (.int p3), .val (.long p4), .second, .val (.int m2), .val (.int m12), .val (.ref b21), .val (.int (p3 &&& (3 : Int32))), .val (.ref b36), .val (.int (0 : Int32))] [])) (fun tg kk => XS.istore X46.here hx rfl (hb hby at_70) rfl (l' := #[.val (.int p1), .val (.int p2), .val (.int p3), .val (.long p4), .second, .val (.int m2), .val (.int m12), .val (.ref b21), .val (.int (p3 &&& (3 : Int32))), .val (.ref b36), .val (.int (0 : Int32))]) rfl kk) ?_
      refine OwnGo.back (T46.setTop (mkF m 117 #[.val (.int p1), .val (.int p2), .val (.int p3), .val (.long p4), .second, .val (.int m2), .val (.int m12), .val (.ref b21), .val (.int (p3 &&& (3 : Int32))), .val (.ref b36), .val (.int (0 : Int32))] [])) (fun tg kk => XS.goto X46.here hx rfl (pc0 := 72) (pc' := 117) rfl (hb hby at_72) (by decide) (by decide) kk) ?_
      refine OwnGo.back (T46.setTop (mkF m 119 #[.val (.int p1), .val (.int p2), .val (.int p3), .val (.long p4), .second, .val (.int m2), .val (.int m12), .val (.ref b21), .val (.int (p3 &&& (3 : Int32))), .val (.ref b36), .val (.int (0 : Int32))] [(.ref b21)])) (fun tg kk => XS.aload X46.here hx rfl (hb hby at_117) rfl rfl kk) ?_
      refine OwnGo.back (T46.setTop (mkF m 121 #[.val (.int p1), .val (.int p2), .val (.int p3), .val (.long p4), .second, .val (.int m2), .val (.int m12), .val (.ref b21), .val (.int (p3 &&& (3 : Int32))), .val (.ref b36), .val (.int (0 : Int32))] [(.ref b36), (.ref b21)])) (fun tg kk => XS.aload X46.here hx rfl (hb hby at_119) rfl rfl kk) ?_
      obtain ⟨cq59, kq59, q59a, q59b, q59c⟩ := isOf hZ rfl f50
      obtain ⟨_, _, ⟨T59, L59, k59, n59⟩, -, X59, ⟨Lc59, hQ59, l59, y59, z59⟩, st59⟩ := X46.virtualBack hx (y := (⟨"plainsight/core/term/BooleanTerm", "equals", "(Ljava/lang/Object;)Z"⟩ : MethodName)) (z := (⟨"plainsight/core/term/BooleanTerm", "equals", "(Ljava/lang/Object;)Z"⟩ : MethodName)) hown (mvT hZ (hw _ (List.mem_of_getElem? (i := 63) rfl))) (mvT hZ (hw _ (List.mem_of_getElem? (i := 64) rfl))) (notFace_of_selects (args := #[]) (mvT hZ (hw _ (List.mem_of_getElem? (i := 66) rfl)))) (mvT hZ (hw _ (List.mem_of_getElem? (i := 66) rfl))) (mvT hZ (hw _ (List.mem_of_getElem? (i := 65) rfl))) (by decide) (backOf (W := 0) (own_eqt l Z a0 hw [] b21 b36 m2 m12 T46.heap n0 Z54 po47 f51 po48) hZ (hw _ (List.mem_of_getElem? (i := 67) rfl)) (hw _ (List.mem_of_getElem? (i := 2) rfl)) (by decide) (by decide)) q59a q59c (g := (mkF m 121 #[.val (.int p1), .val (.int p2), .val (.int p3), .val (.long p4), .second, .val (.int m2), .val (.int m12), .val (.ref b21), .val (.int (p3 &&& (3 : Int32))), .val (.ref b36), .val (.int (0 : Int32))] [(.ref b36), (.ref b21)])) rfl (by rw [hml]; rfl) (Steps.refl _) (argsL := [(.ref b36)]) (rest := []) (lenOf own_pd7 rfl) rfl (by show 2 * 0 + _ ≤ _; exact Nat.le_of_eq rfl) (hb hby at_121) (fun _ _ => ⟨rfl, rfl, (by decide : 2 + 0 ≤ _), (by decide : 2 + 0 ≤ _)⟩)
      dsimp only [Pt.U, Pt.locs, Pt.cells, Pt.slots] at X59 l59 y59 z59 st59 hQ59
      subst l59 y59 z59
      obtain ⟨r_60, rfl, N59q, e59, po61⟩ := hQ59
      have N59 := Fr.app N46 N59q
      refine OwnGo.back (T59.setTop (mkF m 124 #[.val (.int p1), .val (.int p2), .val (.int p3), .val (.long p4), .second, .val (.int m2), .val (.int m12), .val (.ref b21), .val (.int (p3 &&& (3 : Int32))), .val (.ref b36), .val (.int (0 : Int32))] [(.int r_60)])) (fun tg kk => st59.trans kk) ?_
      refine OwnGo.back (T59.setTop (mkF m 126 #[.val (.int p1), .val (.int p2), .val (.int p3), .val (.long p4), .second, .val (.int m2), .val (.int m12), .val (.ref b21), .val (.int (p3 &&& (3 : Int32))), .val (.ref b36), .val (.int (0 : Int32))] [(.int (0 : Int32)), (.int r_60)])) (fun tg kk => XS.iload X59.here hx rfl (hb hby at_124) rfl kk) ?_
      refine OwnGo.back (T59.setTop (mkF m 129 #[.val (.int p1), .val (.int p2), .val (.int p3), .val (.long p4), .second, .val (.int m2), .val (.int m12), .val (.ref b21), .val (.int (p3 &&& (3 : Int32))), .val (.ref b36), .val (.int (0 : Int32))] [])) (fun tg kk => XS.icmpNo X59.here hx rfl (hb hby at_126) rfl (teq (by (simp only [true_and, and_true, false_and, and_false, or_false, false_or, or_true, true_or, not_true_eq_false, not_false_eq_true, eq_self, Int32.lt_iff_toInt_lt, Int32.le_iff_toInt_le, ← Int32.toInt_inj, Int32.reduceToInt, Int64.lt_iff_toInt_lt, Int64.le_iff_toInt_le, ← Int64.toInt_inj, Int64.reduceToInt] at hc35 hc55 hBI hP hN hm3 hm13 po61 ⊢) <;> omega : r_60 = (0 : Int32))).2 kk) ?_
      refine OwnGo.back (T59.setTop (mkF m 130 #[.val (.int p1), .val (.int p2), .val (.int p3), .val (.long p4), .second, .val (.int m2), .val (.int m12), .val (.ref b21), .val (.int (p3 &&& (3 : Int32))), .val (.ref b36), .val (.int (0 : Int32))] [(.int (1 : Int32))])) (fun tg kk => XS.iconst X59.here hx rfl (hb hby at_129) kk) ?_
      refine OwnGo.back (T59.setTop (mkF m 134 #[.val (.int p1), .val (.int p2), .val (.int p3), .val (.long p4), .second, .val (.int m2), .val (.int m12), .val (.ref b21), .val (.int (p3 &&& (3 : Int32))), .val (.ref b36), .val (.int (0 : Int32))] [(.int (1 : Int32))])) (fun tg kk => XS.goto X59.here hx rfl (pc0 := 130) (pc' := 134) rfl (hb hby at_130) (by decide) (by decide) kk) ?_
      obtain ⟨fs, hr, hrun, hended, -, hW, hI, hsame⟩ := X59.leaveW hS (by rw [e59]; exact (Nat.le_trans (Nat.le_trans (Nat.le_trans (Nat.le_trans hk0 E21.1) Kc28.1) E36.1) Kc46.1)) (v := some (.int (1 : Int32))) (fun h => by rw [Bd.returns] at h; cases h)
      refine ⟨_, _, ?_, hrun, hended, _, _, rfl, ?_, ⟨_, rfl⟩, hW, hI, hsame.mono (by decide) (by decide)⟩
      · exact retN X59 hx (t := .boolean) Bd.returns (by simp) (hb hby at_134) hr
      · show own_law_Q Z p1 p2 p3 p4 ca bz bp bn h0 n0 _ T59.heap _
        rw [e59]
        exact ⟨rfl, N59, K53⟩
  ·
    refine OwnGo.back (T28.setTop (mkF m 75 #[.val (.int p1), .val (.int p2), .val (.int p3), .val (.long p4), .second, .val (.int m2), .val (.int m12), .val (.ref b21), .val (.int (p3 &&& (3 : Int32))), .unset, .unset] [])) (fun tg kk => XS.ifYes X28.here hx rfl (pc0 := 44) (pc' := 75) rfl (hb hby at_44) rfl ((if0 _ _).trans (feq hc35).2) (by decide) (by decide) kk) ?_
    refine OwnGo.back (T28.setTop (mkF m 77 #[.val (.int p1), .val (.int p2), .val (.int p3), .val (.long p4), .second, .val (.int m2), .val (.int m12), .val (.ref b21), .val (.int (p3 &&& (3 : Int32))), .unset, .unset] [(.int (p3 &&& (3 : Int32)))])) (fun tg kk => XS.iload X28.here hx rfl (hb hby at_75) rfl kk) ?_
    refine OwnGo.back (T28.setTop (mkF m 78 #[.val (.int p1), .val (.int p2), .val (.int p3), .val (.long p4), .second, .val (.int m2), .val (.int m12), .val (.ref b21), .val (.int (p3 &&& (3 : Int32))), .unset, .unset] [(.int (1 : Int32)), (.int (p3 &&& (3 : Int32)))])) (fun tg kk => XS.iconst X28.here hx rfl (hb hby at_77) kk) ?_
    by_cases hc62 : (p3 &&& (3 : Int32)) = (1 : Int32)
    ·
      refine OwnGo.back (T28.setTop (mkF m 81 #[.val (.int p1), .val (.int p2), .val (.int p3), .val (.long p4), .second, .val (.int m2), .val (.int m12), .val (.ref b21), .val (.int (p3 &&& (3 : Int32))), .unset, .unset] [])) (fun tg kk => XS.icmpNo X28.here hx rfl (hb hby at_78) rfl (teq hc62).2 kk) ?_
      refine OwnGo.back (T28.setTop (mkF m 82 #[.val (.int p1), .val (.int p2), .val (.int p3), .val (.long p4), .second, .val (.int m2), .val (.int m12), .val (.ref b21), .val (.int (p3 &&& (3 : Int32))), .unset, .unset] [.null])) (fun tg kk => XS.aconstNull X28.here hx rfl (hb hby at_81) kk) ?_
      refine OwnGo.back (T28.setTop (mkF m 84 #[.val (.int p1), .val (.int p2), .val (.int p3), .val (.long p4), .second, .val (.int m2), .val (.int m12), .val (.ref b21), .val (.int (p3 &&& (3 : Int32))), .val .null, .unset] [])) (fun tg kk => XS.astore X28.here hx rfl (hb hby at_82) rfl rfl (l' := #[.val (.int p1), .val (.int p2), .val (.int p3), .val (.long p4), .second, .val (.int m2), .val (.int m12), .val (.ref b21), .val (.int (p3 &&& (3 : Int32))), .val .null, .unset]) rfl kk) ?_
      refine OwnGo.back (T28.setTop (mkF m 85 #[.val (.int p1), .val (.int p2), .val (.int p3), .val (.long p4), .second, .val (.int m2), .val (.int m12), .val (.ref b21), .val (.int (p3 &&& (3 : Int32))), .val .null, .unset] [(.int (0 : Int32))])) (fun tg kk => XS.iconst X28.here hx rfl (hb hby at_84) kk) ?_
      refine OwnGo.back (T28.setTop (mkF m 87 #[.val (.int p1), .val (.int p2), .val (.int p3), .val (.long p4), .second, .val (.int m2), .val (.int m12), .val (.ref b21), .val (.int (p3 &&& (3 : Int32))), .val .null, .val (.int (0 : Int32))] [])) (fun tg kk => XS.istore X28.here hx rfl (hb hby at_85) rfl (l' := #[.val (.int p1), .val (.int p2), .val (.int p3), .val (.long p4), .second, .val (.int m2), .val (.int m12), .val (.ref b21), .val (.int (p3 &&& (3 : Int32))), .val .null, .val (.int (0 : Int32))]) rfl kk) ?_
      refine OwnGo.back (T28.setTop (mkF m 117 #[.val (.int p1), .val (.int p2), .val (.int p3), .val (.long p4), .second, .val (.int m2), .val (.int m12), .val (.ref b21), .val (.int (p3 &&& (3 : Int32))), .val .null, .val (.int (0 : Int32))] [])) (fun tg kk => XS.goto X28.here hx rfl (pc0 := 87) (pc' := 117) rfl (hb hby at_87) (by decide) (by decide) kk) ?_
      refine OwnGo.back (T28.setTop (mkF m 119 #[.val (.int p1), .val (.int p2), .val (.int p3), .val (.long p4), .second, .val (.int m2), .val (.int m12), .val (.ref b21), .val (.int (p3 &&& (3 : Int32))), .val .null, .val (.int (0 : Int32))] [(.ref b21)])) (fun tg kk => XS.aload X28.here hx rfl (hb hby at_117) rfl rfl kk) ?_
      refine OwnGo.back (T28.setTop (mkF m 121 #[.val (.int p1), .val (.int p2), .val (.int p3), .val (.long p4), .second, .val (.int m2), .val (.int m12), .val (.ref b21), .val (.int (p3 &&& (3 : Int32))), .val .null, .val (.int (0 : Int32))] [.null, (.ref b21)])) (fun tg kk => XS.aload X28.here hx rfl (hb hby at_119) rfl rfl kk) ?_
      obtain ⟨cq63, kq63, q63a, q63b, q63c⟩ := isOf hZ rfl po29
      obtain ⟨_, _, ⟨T63, L63, k63, n63⟩, -, X63, ⟨Lc63, hQ63, l63, y63, z63⟩, st63⟩ := X28.virtualBack hx (y := (⟨"plainsight/core/term/BooleanTerm", "equals", "(Ljava/lang/Object;)Z"⟩ : MethodName)) (z := (⟨"plainsight/core/term/BooleanTerm", "equals", "(Ljava/lang/Object;)Z"⟩ : MethodName)) hown (mvT hZ (hw _ (List.mem_of_getElem? (i := 63) rfl))) (mvT hZ (hw _ (List.mem_of_getElem? (i := 64) rfl))) (notFace_of_selects (args := #[]) (mvT hZ (hw _ (List.mem_of_getElem? (i := 66) rfl)))) (mvT hZ (hw _ (List.mem_of_getElem? (i := 66) rfl))) (mvT hZ (hw _ (List.mem_of_getElem? (i := 65) rfl))) (by decide) (backOf (W := 0) (own_eqn l Z a0 hw [] b21 T28.heap n0 Z34 ) hZ (hw _ (List.mem_of_getElem? (i := 67) rfl)) (hw _ (List.mem_of_getElem? (i := 2) rfl)) (by decide) (by decide)) q63a q63c (g := (mkF m 121 #[.val (.int p1), .val (.int p2), .val (.int p3), .val (.long p4), .second, .val (.int m2), .val (.int m12), .val (.ref b21), .val (.int (p3 &&& (3 : Int32))), .val .null, .val (.int (0 : Int32))] [.null, (.ref b21)])) rfl (by rw [hml]; rfl) (Steps.refl _) (argsL := [.null]) (rest := []) (lenOf own_pd7 rfl) rfl (by show 2 * 0 + _ ≤ _; exact Nat.le_of_eq rfl) (hb hby at_121) (fun _ _ => ⟨rfl, rfl, (by decide : 1 + 0 ≤ _), (by decide : 1 + 0 ≤ _)⟩)
      dsimp only [Pt.U, Pt.locs, Pt.cells, Pt.slots] at X63 l63 y63 z63 st63 hQ63
      subst l63 y63 z63
      obtain ⟨rfl, N63q, e63⟩ := hQ63
      have N63 := Fr.app N28 N63q
      refine OwnGo.back (T63.setTop (mkF m 124 #[.val (.int p1), .val (.int p2), .val (.int p3), .val (.long p4), .second, .val (.int m2), .val (.int m12), .val (.ref b21), .val (.int (p3 &&& (3 : Int32))), .val .null, .val (.int (0 : Int32))] [(.int (0 : Int32))])) (fun tg kk => st63.trans kk) ?_
      refine OwnGo.back (T63.setTop (mkF m 126 #[.val (.int p1), .val (.int p2), .val (.int p3), .val (.long p4), .second, .val (.int m2), .val (.int m12), .val (.ref b21), .val (.int (p3 &&& (3 : Int32))), .val .null, .val (.int (0 : Int32))] [(.int (0 : Int32)), (.int (0 : Int32))])) (fun tg kk => XS.iload X63.here hx rfl (hb hby at_124) rfl kk) ?_
      refine OwnGo.back (T63.setTop (mkF m 129 #[.val (.int p1), .val (.int p2), .val (.int p3), .val (.long p4), .second, .val (.int m2), .val (.int m12), .val (.ref b21), .val (.int (p3 &&& (3 : Int32))), .val .null, .val (.int (0 : Int32))] [])) (fun tg kk => XS.icmpNo X63.here hx rfl (hb hby at_126) rfl (teq (by decide : (0 : Int32) = (0 : Int32))).2 kk) ?_
      refine OwnGo.back (T63.setTop (mkF m 130 #[.val (.int p1), .val (.int p2), .val (.int p3), .val (.long p4), .second, .val (.int m2), .val (.int m12), .val (.ref b21), .val (.int (p3 &&& (3 : Int32))), .val .null, .val (.int (0 : Int32))] [(.int (1 : Int32))])) (fun tg kk => XS.iconst X63.here hx rfl (hb hby at_129) kk) ?_
      refine OwnGo.back (T63.setTop (mkF m 134 #[.val (.int p1), .val (.int p2), .val (.int p3), .val (.long p4), .second, .val (.int m2), .val (.int m12), .val (.ref b21), .val (.int (p3 &&& (3 : Int32))), .val .null, .val (.int (0 : Int32))] [(.int (1 : Int32))])) (fun tg kk => XS.goto X63.here hx rfl (pc0 := 130) (pc' := 134) rfl (hb hby at_130) (by decide) (by decide) kk) ?_
      obtain ⟨fs, hr, hrun, hended, -, hW, hI, hsame⟩ := X63.leaveW hS (by rw [e63]; exact (Nat.le_trans (Nat.le_trans hk0 E21.1) Kc28.1)) (v := some (.int (1 : Int32))) (fun h => by rw [Bd.returns] at h; cases h)
      refine ⟨_, _, ?_, hrun, hended, _, _, rfl, ?_, ⟨_, rfl⟩, hW, hI, hsame.mono (by decide) (by decide)⟩
      · exact retN X63 hx (t := .boolean) Bd.returns (by simp) (hb hby at_134) hr
      · show own_law_Q Z p1 p2 p3 p4 ca bz bp bn h0 n0 _ T63.heap _
        rw [e63]
        exact ⟨rfl, N63, K33⟩
    ·
      refine OwnGo.back (T28.setTop (mkF m 90 #[.val (.int p1), .val (.int p2), .val (.int p3), .val (.long p4), .second, .val (.int m2), .val (.int m12), .val (.ref b21), .val (.int (p3 &&& (3 : Int32))), .unset, .unset] [])) (fun tg kk => XS.icmpYes X28.here hx rfl (pc0 := 78) (pc' := 90) rfl (hb hby at_78) rfl (feq hc62).2 (by decide) (by decide) kk) ?_
      refine OwnGo.back (T28.setTop (mkF m 92 #[.val (.int p1), .val (.int p2), .val (.int p3), .val (.long p4), .second, .val (.int m2), .val (.int m12), .val (.ref b21), .val (.int (p3 &&& (3 : Int32))), .unset, .unset] [(.int (p3 &&& (3 : Int32)))])) (fun tg kk => XS.iload X28.here hx rfl (hb hby at_90) rfl kk) ?_
      refine OwnGo.back (T28.setTop (mkF m 93 #[.val (.int p1), .val (.int p2), .val (.int p3), .val (.long p4), .second, .val (.int m2), .val (.int m12), .val (.ref b21), .val (.int (p3 &&& (3 : Int32))), .unset, .unset] [(.int (2 : Int32)), (.int (p3 &&& (3 : Int32)))])) (fun tg kk => XS.iconst X28.here hx rfl (hb hby at_92) kk) ?_
      by_cases hc64 : (p3 &&& (3 : Int32)) = (2 : Int32)
      ·
        refine OwnGo.back (T28.setTop (mkF m 96 #[.val (.int p1), .val (.int p2), .val (.int p3), .val (.long p4), .second, .val (.int m2), .val (.int m12), .val (.ref b21), .val (.int (p3 &&& (3 : Int32))), .unset, .unset] [])) (fun tg kk => XS.icmpNo X28.here hx rfl (hb hby at_93) rfl (teq hc64).2 kk) ?_
        refine OwnGo.back (T28.setTop (mkF m 97 #[.val (.int p1), .val (.int p2), .val (.int p3), .val (.long p4), .second, .val (.int m2), .val (.int m12), .val (.ref b21), .val (.int (p3 &&& (3 : Int32))), .unset, .unset] [(.long p4)])) (fun tg kk => XS.lloadN X28.here hx rfl (hb hby at_96) rfl kk) ?_
        obtain ⟨_, _, ⟨T65, L65, k65, n65⟩, -, X65, hs65, hg65, ⟨Lc65, hQ65, l65, y65, z65⟩, st65⟩ := Jvm.RoadKit.callSS X28 hx (y := (⟨"plainsight/core/term/IntegerTerm", "of", "(J)Lplainsight/core/term/IntegerTerm;"⟩ : MethodName)) hown (mvT hZ (hw _ (List.mem_of_getElem? (i := 16) rfl))) (mvT hZ (hw _ (List.mem_of_getElem? (i := 17) rfl))) (mvT hZ (hw _ (List.mem_of_getElem? (i := 18) rfl))) (mvT hZ (hw _ (List.mem_of_getElem? (i := 19) rfl))) (by decide) (backOfS (W := 0) (own_of l Z a0 hw [] p4 bz bp bn T28.heap n0 Z34 SZ SP SN f31 hP hN) hZ (hw _ (List.mem_of_getElem? (i := 19) rfl)) (hw _ (List.mem_of_getElem? (i := 18) rfl)) (by decide) (by decide)) (g := (mkF m 97 #[.val (.int p1), .val (.int p2), .val (.int p3), .val (.long p4), .second, .val (.int m2), .val (.int m12), .val (.ref b21), .val (.int (p3 &&& (3 : Int32))), .unset, .unset] [(.long p4)])) rfl (by rw [hml]; rfl) (argsL := [(.long p4)]) (rest := []) (lenOf own_pd8 rfl) rfl (by show 2 * 0 + _ ≤ _; exact Nat.le_of_eq rfl) (hb hby at_97) (fun _ _ => ⟨rfl, rfl, (by decide : 1 + 5 ≤ _), (by decide : 1 + 33 ≤ _)⟩)
        dsimp only [Pt.U, Pt.locs, Pt.cells, Pt.slots] at X65 l65 y65 z65 st65 hQ65 hs65 hg65
        subst l65 y65 z65
        obtain ⟨X65, hS, hZ, hown⟩ := rebS hS (Nat.le_trans (Nat.le_trans hk0 E21.1) Kc28.1) X65 hs65 hg65 hZ hown
        obtain ⟨b_66, rfl, N65q, Kc65, po67, po68⟩ := hQ65
        have N65 := Fr.app N28 N65q
        have f69 : Old Z n0 T65.heap := f31.keep Kc65 all0
        have f70 : Exa Z T65.heap b21 "plainsight/core/term/BooleanTerm" := po29.keep Kc65
        have f71 : Fld Z T65.heap b21 "plainsight/core/term/BooleanTerm" "value" "Z" (.int m2) := po30.keep Kc65 nin0
        have K72 : Keep h0 T65.heap [] := K33.trans Kc65 all0
        have Z73 : n0 ≤ T65.heap.size := Nat.le_trans Z34 Kc65.1
        have n74 : b21 ≠ b_66 := own_ne' po29.lt po67
        have g75 : n0 ≤ b_66 := Nat.le_trans Z34 po67
        have s76 : h0.size ≤ b_66 := Nat.le_trans K33.1 po67
        refine OwnGo.back (T65.setTop (mkF m 100 #[.val (.int p1), .val (.int p2), .val (.int p3), .val (.long p4), .second, .val (.int m2), .val (.int m12), .val (.ref b21), .val (.int (p3 &&& (3 : Int32))), .unset, .unset] [(.ref b_66)])) (fun tg kk => st65.trans kk) ?_
        refine OwnGo.back (T65.setTop (mkF m 102 #[.val (.int p1), .val (.int p2), .val (.int p3), .val (.long p4), .second, .val (.int m2), .val (.int m12), .val (.ref b21), .val (.int (p3 &&& (3 : Int32))), .val (.ref b_66), .unset] [])) (fun tg kk => XS.astore X65.here hx rfl (hb hby at_100) rfl rfl (l' := #[.val (.int p1), .val (.int p2), .val (.int p3), .val (.long p4), .second, .val (.int m2), .val (.int m12), .val (.ref b21), .val (.int (p3 &&& (3 : Int32))), .val (.ref b_66), .unset]) rfl kk) ?_
        refine OwnGo.back (T65.setTop (mkF m 103 #[.val (.int p1), .val (.int p2), .val (.int p3), .val (.long p4), .second, .val (.int m2), .val (.int m12), .val (.ref b21), .val (.int (p3 &&& (3 : Int32))), .val (.ref b_66), .unset] [(.int (0 : Int32))])) (fun tg kk => XS.iconst X65.here hx rfl (hb hby at_102) kk) ?_
        refine OwnGo.back (T65.setTop (mkF m 105 #[.val (.int p1), .val (.int p2), .val (.int p3), .val (.long p4), .second, .val (.int m2), .val (.int m12), .val (.ref b21), .val (.int (p3 &&& (3 : Int32))), .val (.ref b_66), .val (.int (0 : Int32))] [])) (fun tg kk => XS.istore X65.here hx rfl (hb hby at_103) rfl (l' := #[.val (.int p1), .val (.int p2), .val (.int p3), .val (.long p4), .second, .val (.int m2), .val (.int m12), .val (.ref b21), .val (.int (p3 &&& (3 : Int32))), .val (.ref b_66), .val (.int (0 : Int32))]) rfl kk) ?_
        refine OwnGo.back (T65.setTop (mkF m 117 #[.val (.int p1), .val (.int p2), .val (.int p3), .val (.long p4), .second, .val (.int m2), .val (.int m12), .val (.ref b21), .val (.int (p3 &&& (3 : Int32))), .val (.ref b_66), .val (.int (0 : Int32))] [])) (fun tg kk => XS.goto X65.here hx rfl (pc0 := 105) (pc' := 117) rfl (hb hby at_105) (by decide) (by decide) kk) ?_
        refine OwnGo.back (T65.setTop (mkF m 119 #[.val (.int p1), .val (.int p2), .val (.int p3), .val (.long p4), .second, .val (.int m2), .val (.int m12), .val (.ref b21), .val (.int (p3 &&& (3 : Int32))), .val (.ref b_66), .val (.int (0 : Int32))] [(.ref b21)])) (fun tg kk => XS.aload X65.here hx rfl (hb hby at_117) rfl rfl kk) ?_
        refine OwnGo.back (T65.setTop (mkF m 121 #[.val (.int p1), .val (.int p2), .val (.int p3), .val (.long p4), .second, .val (.int m2), .val (.int m12), .val (.ref b21), .val (.int (p3 &&& (3 : Int32))), .val (.ref b_66), .val (.int (0 : Int32))] [(.ref b_66), (.ref b21)])) (fun tg kk => XS.aload X65.here hx rfl (hb hby at_119) rfl rfl kk) ?_
        obtain ⟨cq77, kq77, q77a, q77b, q77c⟩ := isOf hZ rfl f70
        obtain ⟨_, _, ⟨T77, L77, k77, n77⟩, -, X77, ⟨Lc77, hQ77, l77, y77, z77⟩, st77⟩ := X65.virtualBack hx (y := (⟨"plainsight/core/term/BooleanTerm", "equals", "(Ljava/lang/Object;)Z"⟩ : MethodName)) (z := (⟨"plainsight/core/term/BooleanTerm", "equals", "(Ljava/lang/Object;)Z"⟩ : MethodName)) hown (mvT hZ (hw _ (List.mem_of_getElem? (i := 63) rfl))) (mvT hZ (hw _ (List.mem_of_getElem? (i := 64) rfl))) (notFace_of_selects (args := #[]) (mvT hZ (hw _ (List.mem_of_getElem? (i := 66) rfl)))) (mvT hZ (hw _ (List.mem_of_getElem? (i := 66) rfl))) (mvT hZ (hw _ (List.mem_of_getElem? (i := 65) rfl))) (by decide) (backOf (W := 0) (own_eqi l Z a0 hw [] b21 b_66 T65.heap n0 Z73 po68) hZ (hw _ (List.mem_of_getElem? (i := 67) rfl)) (hw _ (List.mem_of_getElem? (i := 2) rfl)) (by decide) (by decide)) q77a q77c (g := (mkF m 121 #[.val (.int p1), .val (.int p2), .val (.int p3), .val (.long p4), .second, .val (.int m2), .val (.int m12), .val (.ref b21), .val (.int (p3 &&& (3 : Int32))), .val (.ref b_66), .val (.int (0 : Int32))] [(.ref b_66), (.ref b21)])) rfl (by rw [hml]; rfl) (Steps.refl _) (argsL := [(.ref b_66)]) (rest := []) (lenOf own_pd7 rfl) rfl (by show 2 * 0 + _ ≤ _; exact Nat.le_of_eq rfl) (hb hby at_121) (fun _ _ => ⟨rfl, rfl, (by decide : 6 + 0 ≤ _), (by decide : 34 + 0 ≤ _)⟩)
        dsimp only [Pt.U, Pt.locs, Pt.cells, Pt.slots] at X77 l77 y77 z77 st77 hQ77
        subst l77 y77 z77
        obtain ⟨rfl, N77q, e77⟩ := hQ77
        have N77 := Fr.app N65 N77q
        refine OwnGo.back (T77.setTop (mkF m 124 #[.val (.int p1), .val (.int p2), .val (.int p3), .val (.long p4), .second, .val (.int m2), .val (.int m12), .val (.ref b21), .val (.int (p3 &&& (3 : Int32))), .val (.ref b_66), .val (.int (0 : Int32))] [(.int (0 : Int32))])) (fun tg kk => st77.trans kk) ?_
        refine OwnGo.back (T77.setTop (mkF m 126 #[.val (.int p1), .val (.int p2), .val (.int p3), .val (.long p4), .second, .val (.int m2), .val (.int m12), .val (.ref b21), .val (.int (p3 &&& (3 : Int32))), .val (.ref b_66), .val (.int (0 : Int32))] [(.int (0 : Int32)), (.int (0 : Int32))])) (fun tg kk => XS.iload X77.here hx rfl (hb hby at_124) rfl kk) ?_
        refine OwnGo.back (T77.setTop (mkF m 129 #[.val (.int p1), .val (.int p2), .val (.int p3), .val (.long p4), .second, .val (.int m2), .val (.int m12), .val (.ref b21), .val (.int (p3 &&& (3 : Int32))), .val (.ref b_66), .val (.int (0 : Int32))] [])) (fun tg kk => XS.icmpNo X77.here hx rfl (hb hby at_126) rfl (teq (by decide : (0 : Int32) = (0 : Int32))).2 kk) ?_
        refine OwnGo.back (T77.setTop (mkF m 130 #[.val (.int p1), .val (.int p2), .val (.int p3), .val (.long p4), .second, .val (.int m2), .val (.int m12), .val (.ref b21), .val (.int (p3 &&& (3 : Int32))), .val (.ref b_66), .val (.int (0 : Int32))] [(.int (1 : Int32))])) (fun tg kk => XS.iconst X77.here hx rfl (hb hby at_129) kk) ?_
        refine OwnGo.back (T77.setTop (mkF m 134 #[.val (.int p1), .val (.int p2), .val (.int p3), .val (.long p4), .second, .val (.int m2), .val (.int m12), .val (.ref b21), .val (.int (p3 &&& (3 : Int32))), .val (.ref b_66), .val (.int (0 : Int32))] [(.int (1 : Int32))])) (fun tg kk => XS.goto X77.here hx rfl (pc0 := 130) (pc' := 134) rfl (hb hby at_130) (by decide) (by decide) kk) ?_
        obtain ⟨fs, hr, hrun, hended, -, hW, hI, hsame⟩ := X77.leaveW hS (by rw [e77]; exact (Nat.le_refl _)) (v := some (.int (1 : Int32))) (fun h => by rw [Bd.returns] at h; cases h)
        refine ⟨_, _, ?_, hrun, hended, _, _, rfl, ?_, ⟨_, rfl⟩, hW, hI, hsame.mono (by decide) (by decide)⟩
        · exact retN X77 hx (t := .boolean) Bd.returns (by simp) (hb hby at_134) hr
        · show own_law_Q Z p1 p2 p3 p4 ca bz bp bn h0 n0 _ T77.heap _
          rw [e77]
          exact ⟨rfl, N77, K72⟩
      ·
        refine OwnGo.back (T28.setTop (mkF m 108 #[.val (.int p1), .val (.int p2), .val (.int p3), .val (.long p4), .second, .val (.int m2), .val (.int m12), .val (.ref b21), .val (.int (p3 &&& (3 : Int32))), .unset, .unset] [])) (fun tg kk => XS.icmpYes X28.here hx rfl (pc0 := 93) (pc' := 108) rfl (hb hby at_93) rfl (feq hc64).2 (by decide) (by decide) kk) ?_
        refine OwnGo.back (T28.setTop (mkF m 109 #[.val (.int p1), .val (.int p2), .val (.int p3), .val (.long p4), .second, .val (.int m2), .val (.int m12), .val (.ref b21), .val (.int (p3 &&& (3 : Int32))), .unset, .unset] [(.int p2)])) (fun tg kk => XS.iloadN X28.here hx rfl (hb hby at_108) rfl kk) ?_
        obtain ⟨_, _, ⟨T78, L78, k78, n78⟩, -, X78, ⟨Lc78, hQ78, l78, y78, z78⟩, st78⟩ := Jvm.LawKit.callS X28 hx (y := (⟨"java/lang/Integer", "valueOf", "(I)Ljava/lang/Integer;"⟩ : MethodName)) hown (mvT hZ (hw _ (List.mem_of_getElem? (i := 72) rfl))) (mvT hZ (hw _ (List.mem_of_getElem? (i := 73) rfl))) (mvT hZ (hw _ (List.mem_of_getElem? (i := 74) rfl))) (mvT hZ (hw _ (List.mem_of_getElem? (i := 75) rfl))) (by decide) (backOf (W := 0) (own_ival l Z a0 hw [] p2 ca T28.heap n0 Z34 SI SI' f31 hBI) hZ (hw _ (List.mem_of_getElem? (i := 75) rfl)) (hw _ (List.mem_of_getElem? (i := 74) rfl)) (by decide) (by decide)) (g := (mkF m 109 #[.val (.int p1), .val (.int p2), .val (.int p3), .val (.long p4), .second, .val (.int m2), .val (.int m12), .val (.ref b21), .val (.int (p3 &&& (3 : Int32))), .unset, .unset] [(.int p2)])) rfl (by rw [hml]; rfl) (argsL := [(.int p2)]) (rest := []) (lenOf own_pd9 rfl) rfl (by show 2 * 0 + _ ≤ _; exact Nat.le_of_eq rfl) (hb hby at_109) (fun _ _ => ⟨rfl, rfl, (by decide : 1 + 1 ≤ _), (by decide : 1 + 1 ≤ _)⟩)
        dsimp only [Pt.U, Pt.locs, Pt.cells, Pt.slots] at X78 l78 y78 z78 st78 hQ78
        subst l78 y78 z78
        obtain ⟨b_79, rfl, N78q, Kc78, po80⟩ := hQ78
        have N78 := Fr.app N28 N78q
        have f81 : Old Z n0 T78.heap := f31.keep Kc78 all0
        have f82 : Exa Z T78.heap b21 "plainsight/core/term/BooleanTerm" := po29.keep Kc78
        have f83 : Fld Z T78.heap b21 "plainsight/core/term/BooleanTerm" "value" "Z" (.int m2) := po30.keep Kc78 nin0
        have K84 : Keep h0 T78.heap [] := K33.trans Kc78 all0
        have Z85 : n0 ≤ T78.heap.size := Nat.le_trans Z34 Kc78.1
        refine OwnGo.back (T78.setTop (mkF m 112 #[.val (.int p1), .val (.int p2), .val (.int p3), .val (.long p4), .second, .val (.int m2), .val (.int m12), .val (.ref b21), .val (.int (p3 &&& (3 : Int32))), .unset, .unset] [(.ref b_79)])) (fun tg kk => st78 _ kk) ?_
        refine OwnGo.back (T78.setTop (mkF m 114 #[.val (.int p1), .val (.int p2), .val (.int p3), .val (.long p4), .second, .val (.int m2), .val (.int m12), .val (.ref b21), .val (.int (p3 &&& (3 : Int32))), .val (.ref b_79), .unset] [])) (fun tg kk => XS.astore X78.here hx rfl (hb hby at_112) rfl rfl (l' := #[.val (.int p1), .val (.int p2), .val (.int p3), .val (.long p4), .second, .val (.int m2), .val (.int m12), .val (.ref b21), .val (.int (p3 &&& (3 : Int32))), .val (.ref b_79), .unset]) rfl kk) ?_
        refine OwnGo.back (T78.setTop (mkF m 115 #[.val (.int p1), .val (.int p2), .val (.int p3), .val (.long p4), .second, .val (.int m2), .val (.int m12), .val (.ref b21), .val (.int (p3 &&& (3 : Int32))), .val (.ref b_79), .unset] [(.int (0 : Int32))])) (fun tg kk => XS.iconst X78.here hx rfl (hb hby at_114) kk) ?_
        refine OwnGo.back (T78.setTop (mkF m 117 #[.val (.int p1), .val (.int p2), .val (.int p3), .val (.long p4), .second, .val (.int m2), .val (.int m12), .val (.ref b21), .val (.int (p3 &&& (3 : Int32))), .val (.ref b_79), .val (.int (0 : Int32))] [])) (fun tg kk => XS.istore X78.here hx rfl (hb hby at_115) rfl (l' := #[.val (.int p1), .val (.int p2), .val (.int p3), .val (.long p4), .second, .val (.int m2), .val (.int m12), .val (.ref b21), .val (.int (p3 &&& (3 : Int32))), .val (.ref b_79), .val (.int (0 : Int32))]) rfl kk) ?_
        refine OwnGo.back (T78.setTop (mkF m 119 #[.val (.int p1), .val (.int p2), .val (.int p3), .val (.long p4), .second, .val (.int m2), .val (.int m12), .val (.ref b21), .val (.int (p3 &&& (3 : Int32))), .val (.ref b_79), .val (.int (0 : Int32))] [(.ref b21)])) (fun tg kk => XS.aload X78.here hx rfl (hb hby at_117) rfl rfl kk) ?_
        refine OwnGo.back (T78.setTop (mkF m 121 #[.val (.int p1), .val (.int p2), .val (.int p3), .val (.long p4), .second, .val (.int m2), .val (.int m12), .val (.ref b21), .val (.int (p3 &&& (3 : Int32))), .val (.ref b_79), .val (.int (0 : Int32))] [(.ref b_79), (.ref b21)])) (fun tg kk => XS.aload X78.here hx rfl (hb hby at_119) rfl rfl kk) ?_
        obtain ⟨cq86, kq86, q86a, q86b, q86c⟩ := isOf hZ rfl f82
        obtain ⟨_, _, ⟨T86, L86, k86, n86⟩, -, X86, ⟨Lc86, hQ86, l86, y86, z86⟩, st86⟩ := X78.virtualBack hx (y := (⟨"plainsight/core/term/BooleanTerm", "equals", "(Ljava/lang/Object;)Z"⟩ : MethodName)) (z := (⟨"plainsight/core/term/BooleanTerm", "equals", "(Ljava/lang/Object;)Z"⟩ : MethodName)) hown (mvT hZ (hw _ (List.mem_of_getElem? (i := 63) rfl))) (mvT hZ (hw _ (List.mem_of_getElem? (i := 64) rfl))) (notFace_of_selects (args := #[]) (mvT hZ (hw _ (List.mem_of_getElem? (i := 66) rfl)))) (mvT hZ (hw _ (List.mem_of_getElem? (i := 66) rfl))) (mvT hZ (hw _ (List.mem_of_getElem? (i := 65) rfl))) (by decide) (backOf (W := 0) (own_eqj l Z a0 hw [] b21 b_79 T78.heap n0 Z85 po80) hZ (hw _ (List.mem_of_getElem? (i := 67) rfl)) (hw _ (List.mem_of_getElem? (i := 2) rfl)) (by decide) (by decide)) q86a q86c (g := (mkF m 121 #[.val (.int p1), .val (.int p2), .val (.int p3), .val (.long p4), .second, .val (.int m2), .val (.int m12), .val (.ref b21), .val (.int (p3 &&& (3 : Int32))), .val (.ref b_79), .val (.int (0 : Int32))] [(.ref b_79), (.ref b21)])) rfl (by rw [hml]; rfl) (Steps.refl _) (argsL := [(.ref b_79)]) (rest := []) (lenOf own_pd7 rfl) rfl (by show 2 * 0 + _ ≤ _; exact Nat.le_of_eq rfl) (hb hby at_121) (fun _ _ => ⟨rfl, rfl, (by decide : 2 + 0 ≤ _), (by decide : 2 + 0 ≤ _)⟩)
        dsimp only [Pt.U, Pt.locs, Pt.cells, Pt.slots] at X86 l86 y86 z86 st86 hQ86
        subst l86 y86 z86
        obtain ⟨rfl, N86q, e86⟩ := hQ86
        have N86 := Fr.app N78 N86q
        refine OwnGo.back (T86.setTop (mkF m 124 #[.val (.int p1), .val (.int p2), .val (.int p3), .val (.long p4), .second, .val (.int m2), .val (.int m12), .val (.ref b21), .val (.int (p3 &&& (3 : Int32))), .val (.ref b_79), .val (.int (0 : Int32))] [(.int (0 : Int32))])) (fun tg kk => st86.trans kk) ?_
        refine OwnGo.back (T86.setTop (mkF m 126 #[.val (.int p1), .val (.int p2), .val (.int p3), .val (.long p4), .second, .val (.int m2), .val (.int m12), .val (.ref b21), .val (.int (p3 &&& (3 : Int32))), .val (.ref b_79), .val (.int (0 : Int32))] [(.int (0 : Int32)), (.int (0 : Int32))])) (fun tg kk => XS.iload X86.here hx rfl (hb hby at_124) rfl kk) ?_
        refine OwnGo.back (T86.setTop (mkF m 129 #[.val (.int p1), .val (.int p2), .val (.int p3), .val (.long p4), .second, .val (.int m2), .val (.int m12), .val (.ref b21), .val (.int (p3 &&& (3 : Int32))), .val (.ref b_79), .val (.int (0 : Int32))] [])) (fun tg kk => XS.icmpNo X86.here hx rfl (hb hby at_126) rfl (teq (by decide : (0 : Int32) = (0 : Int32))).2 kk) ?_
        refine OwnGo.back (T86.setTop (mkF m 130 #[.val (.int p1), .val (.int p2), .val (.int p3), .val (.long p4), .second, .val (.int m2), .val (.int m12), .val (.ref b21), .val (.int (p3 &&& (3 : Int32))), .val (.ref b_79), .val (.int (0 : Int32))] [(.int (1 : Int32))])) (fun tg kk => XS.iconst X86.here hx rfl (hb hby at_129) kk) ?_
        refine OwnGo.back (T86.setTop (mkF m 134 #[.val (.int p1), .val (.int p2), .val (.int p3), .val (.long p4), .second, .val (.int m2), .val (.int m12), .val (.ref b21), .val (.int (p3 &&& (3 : Int32))), .val (.ref b_79), .val (.int (0 : Int32))] [(.int (1 : Int32))])) (fun tg kk => XS.goto X86.here hx rfl (pc0 := 130) (pc' := 134) rfl (hb hby at_130) (by decide) (by decide) kk) ?_
        obtain ⟨fs, hr, hrun, hended, -, hW, hI, hsame⟩ := X86.leaveW hS (by rw [e86]; exact (Nat.le_trans (Nat.le_trans (Nat.le_trans hk0 E21.1) Kc28.1) Kc78.1)) (v := some (.int (1 : Int32))) (fun h => by rw [Bd.returns] at h; cases h)
        refine ⟨_, _, ?_, hrun, hended, _, _, rfl, ?_, ⟨_, rfl⟩, hW, hI, hsame.mono (by decide) (by decide)⟩
        · exact retN X86 hx (t := .boolean) Bd.returns (by simp) (hb hby at_134) hr
        · show own_law_Q Z p1 p2 p3 p4 ca bz bp bn h0 n0 _ T86.heap _
          rw [e86]
          exact ⟨rfl, N86, K84⟩
set_option maxRecDepth 65536 in
set_option maxHeartbeats 40000000 in
theorem comes_1 {Post : Tables → Env → Array Value → State → Outcome → State → Prop} (hpost : ∀ tb e args s v u, (limb_1_1.after args s (.returned v) u = true ∧ limb_1_2.after args s (.returned v) u = true ∧ True) → ReturnedEndW s (.returned v) u (Jvm.fieldLocs frame_1_writes args s ++ Jvm.arrayLocs frame_1_arrays args s ++ Jvm.staticLocs frame_1_statics s) 24 1152 → Post tb e args s (.returned v) u) :
    ArmFor flags0 classFile x code maxLocals ret World_1 tables_1 room_1 Calls_1 rest_1 Pre_1 Post := by
  intro l hfl _ _ p e ha hc hk s m args below hf hA hF happ hP
  obtain ⟨hcalls, hrest, hpre⟩ := hP
  obtain ⟨-, -, -, hnamed, -, -, -, hat⟩ := (Spec.applies_iff hf).mp happ
  obtain ⟨hg, hn⟩ := and_e (Cond.before_iff.mp (show (Jvm.Cond.and given_1 narrow_1).before args s = true from hpre))
  obtain ⟨hg0, hg⟩ := and_e hg
  obtain ⟨hg1, hg⟩ := and_e hg
  obtain ⟨hg2, hg⟩ := and_e hg
  obtain ⟨hg3, hg⟩ := and_e hg
  obtain ⟨w0, w1, w2, w3, rfl⟩ : ∃ w0 w1 w2 w3 : Value, args = #[w0, w1, w2, w3] := by
    have hs : args.size = 4 := by simpa [Cond.value, given_1] using hg0
    obtain ⟨L⟩ := args
    match L, hs with
    | [w0, w1, w2, w3], _ => exact ⟨w0, w1, w2, w3, rfl⟩
  have hw := fun d (hd : d ∈ tables_1) => atoms_spec (ws := Jvm.Cond.code x code maxLocals ret :: tables_1) hat d (List.mem_cons_of_mem _ hd)
  have hfit : Fit s := fun {y c} hc i hi => by
    obtain ⟨ha, rfl⟩ := Array.getElem?_eq_some_iff.mp hc
    have q := List.all_eq_true.mp ((Array.all_eq_true_iff_forall_mem.mp hF) _ (Array.getElem_mem ha)) i (List.mem_range.mpr hi)
    simpa [Array.getElem?_eq_getElem hi] using q
  obtain ⟨i0, ei0⟩ := is_v hg1
  obtain rfl : w0 = (.int i0) := Option.some.inj ei0
  obtain ⟨i1, ei1⟩ := is_v hg2
  obtain rfl : w1 = (.int i1) := Option.some.inj ei1
  obtain ⟨i2, ei2⟩ := is_v hg3
  obtain rfl : w2 = (.int i2) := Option.some.inj ei2
  obtain ⟨i3, ei3⟩ := isL_v hg
  obtain rfl : w3 = (.long i3) := Option.some.inj ei3
  obtain ⟨hsets, hown0⟩ := atoms_of _ (rest_1_c_eq ▸ (show rest_1_c.before _ s = true from hrest))
  obtain ⟨ca, evc⟩ := arr_v (Cond.before_iff.mp (hsets _ (List.mem_of_getElem? (i := 4) rfl)))
  have SI : Sta s s.heap "java/lang/Integer$IntegerCache" "cache" "[Ljava/lang/Integer;" (.ref ca) := Sta.start evc (Or.inr ⟨(hw _ (List.mem_of_getElem? (i := 77) rfl)), (hsets _ (List.mem_of_getElem? (i := 2) rfl))⟩)
  have hBI : own_Box s ca "java/lang/Integer" := own_box (fun _ => evc) (Cond.before_iff.mp (hsets _ (List.mem_of_getElem? (i := 4) rfl))) (Cond.before_iff.mp (hsets _ (List.mem_of_getElem? (i := 6) rfl))) (Cond.before_iff.mp (hsets _ (List.mem_of_getElem? (i := 7) rfl)))
  have SI' : Sta s s.heap "java/lang/Integer$IntegerCache" "high" "I" (.int (127 : Int32)) := Sta.start (own_eqI (Cond.before_iff.mp (hsets _ (List.mem_of_getElem? (i := 3) rfl)))) (Or.inl (hsets _ (List.mem_of_getElem? (i := 1) rfl)))
  obtain ⟨bz, evz⟩ := exa_v (Cond.before_iff.mp (hsets _ (List.mem_of_getElem? (i := 224) rfl)))
  have SZ : Sta s s.heap "java/math/BigInteger" "ZERO" "Ljava/math/BigInteger;" (.ref bz) := Sta.start evz (Or.inl (hsets _ (List.mem_of_getElem? (i := 223) rfl)))
  obtain ⟨bp, evp⟩ := arr_v (Cond.before_iff.mp (hsets _ (List.mem_of_getElem? (i := 16) rfl)))
  have Sp : Sta s s.heap "java/math/BigInteger" "posConst" "[Ljava/math/BigInteger;" (.ref bp) := Sta.start evp (Or.inl (hsets _ (List.mem_of_getElem? (i := 9) rfl)))
  obtain ⟨clp, Ap⟩ := Arr.start evp (Cond.before_iff.mp (hsets _ (List.mem_of_getElem? (i := 16) rfl)))
  have hp : own_Big s bp := ⟨clp, Ap, own_size17 evp Ap (Cond.before_iff.mp (hsets _ (List.mem_of_getElem? (i := 18) rfl))), fun j h1 h2 => by
    rcases own_j h1 h2 with rfl | rfl | rfl | rfl | rfl | rfl | rfl | rfl | rfl | rfl | rfl | rfl | rfl | rfl | rfl | rfl
    · exact own_at evp Ap (by decide) (Cond.before_iff.mp (hsets _ (List.mem_of_getElem? (i := 20) rfl)))
    · exact own_at evp Ap (by decide) (Cond.before_iff.mp (hsets _ (List.mem_of_getElem? (i := 27) rfl)))
    · exact own_at evp Ap (by decide) (Cond.before_iff.mp (hsets _ (List.mem_of_getElem? (i := 33) rfl)))
    · exact own_at evp Ap (by decide) (Cond.before_iff.mp (hsets _ (List.mem_of_getElem? (i := 39) rfl)))
    · exact own_at evp Ap (by decide) (Cond.before_iff.mp (hsets _ (List.mem_of_getElem? (i := 45) rfl)))
    · exact own_at evp Ap (by decide) (Cond.before_iff.mp (hsets _ (List.mem_of_getElem? (i := 51) rfl)))
    · exact own_at evp Ap (by decide) (Cond.before_iff.mp (hsets _ (List.mem_of_getElem? (i := 57) rfl)))
    · exact own_at evp Ap (by decide) (Cond.before_iff.mp (hsets _ (List.mem_of_getElem? (i := 63) rfl)))
    · exact own_at evp Ap (by decide) (Cond.before_iff.mp (hsets _ (List.mem_of_getElem? (i := 69) rfl)))
    · exact own_at evp Ap (by decide) (Cond.before_iff.mp (hsets _ (List.mem_of_getElem? (i := 76) rfl)))
    · exact own_at evp Ap (by decide) (Cond.before_iff.mp (hsets _ (List.mem_of_getElem? (i := 82) rfl)))
    · exact own_at evp Ap (by decide) (Cond.before_iff.mp (hsets _ (List.mem_of_getElem? (i := 88) rfl)))
    · exact own_at evp Ap (by decide) (Cond.before_iff.mp (hsets _ (List.mem_of_getElem? (i := 94) rfl)))
    · exact own_at evp Ap (by decide) (Cond.before_iff.mp (hsets _ (List.mem_of_getElem? (i := 100) rfl)))
    · exact own_at evp Ap (by decide) (Cond.before_iff.mp (hsets _ (List.mem_of_getElem? (i := 106) rfl)))
    · exact own_at evp Ap (by decide) (Cond.before_iff.mp (hsets _ (List.mem_of_getElem? (i := 112) rfl)))⟩
  obtain ⟨bn, evn⟩ := arr_v (Cond.before_iff.mp (hsets _ (List.mem_of_getElem? (i := 122) rfl)))
  have Sn : Sta s s.heap "java/math/BigInteger" "negConst" "[Ljava/math/BigInteger;" (.ref bn) := Sta.start evn (Or.inl (hsets _ (List.mem_of_getElem? (i := 119) rfl)))
  obtain ⟨cln, An⟩ := Arr.start evn (Cond.before_iff.mp (hsets _ (List.mem_of_getElem? (i := 122) rfl)))
  have hn : own_Big s bn := ⟨cln, An, own_size17 evn An (Cond.before_iff.mp (hsets _ (List.mem_of_getElem? (i := 124) rfl))), fun j h1 h2 => by
    rcases own_j h1 h2 with rfl | rfl | rfl | rfl | rfl | rfl | rfl | rfl | rfl | rfl | rfl | rfl | rfl | rfl | rfl | rfl
    · exact own_at evn An (by decide) (Cond.before_iff.mp (hsets _ (List.mem_of_getElem? (i := 126) rfl)))
    · exact own_at evn An (by decide) (Cond.before_iff.mp (hsets _ (List.mem_of_getElem? (i := 132) rfl)))
    · exact own_at evn An (by decide) (Cond.before_iff.mp (hsets _ (List.mem_of_getElem? (i := 138) rfl)))
    · exact own_at evn An (by decide) (Cond.before_iff.mp (hsets _ (List.mem_of_getElem? (i := 144) rfl)))
    · exact own_at evn An (by decide) (Cond.before_iff.mp (hsets _ (List.mem_of_getElem? (i := 150) rfl)))
    · exact own_at evn An (by decide) (Cond.before_iff.mp (hsets _ (List.mem_of_getElem? (i := 156) rfl)))
    · exact own_at evn An (by decide) (Cond.before_iff.mp (hsets _ (List.mem_of_getElem? (i := 162) rfl)))
    · exact own_at evn An (by decide) (Cond.before_iff.mp (hsets _ (List.mem_of_getElem? (i := 168) rfl)))
    · exact own_at evn An (by decide) (Cond.before_iff.mp (hsets _ (List.mem_of_getElem? (i := 174) rfl)))
    · exact own_at evn An (by decide) (Cond.before_iff.mp (hsets _ (List.mem_of_getElem? (i := 180) rfl)))
    · exact own_at evn An (by decide) (Cond.before_iff.mp (hsets _ (List.mem_of_getElem? (i := 186) rfl)))
    · exact own_at evn An (by decide) (Cond.before_iff.mp (hsets _ (List.mem_of_getElem? (i := 192) rfl)))
    · exact own_at evn An (by decide) (Cond.before_iff.mp (hsets _ (List.mem_of_getElem? (i := 198) rfl)))
    · exact own_at evn An (by decide) (Cond.before_iff.mp (hsets _ (List.mem_of_getElem? (i := 204) rfl)))
    · exact own_at evn An (by decide) (Cond.before_iff.mp (hsets _ (List.mem_of_getElem? (i := 210) rfl)))
    · exact own_at evn An (by decide) (Cond.before_iff.mp (hsets _ (List.mem_of_getElem? (i := 216) rfl)))⟩
  obtain ⟨n, o, h1, h2, h3, _, L, rfl, ⟨rfl, N, -⟩, hq⟩ := own_law l s _ hw tables_1 i0 i1 i2 i3 ca bz bp bn s.heap s.heap.size (Nat.le_refl _) SI SI' (Old.start s) hBI SZ Sp Sn hp hn p e ha hc hk s m _ below hf ((Spec.applies_iff_loose hf).mp happ).1 ⟨rfl, State.Warmed39.refl s, rfl⟩ trivial
  refine ⟨n, _, h1, h2, h3, hpost _ _ _ _ _ _ ⟨Cond.after_iff.mpr rfl, Cond.after_iff.mpr (eq_i res_at (Term.int_eval (1)) rfl), trivial⟩ ⟨hq.1, hq.2.1, hq.2.2.1, (hq.2.2.2.sift fun y hy => Or.inr (N y hy)).mono (by decide) (by decide)⟩⟩
theorem main_1_1 : Claimed_1_1 := comes_1 fun _ _ _ _ _ _ h hF => ⟨h.1, hF⟩
theorem main_1_2 : Claimed_1_2 := comes_1 fun _ _ _ _ _ _ h hF => ⟨h.2.1, hF⟩
end Jvm.Pilot.@@N@@
namespace Jvm.Pilot.@@N@@
open Jvm Jvm.ClassFile Sem Op Lib Jvm.Free Jvm.Stand Jvm.Pilot.@@N@@.Jvm.D
/-! MADE BY PROGRAM (witnessworld.py) out of the Statement's table words and the real class files: 24 classes; the members and pool entries that the words name. The judged class is class 1, her method 1. -/
namespace start1
open Jvm.ClassFile
def u (s : String) : CpInfo := .utf8 (stringToUtf16 s)
/-- a pool by its gaps: so many unusable entries, then the entry; so many at the end -/
def gap : Nat → List CpInfo → List CpInfo
  | 0, r => r
  | n + 1, r => .unusable :: gap n r
def poolList (es : List (Nat × CpInfo)) (last : Nat) : List CpInfo := es.foldr (fun e r => gap e.1 (e.2 :: r)) (gap last [])
def pool (es : List (Nat × CpInfo)) (last : Nat) : Array CpInfo := ⟨poolList es last⟩
def fileOf (pool : Array CpInfo) (this : Nat) (attrs : Array Attribute := #[]) (ms : Array MethodInfo := #[]) (fl : Nat := 33) (sup : Nat := 0) (ifs : Array Nat := #[]) (fds : Array FieldInfo := #[]) : ClassFile where
  minorVersion := 0
  majorVersion := 65
  constantPool := pool
  accessFlags := fl
  thisClass := this
  superClass := sup
  interfaces := ifs
  fields := fds
  methods := ms
  attributes := attrs
def plain (name : String) (sup : Option ClassId) : Class where
  name := name
  kind := .ordinary
  loader := none
  accessFlags := 33
  super := sup
  interfaces := #[]
  cf := none
  fields := #[]
  methods := #[]
  instanceTypes := #[]
  staticTypes := #[]
  resolved := #[]
  callSites := []
  init := .initialized
  statics := none
  mirror := none

def pool0 : Array CpInfo := pool [(5, u "<init>"), (0, u "()V"), (1, .class_ 10), (1, u "java/lang/Object")] 113

def k0c0 : Code := { maxStack := 0, maxLocals := 1, code := object_method_1_code, exceptionTable := #[], attributes := #[] }
def k0m0 : Method := { name := "<init>", desc := "()V", sig := { parameters := [], returnType := none }, accessFlags := 1, code := some k0c0 }
/-- java/lang/Object -/
def k0 : Class := { plain "java/lang/Object" none with
  accessFlags := 33
  interfaces := #[]
  cf := some (fileOf pool0 8 #[] #[{ accessFlags := 1, nameIndex := 5, descriptorIndex := 6, attributes := #[] }] 33 0 #[] #[])
  fields := #[]
  methods := #[k0m0]
  instanceTypes := #[]
  staticTypes := #[]
  resolved := Array.replicate 124 none
  statics := none }

def pool1 : Array CpInfo := pool [(2, .class_ 4), (1, u "java/lang/Object"), (0, u "<init>"), (0, u "()V"), (0, .class_ 8), (0, u "plainsight/core/term/BooleanTerm"), (0, .methodref 7 10), (0, .nameAndType 5 11), (0, u "(Z)V"), (0, .methodref 13 14), (0, .class_ 15), (0, .nameAndType 16 17), (0, u "plainsight/core/term/IntegerTerm"), (0, u "of"), (0, u "(J)Lplainsight/core/term/IntegerTerm;"), (0, .methodref 19 20), (0, .class_ 21), (0, .nameAndType 22 23), (0, u "java/lang/Integer"), (0, u "valueOf"), (0, u "(I)Ljava/lang/Integer;"), (0, .methodref 7 25), (0, .nameAndType 26 27), (0, u "equals"), (0, u "(Ljava/lang/Object;)Z"), (0, .class_ 29), (0, u "plainsight/core/term/BooleanTermEqualsPinLaw"), (2, u "law"), (0, u "(IIIJ)Z")] 3

def k1m0 : Method := { name := "<init>", desc := "()V", sig := { parameters := [], returnType := none }, accessFlags := 1, code := none }
def k1c1 : Code := { maxStack := 3, maxLocals := 11, code := code, exceptionTable := #[], attributes := #[] }
def k1m1 : Method := { name := "law", desc := "(IIIJ)Z", sig := { parameters := [.int, .int, .int, .long], returnType := some .boolean }, accessFlags := 9, code := some k1c1 }
/-- plainsight/core/term/BooleanTermEqualsPinLaw -/
def k1 : Class := { plain "plainsight/core/term/BooleanTermEqualsPinLaw" (some 0) with
  accessFlags := 49
  interfaces := #[]
  cf := some (fileOf pool1 28 #[] #[{ accessFlags := 1, nameIndex := 5, descriptorIndex := 6, attributes := #[] }, { accessFlags := 9, nameIndex := 32, descriptorIndex := 33, attributes := #[] }] 49 2 #[] #[])
  fields := #[]
  methods := #[k1m0, k1m1]
  instanceTypes := #[]
  staticTypes := #[]
  resolved := Array.replicate 37 none
  statics := none }

def pool2 : Array CpInfo := pool [(1, .methodref 2 3), (0, .class_ 4), (0, .nameAndType 5 6), (0, u "java/lang/Object"), (0, u "<init>"), (0, u "()V"), (0, .class_ 8), (0, u "java/lang/Record")] 13

def k2c0 : Code := { maxStack := 1, maxLocals := 1, code := jdk_30_method_1_code, exceptionTable := #[], attributes := #[] }
def k2m0 : Method := { name := "<init>", desc := "()V", sig := { parameters := [], returnType := none }, accessFlags := 4, code := some k2c0 }
/-- java/lang/Record -/
def k2 : Class := { plain "java/lang/Record" (some 0) with
  accessFlags := 1057
  interfaces := #[]
  cf := some (fileOf pool2 7 #[] #[{ accessFlags := 4, nameIndex := 5, descriptorIndex := 6, attributes := #[] }] 1057 2 #[] #[])
  fields := #[]
  methods := #[k2m0]
  instanceTypes := #[]
  staticTypes := #[]
  resolved := Array.replicate 22 none
  statics := none }

def pool3 : Array CpInfo := pool [(28, .class_ 29), (0, u "plainsight/core/term/Term"), (40, .class_ 71), (0, u "java/lang/Object")] 38

/-- plainsight/core/term/Term -/
def k3 : Class := { plain "plainsight/core/term/Term" (some 0) with
  accessFlags := 1537
  interfaces := #[]
  cf := some (fileOf pool3 28 #[] #[] 1537 70 #[] #[])
  fields := #[]
  methods := #[]
  instanceTypes := #[]
  staticTypes := #[]
  resolved := Array.replicate 110 none
  statics := none }

def pool4 : Array CpInfo := pool [(1, .methodref 2 3), (0, .class_ 4), (0, .nameAndType 5 6), (0, u "java/lang/Record"), (0, u "<init>"), (0, u "()V"), (0, .fieldref 8 9), (0, .class_ 10), (0, .nameAndType 11 12), (0, u "plainsight/core/term/BooleanTerm"), (0, u "value"), (0, u "Z"), (2, u "TRUE"), (0, u "Lplainsight/core/term/BooleanTerm;"), (2, u "FALSE"), (20, u "(Z)V"), (0, .class_ 42), (0, u "plainsight/core/term/Term"), (6, u "equals"), (0, u "(Ljava/lang/Object;)Z")] 10

def k4c0 : Code := { maxStack := 2, maxLocals := 2, code := prog_57_method_1_code, exceptionTable := #[], attributes := #[] }
def k4m0 : Method := { name := "<init>", desc := "(Z)V", sig := { parameters := [.boolean], returnType := none }, accessFlags := 1, code := some k4c0 }
def k4c1 : Code := { maxStack := 2, maxLocals := 3, code := prog_57_method_3_code, exceptionTable := #[], attributes := #[] }
def k4m1 : Method := { name := "equals", desc := "(Ljava/lang/Object;)Z", sig := { parameters := [(.object "java/lang/Object")], returnType := some .boolean }, accessFlags := 1, code := some k4c1 }
/-- plainsight/core/term/BooleanTerm -/
def k4 : Class := { plain "plainsight/core/term/BooleanTerm" (some 2) with
  accessFlags := 49
  interfaces := #[3]
  cf := some (fileOf pool4 8 #[] #[{ accessFlags := 1, nameIndex := 5, descriptorIndex := 40, attributes := #[] }, { accessFlags := 1, nameIndex := 49, descriptorIndex := 50, attributes := #[] }] 49 2 #[41] #[{ accessFlags := 18, nameIndex := 11, descriptorIndex := 12, attributes := #[] }, { accessFlags := 25, nameIndex := 15, descriptorIndex := 16, attributes := #[] }, { accessFlags := 25, nameIndex := 19, descriptorIndex := 16, attributes := #[] }])
  fields := #[{ name := "value", type := .boolean, accessFlags := 18, slot := 0, constantValue := 0 }, { name := "TRUE", type := (.object "plainsight/core/term/BooleanTerm"), accessFlags := 25, slot := 0, constantValue := 0 }, { name := "FALSE", type := (.object "plainsight/core/term/BooleanTerm"), accessFlags := 25, slot := 1, constantValue := 0 }]
  methods := #[k4m0, k4m1]
  instanceTypes := #[.boolean]
  staticTypes := #[(.object "plainsight/core/term/BooleanTerm"), (.object "plainsight/core/term/BooleanTerm")]
  resolved := Array.replicate 61 none
  statics := none }

def pool5 : Array CpInfo := pool [(1, .methodref 2 3), (0, .class_ 4), (0, .nameAndType 5 6), (0, u "java/lang/Record"), (0, u "<init>"), (0, u "()V"), (0, .string 8), (0, u "value"), (0, .methodref 10 11), (0, .class_ 12), (0, .nameAndType 13 14), (0, u "java/util/Objects"), (0, u "requireNonNull"), (0, u "(Ljava/lang/Object;Ljava/lang/String;)Ljava/lang/Object;"), (0, .fieldref 16 17), (0, .class_ 18), (0, .nameAndType 8 19), (0, u "plainsight/core/term/IntegerTerm"), (0, u "Ljava/math/BigInteger;"), (0, .methodref 21 22), (0, .class_ 23), (0, .nameAndType 24 25), (0, u "java/math/BigInteger"), (0, u "valueOf"), (0, u "(J)Ljava/math/BigInteger;"), (0, .methodref 16 27), (0, .nameAndType 5 28), (0, u "(Ljava/math/BigInteger;)V"), (18, .class_ 48), (0, u "plainsight/core/term/Term"), (3, u "of"), (0, u "(J)Lplainsight/core/term/IntegerTerm;")] 7

def k5c0 : Code := { maxStack := 2, maxLocals := 2, code := prog_61_method_1_code, exceptionTable := #[], attributes := #[] }
def k5m0 : Method := { name := "<init>", desc := "(Ljava/math/BigInteger;)V", sig := { parameters := [(.object "java/math/BigInteger")], returnType := none }, accessFlags := 1, code := some k5c0 }
def k5c1 : Code := { maxStack := 4, maxLocals := 2, code := prog_61_method_2_code, exceptionTable := #[], attributes := #[] }
def k5m1 : Method := { name := "of", desc := "(J)Lplainsight/core/term/IntegerTerm;", sig := { parameters := [.long], returnType := some (.object "plainsight/core/term/IntegerTerm") }, accessFlags := 9, code := some k5c1 }
/-- plainsight/core/term/IntegerTerm -/
def k5 : Class := { plain "plainsight/core/term/IntegerTerm" (some 2) with
  accessFlags := 49
  interfaces := #[3]
  cf := some (fileOf pool5 16 #[] #[{ accessFlags := 1, nameIndex := 5, descriptorIndex := 28, attributes := #[] }, { accessFlags := 9, nameIndex := 52, descriptorIndex := 53, attributes := #[] }] 49 2 #[47] #[{ accessFlags := 18, nameIndex := 8, descriptorIndex := 19, attributes := #[] }])
  fields := #[{ name := "value", type := (.object "java/math/BigInteger"), accessFlags := 18, slot := 0, constantValue := 0 }]
  methods := #[k5m0, k5m1]
  instanceTypes := #[(.object "java/math/BigInteger")]
  staticTypes := #[]
  resolved := Array.replicate 61 none
  statics := none }

def pool6 : Array CpInfo := pool [(1, .class_ 2), (0, u "java/io/Serializable"), (0, .class_ 4), (0, u "java/lang/Object")] 2

/-- java/io/Serializable -/
def k6 : Class := { plain "java/io/Serializable" (some 0) with
  accessFlags := 1537
  interfaces := #[]
  cf := some (fileOf pool6 1 #[] #[] 1537 3 #[] #[])
  fields := #[]
  methods := #[]
  instanceTypes := #[]
  staticTypes := #[]
  resolved := Array.replicate 7 none
  statics := none }

def pool7 : Array CpInfo := pool [(1, .methodref 2 3), (0, .class_ 4), (0, .nameAndType 5 6), (0, u "java/lang/Object"), (0, u "<init>"), (0, u "()V"), (1, .class_ 10), (1, u "java/lang/Number"), (2, .class_ 14), (0, u "java/io/Serializable"), (0, u "serialVersionUID"), (0, u "J")] 20

def k7c0 : Code := { maxStack := 1, maxLocals := 1, code := jdk_18_method_1_code, exceptionTable := #[], attributes := #[] }
def k7m0 : Method := { name := "<init>", desc := "()V", sig := { parameters := [], returnType := none }, accessFlags := 1, code := some k7c0 }
/-- java/lang/Number -/
def k7 : Class := { plain "java/lang/Number" (some 0) with
  accessFlags := 1057
  interfaces := #[6]
  cf := some (fileOf pool7 8 #[] #[{ accessFlags := 1, nameIndex := 5, descriptorIndex := 6, attributes := #[] }] 1057 2 #[13] #[{ accessFlags := 26, nameIndex := 15, descriptorIndex := 16, attributes := #[] }])
  fields := #[{ name := "serialVersionUID", type := .long, accessFlags := 26, slot := 0, constantValue := 0 }]
  methods := #[k7m0]
  instanceTypes := #[]
  staticTypes := #[.long]
  resolved := Array.replicate 37 none
  statics := none }

def pool8 : Array CpInfo := pool [(1, .class_ 2), (0, u "java/lang/Comparable"), (0, .class_ 4), (0, u "java/lang/Object")] 7

/-- java/lang/Comparable -/
def k8 : Class := { plain "java/lang/Comparable" (some 0) with
  accessFlags := 1537
  interfaces := #[]
  cf := some (fileOf pool8 1 #[] #[] 1537 3 #[] #[])
  fields := #[]
  methods := #[]
  instanceTypes := #[]
  staticTypes := #[]
  resolved := Array.replicate 12 none
  statics := none }

def pool9 : Array CpInfo := pool [(3, .methodref 4 5), (0, .class_ 6), (0, .nameAndType 7 8), (0, u "java/lang/Number"), (0, u "<init>"), (0, u "()V"), (13, .fieldref 23 24), (0, .class_ 25), (0, .nameAndType 26 27), (0, u "java/math/BigInteger"), (0, u "ZERO"), (0, u "Ljava/math/BigInteger;"), (0, .fieldref 23 29), (0, .nameAndType 30 31), (0, u "mag"), (0, u "[I"), (0, .fieldref 23 33), (0, .nameAndType 34 35), (0, u "signum"), (0, u "I"), (59, u "bitsPerDigit"), (0, u "[J"), (9, u "digitsPerInt"), (12, u "intRadix"), (60, u "SMALL_PRIME_PRODUCT"), (56, u "valueOf"), (0, u "(J)Ljava/math/BigInteger;"), (21, u "ONE"), (6, u "TWO"), (43, u "$assertionsDisabled"), (0, u "Z"), (32, .long 16), (1, .fieldref 23 348), (0, .nameAndType 349 350), (0, u "posConst"), (0, u "[Ljava/math/BigInteger;"), (0, .long 18446744073709551600), (1, .fieldref 23 354), (0, .nameAndType 355 350), (0, u "negConst"), (0, .methodref 23 357), (0, .nameAndType 7 358), (0, u "(J)V"), (113, .class_ 474), (1, u "java/math/BigInteger$RecursiveOp"), (106, u "NEGATIVE_ONE"), (91, u "bnExpModThreshTable"), (72, u "lowestSetBitPlusTwo"), (2, u "bitLengthPlusOne"), (2, u "bitCountPlusOne"), (6, u "LOG_TWO"), (0, u "D"), (2, u "logCache"), (0, u "[D"), (13, u "NUM_ZEROS"), (2, u "ZEROS"), (0, u "Ljava/lang/String;"), (9, u "longRadix"), (5, u "digitsPerLong"), (22, u "powerCache"), (0, u "[[Ljava/math/BigInteger;"), (45, u "firstNonzeroIntNumPlusTwo"), (38, .class_ 909), (1, u "java/math/BigInteger$UnsafeHolder"), (141, u "TEN"), (106, u "serialPersistentFields"), (0, u "[Ljava/io/ObjectStreamField;"), (0, .class_ 1161), (0, u "java/lang/Comparable"), (0, u "LONG_MASK"), (0, u "J"), (1, u "MAX_MAG_LENGTH"), (0, u "PRIME_SEARCH_BIT_LENGTH_LIMIT"), (1, u "KARATSUBA_THRESHOLD"), (1, u "TOOM_COOK_THRESHOLD"), (1, u "KARATSUBA_SQUARE_THRESHOLD"), (1, u "TOOM_COOK_SQUARE_THRESHOLD"), (1, u "BURNIKEL_ZIEGLER_THRESHOLD"), (0, u "BURNIKEL_ZIEGLER_OFFSET"), (1, u "SCHOENHAGE_BASE_CONVERSION_THRESHOLD"), (1, u "MULTIPLY_SQUARE_THRESHOLD"), (0, u "MONTGOMERY_INTRINSIC_THRESHOLD"), (1, u "SMALL_PRIME_THRESHOLD"), (1, u "DEFAULT_PRIME_CERTAINTY"), (1, u "MAX_CONSTANT"), (3, u "serialVersionUID"), (338, .class_ 1532), (0, u "java/math/BigInteger$RecursiveOp$RecursiveSquare"), (0, .class_ 1534), (0, u "java/math/BigInteger$RecursiveOp$RecursiveMultiply")] 7

def k9c0 : Code := { maxStack := 4, maxLocals := 2, code := jdk_2097_method_29_code, exceptionTable := #[], attributes := #[] }
def k9m0 : Method := { name := "valueOf", desc := "(J)Ljava/math/BigInteger;", sig := { parameters := [.long], returnType := some (.object "java/math/BigInteger") }, accessFlags := 9, code := some k9c0 }
def k9c1 : Code := { maxStack := 4, maxLocals := 4, code := jdk_2097_method_30_code, exceptionTable := #[], attributes := #[] }
def k9m1 : Method := { name := "<init>", desc := "(J)V", sig := { parameters := [.long], returnType := none }, accessFlags := 2, code := some k9c1 }
/-- java/math/BigInteger -/
def k9 : Class := { plain "java/math/BigInteger" (some 7) with
  accessFlags := 33
  interfaces := #[8]
  cf := some (fileOf pool9 23 #[.nestMembers #[907, 472, 1531, 1533]] #[{ accessFlags := 9, nameIndex := 237, descriptorIndex := 238, attributes := #[] }, { accessFlags := 2, nameIndex := 7, descriptorIndex := 358, attributes := #[] }] 33 4 #[1160] #[{ accessFlags := 16, nameIndex := 34, descriptorIndex := 35, attributes := #[] }, { accessFlags := 16, nameIndex := 30, descriptorIndex := 31, attributes := #[] }, { accessFlags := 2, nameIndex := 752, descriptorIndex := 35, attributes := #[] }, { accessFlags := 2, nameIndex := 749, descriptorIndex := 35, attributes := #[] }, { accessFlags := 2, nameIndex := 746, descriptorIndex := 35, attributes := #[] }, { accessFlags := 2, nameIndex := 868, descriptorIndex := 35, attributes := #[] }, { accessFlags := 24, nameIndex := 1162, descriptorIndex := 1163, attributes := #[] }, { accessFlags := 26, nameIndex := 1165, descriptorIndex := 35, attributes := #[] }, { accessFlags := 26, nameIndex := 1166, descriptorIndex := 35, attributes := #[] }, { accessFlags := 26, nameIndex := 1168, descriptorIndex := 35, attributes := #[] }, { accessFlags := 26, nameIndex := 1170, descriptorIndex := 35, attributes := #[] }, { accessFlags := 26, nameIndex := 1172, descriptorIndex := 35, attributes := #[] }, { accessFlags := 26, nameIndex := 1174, descriptorIndex := 35, attributes := #[] }, { accessFlags := 24, nameIndex := 1176, descriptorIndex := 35, attributes := #[] }, { accessFlags := 24, nameIndex := 1177, descriptorIndex := 35, attributes := #[] }, { accessFlags := 26, nameIndex := 1179, descriptorIndex := 35, attributes := #[] }, { accessFlags := 26, nameIndex := 1181, descriptorIndex := 35, attributes := #[] }, { accessFlags := 26, nameIndex := 1182, descriptorIndex := 35, attributes := #[] }, { accessFlags := 10, nameIndex := 95, descriptorIndex := 96, attributes := #[] }, { accessFlags := 26, nameIndex := 1184, descriptorIndex := 35, attributes := #[] }, { accessFlags := 26, nameIndex := 1186, descriptorIndex := 35, attributes := #[] }, { accessFlags := 26, nameIndex := 180, descriptorIndex := 27, attributes := #[] }, { accessFlags := 26, nameIndex := 1188, descriptorIndex := 35, attributes := #[] }, { accessFlags := 26, nameIndex := 349, descriptorIndex := 350, attributes := #[] }, { accessFlags := 26, nameIndex := 355, descriptorIndex := 350, attributes := #[] }, { accessFlags := 74, nameIndex := 821, descriptorIndex := 822, attributes := #[] }, { accessFlags := 26, nameIndex := 763, descriptorIndex := 764, attributes := #[] }, { accessFlags := 26, nameIndex := 759, descriptorIndex := 760, attributes := #[] }, { accessFlags := 25, nameIndex := 26, descriptorIndex := 27, attributes := #[] }, { accessFlags := 25, nameIndex := 260, descriptorIndex := 27, attributes := #[] }, { accessFlags := 25, nameIndex := 267, descriptorIndex := 27, attributes := #[] }, { accessFlags := 26, nameIndex := 581, descriptorIndex := 27, attributes := #[] }, { accessFlags := 25, nameIndex := 1051, descriptorIndex := 27, attributes := #[] }, { accessFlags := 8, nameIndex := 673, descriptorIndex := 31, attributes := #[] }, { accessFlags := 10, nameIndex := 778, descriptorIndex := 35, attributes := #[] }, { accessFlags := 26, nameIndex := 781, descriptorIndex := 782, attributes := #[] }, { accessFlags := 10, nameIndex := 798, descriptorIndex := 31, attributes := #[] }, { accessFlags := 10, nameIndex := 792, descriptorIndex := 350, attributes := #[] }, { accessFlags := 10, nameIndex := 106, descriptorIndex := 31, attributes := #[] }, { accessFlags := 10, nameIndex := 119, descriptorIndex := 31, attributes := #[] }, { accessFlags := 26, nameIndex := 1192, descriptorIndex := 1163, attributes := #[] }, { accessFlags := 26, nameIndex := 1158, descriptorIndex := 1159, attributes := #[] }, { accessFlags := 4120, nameIndex := 311, descriptorIndex := 312, attributes := #[] }])
  fields := #[{ name := "signum", type := .int, accessFlags := 16, slot := 0, constantValue := 0 }, { name := "mag", type := (.array .int), accessFlags := 16, slot := 1, constantValue := 0 }, { name := "bitCountPlusOne", type := .int, accessFlags := 2, slot := 2, constantValue := 0 }, { name := "bitLengthPlusOne", type := .int, accessFlags := 2, slot := 3, constantValue := 0 }, { name := "lowestSetBitPlusTwo", type := .int, accessFlags := 2, slot := 4, constantValue := 0 }, { name := "firstNonzeroIntNumPlusTwo", type := .int, accessFlags := 2, slot := 5, constantValue := 0 }, { name := "LONG_MASK", type := .long, accessFlags := 24, slot := 0, constantValue := 0 }, { name := "MAX_MAG_LENGTH", type := .int, accessFlags := 26, slot := 1, constantValue := 0 }, { name := "PRIME_SEARCH_BIT_LENGTH_LIMIT", type := .int, accessFlags := 26, slot := 2, constantValue := 0 }, { name := "KARATSUBA_THRESHOLD", type := .int, accessFlags := 26, slot := 3, constantValue := 0 }, { name := "TOOM_COOK_THRESHOLD", type := .int, accessFlags := 26, slot := 4, constantValue := 0 }, { name := "KARATSUBA_SQUARE_THRESHOLD", type := .int, accessFlags := 26, slot := 5, constantValue := 0 }, { name := "TOOM_COOK_SQUARE_THRESHOLD", type := .int, accessFlags := 26, slot := 6, constantValue := 0 }, { name := "BURNIKEL_ZIEGLER_THRESHOLD", type := .int, accessFlags := 24, slot := 7, constantValue := 0 }, { name := "BURNIKEL_ZIEGLER_OFFSET", type := .int, accessFlags := 24, slot := 8, constantValue := 0 }, { name := "SCHOENHAGE_BASE_CONVERSION_THRESHOLD", type := .int, accessFlags := 26, slot := 9, constantValue := 0 }, { name := "MULTIPLY_SQUARE_THRESHOLD", type := .int, accessFlags := 26, slot := 10, constantValue := 0 }, { name := "MONTGOMERY_INTRINSIC_THRESHOLD", type := .int, accessFlags := 26, slot := 11, constantValue := 0 }, { name := "bitsPerDigit", type := (.array .long), accessFlags := 10, slot := 12, constantValue := 0 }, { name := "SMALL_PRIME_THRESHOLD", type := .int, accessFlags := 26, slot := 13, constantValue := 0 }, { name := "DEFAULT_PRIME_CERTAINTY", type := .int, accessFlags := 26, slot := 14, constantValue := 0 }, { name := "SMALL_PRIME_PRODUCT", type := (.object "java/math/BigInteger"), accessFlags := 26, slot := 15, constantValue := 0 }, { name := "MAX_CONSTANT", type := .int, accessFlags := 26, slot := 16, constantValue := 0 }, { name := "posConst", type := (.array (.object "java/math/BigInteger")), accessFlags := 26, slot := 17, constantValue := 0 }, { name := "negConst", type := (.array (.object "java/math/BigInteger")), accessFlags := 26, slot := 18, constantValue := 0 }, { name := "powerCache", type := (.array (.array (.object "java/math/BigInteger"))), accessFlags := 74, slot := 19, constantValue := 0 }, { name := "logCache", type := (.array .double), accessFlags := 26, slot := 20, constantValue := 0 }, { name := "LOG_TWO", type := .double, accessFlags := 26, slot := 21, constantValue := 0 }, { name := "ZERO", type := (.object "java/math/BigInteger"), accessFlags := 25, slot := 22, constantValue := 0 }, { name := "ONE", type := (.object "java/math/BigInteger"), accessFlags := 25, slot := 23, constantValue := 0 }, { name := "TWO", type := (.object "java/math/BigInteger"), accessFlags := 25, slot := 24, constantValue := 0 }, { name := "NEGATIVE_ONE", type := (.object "java/math/BigInteger"), accessFlags := 26, slot := 25, constantValue := 0 }, { name := "TEN", type := (.object "java/math/BigInteger"), accessFlags := 25, slot := 26, constantValue := 0 }, { name := "bnExpModThreshTable", type := (.array .int), accessFlags := 8, slot := 27, constantValue := 0 }, { name := "NUM_ZEROS", type := .int, accessFlags := 10, slot := 28, constantValue := 0 }, { name := "ZEROS", type := (.object "java/lang/String"), accessFlags := 26, slot := 29, constantValue := 0 }, { name := "digitsPerLong", type := (.array .int), accessFlags := 10, slot := 30, constantValue := 0 }, { name := "longRadix", type := (.array (.object "java/math/BigInteger")), accessFlags := 10, slot := 31, constantValue := 0 }, { name := "digitsPerInt", type := (.array .int), accessFlags := 10, slot := 32, constantValue := 0 }, { name := "intRadix", type := (.array .int), accessFlags := 10, slot := 33, constantValue := 0 }, { name := "serialVersionUID", type := .long, accessFlags := 26, slot := 34, constantValue := 0 }, { name := "serialPersistentFields", type := (.array (.object "java/io/ObjectStreamField")), accessFlags := 26, slot := 35, constantValue := 0 }, { name := "$assertionsDisabled", type := .boolean, accessFlags := 4120, slot := 36, constantValue := 0 }]
  methods := #[k9m0, k9m1]
  instanceTypes := #[.int, (.array .int), .int, .int, .int, .int]
  staticTypes := #[.long, .int, .int, .int, .int, .int, .int, .int, .int, .int, .int, .int, (.array .long), .int, .int, (.object "java/math/BigInteger"), .int, (.array (.object "java/math/BigInteger")), (.array (.object "java/math/BigInteger")), (.array (.array (.object "java/math/BigInteger"))), (.array .double), .double, (.object "java/math/BigInteger"), (.object "java/math/BigInteger"), (.object "java/math/BigInteger"), (.object "java/math/BigInteger"), (.object "java/math/BigInteger"), (.array .int), .int, (.object "java/lang/String"), (.array .int), (.array (.object "java/math/BigInteger")), (.array .int), (.array .int), .long, (.array (.object "java/io/ObjectStreamField")), .boolean]
  resolved := Array.replicate 1542 none
  statics := some 0 }

def pool10 : Array CpInfo := pool [(2, .class_ 4), (1, u "java/lang/CharSequence"), (42, .class_ 48), (0, u "java/lang/CharSequence$1CodePointIterator"), (10, .class_ 60), (0, u "java/lang/CharSequence$1CharIterator"), (5, .class_ 67), (0, u "java/lang/Object")] 63

/-- java/lang/CharSequence -/
def k10 : Class := { plain "java/lang/CharSequence" (some 0) with
  accessFlags := 1537
  interfaces := #[]
  cf := some (fileOf pool10 2 #[.nestMembers #[47, 59]] #[] 1537 66 #[] #[])
  fields := #[]
  methods := #[]
  instanceTypes := #[]
  staticTypes := #[]
  resolved := Array.replicate 131 none
  statics := none }

def pool11 : Array CpInfo := pool [(1, .class_ 2), (0, u "java/lang/constant/Constable"), (0, .class_ 4), (0, u "java/lang/Object")] 6

/-- java/lang/constant/Constable -/
def k11 : Class := { plain "java/lang/constant/Constable" (some 0) with
  accessFlags := 1537
  interfaces := #[]
  cf := some (fileOf pool11 1 #[] #[] 1537 3 #[] #[])
  fields := #[]
  methods := #[]
  instanceTypes := #[]
  staticTypes := #[]
  resolved := Array.replicate 11 none
  statics := none }

def pool12 : Array CpInfo := pool [(1, .class_ 2), (0, u "java/lang/constant/ConstantDesc"), (0, .class_ 4), (0, u "java/lang/Object")] 32

/-- java/lang/constant/ConstantDesc -/
def k12 : Class := { plain "java/lang/constant/ConstantDesc" (some 0) with
  accessFlags := 1537
  interfaces := #[]
  cf := some (fileOf pool12 1 #[] #[] 1537 3 #[] #[])
  fields := #[]
  methods := #[]
  instanceTypes := #[]
  staticTypes := #[]
  resolved := Array.replicate 37 none
  statics := none }

def pool13 : Array CpInfo := pool [(2, .class_ 4), (1, u "java/lang/Object"), (0, u "<init>"), (0, u "()V"), (3, .class_ 12), (1, u "java/lang/String"), (0, u "value"), (0, u "[B"), (2, u "coder"), (0, u "B"), (2, u "hash"), (0, u "I"), (2, u "hashIsZero"), (0, u "Z"), (13, u "COMPACT_STRINGS"), (534, .class_ 576), (0, u "java/lang/CharSequence"), (22, u "CASE_INSENSITIVE_ORDER"), (0, u "Ljava/util/Comparator;"), (500, u "serialPersistentFields"), (0, u "[Ljava/io/ObjectStreamField;"), (0, .class_ 1104), (0, u "java/lang/String$CaseInsensitiveComparator"), (1, .class_ 1107), (0, u "java/io/Serializable"), (0, .class_ 1109), (0, u "java/lang/Comparable"), (0, .class_ 1111), (0, u "java/lang/constant/Constable"), (0, .class_ 1113), (0, u "java/lang/constant/ConstantDesc"), (2, u "serialVersionUID"), (0, u "J"), (3, u "REPL"), (0, u "C"), (2, u "LATIN1"), (1, u "UTF16")] 323

def k13m0 : Method := { name := "<init>", desc := "()V", sig := { parameters := [], returnType := none }, accessFlags := 1, code := none }
/-- java/lang/String -/
def k13 : Class := { plain "java/lang/String" (some 0) with
  accessFlags := 49
  interfaces := #[6, 8, 10, 11, 12]
  cf := some (fileOf pool13 10 #[.nestMembers #[1103]] #[{ accessFlags := 1, nameIndex := 5, descriptorIndex := 6, attributes := #[] }] 49 2 #[1106, 1108, 575, 1110, 1112] #[{ accessFlags := 18, nameIndex := 13, descriptorIndex := 14, attributes := #[] }, { accessFlags := 18, nameIndex := 17, descriptorIndex := 18, attributes := #[] }, { accessFlags := 2, nameIndex := 21, descriptorIndex := 22, attributes := #[] }, { accessFlags := 2, nameIndex := 25, descriptorIndex := 26, attributes := #[] }, { accessFlags := 26, nameIndex := 1116, descriptorIndex := 1117, attributes := #[] }, { accessFlags := 24, nameIndex := 40, descriptorIndex := 26, attributes := #[] }, { accessFlags := 26, nameIndex := 1101, descriptorIndex := 1102, attributes := #[] }, { accessFlags := 26, nameIndex := 1121, descriptorIndex := 1122, attributes := #[] }, { accessFlags := 25, nameIndex := 599, descriptorIndex := 600, attributes := #[] }, { accessFlags := 24, nameIndex := 1125, descriptorIndex := 18, attributes := #[] }, { accessFlags := 24, nameIndex := 1127, descriptorIndex := 18, attributes := #[] }])
  fields := #[{ name := "value", type := (.array .byte), accessFlags := 18, slot := 0, constantValue := 0 }, { name := "coder", type := .byte, accessFlags := 18, slot := 1, constantValue := 0 }, { name := "hash", type := .int, accessFlags := 2, slot := 2, constantValue := 0 }, { name := "hashIsZero", type := .boolean, accessFlags := 2, slot := 3, constantValue := 0 }, { name := "serialVersionUID", type := .long, accessFlags := 26, slot := 0, constantValue := 0 }, { name := "COMPACT_STRINGS", type := .boolean, accessFlags := 24, slot := 1, constantValue := 0 }, { name := "serialPersistentFields", type := (.array (.object "java/io/ObjectStreamField")), accessFlags := 26, slot := 2, constantValue := 0 }, { name := "REPL", type := .char, accessFlags := 26, slot := 3, constantValue := 0 }, { name := "CASE_INSENSITIVE_ORDER", type := (.object "java/util/Comparator"), accessFlags := 25, slot := 4, constantValue := 0 }, { name := "LATIN1", type := .byte, accessFlags := 24, slot := 5, constantValue := 0 }, { name := "UTF16", type := .byte, accessFlags := 24, slot := 6, constantValue := 0 }]
  methods := #[k13m0]
  instanceTypes := #[(.array .byte), .byte, .int, .boolean]
  staticTypes := #[.long, .boolean, (.array (.object "java/io/ObjectStreamField")), .char, (.object "java/util/Comparator"), .byte, .byte]
  resolved := Array.replicate 1451 none
  statics := none }

def pool14 : Array CpInfo := pool [(2, .class_ 4), (1, u "java/lang/Object"), (0, u "<init>"), (0, u "()V"), (35, .class_ 44), (1, u "java/util/Objects"), (0, u "requireNonNull"), (48, u "(Ljava/lang/Object;Ljava/lang/String;)Ljava/lang/Object;")] 89

def k14m0 : Method := { name := "<init>", desc := "()V", sig := { parameters := [], returnType := none }, accessFlags := 2, code := none }
def k14c1 : Code := { maxStack := 3, maxLocals := 2, code := jdk_31_method_11_code, exceptionTable := #[], attributes := #[] }
def k14m1 : Method := { name := "requireNonNull", desc := "(Ljava/lang/Object;Ljava/lang/String;)Ljava/lang/Object;", sig := { parameters := [(.object "java/lang/Object"), (.object "java/lang/String")], returnType := some (.object "java/lang/Object") }, accessFlags := 9, code := some k14c1 }
/-- java/util/Objects -/
def k14 : Class := { plain "java/util/Objects" (some 0) with
  accessFlags := 49
  interfaces := #[]
  cf := some (fileOf pool14 42 #[] #[{ accessFlags := 2, nameIndex := 5, descriptorIndex := 6, attributes := #[] }, { accessFlags := 9, nameIndex := 45, descriptorIndex := 94, attributes := #[] }] 49 2 #[] #[])
  fields := #[]
  methods := #[k14m0, k14m1]
  instanceTypes := #[]
  staticTypes := #[]
  resolved := Array.replicate 184 none
  statics := none }

def pool15 : Array CpInfo := pool [(1, .class_ 2), (0, u "java/lang/Integer"), (16, u "digits"), (0, u "[C"), (46, u "<init>"), (17, u "DigitOnes"), (0, u "[B"), (2, u "DigitTens"), (10, .nameAndType 67 101), (0, u "()V"), (85, u "valueOf"), (0, u "(I)Ljava/lang/Integer;"), (0, .class_ 190), (0, u "java/lang/Integer$IntegerCache"), (0, .fieldref 189 192), (0, .nameAndType 193 194), (0, u "high"), (0, u "I"), (0, .fieldref 189 196), (0, .nameAndType 197 198), (0, u "cache"), (0, u "[Ljava/lang/Integer;"), (0, .methodref 1 200), (0, .nameAndType 67 201), (0, u "(I)V"), (0, .methodref 203 100), (0, .class_ 204), (0, u "java/lang/Number"), (0, .fieldref 1 206), (0, .nameAndType 207 194), (0, u "value"), (94, u "TYPE"), (0, u "Ljava/lang/Class;"), (0, .class_ 305), (0, u "java/lang/Comparable"), (0, .class_ 307), (0, u "java/lang/constant/Constable"), (0, .class_ 309), (0, u "java/lang/constant/ConstantDesc"), (0, u "MIN_VALUE"), (1, u "MAX_VALUE"), (3, u "SIZE"), (1, u "BYTES"), (1, u "serialVersionUID"), (0, u "J")] 131

def k15c0 : Code := { maxStack := 3, maxLocals := 1, code := jdk_33_method_22_code, exceptionTable := #[], attributes := #[] }
def k15m0 : Method := { name := "valueOf", desc := "(I)Ljava/lang/Integer;", sig := { parameters := [.int], returnType := some (.object "java/lang/Integer") }, accessFlags := 9, code := some k15c0 }
def k15c1 : Code := { maxStack := 2, maxLocals := 2, code := jdk_33_method_23_code, exceptionTable := #[], attributes := #[] }
def k15m1 : Method := { name := "<init>", desc := "(I)V", sig := { parameters := [.int], returnType := none }, accessFlags := 1, code := some k15c1 }
/-- java/lang/Integer -/
def k15 : Class := { plain "java/lang/Integer" (some 7) with
  accessFlags := 49
  interfaces := #[8, 11, 12]
  cf := some (fileOf pool15 1 #[.nestMembers #[189]] #[{ accessFlags := 9, nameIndex := 187, descriptorIndex := 188, attributes := #[] }, { accessFlags := 1, nameIndex := 67, descriptorIndex := 201, attributes := #[] }] 49 203 #[304, 306, 308] #[{ accessFlags := 25, nameIndex := 310, descriptorIndex := 194, attributes := #[] }, { accessFlags := 25, nameIndex := 312, descriptorIndex := 194, attributes := #[] }, { accessFlags := 25, nameIndex := 302, descriptorIndex := 303, attributes := #[] }, { accessFlags := 24, nameIndex := 19, descriptorIndex := 20, attributes := #[] }, { accessFlags := 24, nameIndex := 89, descriptorIndex := 86, attributes := #[] }, { accessFlags := 24, nameIndex := 85, descriptorIndex := 86, attributes := #[] }, { accessFlags := 18, nameIndex := 207, descriptorIndex := 194, attributes := #[] }, { accessFlags := 25, nameIndex := 316, descriptorIndex := 194, attributes := #[] }, { accessFlags := 25, nameIndex := 318, descriptorIndex := 194, attributes := #[] }, { accessFlags := 26, nameIndex := 320, descriptorIndex := 321, attributes := #[] }])
  fields := #[{ name := "MIN_VALUE", type := .int, accessFlags := 25, slot := 0, constantValue := 0 }, { name := "MAX_VALUE", type := .int, accessFlags := 25, slot := 1, constantValue := 0 }, { name := "TYPE", type := (.object "java/lang/Class"), accessFlags := 25, slot := 2, constantValue := 0 }, { name := "digits", type := (.array .char), accessFlags := 24, slot := 3, constantValue := 0 }, { name := "DigitTens", type := (.array .byte), accessFlags := 24, slot := 4, constantValue := 0 }, { name := "DigitOnes", type := (.array .byte), accessFlags := 24, slot := 5, constantValue := 0 }, { name := "value", type := .int, accessFlags := 18, slot := 0, constantValue := 0 }, { name := "SIZE", type := .int, accessFlags := 25, slot := 6, constantValue := 0 }, { name := "BYTES", type := .int, accessFlags := 25, slot := 7, constantValue := 0 }, { name := "serialVersionUID", type := .long, accessFlags := 26, slot := 8, constantValue := 0 }]
  methods := #[k15m0, k15m1]
  instanceTypes := #[.int]
  staticTypes := #[.int, .int, (.object "java/lang/Class"), (.array .char), (.array .byte), (.array .byte), .int, .int, .long]
  resolved := Array.replicate 453 none
  statics := none }

def pool16 : Array CpInfo := pool [(2, .class_ 4), (1, u "java/lang/Object"), (0, u "<init>"), (0, u "()V"), (0, .class_ 8), (0, u "java/lang/Integer"), (7, .class_ 18), (1, u "java/lang/Integer$IntegerCache"), (0, u "$assertionsDisabled"), (0, u "Z"), (26, u "high"), (0, u "I"), (8, u "archivedCache"), (0, u "[Ljava/lang/Integer;"), (12, u "cache"), (0, u "low")] 27

def k16m0 : Method := { name := "<init>", desc := "()V", sig := { parameters := [], returnType := none }, accessFlags := 2, code := none }
/-- java/lang/Integer$IntegerCache -/
def k16 : Class := { plain "java/lang/Integer$IntegerCache" (some 0) with
  accessFlags := 48
  interfaces := #[]
  cf := some (fileOf pool16 16 #[.nestHost 7] #[{ accessFlags := 2, nameIndex := 5, descriptorIndex := 6, attributes := #[] }] 48 2 #[] #[{ accessFlags := 24, nameIndex := 72, descriptorIndex := 48, attributes := #[] }, { accessFlags := 24, nameIndex := 47, descriptorIndex := 48, attributes := #[] }, { accessFlags := 24, nameIndex := 71, descriptorIndex := 58, attributes := #[] }, { accessFlags := 8, nameIndex := 57, descriptorIndex := 58, attributes := #[] }, { accessFlags := 4120, nameIndex := 19, descriptorIndex := 20, attributes := #[] }])
  fields := #[{ name := "low", type := .int, accessFlags := 24, slot := 0, constantValue := 0 }, { name := "high", type := .int, accessFlags := 24, slot := 1, constantValue := 0 }, { name := "cache", type := (.array (.object "java/lang/Integer")), accessFlags := 24, slot := 2, constantValue := 0 }, { name := "archivedCache", type := (.array (.object "java/lang/Integer")), accessFlags := 8, slot := 3, constantValue := 0 }, { name := "$assertionsDisabled", type := .boolean, accessFlags := 4120, slot := 4, constantValue := 0 }]
  methods := #[k16m0]
  instanceTypes := #[]
  staticTypes := #[.int, .int, (.array (.object "java/lang/Integer")), (.array (.object "java/lang/Integer")), .boolean]
  resolved := Array.replicate 100 none
  statics := some 1 }

def pool17 : Array CpInfo := pool [(1, u "java/lang/Cloneable"), (0, .class_ 1), (0, u "java/lang/Object"), (0, .class_ 3)] 3

/-- java/lang/Cloneable -/
def k17 : Class := { plain "java/lang/Cloneable" (some 0) with
  accessFlags := 1537
  interfaces := #[]
  cf := some (fileOf pool17 2 #[] #[] 1537 4 #[] #[])
  fields := #[]
  methods := #[]
  instanceTypes := #[]
  staticTypes := #[]
  resolved := Array.replicate 8 none
  statics := none }

/-- the primitive byte -/
def k18 : Class := { plain "byte" none with kind := .primitive 'B', accessFlags := 0x411 }
/-- [B -/
def k19 : Class := { plain "[B" (some 0) with kind := .array 18 .byte, interfaces := #[17, 6], accessFlags := 1041 }

/-- the primitive int -/
def k20 : Class := { plain "int" none with kind := .primitive 'I', accessFlags := 0x411 }
/-- [I -/
def k21 : Class := { plain "[I" (some 0) with kind := .array 20 .int, interfaces := #[17, 6], accessFlags := 1041 }

/-- [Ljava/lang/Integer; -/
def k22 : Class := { plain "[Ljava/lang/Integer;" (some 0) with kind := .array 15 (.object "java/lang/Integer"), interfaces := #[17, 6], accessFlags := 1041 }

/-- [Ljava/math/BigInteger; -/
def k23 : Class := { plain "[Ljava/math/BigInteger;" (some 0) with kind := .array 9 (.object "java/math/BigInteger"), interfaces := #[17, 6], accessFlags := 1041 }

def heap : Heap := #[{ cls := 9, slots := #[.long 0, .int 0, .int 0, .int 0, .int 0, .int 0, .int 0, .int 0, .int 0, .int 0, .int 0, .int 0, .null, .int 0, .int 0, .null, .int 0, .ref 3, .ref 4, .null, .null, .double 0, .ref 293, .ref 261, .ref 262, .ref 277, .ref 270, .null, .int 0, .null, .null, .null, .null, .null, .long 0, .null, .int 0], vm := .statics 9 },
  { cls := 16, slots := #[.int 0, .int 127, .ref 2, .null, .int 0], vm := .statics 16 },
  { cls := 22, slots := #[.ref 5, .ref 6, .ref 7, .ref 8, .ref 9, .ref 10, .ref 11, .ref 12, .ref 13, .ref 14, .ref 15, .ref 16, .ref 17, .ref 18, .ref 19, .ref 20, .ref 21, .ref 22, .ref 23, .ref 24, .ref 25, .ref 26, .ref 27, .ref 28, .ref 29, .ref 30, .ref 31, .ref 32, .ref 33, .ref 34, .ref 35, .ref 36, .ref 37, .ref 38, .ref 39, .ref 40, .ref 41, .ref 42, .ref 43, .ref 44, .ref 45, .ref 46, .ref 47, .ref 48, .ref 49, .ref 50, .ref 51, .ref 52, .ref 53, .ref 54, .ref 55, .ref 56, .ref 57, .ref 58, .ref 59, .ref 60, .ref 61, .ref 62, .ref 63, .ref 64, .ref 65, .ref 66, .ref 67, .ref 68, .ref 69, .ref 70, .ref 71, .ref 72, .ref 73, .ref 74, .ref 75, .ref 76, .ref 77, .ref 78, .ref 79, .ref 80, .ref 81, .ref 82, .ref 83, .ref 84, .ref 85, .ref 86, .ref 87, .ref 88, .ref 89, .ref 90, .ref 91, .ref 92, .ref 93, .ref 94, .ref 95, .ref 96, .ref 97, .ref 98, .ref 99, .ref 100, .ref 101, .ref 102, .ref 103, .ref 104, .ref 105, .ref 106, .ref 107, .ref 108, .ref 109, .ref 110, .ref 111, .ref 112, .ref 113, .ref 114, .ref 115, .ref 116, .ref 117, .ref 118, .ref 119, .ref 120, .ref 121, .ref 122, .ref 123, .ref 124, .ref 125, .ref 126, .ref 127, .ref 128, .ref 129, .ref 130, .ref 131, .ref 132, .ref 133, .ref 134, .ref 135, .ref 136, .ref 137, .ref 138, .ref 139, .ref 140, .ref 141, .ref 142, .ref 143, .ref 144, .ref 145, .ref 146, .ref 147, .ref 148, .ref 149, .ref 150, .ref 151, .ref 152, .ref 153, .ref 154, .ref 155, .ref 156, .ref 157, .ref 158, .ref 159, .ref 160, .ref 161, .ref 162, .ref 163, .ref 164, .ref 165, .ref 166, .ref 167, .ref 168, .ref 169, .ref 170, .ref 171, .ref 172, .ref 173, .ref 174, .ref 175, .ref 176, .ref 177, .ref 178, .ref 179, .ref 180, .ref 181, .ref 182, .ref 183, .ref 184, .ref 185, .ref 186, .ref 187, .ref 188, .ref 189, .ref 190, .ref 191, .ref 192, .ref 193, .ref 194, .ref 195, .ref 196, .ref 197, .ref 198, .ref 199, .ref 200, .ref 201, .ref 202, .ref 203, .ref 204, .ref 205, .ref 206, .ref 207, .ref 208, .ref 209, .ref 210, .ref 211, .ref 212, .ref 213, .ref 214, .ref 215, .ref 216, .ref 217, .ref 218, .ref 219, .ref 220, .ref 221, .ref 222, .ref 223, .ref 224, .ref 225, .ref 226, .ref 227, .ref 228, .ref 229, .ref 230, .ref 231, .ref 232, .ref 233, .ref 234, .ref 235, .ref 236, .ref 237, .ref 238, .ref 239, .ref 240, .ref 241, .ref 242, .ref 243, .ref 244, .ref 245, .ref 246, .ref 247, .ref 248, .ref 249, .ref 250, .ref 251, .ref 252, .ref 253, .ref 254, .ref 255, .ref 256, .ref 257, .ref 258, .ref 259, .ref 260], vm := .none },
  { cls := 23, slots := #[.null, .ref 261, .ref 262, .ref 263, .ref 264, .ref 265, .ref 266, .ref 267, .ref 268, .ref 269, .ref 270, .ref 271, .ref 272, .ref 273, .ref 274, .ref 275, .ref 276], vm := .none },
  { cls := 23, slots := #[.null, .ref 277, .ref 278, .ref 279, .ref 280, .ref 281, .ref 282, .ref 283, .ref 284, .ref 285, .ref 286, .ref 287, .ref 288, .ref 289, .ref 290, .ref 291, .ref 292], vm := .none },
  { cls := 15, slots := #[.int (-128)], vm := .none },
  { cls := 15, slots := #[.int (-127)], vm := .none },
  { cls := 15, slots := #[.int (-126)], vm := .none },
  { cls := 15, slots := #[.int (-125)], vm := .none },
  { cls := 15, slots := #[.int (-124)], vm := .none },
  { cls := 15, slots := #[.int (-123)], vm := .none },
  { cls := 15, slots := #[.int (-122)], vm := .none },
  { cls := 15, slots := #[.int (-121)], vm := .none },
  { cls := 15, slots := #[.int (-120)], vm := .none },
  { cls := 15, slots := #[.int (-119)], vm := .none },
  { cls := 15, slots := #[.int (-118)], vm := .none },
  { cls := 15, slots := #[.int (-117)], vm := .none },
  { cls := 15, slots := #[.int (-116)], vm := .none },
  { cls := 15, slots := #[.int (-115)], vm := .none },
  { cls := 15, slots := #[.int (-114)], vm := .none },
  { cls := 15, slots := #[.int (-113)], vm := .none },
  { cls := 15, slots := #[.int (-112)], vm := .none },
  { cls := 15, slots := #[.int (-111)], vm := .none },
  { cls := 15, slots := #[.int (-110)], vm := .none },
  { cls := 15, slots := #[.int (-109)], vm := .none },
  { cls := 15, slots := #[.int (-108)], vm := .none },
  { cls := 15, slots := #[.int (-107)], vm := .none },
  { cls := 15, slots := #[.int (-106)], vm := .none },
  { cls := 15, slots := #[.int (-105)], vm := .none },
  { cls := 15, slots := #[.int (-104)], vm := .none },
  { cls := 15, slots := #[.int (-103)], vm := .none },
  { cls := 15, slots := #[.int (-102)], vm := .none },
  { cls := 15, slots := #[.int (-101)], vm := .none },
  { cls := 15, slots := #[.int (-100)], vm := .none },
  { cls := 15, slots := #[.int (-99)], vm := .none },
  { cls := 15, slots := #[.int (-98)], vm := .none },
  { cls := 15, slots := #[.int (-97)], vm := .none },
  { cls := 15, slots := #[.int (-96)], vm := .none },
  { cls := 15, slots := #[.int (-95)], vm := .none },
  { cls := 15, slots := #[.int (-94)], vm := .none },
  { cls := 15, slots := #[.int (-93)], vm := .none },
  { cls := 15, slots := #[.int (-92)], vm := .none },
  { cls := 15, slots := #[.int (-91)], vm := .none },
  { cls := 15, slots := #[.int (-90)], vm := .none },
  { cls := 15, slots := #[.int (-89)], vm := .none },
  { cls := 15, slots := #[.int (-88)], vm := .none },
  { cls := 15, slots := #[.int (-87)], vm := .none },
  { cls := 15, slots := #[.int (-86)], vm := .none },
  { cls := 15, slots := #[.int (-85)], vm := .none },
  { cls := 15, slots := #[.int (-84)], vm := .none },
  { cls := 15, slots := #[.int (-83)], vm := .none },
  { cls := 15, slots := #[.int (-82)], vm := .none },
  { cls := 15, slots := #[.int (-81)], vm := .none },
  { cls := 15, slots := #[.int (-80)], vm := .none },
  { cls := 15, slots := #[.int (-79)], vm := .none },
  { cls := 15, slots := #[.int (-78)], vm := .none },
  { cls := 15, slots := #[.int (-77)], vm := .none },
  { cls := 15, slots := #[.int (-76)], vm := .none },
  { cls := 15, slots := #[.int (-75)], vm := .none },
  { cls := 15, slots := #[.int (-74)], vm := .none },
  { cls := 15, slots := #[.int (-73)], vm := .none },
  { cls := 15, slots := #[.int (-72)], vm := .none },
  { cls := 15, slots := #[.int (-71)], vm := .none },
  { cls := 15, slots := #[.int (-70)], vm := .none },
  { cls := 15, slots := #[.int (-69)], vm := .none },
  { cls := 15, slots := #[.int (-68)], vm := .none },
  { cls := 15, slots := #[.int (-67)], vm := .none },
  { cls := 15, slots := #[.int (-66)], vm := .none },
  { cls := 15, slots := #[.int (-65)], vm := .none },
  { cls := 15, slots := #[.int (-64)], vm := .none },
  { cls := 15, slots := #[.int (-63)], vm := .none },
  { cls := 15, slots := #[.int (-62)], vm := .none },
  { cls := 15, slots := #[.int (-61)], vm := .none },
  { cls := 15, slots := #[.int (-60)], vm := .none },
  { cls := 15, slots := #[.int (-59)], vm := .none },
  { cls := 15, slots := #[.int (-58)], vm := .none },
  { cls := 15, slots := #[.int (-57)], vm := .none },
  { cls := 15, slots := #[.int (-56)], vm := .none },
  { cls := 15, slots := #[.int (-55)], vm := .none },
  { cls := 15, slots := #[.int (-54)], vm := .none },
  { cls := 15, slots := #[.int (-53)], vm := .none },
  { cls := 15, slots := #[.int (-52)], vm := .none },
  { cls := 15, slots := #[.int (-51)], vm := .none },
  { cls := 15, slots := #[.int (-50)], vm := .none },
  { cls := 15, slots := #[.int (-49)], vm := .none },
  { cls := 15, slots := #[.int (-48)], vm := .none },
  { cls := 15, slots := #[.int (-47)], vm := .none },
  { cls := 15, slots := #[.int (-46)], vm := .none },
  { cls := 15, slots := #[.int (-45)], vm := .none },
  { cls := 15, slots := #[.int (-44)], vm := .none },
  { cls := 15, slots := #[.int (-43)], vm := .none },
  { cls := 15, slots := #[.int (-42)], vm := .none },
  { cls := 15, slots := #[.int (-41)], vm := .none },
  { cls := 15, slots := #[.int (-40)], vm := .none },
  { cls := 15, slots := #[.int (-39)], vm := .none },
  { cls := 15, slots := #[.int (-38)], vm := .none },
  { cls := 15, slots := #[.int (-37)], vm := .none },
  { cls := 15, slots := #[.int (-36)], vm := .none },
  { cls := 15, slots := #[.int (-35)], vm := .none },
  { cls := 15, slots := #[.int (-34)], vm := .none },
  { cls := 15, slots := #[.int (-33)], vm := .none },
  { cls := 15, slots := #[.int (-32)], vm := .none },
  { cls := 15, slots := #[.int (-31)], vm := .none },
  { cls := 15, slots := #[.int (-30)], vm := .none },
  { cls := 15, slots := #[.int (-29)], vm := .none },
  { cls := 15, slots := #[.int (-28)], vm := .none },
  { cls := 15, slots := #[.int (-27)], vm := .none },
  { cls := 15, slots := #[.int (-26)], vm := .none },
  { cls := 15, slots := #[.int (-25)], vm := .none },
  { cls := 15, slots := #[.int (-24)], vm := .none },
  { cls := 15, slots := #[.int (-23)], vm := .none },
  { cls := 15, slots := #[.int (-22)], vm := .none },
  { cls := 15, slots := #[.int (-21)], vm := .none },
  { cls := 15, slots := #[.int (-20)], vm := .none },
  { cls := 15, slots := #[.int (-19)], vm := .none },
  { cls := 15, slots := #[.int (-18)], vm := .none },
  { cls := 15, slots := #[.int (-17)], vm := .none },
  { cls := 15, slots := #[.int (-16)], vm := .none },
  { cls := 15, slots := #[.int (-15)], vm := .none },
  { cls := 15, slots := #[.int (-14)], vm := .none },
  { cls := 15, slots := #[.int (-13)], vm := .none },
  { cls := 15, slots := #[.int (-12)], vm := .none },
  { cls := 15, slots := #[.int (-11)], vm := .none },
  { cls := 15, slots := #[.int (-10)], vm := .none },
  { cls := 15, slots := #[.int (-9)], vm := .none },
  { cls := 15, slots := #[.int (-8)], vm := .none },
  { cls := 15, slots := #[.int (-7)], vm := .none },
  { cls := 15, slots := #[.int (-6)], vm := .none },
  { cls := 15, slots := #[.int (-5)], vm := .none },
  { cls := 15, slots := #[.int (-4)], vm := .none },
  { cls := 15, slots := #[.int (-3)], vm := .none },
  { cls := 15, slots := #[.int (-2)], vm := .none },
  { cls := 15, slots := #[.int (-1)], vm := .none },
  { cls := 15, slots := #[.int 0], vm := .none },
  { cls := 15, slots := #[.int 1], vm := .none },
  { cls := 15, slots := #[.int 2], vm := .none },
  { cls := 15, slots := #[.int 3], vm := .none },
  { cls := 15, slots := #[.int 4], vm := .none },
  { cls := 15, slots := #[.int 5], vm := .none },
  { cls := 15, slots := #[.int 6], vm := .none },
  { cls := 15, slots := #[.int 7], vm := .none },
  { cls := 15, slots := #[.int 8], vm := .none },
  { cls := 15, slots := #[.int 9], vm := .none },
  { cls := 15, slots := #[.int 10], vm := .none },
  { cls := 15, slots := #[.int 11], vm := .none },
  { cls := 15, slots := #[.int 12], vm := .none },
  { cls := 15, slots := #[.int 13], vm := .none },
  { cls := 15, slots := #[.int 14], vm := .none },
  { cls := 15, slots := #[.int 15], vm := .none },
  { cls := 15, slots := #[.int 16], vm := .none },
  { cls := 15, slots := #[.int 17], vm := .none },
  { cls := 15, slots := #[.int 18], vm := .none },
  { cls := 15, slots := #[.int 19], vm := .none },
  { cls := 15, slots := #[.int 20], vm := .none },
  { cls := 15, slots := #[.int 21], vm := .none },
  { cls := 15, slots := #[.int 22], vm := .none },
  { cls := 15, slots := #[.int 23], vm := .none },
  { cls := 15, slots := #[.int 24], vm := .none },
  { cls := 15, slots := #[.int 25], vm := .none },
  { cls := 15, slots := #[.int 26], vm := .none },
  { cls := 15, slots := #[.int 27], vm := .none },
  { cls := 15, slots := #[.int 28], vm := .none },
  { cls := 15, slots := #[.int 29], vm := .none },
  { cls := 15, slots := #[.int 30], vm := .none },
  { cls := 15, slots := #[.int 31], vm := .none },
  { cls := 15, slots := #[.int 32], vm := .none },
  { cls := 15, slots := #[.int 33], vm := .none },
  { cls := 15, slots := #[.int 34], vm := .none },
  { cls := 15, slots := #[.int 35], vm := .none },
  { cls := 15, slots := #[.int 36], vm := .none },
  { cls := 15, slots := #[.int 37], vm := .none },
  { cls := 15, slots := #[.int 38], vm := .none },
  { cls := 15, slots := #[.int 39], vm := .none },
  { cls := 15, slots := #[.int 40], vm := .none },
  { cls := 15, slots := #[.int 41], vm := .none },
  { cls := 15, slots := #[.int 42], vm := .none },
  { cls := 15, slots := #[.int 43], vm := .none },
  { cls := 15, slots := #[.int 44], vm := .none },
  { cls := 15, slots := #[.int 45], vm := .none },
  { cls := 15, slots := #[.int 46], vm := .none },
  { cls := 15, slots := #[.int 47], vm := .none },
  { cls := 15, slots := #[.int 48], vm := .none },
  { cls := 15, slots := #[.int 49], vm := .none },
  { cls := 15, slots := #[.int 50], vm := .none },
  { cls := 15, slots := #[.int 51], vm := .none },
  { cls := 15, slots := #[.int 52], vm := .none },
  { cls := 15, slots := #[.int 53], vm := .none },
  { cls := 15, slots := #[.int 54], vm := .none },
  { cls := 15, slots := #[.int 55], vm := .none },
  { cls := 15, slots := #[.int 56], vm := .none },
  { cls := 15, slots := #[.int 57], vm := .none },
  { cls := 15, slots := #[.int 58], vm := .none },
  { cls := 15, slots := #[.int 59], vm := .none },
  { cls := 15, slots := #[.int 60], vm := .none },
  { cls := 15, slots := #[.int 61], vm := .none },
  { cls := 15, slots := #[.int 62], vm := .none },
  { cls := 15, slots := #[.int 63], vm := .none },
  { cls := 15, slots := #[.int 64], vm := .none },
  { cls := 15, slots := #[.int 65], vm := .none },
  { cls := 15, slots := #[.int 66], vm := .none },
  { cls := 15, slots := #[.int 67], vm := .none },
  { cls := 15, slots := #[.int 68], vm := .none },
  { cls := 15, slots := #[.int 69], vm := .none },
  { cls := 15, slots := #[.int 70], vm := .none },
  { cls := 15, slots := #[.int 71], vm := .none },
  { cls := 15, slots := #[.int 72], vm := .none },
  { cls := 15, slots := #[.int 73], vm := .none },
  { cls := 15, slots := #[.int 74], vm := .none },
  { cls := 15, slots := #[.int 75], vm := .none },
  { cls := 15, slots := #[.int 76], vm := .none },
  { cls := 15, slots := #[.int 77], vm := .none },
  { cls := 15, slots := #[.int 78], vm := .none },
  { cls := 15, slots := #[.int 79], vm := .none },
  { cls := 15, slots := #[.int 80], vm := .none },
  { cls := 15, slots := #[.int 81], vm := .none },
  { cls := 15, slots := #[.int 82], vm := .none },
  { cls := 15, slots := #[.int 83], vm := .none },
  { cls := 15, slots := #[.int 84], vm := .none },
  { cls := 15, slots := #[.int 85], vm := .none },
  { cls := 15, slots := #[.int 86], vm := .none },
  { cls := 15, slots := #[.int 87], vm := .none },
  { cls := 15, slots := #[.int 88], vm := .none },
  { cls := 15, slots := #[.int 89], vm := .none },
  { cls := 15, slots := #[.int 90], vm := .none },
  { cls := 15, slots := #[.int 91], vm := .none },
  { cls := 15, slots := #[.int 92], vm := .none },
  { cls := 15, slots := #[.int 93], vm := .none },
  { cls := 15, slots := #[.int 94], vm := .none },
  { cls := 15, slots := #[.int 95], vm := .none },
  { cls := 15, slots := #[.int 96], vm := .none },
  { cls := 15, slots := #[.int 97], vm := .none },
  { cls := 15, slots := #[.int 98], vm := .none },
  { cls := 15, slots := #[.int 99], vm := .none },
  { cls := 15, slots := #[.int 100], vm := .none },
  { cls := 15, slots := #[.int 101], vm := .none },
  { cls := 15, slots := #[.int 102], vm := .none },
  { cls := 15, slots := #[.int 103], vm := .none },
  { cls := 15, slots := #[.int 104], vm := .none },
  { cls := 15, slots := #[.int 105], vm := .none },
  { cls := 15, slots := #[.int 106], vm := .none },
  { cls := 15, slots := #[.int 107], vm := .none },
  { cls := 15, slots := #[.int 108], vm := .none },
  { cls := 15, slots := #[.int 109], vm := .none },
  { cls := 15, slots := #[.int 110], vm := .none },
  { cls := 15, slots := #[.int 111], vm := .none },
  { cls := 15, slots := #[.int 112], vm := .none },
  { cls := 15, slots := #[.int 113], vm := .none },
  { cls := 15, slots := #[.int 114], vm := .none },
  { cls := 15, slots := #[.int 115], vm := .none },
  { cls := 15, slots := #[.int 116], vm := .none },
  { cls := 15, slots := #[.int 117], vm := .none },
  { cls := 15, slots := #[.int 118], vm := .none },
  { cls := 15, slots := #[.int 119], vm := .none },
  { cls := 15, slots := #[.int 120], vm := .none },
  { cls := 15, slots := #[.int 121], vm := .none },
  { cls := 15, slots := #[.int 122], vm := .none },
  { cls := 15, slots := #[.int 123], vm := .none },
  { cls := 15, slots := #[.int 124], vm := .none },
  { cls := 15, slots := #[.int 125], vm := .none },
  { cls := 15, slots := #[.int 126], vm := .none },
  { cls := 15, slots := #[.int 127], vm := .none },
  { cls := 9, slots := #[.int 1, .ref 294, .int 0, .int 0, .int 0, .int 0], vm := .none },
  { cls := 9, slots := #[.int 1, .ref 295, .int 0, .int 0, .int 0, .int 0], vm := .none },
  { cls := 9, slots := #[.int 1, .ref 296, .int 0, .int 0, .int 0, .int 0], vm := .none },
  { cls := 9, slots := #[.int 1, .ref 297, .int 0, .int 0, .int 0, .int 0], vm := .none },
  { cls := 9, slots := #[.int 1, .ref 298, .int 0, .int 0, .int 0, .int 0], vm := .none },
  { cls := 9, slots := #[.int 1, .ref 299, .int 0, .int 0, .int 0, .int 0], vm := .none },
  { cls := 9, slots := #[.int 1, .ref 300, .int 0, .int 0, .int 0, .int 0], vm := .none },
  { cls := 9, slots := #[.int 1, .ref 301, .int 0, .int 0, .int 0, .int 0], vm := .none },
  { cls := 9, slots := #[.int 1, .ref 302, .int 0, .int 0, .int 0, .int 0], vm := .none },
  { cls := 9, slots := #[.int 1, .ref 303, .int 0, .int 0, .int 0, .int 0], vm := .none },
  { cls := 9, slots := #[.int 1, .ref 304, .int 0, .int 0, .int 0, .int 0], vm := .none },
  { cls := 9, slots := #[.int 1, .ref 305, .int 0, .int 0, .int 0, .int 0], vm := .none },
  { cls := 9, slots := #[.int 1, .ref 306, .int 0, .int 0, .int 0, .int 0], vm := .none },
  { cls := 9, slots := #[.int 1, .ref 307, .int 0, .int 0, .int 0, .int 0], vm := .none },
  { cls := 9, slots := #[.int 1, .ref 308, .int 0, .int 0, .int 0, .int 0], vm := .none },
  { cls := 9, slots := #[.int 1, .ref 309, .int 0, .int 0, .int 0, .int 0], vm := .none },
  { cls := 9, slots := #[.int (-1), .ref 310, .int 0, .int 0, .int 0, .int 0], vm := .none },
  { cls := 9, slots := #[.int (-1), .ref 311, .int 0, .int 0, .int 0, .int 0], vm := .none },
  { cls := 9, slots := #[.int (-1), .ref 312, .int 0, .int 0, .int 0, .int 0], vm := .none },
  { cls := 9, slots := #[.int (-1), .ref 313, .int 0, .int 0, .int 0, .int 0], vm := .none },
  { cls := 9, slots := #[.int (-1), .ref 314, .int 0, .int 0, .int 0, .int 0], vm := .none },
  { cls := 9, slots := #[.int (-1), .ref 315, .int 0, .int 0, .int 0, .int 0], vm := .none },
  { cls := 9, slots := #[.int (-1), .ref 316, .int 0, .int 0, .int 0, .int 0], vm := .none },
  { cls := 9, slots := #[.int (-1), .ref 317, .int 0, .int 0, .int 0, .int 0], vm := .none },
  { cls := 9, slots := #[.int (-1), .ref 318, .int 0, .int 0, .int 0, .int 0], vm := .none },
  { cls := 9, slots := #[.int (-1), .ref 319, .int 0, .int 0, .int 0, .int 0], vm := .none },
  { cls := 9, slots := #[.int (-1), .ref 320, .int 0, .int 0, .int 0, .int 0], vm := .none },
  { cls := 9, slots := #[.int (-1), .ref 321, .int 0, .int 0, .int 0, .int 0], vm := .none },
  { cls := 9, slots := #[.int (-1), .ref 322, .int 0, .int 0, .int 0, .int 0], vm := .none },
  { cls := 9, slots := #[.int (-1), .ref 323, .int 0, .int 0, .int 0, .int 0], vm := .none },
  { cls := 9, slots := #[.int (-1), .ref 324, .int 0, .int 0, .int 0, .int 0], vm := .none },
  { cls := 9, slots := #[.int (-1), .ref 325, .int 0, .int 0, .int 0, .int 0], vm := .none },
  { cls := 9, slots := #[.int 0, .ref 326, .int 0, .int 0, .int 0, .int 0], vm := .none },
  { cls := 21, slots := #[.int 1], vm := .none },
  { cls := 21, slots := #[.int 2], vm := .none },
  { cls := 21, slots := #[.int 3], vm := .none },
  { cls := 21, slots := #[.int 4], vm := .none },
  { cls := 21, slots := #[.int 5], vm := .none },
  { cls := 21, slots := #[.int 6], vm := .none },
  { cls := 21, slots := #[.int 7], vm := .none },
  { cls := 21, slots := #[.int 8], vm := .none },
  { cls := 21, slots := #[.int 9], vm := .none },
  { cls := 21, slots := #[.int 10], vm := .none },
  { cls := 21, slots := #[.int 11], vm := .none },
  { cls := 21, slots := #[.int 12], vm := .none },
  { cls := 21, slots := #[.int 13], vm := .none },
  { cls := 21, slots := #[.int 14], vm := .none },
  { cls := 21, slots := #[.int 15], vm := .none },
  { cls := 21, slots := #[.int 16], vm := .none },
  { cls := 21, slots := #[.int 1], vm := .none },
  { cls := 21, slots := #[.int 2], vm := .none },
  { cls := 21, slots := #[.int 3], vm := .none },
  { cls := 21, slots := #[.int 4], vm := .none },
  { cls := 21, slots := #[.int 5], vm := .none },
  { cls := 21, slots := #[.int 6], vm := .none },
  { cls := 21, slots := #[.int 7], vm := .none },
  { cls := 21, slots := #[.int 8], vm := .none },
  { cls := 21, slots := #[.int 9], vm := .none },
  { cls := 21, slots := #[.int 10], vm := .none },
  { cls := 21, slots := #[.int 11], vm := .none },
  { cls := 21, slots := #[.int 12], vm := .none },
  { cls := 21, slots := #[.int 13], vm := .none },
  { cls := 21, slots := #[.int 14], vm := .none },
  { cls := 21, slots := #[.int 15], vm := .none },
  { cls := 21, slots := #[.int 16], vm := .none },
  { cls := 21, slots := #[], vm := .none }]
def classes : Array Class := #[k0, k1, k2, k3, k4, k5, k6, k7, k8, k9, k10, k11, k12, k13, k14, k15, k16, k17, k18, k19, k20, k21, k22, k23]
def interned : List (Array UInt16 × Addr) := []
def slotsUsed : Nat := 818
def theMethod : MethodId := ⟨1, 1⟩
def args0 : Array Value := #[.int 5, .int 2, .int 7, .long 8]
def aboutOver (below : List Frame) : State where
  vm := { classes := classes, interned := interned.toArray }
  heap := heap
  slotsUsed := slotsUsed
  threads := #[{ frames := .invoking theMethod args0 :: below }]
def below0 : List Frame := [.native { method := ⟨0, 0⟩, args := #[] }]
def about1 : State := aboutOver below0
def p0 : Program := .bare "" "" ""
def e0 : Env := launch0.env 0 0 0
theorem w_frames : about1.frames = Frame.invoking theMethod args0 :: below0 := rfl
set_option maxRecDepth 65536 in
theorem w_args : argsFit about1.vm theMethod args0 = true := by decide +kernel
set_option maxRecDepth 65536 in
theorem w_heap : heapFits about1 = true := by decide +kernel
set_option maxRecDepth 65536 in
theorem w_runnable : about1.curStatus? = some .runnable := by decide +kernel
set_option maxRecDepth 65536 in
theorem w_alone : about1.alone = true := by decide +kernel
set_option maxRecDepth 65536 in
theorem w_named : about1.methodNamed? x = some theMethod := by decide +kernel
set_option maxRecDepth 65536 in
theorem w_hears : about1.hears theMethod below0 = true := by decide +kernel
set_option maxRecDepth 65536 in
theorem w_ripe : about1.ripe theMethod args0 below0 = true := by decide +kernel
theorem w_running : about1.status = .running := rfl
set_option maxRecDepth 65536 in
theorem w_room : about1.hasRoom e0.platform room_1 = true :=
  launch0.hasRoom_least _ room_1 (by decide +kernel) (by decide +kernel) (by decide +kernel) (by decide +kernel) (by decide +kernel) (by decide +kernel)
theorem allAtoms_all (ts : List Jvm.Cond) (a : Array Jvm.Value) (st : Jvm.State) : (allAtoms ts).before a st = ts.all (fun c => c.before a st) := by
  induction ts with
  | nil => rfl
  | cons c t ih =>
    show (Jvm.Cond.and c (allAtoms t)).before a st = _
    rw [Jvm.Cond.before_and, ih, List.all_cons]
def words1 : List Jvm.Cond := Jvm.Cond.code x code maxLocals ret :: tables_1
/-- a 'code' word, met by the world's own term for the bytes: nothing is compared byte by byte -/
theorem code_word {y : MethodName} {bytes : ByteArray} {mx : Nat} {rt : Option FieldType} {a : Array Value} {s : State} {m : MethodId} {meth : Method} {c : Code} (h1 : s.methodNamed? y = some m) (h2 : s.vm.method? m = some meth) (h3 : meth.code = some c) (h4 : c.code = bytes)
    (h5 : (c.maxLocals == mx && c.exceptionTable.isEmpty && decide (c.maxStack ≤ mostOperands) && decide (meth.sig.returnType = rt) && !meth.locks && decide (parseMethodDescriptor y.desc = some meth.sig)) = true) : (Jvm.Cond.code y bytes mx rt).before a s = true := by
  simp only [Bool.and_eq_true, beq_iff_eq, Bool.not_eq_true', decide_eq_true_eq] at h5
  obtain ⟨⟨⟨⟨⟨g1, g2⟩, g3⟩, g4⟩, g5⟩, g6⟩ := h5
  simp [Cond.before, Cond.holds, Cond.value, h1, h2, h3, h4, g1, g2, g3, g4, g5, g6]
def isCode : Jvm.Cond → Bool
  | .code _ _ _ _ => true
  | _ => false
theorem all_split {L : List Jvm.Cond} {P : Jvm.Cond → Bool} (h1 : L.all (fun c => isCode c || P c) = true) (h2 : ∀ c ∈ L.filter isCode, P c = true) : L.all P = true := by
  refine List.all_eq_true.mpr fun c hc => ?_
  have h := List.all_eq_true.mp h1 c hc
  rcases Bool.eq_false_or_eq_true (isCode c) with hi | hi
  · exact h2 c (List.mem_filter.mpr ⟨hc, hi⟩)
  · simpa [hi] using h
set_option maxRecDepth 65536 in
theorem w_c0 : (Jvm.Cond.code x code maxLocals ret).before args0 about1 = true := code_word (m := ⟨1, 1⟩) (meth := k1m1) (c := k1c1) (by decide +kernel) rfl rfl rfl (by decide +kernel)
set_option maxRecDepth 65536 in
theorem w_c1 : (Jvm.Cond.code ({ cls := "plainsight/core/term/BooleanTerm", name := "<init>", desc := "(Z)V" } : Jvm.MethodName) prog_57_method_1_code (2 : Nat) (Option.none : Option Jvm.ClassFile.FieldType)).before args0 about1 = true := code_word (m := ⟨4, 0⟩) (meth := k4m0) (c := k4c0) (by decide +kernel) rfl rfl rfl (by decide +kernel)
set_option maxRecDepth 65536 in
theorem w_c2 : (Jvm.Cond.code ({ cls := "java/lang/Record", name := "<init>", desc := "()V" } : Jvm.MethodName) jdk_30_method_1_code (1 : Nat) (Option.none : Option Jvm.ClassFile.FieldType)).before args0 about1 = true := code_word (m := ⟨2, 0⟩) (meth := k2m0) (c := k2c0) (by decide +kernel) rfl rfl rfl (by decide +kernel)
set_option maxRecDepth 65536 in
theorem w_c3 : (Jvm.Cond.code ({ cls := "java/lang/Object", name := "<init>", desc := "()V" } : Jvm.MethodName) object_method_1_code (1 : Nat) (Option.none : Option Jvm.ClassFile.FieldType)).before args0 about1 = true := code_word (m := ⟨0, 0⟩) (meth := k0m0) (c := k0c0) (by decide +kernel) rfl rfl rfl (by decide +kernel)
set_option maxRecDepth 65536 in
theorem w_c4 : (Jvm.Cond.code ({ cls := "plainsight/core/term/IntegerTerm", name := "of", desc := "(J)Lplainsight/core/term/IntegerTerm;" } : Jvm.MethodName) prog_61_method_2_code (2 : Nat) (Option.some (Jvm.ClassFile.FieldType.object "plainsight/core/term/IntegerTerm"))).before args0 about1 = true := code_word (m := ⟨5, 1⟩) (meth := k5m1) (c := k5c1) (by decide +kernel) rfl rfl rfl (by decide +kernel)
set_option maxRecDepth 65536 in
theorem w_c5 : (Jvm.Cond.code ({ cls := "java/math/BigInteger", name := "valueOf", desc := "(J)Ljava/math/BigInteger;" } : Jvm.MethodName) jdk_2097_method_29_code (2 : Nat) (Option.some (Jvm.ClassFile.FieldType.object "java/math/BigInteger"))).before args0 about1 = true := code_word (m := ⟨9, 0⟩) (meth := k9m0) (c := k9c0) (by decide +kernel) rfl rfl rfl (by decide +kernel)
set_option maxRecDepth 65536 in
theorem w_c6 : (Jvm.Cond.code ({ cls := "java/math/BigInteger", name := "<init>", desc := "(J)V" } : Jvm.MethodName) jdk_2097_method_30_code (4 : Nat) (Option.none : Option Jvm.ClassFile.FieldType)).before args0 about1 = true := code_word (m := ⟨9, 1⟩) (meth := k9m1) (c := k9c1) (by decide +kernel) rfl rfl rfl (by decide +kernel)
set_option maxRecDepth 65536 in
theorem w_c7 : (Jvm.Cond.code ({ cls := "java/lang/Number", name := "<init>", desc := "()V" } : Jvm.MethodName) jdk_18_method_1_code (1 : Nat) (Option.none : Option Jvm.ClassFile.FieldType)).before args0 about1 = true := code_word (m := ⟨7, 0⟩) (meth := k7m0) (c := k7c0) (by decide +kernel) rfl rfl rfl (by decide +kernel)
set_option maxRecDepth 65536 in
theorem w_c8 : (Jvm.Cond.code ({ cls := "plainsight/core/term/IntegerTerm", name := "<init>", desc := "(Ljava/math/BigInteger;)V" } : Jvm.MethodName) prog_61_method_1_code (2 : Nat) (Option.none : Option Jvm.ClassFile.FieldType)).before args0 about1 = true := code_word (m := ⟨5, 0⟩) (meth := k5m0) (c := k5c0) (by decide +kernel) rfl rfl rfl (by decide +kernel)
set_option maxRecDepth 65536 in
theorem w_c9 : (Jvm.Cond.code ({ cls := "java/util/Objects", name := "requireNonNull", desc := "(Ljava/lang/Object;Ljava/lang/String;)Ljava/lang/Object;" } : Jvm.MethodName) jdk_31_method_11_code (2 : Nat) (Option.some (Jvm.ClassFile.FieldType.object "java/lang/Object"))).before args0 about1 = true := code_word (m := ⟨14, 1⟩) (meth := k14m1) (c := k14c1) (by decide +kernel) rfl rfl rfl (by decide +kernel)
set_option maxRecDepth 65536 in
theorem w_c10 : (Jvm.Cond.code ({ cls := "plainsight/core/term/BooleanTerm", name := "equals", desc := "(Ljava/lang/Object;)Z" } : Jvm.MethodName) prog_57_method_3_code (3 : Nat) (Option.some Jvm.ClassFile.FieldType.boolean)).before args0 about1 = true := code_word (m := ⟨4, 1⟩) (meth := k4m1) (c := k4c1) (by decide +kernel) rfl rfl rfl (by decide +kernel)
set_option maxRecDepth 65536 in
theorem w_c11 : (Jvm.Cond.code ({ cls := "java/lang/Integer", name := "valueOf", desc := "(I)Ljava/lang/Integer;" } : Jvm.MethodName) jdk_33_method_22_code (1 : Nat) (Option.some (Jvm.ClassFile.FieldType.object "java/lang/Integer"))).before args0 about1 = true := code_word (m := ⟨15, 0⟩) (meth := k15m0) (c := k15c0) (by decide +kernel) rfl rfl rfl (by decide +kernel)
set_option maxRecDepth 65536 in
theorem w_c12 : (Jvm.Cond.code ({ cls := "java/lang/Integer", name := "<init>", desc := "(I)V" } : Jvm.MethodName) jdk_33_method_23_code (2 : Nat) (Option.none : Option Jvm.ClassFile.FieldType)).before args0 about1 = true := code_word (m := ⟨15, 1⟩) (meth := k15m1) (c := k15c1) (by decide +kernel) rfl rfl rfl (by decide +kernel)
def codes1 : List Jvm.Cond := [Jvm.Cond.code x code maxLocals ret, Jvm.Cond.code ({ cls := "plainsight/core/term/BooleanTerm", name := "<init>", desc := "(Z)V" } : Jvm.MethodName) prog_57_method_1_code (2 : Nat) (Option.none : Option Jvm.ClassFile.FieldType), Jvm.Cond.code ({ cls := "java/lang/Record", name := "<init>", desc := "()V" } : Jvm.MethodName) jdk_30_method_1_code (1 : Nat) (Option.none : Option Jvm.ClassFile.FieldType), Jvm.Cond.code ({ cls := "java/lang/Object", name := "<init>", desc := "()V" } : Jvm.MethodName) object_method_1_code (1 : Nat) (Option.none : Option Jvm.ClassFile.FieldType), Jvm.Cond.code ({ cls := "plainsight/core/term/IntegerTerm", name := "of", desc := "(J)Lplainsight/core/term/IntegerTerm;" } : Jvm.MethodName) prog_61_method_2_code (2 : Nat) (Option.some (Jvm.ClassFile.FieldType.object "plainsight/core/term/IntegerTerm")), Jvm.Cond.code ({ cls := "java/math/BigInteger", name := "valueOf", desc := "(J)Ljava/math/BigInteger;" } : Jvm.MethodName) jdk_2097_method_29_code (2 : Nat) (Option.some (Jvm.ClassFile.FieldType.object "java/math/BigInteger")), Jvm.Cond.code ({ cls := "java/math/BigInteger", name := "<init>", desc := "(J)V" } : Jvm.MethodName) jdk_2097_method_30_code (4 : Nat) (Option.none : Option Jvm.ClassFile.FieldType), Jvm.Cond.code ({ cls := "java/lang/Number", name := "<init>", desc := "()V" } : Jvm.MethodName) jdk_18_method_1_code (1 : Nat) (Option.none : Option Jvm.ClassFile.FieldType), Jvm.Cond.code ({ cls := "plainsight/core/term/IntegerTerm", name := "<init>", desc := "(Ljava/math/BigInteger;)V" } : Jvm.MethodName) prog_61_method_1_code (2 : Nat) (Option.none : Option Jvm.ClassFile.FieldType), Jvm.Cond.code ({ cls := "java/util/Objects", name := "requireNonNull", desc := "(Ljava/lang/Object;Ljava/lang/String;)Ljava/lang/Object;" } : Jvm.MethodName) jdk_31_method_11_code (2 : Nat) (Option.some (Jvm.ClassFile.FieldType.object "java/lang/Object")), Jvm.Cond.code ({ cls := "plainsight/core/term/BooleanTerm", name := "equals", desc := "(Ljava/lang/Object;)Z" } : Jvm.MethodName) prog_57_method_3_code (3 : Nat) (Option.some Jvm.ClassFile.FieldType.boolean), Jvm.Cond.code ({ cls := "java/lang/Integer", name := "valueOf", desc := "(I)Ljava/lang/Integer;" } : Jvm.MethodName) jdk_33_method_22_code (1 : Nat) (Option.some (Jvm.ClassFile.FieldType.object "java/lang/Integer")), Jvm.Cond.code ({ cls := "java/lang/Integer", name := "<init>", desc := "(I)V" } : Jvm.MethodName) jdk_33_method_23_code (2 : Nat) (Option.none : Option Jvm.ClassFile.FieldType)]
set_option maxRecDepth 65536 in
theorem codes_eq : words1.filter isCode = codes1 := rfl
theorem w_codes : ∀ c ∈ words1.filter isCode, c.before args0 about1 = true := by
  rw [codes_eq]
  intro c hc
  simp only [codes1, List.mem_cons, List.not_mem_nil, or_false] at hc
  rcases hc with rfl | rfl | rfl | rfl | rfl | rfl | rfl | rfl | rfl | rfl | rfl | rfl | rfl
  · exact w_c0
  · exact w_c1
  · exact w_c2
  · exact w_c3
  · exact w_c4
  · exact w_c5
  · exact w_c6
  · exact w_c7
  · exact w_c8
  · exact w_c9
  · exact w_c10
  · exact w_c11
  · exact w_c12
set_option maxRecDepth 65536 in
theorem w_t1 : (words1.take 24).all (fun c => isCode c || c.before args0 about1) = true := by decide +kernel
set_option maxRecDepth 65536 in
theorem w_t2 : ((words1.drop 24).take 24).all (fun c => isCode c || c.before args0 about1) = true := by decide +kernel
set_option maxRecDepth 65536 in
theorem w_t3 : (((words1.drop 24).drop 24).take 24).all (fun c => isCode c || c.before args0 about1) = true := by decide +kernel
set_option maxRecDepth 65536 in
theorem w_t4 : ((((words1.drop 24).drop 24).drop 24).take 24).all (fun c => isCode c || c.before args0 about1) = true := by decide +kernel
set_option maxRecDepth 65536 in
theorem w_t5 : ((((words1.drop 24).drop 24).drop 24).drop 24).all (fun c => isCode c || c.before args0 about1) = true := by decide +kernel
theorem w_tables : (allAtoms (Jvm.Cond.code x code maxLocals ret :: tables_1)).before args0 about1 = true := by
  rw [allAtoms_all]
  show words1.all (fun c => c.before args0 about1) = true
  refine all_split ?_ w_codes
  rw [← List.take_append_drop 24 words1, List.all_append, w_t1, ← List.take_append_drop 24 (words1.drop 24), List.all_append, w_t2, ← List.take_append_drop 24 ((words1.drop 24).drop 24), List.all_append, w_t3, ← List.take_append_drop 24 (((words1.drop 24).drop 24).drop 24), List.all_append, w_t4, w_t5]
  rfl
set_option maxRecDepth 65536 in
theorem w_rest : rest_1_c.before args0 about1 = true := by decide +kernel
set_option maxRecDepth 65536 in
theorem w_case : (Jvm.Cond.and given_1 narrow_1).before args0 about1 = true := by decide +kernel
theorem w_applies : (headSpec (Jvm.Cond.code x code maxLocals ret :: tables_1) room_1).applies x e0.platform about1 = true :=
  (Spec.applies_iff w_frames).mpr ⟨w_running, w_runnable, w_alone, w_named, w_hears, w_ripe, w_room, w_tables⟩
theorem atStart : AtStart classFile x code maxLocals ret World_1 tables_1 room_1 Calls_1 rest_1 Pre_1 launch0 p0 e0 about1 theMethod args0 below0 :=
  ⟨lists_1, trivial, launch0.admits_env _ _ _, launch0.least_env, fairChoices_fair.cas, fairChoices_fair.clock, w_frames, w_args, w_heap, w_applies, trivial, w_rest, w_case⟩
end start1
theorem witness_1 : WitnessClaimed_1 := ⟨start1.p0, start1.e0, start1.about1, start1.theMethod, start1.args0, start1.below0, start1.atStart⟩
end Jvm.Pilot.@@N@@
