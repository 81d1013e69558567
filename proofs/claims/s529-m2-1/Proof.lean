import JvmDerived
import JvmDerived.Pilot.@@N@@Statement
import JvmDerived.Pilot.@@N@@Code
set_option linter.unusedVariables false
set_option linter.unusedSimpArgs false
namespace Jvm.RoadKit
open Sem ClassFile Op Lib Jvm.Stand Jvm.Free Jvm.LawKit
section New
variable {p : Program} {l : Launch} {e : Env} {R : Room} {s : State} {m : MethodId} {args : Array Value} {below : List Frame} {meth : Method} {c : Code} {T : State} {locs : List Loc} {cells slots : Nat}
theorem own_retI (X : Stand p l e R s m args below meth c T locs cells slots) (hx : p.tables.exec = Jvm.exec) {pc : Nat} {Ls : Array Slot} {z : Int32} {rest : List Value} (hret : meth.sig.returnType = some .int) (hd : decode c.code pc = .ok (.ireturn, 1)) {fs : List Frame}
    (hl : ∀ (f : JFrame) (acts : List Action), f.method = m → f.locked = none → f.entered = [] → (doReturn e (T.setTop f) acts (some (.int z))).1 = T.setFrames fs) : Steps p.tables e below (T.setTop (mkF m pc Ls (.int z :: rest))) (T.setFrames fs) :=
  retOut X hx hret rfl (Or.inl ⟨rfl, Or.inl rfl, z, rfl⟩) hd hl
theorem own_retJ (X : Stand p l e R s m args below meth c T locs cells slots) (hx : p.tables.exec = Jvm.exec) {pc : Nat} {Ls : Array Slot} {z : Int64} {rest : List Value} (hret : meth.sig.returnType = some .long) (hd : decode c.code pc = .ok (.lreturn, 1)) {fs : List Frame}
    (hl : ∀ (f : JFrame) (acts : List Action), f.method = m → f.locked = none → f.entered = [] → (doReturn e (T.setTop f) acts (some (.long z))).1 = T.setFrames fs) : Steps p.tables e below (T.setTop (mkF m pc Ls (.long z :: rest))) (T.setFrames fs) :=
  retOut X hx hret rfl (Or.inr (Or.inl ⟨rfl, rfl, z, rfl⟩)) hd hl
theorem own_retA (X : Stand p l e R s m args below meth c T locs cells slots) (hx : p.tables.exec = Jvm.exec) {pc : Nat} {Ls : Array Slot} {w : Value} {t : FieldType} {rest : List Value} (hret : meth.sig.returnType = some t) (hn : narrow t w = w) (ht : t.isReference = true) (hw : w.isRef = true) (hd : decode c.code pc = .ok (.areturn, 1)) {fs : List Frame}
    (hl : ∀ (f : JFrame) (acts : List Action), f.method = m → f.locked = none → f.entered = [] → (doReturn e (T.setTop f) acts (some w)).1 = T.setFrames fs) : Steps p.tables e below (T.setTop (mkF m pc Ls (w :: rest))) (T.setFrames fs) :=
  retOut X hx hret hn (Or.inr (Or.inr (Or.inr (Or.inr ⟨rfl, ht, hw⟩)))) hd hl
end New
abbrev OwnGo (tb : Tables) (e : Env) (below : List Frame) (K : State → Outcome → Prop) (st : State) : Prop := ∃ s₂ o, Steps tb e below st s₂ ∧ s₂.status = .running ∧ Ended s₂ below o ∧ K s₂ o
theorem OwnGo.back {tb : Tables} {e : Env} {below : List Frame} {K : State → Outcome → Prop} {st : State} (st' : State) (h : ∀ t, Steps tb e below st' t → Steps tb e below st t) (g : OwnGo tb e below K st') : OwnGo tb e below K st := by
  obtain ⟨s₂, o, h1, h2⟩ := g
  exact ⟨s₂, o, h _ h1, h2⟩
abbrev OwnMg (tb : Tables) (e : Env) (below : List Frame) (D : State → Prop) (st : State) : Prop := ∃ st', D st' ∧ ∀ t, Steps tb e below st' t → Steps tb e below st t
theorem OwnMg.back {tb : Tables} {e : Env} {below : List Frame} {D : State → Prop} {st : State} (st' : State) (h : ∀ t, Steps tb e below st' t → Steps tb e below st t) (g : OwnMg tb e below D st') : OwnMg tb e below D st := by
  obtain ⟨s₂, h1, h2⟩ := g
  exact ⟨s₂, h1, fun t k => h t (h2 t k)⟩
theorem own_not {P Q : Prop} (h : P ↔ Q) (n : ¬ Q) : ¬ P := fun q => n (h.mp q)
theorem own_ne {a b n : Nat} (h : a < n) (q : b = n) : a ≠ b := Nat.ne_of_lt (q ▸ h)
theorem own_ne' {a b n : Nat} (h : a < n) (q : n ≤ b) : a ≠ b := Nat.ne_of_lt (Nat.lt_of_lt_of_le h q)
end Jvm.RoadKit
namespace Jvm.Pilot.@@N@@
open Jvm Jvm.ClassFile Sem Op Lib Jvm.Free Jvm.Stand Jvm.LawKit Jvm.RoadKit Bundle Jvm.Pilot.@@N@@.Jvm.D
theorem own_wS {Z : State} {a0 : Array Value} (hw : ∀ d ∈ tables_1, d.before a0 Z = true) : ∀ a ∈ Bundle.stringAtoms, a.before a0 Z = true := by
  intro a ha
  simp only [Bundle.stringAtoms, List.mem_cons, List.not_mem_nil, or_false] at ha
  rcases ha with rfl | rfl | rfl | rfl | rfl | rfl | rfl
  · exact (hw _ (List.mem_of_getElem? (i := 3) rfl))
  · exact (hw _ (List.mem_of_getElem? (i := 2) rfl))
  · exact (hw _ (List.mem_of_getElem? (i := 15) rfl))
  · exact (hw _ (List.mem_of_getElem? (i := 16) rfl))
  · exact (hw _ (List.mem_of_getElem? (i := 17) rfl))
  · exact (hw _ (List.mem_of_getElem? (i := 18) rfl))
  · exact (hw _ (List.mem_of_getElem? (i := 19) rfl))
theorem own_pn0 : plainName "java/lang/String" = true := by first | (simp [plainName, overriddenIn]; done) | decide +kernel
theorem own_d2_0 : decode jdk_42_method_149_code 0 = .ok (.aload_n 0, 1) := by decide +kernel
theorem own_d2_1 : decode jdk_42_method_149_code 1 = .ok (.invokespecial 1, 3) := by decide +kernel
theorem own_d2_4 : decode jdk_42_method_149_code 4 = .ok (.iload_n 3, 1) := by decide +kernel
theorem own_d2_5 : decode jdk_42_method_149_code 5 = .ok (.ifCond .ne 22, 3) := by decide +kernel
theorem own_d2_8 : decode jdk_42_method_149_code 8 = .ok (.aload_n 0, 1) := by decide +kernel
theorem own_d2_9 : decode jdk_42_method_149_code 9 = .ok (.ldc 7, 2) := by decide +kernel
theorem own_d2_11 : decode jdk_42_method_149_code 11 = .ok (.getfield 9, 3) := by decide +kernel
theorem own_d2_14 : decode jdk_42_method_149_code 14 = .ok (.putfield 9, 3) := by decide +kernel
theorem own_d2_17 : decode jdk_42_method_149_code 17 = .ok (.aload_n 0, 1) := by decide +kernel
theorem own_d2_18 : decode jdk_42_method_149_code 18 = .ok (.ldc 7, 2) := by decide +kernel
theorem own_d2_20 : decode jdk_42_method_149_code 20 = .ok (.getfield 15, 3) := by decide +kernel
theorem own_d2_23 : decode jdk_42_method_149_code 23 = .ok (.putfield 15, 3) := by decide +kernel
theorem own_d2_26 : decode jdk_42_method_149_code 26 = .ok (.return_, 1) := by decide +kernel
theorem own_d1_0 : decode jdk_42_method_3_code 0 = .ok (.aload_n 0, 1) := by decide +kernel
theorem own_d1_1 : decode jdk_42_method_3_code 1 = .ok (.aload_n 1, 1) := by decide +kernel
theorem own_d1_2 : decode jdk_42_method_3_code 2 = .ok (.iconst 0, 1) := by decide +kernel
theorem own_d1_3 : decode jdk_42_method_3_code 3 = .ok (.aload_n 1, 1) := by decide +kernel
theorem own_d1_4 : decode jdk_42_method_3_code 4 = .ok (.arraylength, 1) := by decide +kernel
theorem own_d1_5 : decode jdk_42_method_3_code 5 = .ok (.aconst_null, 1) := by decide +kernel
theorem own_d1_6 : decode jdk_42_method_3_code 6 = .ok (.invokespecial 27, 3) := by decide +kernel
theorem own_pd0 : parseMethodDescriptor "([CIILjava/lang/Void;)V" = some ⟨[(.array .char), .int, .int, (.object "java/lang/Void")], none⟩ := by decide +kernel
theorem own_d1_9 : decode jdk_42_method_3_code 9 = .ok (.return_, 1) := by decide +kernel
theorem own_pn1 : plainName "java/lang/StringUTF16" = true := by first | (simp [plainName, overriddenIn]; done) | decide +kernel
theorem own_d5_0 : decode jdk_52_method_21_code 0 = .ok (.iconst 0, 1) := by decide +kernel
theorem own_d5_1 : decode jdk_52_method_21_code 1 = .ok (.istore 5, 2) := by decide +kernel
theorem own_d5_3 : decode jdk_52_method_21_code 3 = .ok (.iload 5, 2) := by decide +kernel
theorem own_d5_5 : decode jdk_52_method_21_code 5 = .ok (.iload 4, 2) := by decide +kernel
theorem own_d5_7 : decode jdk_52_method_21_code 7 = .ok (.if_icmp .ge 37, 3) := by decide +kernel
theorem own_d5_10 : decode jdk_52_method_21_code 10 = .ok (.aload_n 0, 1) := by decide +kernel
theorem own_d5_11 : decode jdk_52_method_21_code 11 = .ok (.iload_n 1, 1) := by decide +kernel
theorem own_d5_12 : decode jdk_52_method_21_code 12 = .ok (.caload, 1) := by decide +kernel
theorem own_d5_13 : decode jdk_52_method_21_code 13 = .ok (.istore 6, 2) := by decide +kernel
theorem own_d5_15 : decode jdk_52_method_21_code 15 = .ok (.iload 6, 2) := by decide +kernel
theorem own_d5_17 : decode jdk_52_method_21_code 17 = .ok (.sipush 255, 3) := by decide +kernel
theorem own_d5_20 : decode jdk_52_method_21_code 20 = .ok (.if_icmp .le 6, 3) := by decide +kernel
theorem own_d5_26 : decode jdk_52_method_21_code 26 = .ok (.aload_n 2, 1) := by decide +kernel
theorem own_d5_27 : decode jdk_52_method_21_code 27 = .ok (.iload_n 3, 1) := by decide +kernel
theorem own_d5_28 : decode jdk_52_method_21_code 28 = .ok (.iload 6, 2) := by decide +kernel
theorem own_d5_30 : decode jdk_52_method_21_code 30 = .ok (.i2b, 1) := by decide +kernel
theorem own_d5_31 : decode jdk_52_method_21_code 31 = .ok (.bastore, 1) := by decide +kernel
theorem own_d5_32 : decode jdk_52_method_21_code 32 = .ok (.iinc 1 1, 3) := by decide +kernel
theorem own_d5_35 : decode jdk_52_method_21_code 35 = .ok (.iinc 3 1, 3) := by decide +kernel
theorem own_d5_38 : decode jdk_52_method_21_code 38 = .ok (.iinc 5 1, 3) := by decide +kernel
theorem own_d5_41 : decode jdk_52_method_21_code 41 = .ok (.goto (-38), 3) := by decide +kernel
theorem own_d5_44 : decode jdk_52_method_21_code 44 = .ok (.iload 4, 2) := by decide +kernel
theorem own_d5_46 : decode jdk_52_method_21_code 46 = .ok (.ireturn, 1) := by decide +kernel
theorem own_d4_0 : decode jdk_52_method_16_code 0 = .ok (.iload_n 2, 1) := by decide +kernel
theorem own_d4_1 : decode jdk_52_method_16_code 1 = .ok (.newarray .byte, 2) := by decide +kernel
theorem own_d4_3 : decode jdk_52_method_16_code 3 = .ok (.astore_n 3, 1) := by decide +kernel
theorem own_d4_4 : decode jdk_52_method_16_code 4 = .ok (.aload_n 0, 1) := by decide +kernel
theorem own_d4_5 : decode jdk_52_method_16_code 5 = .ok (.iload_n 1, 1) := by decide +kernel
theorem own_d4_6 : decode jdk_52_method_16_code 6 = .ok (.aload_n 3, 1) := by decide +kernel
theorem own_d4_7 : decode jdk_52_method_16_code 7 = .ok (.iconst 0, 1) := by decide +kernel
theorem own_d4_8 : decode jdk_52_method_16_code 8 = .ok (.iload_n 2, 1) := by decide +kernel
theorem own_d4_9 : decode jdk_52_method_16_code 9 = .ok (.invokestatic 115, 3) := by decide +kernel
theorem own_pd1 : parseMethodDescriptor "([CI[BII)I" = some ⟨[(.array .char), .int, (.array .byte), .int, .int], some .int⟩ := by decide +kernel
theorem own_d4_12 : decode jdk_52_method_16_code 12 = .ok (.istore 4, 2) := by decide +kernel
theorem own_d4_14 : decode jdk_52_method_16_code 14 = .ok (.iload 4, 2) := by decide +kernel
theorem own_d4_16 : decode jdk_52_method_16_code 16 = .ok (.iload_n 2, 1) := by decide +kernel
theorem own_d4_17 : decode jdk_52_method_16_code 17 = .ok (.if_icmp .eq 40, 3) := by decide +kernel
theorem own_d4_57 : decode jdk_52_method_16_code 57 = .ok (.aload_n 3, 1) := by decide +kernel
theorem own_d4_58 : decode jdk_52_method_16_code 58 = .ok (.areturn, 1) := by decide +kernel
theorem own_d6_0 : decode jdk_52_method_15_code 0 = .ok (.iload_n 1, 1) := by decide +kernel
theorem own_d6_1 : decode jdk_52_method_15_code 1 = .ok (.aload_n 0, 1) := by decide +kernel
theorem own_d6_2 : decode jdk_52_method_15_code 2 = .ok (.arraylength, 1) := by decide +kernel
theorem own_d6_3 : decode jdk_52_method_15_code 3 = .ok (.isub, 1) := by decide +kernel
theorem own_d6_4 : decode jdk_52_method_15_code 4 = .ok (.bipush 31, 2) := by decide +kernel
theorem own_d6_6 : decode jdk_52_method_15_code 6 = .ok (.iushr, 1) := by decide +kernel
theorem own_d6_7 : decode jdk_52_method_15_code 7 = .ok (.i2b, 1) := by decide +kernel
theorem own_d6_8 : decode jdk_52_method_15_code 8 = .ok (.ireturn, 1) := by decide +kernel
theorem own_d2_27 : decode jdk_42_method_149_code 27 = .ok (.getstatic 38, 3) := by decide +kernel
theorem own_d2_30 : decode jdk_42_method_149_code 30 = .ok (.ifCond .eq 28, 3) := by decide +kernel
theorem own_d2_33 : decode jdk_42_method_149_code 33 = .ok (.aload_n 1, 1) := by decide +kernel
theorem own_d2_34 : decode jdk_42_method_149_code 34 = .ok (.iload_n 2, 1) := by decide +kernel
theorem own_d2_35 : decode jdk_42_method_149_code 35 = .ok (.iload_n 3, 1) := by decide +kernel
theorem own_d2_36 : decode jdk_42_method_149_code 36 = .ok (.invokestatic 177, 3) := by decide +kernel
theorem own_pd2 : parseMethodDescriptor "([CII)[B" = some ⟨[(.array .char), .int, .int], some (.array .byte)⟩ := by decide +kernel
theorem own_d2_39 : decode jdk_42_method_149_code 39 = .ok (.astore 5, 2) := by decide +kernel
theorem own_d2_41 : decode jdk_42_method_149_code 41 = .ok (.aload_n 0, 1) := by decide +kernel
theorem own_d2_42 : decode jdk_42_method_149_code 42 = .ok (.aload 5, 2) := by decide +kernel
theorem own_d2_44 : decode jdk_42_method_149_code 44 = .ok (.iload_n 3, 1) := by decide +kernel
theorem own_d2_45 : decode jdk_42_method_149_code 45 = .ok (.invokestatic 47, 3) := by decide +kernel
theorem own_pd3 : parseMethodDescriptor "([BI)B" = some ⟨[(.array .byte), .int], some .byte⟩ := by decide +kernel
theorem own_d2_48 : decode jdk_42_method_149_code 48 = .ok (.putfield 15, 3) := by decide +kernel
theorem own_d2_51 : decode jdk_42_method_149_code 51 = .ok (.aload_n 0, 1) := by decide +kernel
theorem own_d2_52 : decode jdk_42_method_149_code 52 = .ok (.aload 5, 2) := by decide +kernel
theorem own_d2_54 : decode jdk_42_method_149_code 54 = .ok (.putfield 9, 3) := by decide +kernel
theorem own_d2_57 : decode jdk_42_method_149_code 57 = .ok (.return_, 1) := by decide +kernel
theorem own_pn2 : plainName "com/example/penelope/penelope/RollbackRulesCheckedNamePinLaw" = true := by first | (simp [plainName, overriddenIn]; done) | decide +kernel
theorem own_d7_0 : decode method_2_code 0 = .ok (.iload_n 0, 1) := by decide +kernel
theorem own_d7_1 : decode method_2_code 1 = .ok (.bipush 32, 2) := by decide +kernel
theorem own_d7_3 : decode method_2_code 3 = .ok (.if_icmp .eq 27, 3) := by decide +kernel
theorem own_d7_30 : decode method_2_code 30 = .ok (.iconst 1, 1) := by decide +kernel
theorem own_d7_31 : decode method_2_code 31 = .ok (.goto 4, 3) := by decide +kernel
theorem own_d7_35 : decode method_2_code 35 = .ok (.ireturn, 1) := by decide +kernel
theorem own_d7_6 : decode method_2_code 6 = .ok (.iload_n 0, 1) := by decide +kernel
theorem own_d7_7 : decode method_2_code 7 = .ok (.bipush 9, 2) := by decide +kernel
theorem own_d7_9 : decode method_2_code 9 = .ok (.if_icmp .lt 9, 3) := by decide +kernel
theorem own_d7_18 : decode method_2_code 18 = .ok (.iload_n 0, 1) := by decide +kernel
theorem own_d7_19 : decode method_2_code 19 = .ok (.bipush 28, 2) := by decide +kernel
theorem own_d7_21 : decode method_2_code 21 = .ok (.if_icmp .lt 13, 3) := by decide +kernel
theorem own_d7_34 : decode method_2_code 34 = .ok (.iconst 0, 1) := by decide +kernel
theorem own_d7_24 : decode method_2_code 24 = .ok (.iload_n 0, 1) := by decide +kernel
theorem own_d7_25 : decode method_2_code 25 = .ok (.bipush 31, 2) := by decide +kernel
theorem own_d7_27 : decode method_2_code 27 = .ok (.if_icmp .gt 7, 3) := by decide +kernel
theorem own_d7_12 : decode method_2_code 12 = .ok (.iload_n 0, 1) := by decide +kernel
theorem own_d7_13 : decode method_2_code 13 = .ok (.bipush 13, 2) := by decide +kernel
theorem own_d7_15 : decode method_2_code 15 = .ok (.if_icmp .le 15, 3) := by decide +kernel
theorem own_pn3 : plainName "java/lang/CharacterDataLatin1" = true := by first | (simp [plainName, overriddenIn]; done) | decide +kernel
theorem own_d15_0 : decode jdk_116_method_1_code 0 = .ok (.iload_n 1, 1) := by decide +kernel
theorem own_d15_1 : decode jdk_116_method_1_code 1 = .ok (.i2c, 1) := by decide +kernel
theorem own_d15_2 : decode jdk_116_method_1_code 2 = .ok (.istore_n 2, 1) := by decide +kernel
theorem own_d15_3 : decode jdk_116_method_1_code 3 = .ok (.getstatic 1, 3) := by decide +kernel
theorem own_d15_6 : decode jdk_116_method_1_code 6 = .ok (.iload_n 2, 1) := by decide +kernel
theorem own_d15_7 : decode jdk_116_method_1_code 7 = .ok (.iaload, 1) := by decide +kernel
theorem own_d15_8 : decode jdk_116_method_1_code 8 = .ok (.istore_n 3, 1) := by decide +kernel
theorem own_d15_9 : decode jdk_116_method_1_code 9 = .ok (.iload_n 3, 1) := by decide +kernel
theorem own_d15_10 : decode jdk_116_method_1_code 10 = .ok (.ireturn, 1) := by decide +kernel
theorem own_d14_0 : decode jdk_116_method_26_code 0 = .ok (.aload_n 0, 1) := by decide +kernel
theorem own_d14_1 : decode jdk_116_method_26_code 1 = .ok (.iload_n 1, 1) := by decide +kernel
theorem own_d14_2 : decode jdk_116_method_26_code 2 = .ok (.invokevirtual 15, 3) := by decide +kernel
theorem own_pd4 : parseMethodDescriptor "(I)I" = some ⟨[.int], some .int⟩ := by decide +kernel
theorem own_d14_5 : decode jdk_116_method_26_code 5 = .ok (.istore_n 2, 1) := by decide +kernel
theorem own_d14_6 : decode jdk_116_method_26_code 6 = .ok (.iload_n 2, 1) := by decide +kernel
theorem own_d14_7 : decode jdk_116_method_26_code 7 = .ok (.sipush 28672, 3) := by decide +kernel
theorem own_d14_10 : decode jdk_116_method_26_code 10 = .ok (.iand, 1) := by decide +kernel
theorem own_d14_11 : decode jdk_116_method_26_code 11 = .ok (.sipush 16384, 3) := by decide +kernel
theorem own_d14_14 : decode jdk_116_method_26_code 14 = .ok (.if_icmp .ne 7, 3) := by decide +kernel
theorem own_d14_17 : decode jdk_116_method_26_code 17 = .ok (.iconst 1, 1) := by decide +kernel
theorem own_d14_18 : decode jdk_116_method_26_code 18 = .ok (.goto 4, 3) := by decide +kernel
theorem own_d14_22 : decode jdk_116_method_26_code 22 = .ok (.ireturn, 1) := by decide +kernel
theorem own_d14_21 : decode jdk_116_method_26_code 21 = .ok (.iconst 0, 1) := by decide +kernel
theorem own_d11_0 : decode jdk_42_method_154_code 0 = .ok (.getstatic 38, 3) := by decide +kernel
theorem own_d11_3 : decode jdk_42_method_154_code 3 = .ok (.ifCond .eq 14, 3) := by decide +kernel
theorem own_d11_6 : decode jdk_42_method_154_code 6 = .ok (.aload_n 0, 1) := by decide +kernel
theorem own_d11_7 : decode jdk_42_method_154_code 7 = .ok (.getfield 15, 3) := by decide +kernel
theorem own_d11_10 : decode jdk_42_method_154_code 10 = .ok (.ifCond .ne 7, 3) := by decide +kernel
theorem own_d11_13 : decode jdk_42_method_154_code 13 = .ok (.iconst 1, 1) := by decide +kernel
theorem own_d11_14 : decode jdk_42_method_154_code 14 = .ok (.goto 4, 3) := by decide +kernel
theorem own_d11_18 : decode jdk_42_method_154_code 18 = .ok (.ireturn, 1) := by decide +kernel
theorem own_d17_0 : decode jdk_42_method_152_code 0 = .ok (.getstatic 38, 3) := by decide +kernel
theorem own_d17_3 : decode jdk_42_method_152_code 3 = .ok (.ifCond .eq 10, 3) := by decide +kernel
theorem own_d17_6 : decode jdk_42_method_152_code 6 = .ok (.aload_n 0, 1) := by decide +kernel
theorem own_d17_7 : decode jdk_42_method_152_code 7 = .ok (.getfield 15, 3) := by decide +kernel
theorem own_d17_10 : decode jdk_42_method_152_code 10 = .ok (.goto 4, 3) := by decide +kernel
theorem own_d17_14 : decode jdk_42_method_152_code 14 = .ok (.ireturn, 1) := by decide +kernel
theorem own_d18_0 : decode jdk_42_method_66_code 0 = .ok (.aload_n 0, 1) := by decide +kernel
theorem own_d18_1 : decode jdk_42_method_66_code 1 = .ok (.aload_n 1, 1) := by decide +kernel
theorem own_d18_2 : decode jdk_42_method_66_code 2 = .ok (.if_acmp .ne 5, 3) := by decide +kernel
theorem own_d18_5 : decode jdk_42_method_66_code 5 = .ok (.iconst 1, 1) := by decide +kernel
theorem own_d18_6 : decode jdk_42_method_66_code 6 = .ok (.ireturn, 1) := by decide +kernel
theorem own_pn4 : plainName "java/lang/StringLatin1" = true := by first | (simp [plainName, overriddenIn]; done) | decide +kernel
theorem own_d13_0 : decode jdk_43_method_44_code 0 = .ok (.aload_n 0, 1) := by decide +kernel
theorem own_d13_1 : decode jdk_43_method_44_code 1 = .ok (.iload_n 1, 1) := by decide +kernel
theorem own_d13_2 : decode jdk_43_method_44_code 2 = .ok (.baload, 1) := by decide +kernel
theorem own_d13_3 : decode jdk_43_method_44_code 3 = .ok (.sipush 255, 3) := by decide +kernel
theorem own_d13_6 : decode jdk_43_method_44_code 6 = .ok (.iand, 1) := by decide +kernel
theorem own_d13_7 : decode jdk_43_method_44_code 7 = .ok (.i2c, 1) := by decide +kernel
theorem own_d13_8 : decode jdk_43_method_44_code 8 = .ok (.ireturn, 1) := by decide +kernel
theorem own_d12_0 : decode jdk_43_method_37_code 0 = .ok (.aload_n 0, 1) := by decide +kernel
theorem own_d12_1 : decode jdk_43_method_37_code 1 = .ok (.arraylength, 1) := by decide +kernel
theorem own_d12_2 : decode jdk_43_method_37_code 2 = .ok (.istore_n 1, 1) := by decide +kernel
theorem own_d12_3 : decode jdk_43_method_37_code 3 = .ok (.iconst 0, 1) := by decide +kernel
theorem own_d12_4 : decode jdk_43_method_37_code 4 = .ok (.istore_n 2, 1) := by decide +kernel
theorem own_d12_5 : decode jdk_43_method_37_code 5 = .ok (.iload_n 2, 1) := by decide +kernel
theorem own_d12_6 : decode jdk_43_method_37_code 6 = .ok (.iload_n 1, 1) := by decide +kernel
theorem own_d12_7 : decode jdk_43_method_37_code 7 = .ok (.if_icmp .ge 40, 3) := by decide +kernel
theorem own_d12_10 : decode jdk_43_method_37_code 10 = .ok (.aload_n 0, 1) := by decide +kernel
theorem own_d12_11 : decode jdk_43_method_37_code 11 = .ok (.iload_n 2, 1) := by decide +kernel
theorem own_d12_12 : decode jdk_43_method_37_code 12 = .ok (.invokestatic 50, 3) := by decide +kernel
theorem own_pd5 : parseMethodDescriptor "([BI)C" = some ⟨[(.array .byte), .int], some .char⟩ := by decide +kernel
theorem own_d12_15 : decode jdk_43_method_37_code 15 = .ok (.istore_n 3, 1) := by decide +kernel
theorem own_d12_16 : decode jdk_43_method_37_code 16 = .ok (.iload_n 3, 1) := by decide +kernel
theorem own_d12_17 : decode jdk_43_method_37_code 17 = .ok (.bipush 32, 2) := by decide +kernel
theorem own_d12_19 : decode jdk_43_method_37_code 19 = .ok (.if_icmp .eq 22, 3) := by decide +kernel
theorem own_d12_41 : decode jdk_43_method_37_code 41 = .ok (.iinc 2 1, 3) := by decide +kernel
theorem own_d12_44 : decode jdk_43_method_37_code 44 = .ok (.goto (-39), 3) := by decide +kernel
theorem own_d12_47 : decode jdk_43_method_37_code 47 = .ok (.iload_n 2, 1) := by decide +kernel
theorem own_d12_48 : decode jdk_43_method_37_code 48 = .ok (.ireturn, 1) := by decide +kernel
theorem own_d12_22 : decode jdk_43_method_37_code 22 = .ok (.iload_n 3, 1) := by decide +kernel
theorem own_d12_23 : decode jdk_43_method_37_code 23 = .ok (.bipush 9, 2) := by decide +kernel
theorem own_d12_25 : decode jdk_43_method_37_code 25 = .ok (.if_icmp .eq 16, 3) := by decide +kernel
theorem own_d12_28 : decode jdk_43_method_37_code 28 = .ok (.getstatic 66, 3) := by decide +kernel
theorem own_d12_31 : decode jdk_43_method_37_code 31 = .ok (.iload_n 3, 1) := by decide +kernel
theorem own_d12_32 : decode jdk_43_method_37_code 32 = .ok (.invokevirtual 211, 3) := by decide +kernel
theorem own_pd6 : parseMethodDescriptor "(I)Z" = some ⟨[.int], some .boolean⟩ := by decide +kernel
theorem own_d12_35 : decode jdk_43_method_37_code 35 = .ok (.ifCond .ne 6, 3) := by decide +kernel
theorem own_d12_38 : decode jdk_43_method_37_code 38 = .ok (.goto 9, 3) := by decide +kernel
theorem own_d10_0 : decode jdk_42_method_120_code 0 = .ok (.aload_n 0, 1) := by decide +kernel
theorem own_d10_1 : decode jdk_42_method_120_code 1 = .ok (.invokevirtual 492, 3) := by decide +kernel
theorem own_pd7 : parseMethodDescriptor "()Z" = some ⟨[], some .boolean⟩ := by decide +kernel
theorem own_d10_4 : decode jdk_42_method_120_code 4 = .ok (.ifCond .eq 13, 3) := by decide +kernel
theorem own_d10_7 : decode jdk_42_method_120_code 7 = .ok (.aload_n 0, 1) := by decide +kernel
theorem own_d10_8 : decode jdk_42_method_120_code 8 = .ok (.getfield 9, 3) := by decide +kernel
theorem own_d10_11 : decode jdk_42_method_120_code 11 = .ok (.invokestatic 924, 3) := by decide +kernel
theorem own_pd8 : parseMethodDescriptor "([B)I" = some ⟨[(.array .byte)], some .int⟩ := by decide +kernel
theorem own_d10_14 : decode jdk_42_method_120_code 14 = .ok (.goto 10, 3) := by decide +kernel
theorem own_d10_24 : decode jdk_42_method_120_code 24 = .ok (.ireturn, 1) := by decide +kernel
theorem own_d16_0 : decode jdk_42_method_54_code 0 = .ok (.aload_n 0, 1) := by decide +kernel
theorem own_d16_1 : decode jdk_42_method_54_code 1 = .ok (.getfield 9, 3) := by decide +kernel
theorem own_d16_4 : decode jdk_42_method_54_code 4 = .ok (.arraylength, 1) := by decide +kernel
theorem own_d16_5 : decode jdk_42_method_54_code 5 = .ok (.aload_n 0, 1) := by decide +kernel
theorem own_d16_6 : decode jdk_42_method_54_code 6 = .ok (.invokevirtual 335, 3) := by decide +kernel
theorem own_pd9 : parseMethodDescriptor "()B" = some ⟨[], some .byte⟩ := by decide +kernel
theorem own_d16_9 : decode jdk_42_method_54_code 9 = .ok (.ishr, 1) := by decide +kernel
theorem own_d16_10 : decode jdk_42_method_54_code 10 = .ok (.ireturn, 1) := by decide +kernel
theorem own_d9_0 : decode jdk_42_method_117_code 0 = .ok (.aload_n 0, 1) := by decide +kernel
theorem own_d9_1 : decode jdk_42_method_117_code 1 = .ok (.invokevirtual 876, 3) := by decide +kernel
theorem own_pd10 : parseMethodDescriptor "()I" = some ⟨[], some .int⟩ := by decide +kernel
theorem own_d9_4 : decode jdk_42_method_117_code 4 = .ok (.aload_n 0, 1) := by decide +kernel
theorem own_d9_5 : decode jdk_42_method_117_code 5 = .ok (.invokevirtual 505, 3) := by decide +kernel
theorem own_d9_8 : decode jdk_42_method_117_code 8 = .ok (.if_icmp .ne 7, 3) := by decide +kernel
theorem own_d9_15 : decode jdk_42_method_117_code 15 = .ok (.iconst 0, 1) := by decide +kernel
theorem own_d9_16 : decode jdk_42_method_117_code 16 = .ok (.ireturn, 1) := by decide +kernel
theorem own_pn5 : plainName "com/example/penelope/penelope/RollbackRules" = true := by first | (simp [plainName, overriddenIn]; done) | decide +kernel
theorem own_d8_0 : decode prog_16_method_3_code 0 = .ok (.aload_n 0, 1) := by decide +kernel
theorem own_d8_1 : decode prog_16_method_3_code 1 = .ok (.invokevirtual 39, 3) := by decide +kernel
theorem own_d8_4 : decode prog_16_method_3_code 4 = .ok (.ifCond .eq 13, 3) := by decide +kernel
theorem own_d8_17 : decode prog_16_method_3_code 17 = .ok (.aload_n 0, 1) := by decide +kernel
theorem own_d8_18 : decode prog_16_method_3_code 18 = .ok (.areturn, 1) := by decide +kernel
theorem own_pd11 : parseMethodDescriptor "([C)V" = some ⟨[(.array .char)], none⟩ := by decide +kernel
theorem own_pd12 : parseMethodDescriptor "(Ljava/lang/String;)Ljava/lang/String;" = some ⟨[(.object "java/lang/String")], some (.object "java/lang/String")⟩ := by decide +kernel
theorem own_pd13 : parseMethodDescriptor "(Ljava/lang/Object;)Z" = some ⟨[(.object "java/lang/Object")], some .boolean⟩ := by decide +kernel
theorem own_nsroot {Z : State} {a0 : Array Value} {O K : String} {n : Nat} (w : (Jvm.Cond.noSuperclass O).before a0 Z = true) (wk : (Jvm.Cond.instantiable K n).before a0 Z = true) (hn : O ≠ K) : NS Z O K := by
  obtain ⟨c, k, h1, h2, h3, -⟩ := Cond.noSuperclass_spec w
  obtain ⟨t, kt, g1, -⟩ := Cond.instantiable_spec wk
  refine ⟨c, t, h1, g1, fun fuel => ?_⟩
  cases fuel with
  | zero => rfl
  | succ f => simp [Vm.isSubclassAux, ids_ne h1 g1 hn, h2, h3]
theorem own_nsno {Z : State} {a0 : Array Value} {C S K : String} {n : Nat} (w : (Jvm.Cond.superclass C S).before a0 Z = true) (wk : (Jvm.Cond.instantiable K n).before a0 Z = true) (q : NS Z C K) (hn : C ≠ K) : ∃ c t, Z.vm.findClass C = some c ∧ Z.vm.findClass K = some t ∧ Z.vm.assignable c t = false := by
  obtain ⟨c, t, h0, g0, n3⟩ := q
  obtain ⟨p, k, kp, h1, h2, h3, h4, h5, -⟩ := Cond.superclass_spec h0 w
  obtain ⟨t', kt, g1, g2, g3, g4, -⟩ := Cond.instantiable_spec wk
  cases g0.symm.trans g1
  have gi : kt.isInterface = false := (Bool.or_eq_false_iff.mp g4).1
  refine ⟨c, t, h0, g0, ?_⟩
  show Z.vm.assignableAux (255 + 1) c t = false
  simp [Vm.assignableAux, ids_ne h0 g0 hn, h2, g2, h5, g3, gi, Vm.isSubclass, n3]
theorem own_eqI {args : Array Value} {first s : State} {o : Option Outcome} {idx : List Nat} {t : Term} {k : Int32} (h : (Jvm.Cond.eq t (.int k)).value args first o s idx = some true) : t.eval args first o idx s = some (.int k) := by
  obtain ⟨x, y, h1, h2, k1, k2⟩ := cmp_v (Or.inl h)
  have e : y = .int k := Option.some.inj (h2.symm.trans rfl)
  subst e
  obtain ⟨z, rfl⟩ := k2
  have q : z = k := by simpa [Cond.value, h1, h2] using h
  rw [h1, q]
theorem own_size {args : Array Value} {s : State} {t : Term} {a : Addr} {cl : Cell} {ty : FieldType} (ht : t.eval args s none [] s = some (.ref a)) (A : Arr s s.heap a cl ty) (h : (Jvm.Cond.eq (.length t) (.int 256)).value args s none s [] = some true) : cl.slots.size = 256 ∧ cl.slots.size < 2 ^ 31 := by
  have q := own_eqI h
  have h3 : cl.slots.size < 2 ^ 31 := by
    rcases Decidable.em (cl.slots.size < 2 ^ 31) with h' | h'
    · exact h'
    · simp [Term.eval, ht, A.fin (Vm.Alike.refl _), h'] at q
  have h4 := Value.int.inj (Option.some.inj ((len_f ht (A.fin (Vm.Alike.refl _)) h3).symm.trans q))
  have e := len_toInt h3
  rw [h4] at e
  have : (256 : Int32).toInt = 256 := rfl
  exact ⟨by omega, h3⟩
/-- an array of boxes that stood at the start: its length, and that each place holds an object of that class -/
def own_Box (Z : State) (ca : Addr) (B : String) : Prop := ∃ cl : Cell, Arr Z Z.heap ca cl (.object B) ∧ cl.slots.size = 256 ∧ ∀ j : Int32, ¬ (j < 0 ∨ cl.slots.size ≤ j.toNatClampNeg) → ∃ y, cl.slots[j.toNatClampNeg]? = some (.ref y) ∧ Exa Z Z.heap y B
theorem own_box {args : Array Value} {s : State} {t : Term} {B : String} {X : Jvm.Cond} {ca : Addr} (ht : ∀ idx, t.eval args s none idx s = some (.ref ca)) (h1 : (Jvm.Cond.arrayOf t (.object B)).value args s none s [] = some true) (h2 : (Jvm.Cond.eq (.length t) (.int 256)).value args s none s [] = some true)
    (h3 : (Jvm.Cond.all t (.and (.exactly (.elem t (.index 0)) B) X)).value args s none s [] = some true) : own_Box s ca B := by
  obtain ⟨cl, A⟩ := Arr.start (ht []) h1
  have hA := A.fin (Vm.Alike.refl _)
  have hz := (own_size (ht []) A h2).1
  refine ⟨cl, A, hz, fun j hj => ?_⟩
  have q := (and_e (Cond.all_elim (ht []) hA h3 j.toNatClampNeg (Nat.lt_of_not_le fun u => hj (Or.inr u)))).1
  obtain ⟨y, ey⟩ := exa_v q
  have E := exa_at ey q
  rw [elem_f (ht _) (idx_at (fun u => hj (Or.inl u))) hA (fun u => hj (Or.inl u))] at ey
  exact ⟨y, ey, E⟩
theorem own_hide {p : Program} {l : Launch} {e : Env} {R : Room} {s : State} {m : MethodId} {args : Array Value} {below : List Frame} {meth : Method} {c : Code} {T : State} {locs : List Loc} {cells slots n0 C S : Nat} (X : Stand p l e R s m args below meth c T locs cells slots) (N : Fr n0 locs) (hc : cells = C) (hs : slots = S) : ∃ lo, Stand p l e R s m args below meth c T lo C S ∧ Fr n0 lo := by
  subst hc hs
  exact ⟨locs, X, N⟩
section Held2
variable {Z : State} {EL : List (String × Nat)} {h : Heap} {vm : Vm}
theorem own_safeArv {x : Addr} {k : ClassId} {ty : FieldType} {z : Int32} {vs : List Value} {d : Value} (hal : Z.vm.Alike vm) (A : Arv Z h x k ty z vs d) (ht : ty ≠ .byte) : Safe Z EL vm h x := by
  obtain ⟨c, A, -⟩ := A
  exact Safe.arr hal A ht
theorem own_safe0 {x : Addr} (hal : Z.vm.Alike vm) (E : Exa Z h x "java/lang/String") (F : Fld Z h x "java/lang/String" "value" "[B" .null) : Safe Z EL vm h x := fun B => by
  obtain ⟨p, -, u, a, -, q, -, G, rfl | rfl⟩ := B
  · obtain ⟨cS, ⟨⟨s1, s2, s3, ⟨cv, kv, iv, s4, s4'⟩, -, s6, -, s8, -⟩, -⟩, -⟩ := G
    obtain ⟨kv', z4⟩ := ff_back (Z := Z) (U := Wst Z vm h) hal s4
    have G' : Fld Z h q.sa "java/lang/String" "value" "[B" (.ref q.sd) := ⟨q.sC, cv, kv', iv, q.fSV, s1, z4, s6, s2, s3, by rw [← hal.assignable]; exact s4', s8⟩
    exact Fld.ne F G' nofun rfl
  · obtain ⟨cell, k, e1, e2, e3, -, -⟩ := E
    cases (show h[q.sd]? = some q.SA from G.hd).symm.trans e1
    obtain ⟨cS, -, -, f, -⟩ := G
    have f' : Z.vm.findClass "[B" = some q.SA.cls := by rw [← hal.findClass]; exact f
    exact ids_ne e2 f' (by decide) rfl
end Held2
def own_EL : List (String × Nat) := [("java/lang/String", 7)]
theorem own_EW {Z : State} {a0 : Array Value} (hw : ∀ d ∈ tables_1, d.before a0 Z = true) : EW Z a0 own_EL := (EW.cons (hw _ (List.mem_of_getElem? (i := 14) rfl)) (by decide) EW.nil)
theorem own_nrx {x : Int32} (h1 : ¬ x < (0 : Int32)) (h2 : ¬ (255 : Int32) < x) : x.toUInt32.toUInt16.toUInt32.toInt32 = x := by
  have h := c_i2c x
  simp only [Int32.lt_iff_toInt_lt, Int32.reduceToInt, ← Int32.toInt_inj] at *
  omega
theorem own_nrn {x : Int32} (h1 : ¬ x < (0 : Int32)) (h2 : ¬ (255 : Int32) < x) : nar .char x = x := own_nrx h1 h2
theorem own_nrc (x : Int32) : nar .char (x.toUInt32.toUInt16.toUInt32.toInt32) = x.toUInt32.toUInt16.toUInt32.toInt32 := by
  have h1 := c_i2c x
  have h2 := c_i2c (x.toUInt32.toUInt16.toUInt32.toInt32)
  show x.toUInt32.toUInt16.toUInt32.toInt32.toUInt32.toUInt16.toUInt32.toInt32 = _
  rw [← Int32.toInt_inj]
  omega
theorem own_nrv (x : Int32) : narrow .char (.int (x.toUInt32.toUInt16.toUInt32.toInt32)) = .int (x.toUInt32.toUInt16.toUInt32.toInt32) := congrArg Value.int (own_nrc x)
theorem own_ch (x : Int32) : ¬ ((x &&& (255 : Int32)).toUInt32.toUInt16.toUInt32.toInt32) < (0 : Int32) ∧ ¬ (255 : Int32) < ((x &&& (255 : Int32)).toUInt32.toUInt16.toUInt32.toInt32) := by
  have h := c_mask x 255 8 (by decide) (by decide)
  have h2 := c_i2c (x &&& 255)
  simp only [Int32.lt_iff_toInt_lt, Int32.reduceToInt]
  omega
theorem own_gch {x : Int32} (h1 : ¬ x < (0 : Int32)) (h2 : ¬ (255 : Int32) < x) : ((nar .byte (x.toInt8.toInt32)) &&& (255 : Int32)).toUInt32.toUInt16.toUInt32.toInt32 = x := by
  show ((x.toInt8.toInt32.toInt8.toInt32) &&& (255 : Int32)).toUInt32.toUInt16.toUInt32.toInt32 = x
  have a := c_i2b x
  have b := c_i2b (x.toInt8.toInt32)
  have d := c_mask (x.toInt8.toInt32.toInt8.toInt32) 255 8 (by decide) (by decide)
  have e := c_i2c ((x.toInt8.toInt32.toInt8.toInt32) &&& 255)
  simp only [Int32.lt_iff_toInt_lt, Int32.reduceToInt, ← Int32.toInt_inj] at *
  omega
theorem own_and3 (x : Int32) : x &&& (3 : Int32) = (0 : Int32) ∨ x &&& (3 : Int32) = (1 : Int32) ∨ x &&& (3 : Int32) = (2 : Int32) ∨ x &&& (3 : Int32) = (3 : Int32) := by
  have h := c_mask x 3 2 (by decide) (by decide)
  simp only [← Int32.toInt_inj, Int32.reduceToInt]
  omega
def own_wsb (j : Nat) : Bool := j == 32 || (9 ≤ j && j ≤ 13) || (28 ≤ j && j ≤ 31)
def own_AL : List Int32 := [1207963663, 1207963663, 1207963663, 1207963663, 1207963663, 1207963663, 1207963663, 1207963663, 1207963663, 1476411407, 1342193679, 1476411407, 1610629135, 1342193679, 1207963663, 1207963663, 1207963663, 1207963663, 1207963663, 1207963663, 1207963663, 1207963663, 1207963663, 1207963663, 1207963663, 1207963663, 1207963663, 1207963663, 1342193679, 1342193679, 1342193679, 1476411407, 1610629132, 1744830488, 1744830488, 671088664, 671113242, 671088664, 1744830488, 1744830488, -402653163, -402653162, 1744830488, 536870937, 939524120, 536870932, 939524120, 939524120, 402667017, 402667017, 402667017, 402667017, 402667017, 402667017, 402667017, 402667017, 402667017, 402667017, 939524120, 1744830488, -402653159, 1744830489, -402653159, 1744830488, 1744830488, 8552417, 8552417, 8552417, 8552417, 8552417, 8552417, 8552417, 8552417, 8552417, 8552417, 8552417, 8552417, 8552417, 8552417, 8552417, 8552417, 8552417, 8552417, 8552417, 8552417, 8552417, 8552417, 8552417, 8552417, 8552417, 8552417, -402653163, 1744830488, -402653162, 1744830491, 1744850967, 1744830491, 8486882, 8486882, 8486882, 8486882, 8486882, 8486882, 8486882, 8486882, 8486882, 8486882, 8486882, 8486882, 8486882, 8486882, 8486882, 8486882, 8486882, 8486882, 8486882, 8486882, 8486882, 8486882, 8486882, 8486882, 8486882, 8486882, -402653163, 1744830489, -402653162, 1744830489, 1207963663, 1207963663, 1207963663, 1207963663, 1207963663, 1207963663, 1342181391, 1207963663, 1207963663, 1207963663, 1207963663, 1207963663, 1207963663, 1207963663, 1207963663, 1207963663, 1207963663, 1207963663, 1207963663, 1207963663, 1207963663, 1207963663, 1207963663, 1207963663, 1207963663, 1207963663, 1207963663, 1207963663, 1207963663, 1207963663, 1207963663, 1207963663, 1207963663, 939524108, 1744830488, 671113242, 671113242, 671113242, 671113242, 1744830492, 1744830488, 1744830491, 1744830492, 28677, -402653155, 1744830489, 1207963664, 1744830492, 1744830491, 671088668, 671088665, 402654731, 402654731, 1744830491, 134049794, 1744830488, 1744830488, 1744830491, 402654475, 28677, -402653154, 1744832523, 1744832523, 1744832523, 1744830488, 8548353, 8548353, 8548353, 8548353, 8548353, 8548353, 8548353, 8548353, 8548353, 8548353, 8548353, 8548353, 8548353, 8548353, 8548353, 8548353, 8548353, 8548353, 8548353, 8548353, 8548353, 8548353, 8548353, 1744830489, 8548353, 8548353, 8548353, 8548353, 8548353, 8548353, 8548353, 134049794, 8482818, 8482818, 8482818, 8482818, 8482818, 8482818, 8482818, 8482818, 8482818, 8482818, 8482818, 8482818, 8482818, 8482818, 8482818, 8482818, 8482818, 8482818, 8482818, 8482818, 8482818, 8482818, 8482818, 1744830489, 8482818, 8482818, 8482818, 8482818, 8482818, 8482818, 8482818, 102592514]
def own_AV : List Value := own_AL.map Value.int
set_option maxRecDepth 65536 in
theorem own_chk : ∀ j : Fin 256, ((own_AL.getD j.1 0 &&& (28672 : Int32)) == (16384 : Int32)) = own_wsb j.1 := by decide +kernel
theorem own_AVget (j : Nat) : own_AV.getD j (.int 0) = .int (own_AL.getD j 0) := by
  simp only [own_AV, List.getD_eq_getElem?_getD, List.getElem?_map]
  cases own_AL[j]? <;> rfl
set_option maxRecDepth 65536 in
theorem own_AVlen : own_AV.length = 256 := by decide +kernel
def own_P (j y : Int32) : Prop := ((y &&& (28672 : Int32)) = (16384 : Int32) ∧ ((j = (32 : Int32)) ∨ (¬ j < (9 : Int32) ∧ ¬ (13 : Int32) < j) ∨ (¬ j < (28 : Int32) ∧ ¬ (31 : Int32) < j))) ∨ (¬ (y &&& (28672 : Int32)) = (16384 : Int32) ∧ ¬ ((j = (32 : Int32)) ∨ (¬ j < (9 : Int32) ∧ ¬ (13 : Int32) < j) ∨ (¬ j < (28 : Int32) ∧ ¬ (31 : Int32) < j)))
def own_A (Z : State) (ca : Addr) : Prop := ∃ cl : Cell, Arr Z Z.heap ca cl .int ∧ cl.slots.size = 256 ∧ ∀ j : Int32, 0 ≤ j.toInt → j.toInt ≤ 255 → ∃ y, cl.slots[j.toNatClampNeg]? = some (.int y) ∧ own_P j y
theorem own_Amk {Z : State} {ca : Addr} {cl : Cell} (Ar : Arr Z Z.heap ca cl .int) (hs : cl.slots.size = 256) (hh : HasL cl 0 own_AV) : own_A Z ca := by
  refine ⟨cl, Ar, hs, fun j h1 h2 => ?_⟩
  have e : j.toNatClampNeg = j.toInt.toNat := rfl
  have hlt : j.toNatClampNeg < 256 := by omega
  have q := HasL.at (dv := .int 0) own_AV 0 hh j.toNatClampNeg (by rw [own_AVlen]; exact hlt)
  rw [Nat.zero_add, own_AVget] at q
  refine ⟨_, q, ?_⟩
  have r := own_chk ⟨j.toNatClampNeg, hlt⟩
  simp only at r
  cases hb : own_wsb j.toNatClampNeg
  · right
    rw [hb] at r
    refine ⟨fun z => by rw [z] at r; simp at r, ?_⟩
    simp [own_wsb] at hb
    simp only [Int32.lt_iff_toInt_lt, Int32.reduceToInt, ← Int32.toInt_inj]
    omega
  · left
    rw [hb] at r
    refine ⟨eq_of_beq r, ?_⟩
    simp [own_wsb] at hb
    simp only [Int32.lt_iff_toInt_lt, Int32.reduceToInt, ← Int32.toInt_inj]
    omega
theorem own_in256 {j : Int32} (h1 : ¬ j < (0 : Int32)) (h2 : ¬ (255 : Int32) < j) : ¬ (j < 0 ∨ 256 ≤ j.toNatClampNeg) := by
  have e : j.toNatClampNeg = j.toInt.toNat := rfl
  simp only [Int32.lt_iff_toInt_lt, Int32.reduceToInt] at *
  omega
theorem own_b1 {j : Int32} (h1 : ¬ j < (0 : Int32)) (h2 : ¬ (255 : Int32) < j) : 0 ≤ j.toInt ∧ j.toInt ≤ 255 := by
  simp only [Int32.lt_iff_toInt_lt, Int32.reduceToInt] at *
  omega
theorem own_sz {args : Array Value} {s : State} {t : Term} {a : Addr} {cl : Cell} {ty : FieldType} (ht : t.eval args s none [] s = some (.ref a)) (A : Arr s s.heap a cl ty) (h : (Jvm.Cond.eq (.length t) (.int 256)).value args s none s [] = some true) : cl.slots.size = 256 := by
  have q := own_eqI h
  have h3 : cl.slots.size < 2 ^ 31 := by
    rcases Decidable.em (cl.slots.size < 2 ^ 31) with h' | h'
    · exact h'
    · simp [Term.eval, ht, A.fin (Vm.Alike.refl _), h'] at q
  have h4 := Value.int.inj (Option.some.inj ((len_f ht (A.fin (Vm.Alike.refl _)) h3).symm.trans q))
  have e := len_toInt h3
  rw [h4] at e
  have : (256 : Int32).toInt = 256 := rfl
  omega
theorem own_at {args : Array Value} {s : State} {t : Term} {a : Addr} {cl : Cell} {ty : FieldType} {k v : Int32} (ht : t.eval args s none [] s = some (.ref a)) (A : Arr s s.heap a cl ty) (hk : ¬ k < 0) (h : (Jvm.Cond.eq (.elem t (.int k)) (.int v)).value args s none s [] = some true) : cl.slots[k.toNatClampNeg]? = some (.int v) := by
  have q := own_eqI h
  rw [elem_f ht (Term.int_eval k) (A.fin (Vm.Alike.refl _)) hk] at q
  exact q
theorem own_i4_0_ef (m : MethodId) (x0 : Addr) (x1 : Addr) (x2 : Int32) (x3 : Int32) : entryFrame m #[(.ref x0), (.ref x1), (.int x2), (.int x3), .null] 6 = mkF m 0 #[.val (.ref x0), .val (.ref x1), .val (.int x2), .val (.int x3), .val .null, .unset] [] := by first | (simp [entryFrame, mkF, argsToLocals, Value.category]; done) | rfl
def own_i4_0_Q (Z : State) (a : Addr) (ca : Addr) (kc : ClassId) (h0 : Heap) (n0 : Nat) (rv : Option Value) (hN : Heap) (LL : List Loc) : Prop := rv = none ∧ Fr n0 LL ∧ Keep h0 hN [a] ∧ Exa Z hN a "java/lang/String"
set_option maxRecDepth 65536 in
set_option maxHeartbeats 40000000 in
theorem own_i4_0 (l : Launch) (Z : State) (a0 : Array Value) (hw : ∀ d ∈ tables_1, d.before a0 Z = true) (ws : List Jvm.Cond) (a : Addr) (ca : Addr) (kc : ClassId) (h0 : Heap) (n0 : Nat) (Z0 : n0 ≤ h0.size) (A : Arv Z h0 ca kc .char (0 : Int32) [] (.int (0 : Int32))) (H0 : Exa Z h0 a "java/lang/String") (H1 : Fld Z h0 a "java/lang/String" "value" "[B" .null) (H2 : Fld Z h0 a "java/lang/String" "coder" "B" (.int (0 : Int32))) (H3 : n0 ≤ a) (H4 : a ≠ ca) :
    MetFree l (⟨"java/lang/String", "<init>", "([CIILjava/lang/Void;)V"⟩ : MethodName) (head1 (Jvm.Cond.code (⟨"java/lang/String", "<init>", "([CIILjava/lang/Void;)V"⟩ : MethodName) jdk_42_method_149_code 6 none :: ws) ({ frames := 1, cells := 2, slots := 4, locals := 12 } : Room)) (fun aa UU => aa = #[(.ref a), (.ref ca), (.int (0 : Int32)), (.int (0 : Int32)), .null] ∧ Z.Warmed39 UU.vm ∧ UU.heap = h0 ∧ CHv Z own_EL UU.vm h0) (fun _ _ _ _ _ => True) (fun _ UU oo UU' => ∃ rv LL, oo = .returned rv ∧ own_i4_0_Q Z a ca kc h0 n0 rv UU'.heap LL ∧ CHr Z own_EL UU.vm UU.heap UU'.vm UU'.heap ∧ ReturnedEndW UU oo UU' LL ({ frames := 1, cells := 2, slots := 4, locals := 12 } : Room).cells ({ frames := 1, cells := 2, slots := 4, locals := 12 } : Room).slots) := by
  refine MetFree.of_bodySF (plainFor_of_name own_pn0) hisR ?_
  intro p e s m args below meth c s₁ Bd hml0 hP hK
  obtain ⟨rfl, hZ, hh, hC⟩ := hP
  have R0 := CHr.refl hC
  have hx := Bd.exec
  have hby := Bd.bytes
  have hml : c.maxLocals = 6 := hml0
  have hown : s.vm.findClass "java/lang/String" = some m.cls := findClass_of_methodNamed Bd.named
  have hnm := (name_of_methodNamed Bd.named Bd.method).1
  have hS : s.Since s.vm 0 := State.WarmedH.since (State.WarmedH.refl s) 0
  have hk0 : 0 ≤ h0.size := Nat.zero_le _
  have hZ : Z.Warmed39 (s.setVm s.vm).vm := hZ
  have hown : (s.setVm s.vm).vm.findClass "java/lang/String" = some m.cls := hown
  have X0 : Stand p l e ({ frames := 1, cells := 2, slots := 4, locals := 12 } : Room) (s.setVm s.vm) m #[(.ref a), (.ref ca), (.int (0 : Int32)), (.int (0 : Int32)), .null] below meth c s₁ [] 0 0 := Stand.of_body Bd
  have e0 : s₁.heap = h0 := by rw [← hh, Bd.state]; rfl
  have N0 := Fr.nil n0
  have K0 : Keep h0 h0 [a] := Keep.refl h0 _
  refine (?_ : OwnGo p.tables e below (fun UU' oo => ∃ rv LL, oo = .returned rv ∧ own_i4_0_Q Z a ca kc h0 n0 rv UU'.heap LL ∧ CHr Z own_EL s.vm s.heap UU'.vm UU'.heap ∧ ReturnedEndW s oo UU' LL ({ frames := 1, cells := 2, slots := 4, locals := 12 } : Room).cells ({ frames := 1, cells := 2, slots := 4, locals := 12 } : Room).slots) _)
  refine OwnGo.back (s₁.setTop (mkF m 0 #[.val (.ref a), .val (.ref ca), .val (.int (0 : Int32)), .val (.int (0 : Int32)), .val .null, .unset] [])) (fun tg kk => castTop (own_i4_0_ef m a ca (0 : Int32) (0 : Int32)) kk) ?_
  refine OwnGo.back (s₁.setTop (mkF m 1 #[.val (.ref a), .val (.ref ca), .val (.int (0 : Int32)), .val (.int (0 : Int32)), .val .null, .unset] [(.ref a)])) (fun tg kk => XS.aloadN X0.here hx rfl (hb hby own_d2_0) rfl rfl kk) ?_
  obtain ⟨T1, X1, e1, st1⟩ := initO X0 hx hZ hown (hw _ (List.mem_of_getElem? (i := 11) rfl)) (hw _ (List.mem_of_getElem? (i := 12) rfl)) (hw _ (List.mem_of_getElem? (i := 13) rfl)) e0 (g := (mkF m 1 #[.val (.ref a), .val (.ref ca), .val (.int (0 : Int32)), .val (.int (0 : Int32)), .val .null, .unset] [(.ref a)])) rfl (by rw [hml]; rfl) rfl (hb hby own_d2_1) (by decide) (W := 0) (by show 2 * 0 + _ ≤ _; exact Nat.le_of_eq rfl) (by decide)
  refine OwnGo.back (T1.setTop (mkF m 4 #[.val (.ref a), .val (.ref ca), .val (.int (0 : Int32)), .val (.int (0 : Int32)), .val .null, .unset] [])) (fun tg kk => st1 _ kk) ?_
  refine OwnGo.back (T1.setTop (mkF m 5 #[.val (.ref a), .val (.ref ca), .val (.int (0 : Int32)), .val (.int (0 : Int32)), .val .null, .unset] [(.int (0 : Int32))])) (fun tg kk => XS.iloadN X1.here hx rfl (hb hby own_d2_4) rfl kk) ?_
  refine OwnGo.back (T1.setTop (mkF m 8 #[.val (.ref a), .val (.ref ca), .val (.int (0 : Int32)), .val (.int (0 : Int32)), .val .null, .unset] [])) (fun tg kk => XS.ifNo X1.here hx rfl (hb hby own_d2_5) rfl ((if0 _ _).trans (teq (by decide : (0 : Int32) = (0 : Int32))).2) kk) ?_
  refine OwnGo.back (T1.setTop (mkF m 9 #[.val (.ref a), .val (.ref ca), .val (.int (0 : Int32)), .val (.int (0 : Int32)), .val .null, .unset] [(.ref a)])) (fun tg kk => XS.aloadN X1.here hx rfl (hb hby own_d2_8) rfl rfl kk) ?_
  obtain ⟨sa2, T2, h2, kS2, sb2, kb2, X2, e2, E2, hS, hk2, hZ, hown, A2, Fc2, Fv2, Av2, -, -, CH2, L2, SF2, st2⟩ := ldcCH X1 hx hZ hown (hw _ (List.mem_of_getElem? (i := 14) rfl)) (own_wS hw) e1 hS hk0 (own_EW hw) (List.mem_of_getElem? (i := 0) rfl) R0.1 (vs := []) (z := (0 : Int32)) ⟨by decide, by decide +kernel⟩ (by decide) rfl (g := (mkF m 9 #[.val (.ref a), .val (.ref ca), .val (.int (0 : Int32)), .val (.int (0 : Int32)), .val .null, .unset] [(.ref a)])) rfl (hb hby own_d2_9) (n := 0) (by decide) (by decide) (by decide) (by decide)
  have R3 := CHr.trans R0 CH2
  have f4 : Arv Z h2 ca kc .char (0 : Int32) [] (.int (0 : Int32)) := A.ext E2
  have f5 : Exa Z h2 a "java/lang/String" := H0.ext E2
  have f6 : Fld Z h2 a "java/lang/String" "value" "[B" .null := H1.ext E2
  have f7 : Fld Z h2 a "java/lang/String" "coder" "B" (.int (0 : Int32)) := H2.ext E2
  have K8 : Keep h0 h2 [a] := K0.ext E2
  have Z9 : n0 ≤ h2.size := Nat.le_trans Z0 E2.1
  obtain ⟨n10, n11⟩ : a ≠ sa2 ∧ a ≠ sb2 := SF2 _ (own_safe0 hZ.alike f5 f6)
  obtain ⟨n12, n13⟩ : ca ≠ sa2 ∧ ca ≠ sb2 := SF2 _ (own_safeArv hZ.alike f4 (by simp))
  clear R0 A H0 H1 H2
  refine OwnGo.back (T2.setTop (mkF m 11 #[.val (.ref a), .val (.ref ca), .val (.int (0 : Int32)), .val (.int (0 : Int32)), .val .null, .unset] [(.ref sa2), (.ref a)])) (fun tg kk => st2 _ kk) ?_
  obtain ⟨T14, X14, e14, st14⟩ := getF X2 hx hZ hown (host := "") (Or.inl (hw _ (List.mem_of_getElem? (i := 20) rfl))) Via.refl e2 Fv2 (g := (mkF m 11 #[.val (.ref a), .val (.ref ca), .val (.int (0 : Int32)), .val (.int (0 : Int32)), .val .null, .unset] [(.ref sa2), (.ref a)])) rfl rfl (hb hby own_d2_11)
  refine OwnGo.back (T14.setTop (mkF m 14 #[.val (.ref a), .val (.ref ca), .val (.int (0 : Int32)), .val (.int (0 : Int32)), .val .null, .unset] [(.ref sb2), (.ref a)])) (fun tg kk => st14 _ kk) ?_
  obtain ⟨T15, h15, X15, e15, W15, st15⟩ := putF X14 hx hZ hown (host := "") (Or.inl (hw _ (List.mem_of_getElem? (i := 20) rfl))) Via.refl e14 f6 f5 (Or.inr ⟨(hw _ (List.mem_of_getElem? (i := 16) rfl)), rfl, hnm⟩) (hw _ (List.mem_of_getElem? (i := 2) rfl)) (ty := (.array .byte)) (by decide) rfl rfl (g := (mkF m 14 #[.val (.ref a), .val (.ref ca), .val (.int (0 : Int32)), .val (.int (0 : Int32)), .val .null, .unset] [(.ref sb2), (.ref a)])) rfl rfl (hb hby own_d2_14)
  have f16 : Fld Z h15 a "java/lang/String" "value" "[B" (.ref sb2) := f6.same W15
  have sf17 : Safe Z own_EL T2.vm h2 a := (own_safe0 hZ.alike f5 f6)
  have sf18 := Safe.wr W15 sf17 R3.1 sf17
  have R19 := CHr.trans R3 (CHr.wr W15 sf17 R3.1)
  have f20 : Arv Z h15 ca kc .char (0 : Int32) [] (.int (0 : Int32)) := f4.other W15 (Ne.symm H4)
  have f21 : Exa Z h15 a "java/lang/String" := f5.wr W15
  have f22 : Fld Z h15 a "java/lang/String" "coder" "B" (.int (0 : Int32)) := f7.other W15 (Or.inr (slot_ne (Or.inr (hw _ (List.mem_of_getElem? (i := 17) rfl))) (Or.inr (hw _ (List.mem_of_getElem? (i := 16) rfl))) (by decide) (t := .byte) (t' := (.array .byte)) (by decide) (by decide)))
  have f23 : Exa Z h15 sa2 "java/lang/String" := A2.wr W15
  have f24 : Fld Z h15 sa2 "java/lang/String" "coder" "B" (.int (0 : Int32)) := Fc2.other W15 (Or.inl (Ne.symm n10))
  have f25 : Fld Z h15 sa2 "java/lang/String" "value" "[B" (.ref sb2) := Fv2.other W15 (Or.inl (Ne.symm n10))
  have f26 : Arv Z h15 sb2 kb2 .byte (0 : Int32) [] (.int (0 : Int32)) := Av2.other W15 (Ne.symm n11)
  have K27 : Keep h0 h15 [a] := K8.wr W15 (Or.inl (List.mem_of_getElem? (i := 0) rfl))
  have Z28 : n0 ≤ h15.size := Nat.le_trans Z9 (Keep.of_wr W15).1
  have N29 := Fr.snoc X15 N0 H3
  obtain ⟨lo30, Xh30, Nh30⟩ := own_hide X15 N29 (C := 2) (S := 4) rfl rfl
  clear sf17 R3 f4 f5 f7 A2 Fc2 Fv2 Av2 X15 N29
  refine OwnGo.back (T15.setTop (mkF m 17 #[.val (.ref a), .val (.ref ca), .val (.int (0 : Int32)), .val (.int (0 : Int32)), .val .null, .unset] [])) (fun tg kk => st15 _ kk) ?_
  refine OwnGo.back (T15.setTop (mkF m 18 #[.val (.ref a), .val (.ref ca), .val (.int (0 : Int32)), .val (.int (0 : Int32)), .val .null, .unset] [(.ref a)])) (fun tg kk => XS.aloadN Xh30.here hx rfl (hb hby own_d2_17) rfl rfl kk) ?_
  refine OwnGo.back (T15.setTop (mkF m 20 #[.val (.ref a), .val (.ref ca), .val (.int (0 : Int32)), .val (.int (0 : Int32)), .val .null, .unset] [(.ref sa2), (.ref a)])) (fun tg kk => ldcAgain Xh30 hx hZ hown (hw _ (List.mem_of_getElem? (i := 14) rfl)) L2 (g := (mkF m 18 #[.val (.ref a), .val (.ref ca), .val (.int (0 : Int32)), .val (.int (0 : Int32)), .val .null, .unset] [(.ref a)])) rfl (hb hby own_d2_18) _ kk) ?_
  obtain ⟨T31, X31, e31, st31⟩ := getF Xh30 hx hZ hown (host := "") (Or.inl (hw _ (List.mem_of_getElem? (i := 21) rfl))) Via.refl e15 f24 (g := (mkF m 20 #[.val (.ref a), .val (.ref ca), .val (.int (0 : Int32)), .val (.int (0 : Int32)), .val .null, .unset] [(.ref sa2), (.ref a)])) rfl rfl (hb hby own_d2_20)
  refine OwnGo.back (T31.setTop (mkF m 23 #[.val (.ref a), .val (.ref ca), .val (.int (0 : Int32)), .val (.int (0 : Int32)), .val .null, .unset] [(.int (0 : Int32)), (.ref a)])) (fun tg kk => st31 _ kk) ?_
  obtain ⟨T32, h32, X32, e32, W32, st32⟩ := putF X31 hx hZ hown (host := "") (Or.inl (hw _ (List.mem_of_getElem? (i := 21) rfl))) Via.refl e31 f22 f21 (Or.inr ⟨(hw _ (List.mem_of_getElem? (i := 17) rfl)), rfl, hnm⟩) (hw _ (List.mem_of_getElem? (i := 2) rfl)) (ty := .byte) (by decide) rfl rfl (g := (mkF m 23 #[.val (.ref a), .val (.ref ca), .val (.int (0 : Int32)), .val (.int (0 : Int32)), .val .null, .unset] [(.int (0 : Int32)), (.ref a)])) rfl rfl (hb hby own_d2_23)
  have f33 : Fld Z h32 a "java/lang/String" "coder" "B" (.int (0 : Int32)) := f22.same W32
  have sf34 : Safe Z own_EL T2.vm h15 a := sf18
  have sf35 := Safe.wr W32 sf34 R19.1 sf18
  have R36 := CHr.trans R19 (CHr.wr W32 sf34 R19.1)
  have f37 : Arv Z h32 ca kc .char (0 : Int32) [] (.int (0 : Int32)) := f20.other W32 (Ne.symm H4)
  have f38 : Exa Z h32 a "java/lang/String" := f21.wr W32
  have f39 : Exa Z h32 sa2 "java/lang/String" := f23.wr W32
  have f40 : Fld Z h32 sa2 "java/lang/String" "coder" "B" (.int (0 : Int32)) := f24.other W32 (Or.inl (Ne.symm n10))
  have f41 : Fld Z h32 sa2 "java/lang/String" "value" "[B" (.ref sb2) := f25.other W32 (Or.inl (Ne.symm n10))
  have f42 : Arv Z h32 sb2 kb2 .byte (0 : Int32) [] (.int (0 : Int32)) := f26.other W32 (Ne.symm n11)
  have f43 : Fld Z h32 a "java/lang/String" "value" "[B" (.ref sb2) := f16.other W32 (Or.inr (slot_ne (Or.inr (hw _ (List.mem_of_getElem? (i := 16) rfl))) (Or.inr (hw _ (List.mem_of_getElem? (i := 17) rfl))) (by decide) (t := (.array .byte)) (t' := .byte) (by decide) (by decide)))
  have K44 : Keep h0 h32 [a] := K27.wr W32 (Or.inl (List.mem_of_getElem? (i := 0) rfl))
  have Z45 : n0 ≤ h32.size := Nat.le_trans Z28 (Keep.of_wr W32).1
  have N46 := Fr.snoc X32 Nh30 H3
  obtain ⟨lo47, Xh47, Nh47⟩ := own_hide X32 N46 (C := 2) (S := 4) rfl rfl
  clear sf18 R19 f20 f21 f23 f24 f25 f26 f16 X32 N46
  refine OwnGo.back (T32.setTop (mkF m 26 #[.val (.ref a), .val (.ref ca), .val (.int (0 : Int32)), .val (.int (0 : Int32)), .val .null, .unset] [])) (fun tg kk => st32 _ kk) ?_
  obtain ⟨fs, hr, hrun, hended, -, hW, hI, hsame⟩ := Xh47.leaveW hS (by rw [e32]; exact (Nat.le_trans (Nat.le_trans hk2 (Keep.of_wr W15).1) (Keep.of_wr W32).1)) (v := none) (fun _ => rfl)
  refine ⟨_, _, ?_, hrun, hended, _, _, rfl, ?_, ?_, ⟨_, rfl⟩, hW, hI, hsame.mono (by decide) (by decide)⟩
  · exact Xh47.returnOut hx Bd.returns (hb hby own_d2_26) hr
  · show own_i4_0_Q Z a ca kc h0 n0 _ T32.heap _
    rw [e32]
    exact ⟨rfl, Nh47, K44, f38⟩
  · have hr_ := CHr.trans R36 (CHv.at Xh47 hZ (own_EW hw) R36.1)
    rw [← hh] at hr_
    rw [← e32] at hr_
    exact hr_
theorem own_i1_0_ef (m : MethodId) (x0 : Addr) (x1 : Addr) : entryFrame m #[(.ref x0), (.ref x1)] 2 = mkF m 0 #[.val (.ref x0), .val (.ref x1)] [] := by first | (simp [entryFrame, mkF, argsToLocals, Value.category]; done) | rfl
def own_i1_0_Q (Z : State) (a : Addr) (ca : Addr) (kc : ClassId) (h0 : Heap) (n0 : Nat) (rv : Option Value) (hN : Heap) (LL : List Loc) : Prop := rv = none ∧ Fr n0 LL ∧ Keep h0 hN [a] ∧ Exa Z hN a "java/lang/String"
set_option maxRecDepth 65536 in
set_option maxHeartbeats 40000000 in
theorem own_i1_0 (l : Launch) (Z : State) (a0 : Array Value) (hw : ∀ d ∈ tables_1, d.before a0 Z = true) (ws : List Jvm.Cond) (a : Addr) (ca : Addr) (kc : ClassId) (h0 : Heap) (n0 : Nat) (Z0 : n0 ≤ h0.size) (A : Arv Z h0 ca kc .char (0 : Int32) [] (.int (0 : Int32))) (H0 : Exa Z h0 a "java/lang/String") (H1 : Fld Z h0 a "java/lang/String" "value" "[B" .null) (H2 : Fld Z h0 a "java/lang/String" "coder" "B" (.int (0 : Int32))) (H3 : n0 ≤ a) (H4 : a ≠ ca) :
    MetFree l (⟨"java/lang/String", "<init>", "([C)V"⟩ : MethodName) (head1 (Jvm.Cond.code (⟨"java/lang/String", "<init>", "([C)V"⟩ : MethodName) jdk_42_method_3_code 2 none :: ws) ({ frames := 2, cells := 2, slots := 4, locals := 29 } : Room)) (fun aa UU => aa = #[(.ref a), (.ref ca)] ∧ Z.Warmed39 UU.vm ∧ UU.heap = h0 ∧ CHv Z own_EL UU.vm h0) (fun _ _ _ _ _ => True) (fun _ UU oo UU' => ∃ rv LL, oo = .returned rv ∧ own_i1_0_Q Z a ca kc h0 n0 rv UU'.heap LL ∧ CHr Z own_EL UU.vm UU.heap UU'.vm UU'.heap ∧ ReturnedEndW UU oo UU' LL ({ frames := 2, cells := 2, slots := 4, locals := 29 } : Room).cells ({ frames := 2, cells := 2, slots := 4, locals := 29 } : Room).slots) := by
  refine MetFree.of_bodySF (plainFor_of_name own_pn0) hisR ?_
  intro p e s m args below meth c s₁ Bd hml0 hP hK
  obtain ⟨rfl, hZ, hh, hC⟩ := hP
  have R0 := CHr.refl hC
  have hx := Bd.exec
  have hby := Bd.bytes
  have hml : c.maxLocals = 2 := hml0
  have hown : s.vm.findClass "java/lang/String" = some m.cls := findClass_of_methodNamed Bd.named
  have hnm := (name_of_methodNamed Bd.named Bd.method).1
  have hS : s.Since s.vm 0 := State.WarmedH.since (State.WarmedH.refl s) 0
  have hk0 : 0 ≤ h0.size := Nat.zero_le _
  have hZ : Z.Warmed39 (s.setVm s.vm).vm := hZ
  have hown : (s.setVm s.vm).vm.findClass "java/lang/String" = some m.cls := hown
  have X0 : Stand p l e ({ frames := 2, cells := 2, slots := 4, locals := 29 } : Room) (s.setVm s.vm) m #[(.ref a), (.ref ca)] below meth c s₁ [] 0 0 := Stand.of_body Bd
  have e0 : s₁.heap = h0 := by rw [← hh, Bd.state]; rfl
  have N0 := Fr.nil n0
  have K0 : Keep h0 h0 [a] := Keep.refl h0 _
  refine (?_ : OwnGo p.tables e below (fun UU' oo => ∃ rv LL, oo = .returned rv ∧ own_i1_0_Q Z a ca kc h0 n0 rv UU'.heap LL ∧ CHr Z own_EL s.vm s.heap UU'.vm UU'.heap ∧ ReturnedEndW s oo UU' LL ({ frames := 2, cells := 2, slots := 4, locals := 29 } : Room).cells ({ frames := 2, cells := 2, slots := 4, locals := 29 } : Room).slots) _)
  refine OwnGo.back (s₁.setTop (mkF m 0 #[.val (.ref a), .val (.ref ca)] [])) (fun tg kk => castTop (own_i1_0_ef m a ca) kk) ?_
  refine OwnGo.back (s₁.setTop (mkF m 1 #[.val (.ref a), .val (.ref ca)] [(.ref a)])) (fun tg kk => XS.aloadN X0.here hx rfl (hb hby own_d1_0) rfl rfl kk) ?_
  refine OwnGo.back (s₁.setTop (mkF m 2 #[.val (.ref a), .val (.ref ca)] [(.ref ca), (.ref a)])) (fun tg kk => XS.aloadN X0.here hx rfl (hb hby own_d1_1) rfl rfl kk) ?_
  refine OwnGo.back (s₁.setTop (mkF m 3 #[.val (.ref a), .val (.ref ca)] [(.int (0 : Int32)), (.ref ca), (.ref a)])) (fun tg kk => XS.iconst X0.here hx rfl (hb hby own_d1_2) kk) ?_
  refine OwnGo.back (s₁.setTop (mkF m 4 #[.val (.ref a), .val (.ref ca)] [(.ref ca), (.int (0 : Int32)), (.ref ca), (.ref a)])) (fun tg kk => XS.aloadN X0.here hx rfl (hb hby own_d1_3) rfl rfl kk) ?_
  obtain ⟨cl_1, Ar_1, -, Sz_1, Ng_1, -, -⟩ := id A
  refine OwnGo.back (s₁.setTop (mkF m 5 #[.val (.ref a), .val (.ref ca)] [(.int (0 : Int32)), (.int (0 : Int32)), (.ref ca), (.ref a)])) (fun tg kk => X0.arraylength hx (by rw [e0]; exact Ar_1.1) (State.isArrayOf_alike hZ.alike Ar_1.2.1) (g := (mkF m 4 #[.val (.ref a), .val (.ref ca)] [(.ref ca), (.int (0 : Int32)), (.ref ca), (.ref a)])) rfl rfl (hb hby own_d1_4) _ (by rw [len_of Sz_1 Ng_1]; exact kk)) ?_
  refine OwnGo.back (s₁.setTop (mkF m 6 #[.val (.ref a), .val (.ref ca)] [.null, (.int (0 : Int32)), (.int (0 : Int32)), (.ref ca), (.ref a)])) (fun tg kk => XS.aconstNull X0.here hx rfl (hb hby own_d1_5) kk) ?_
  obtain ⟨_, _, ⟨T2, L2, k2, n2⟩, -, X2, hs2, hg2, ⟨Lc2, hQ2, l2, y2, z2, cr2⟩, st2⟩ := X0.specialBackS hx (y := (⟨"java/lang/String", "<init>", "([CIILjava/lang/Void;)V"⟩ : MethodName)) rfl hown (mvT hZ (hw _ (List.mem_of_getElem? (i := 7) rfl))) (mvT hZ (hw _ (List.mem_of_getElem? (i := 8) rfl))) (mvT hZ (hw _ (List.mem_of_getElem? (i := 10) rfl))) (by decide) (backOfSH (W := 0) (own_i4_0 l Z a0 hw [] a ca kc h0 n0 Z0 A H0 H1 H2 H3 H4) hZ (hw _ (List.mem_of_getElem? (i := 10) rfl)) (hw _ (List.mem_of_getElem? (i := 3) rfl)) (by decide) (by decide) (own_EW hw) R0.1) (g := (mkF m 6 #[.val (.ref a), .val (.ref ca)] [.null, (.int (0 : Int32)), (.int (0 : Int32)), (.ref ca), (.ref a)])) rfl (by rw [hml]; rfl) (Steps.refl _) (a := a) (argsL := [(.ref ca), (.int (0 : Int32)), (.int (0 : Int32)), .null]) (rest := []) (lenOf own_pd0 rfl) rfl (by show 2 * 0 + _ ≤ _; exact Nat.le_of_eq rfl) (hb hby own_d1_6) (fun _ _ => ⟨rfl, e0, (by decide : 0 + 2 ≤ _), (by decide : 0 + 4 ≤ _)⟩)
  dsimp only [Pt.U, Pt.locs, Pt.cells, Pt.slots] at X2 l2 y2 z2 st2 hQ2 hs2 hg2 cr2
  subst l2 y2 z2
  obtain ⟨X2, hS, hZ, hown⟩ := rebS hS (by rw [e0]; exact hk0) X2 hs2 hg2 hZ hown
  obtain ⟨rfl, N2q, Kc2, po3⟩ := hQ2
  have N2 := Fr.app N0 N2q
  have R4 := CHr.trans R0 cr2
  have f5 : Arv Z T2.heap ca kc .char (0 : Int32) [] (.int (0 : Int32)) := A.keep Kc2 (ninS (Ne.symm H4) nin0)
  have f6 : Exa Z T2.heap a "java/lang/String" := H0.keep Kc2
  have K7 : Keep h0 T2.heap [a] := K0.trans Kc2 (allS (Or.inl (List.mem_of_getElem? (i := 0) rfl)) all0)
  have Z8 : n0 ≤ T2.heap.size := Nat.le_trans Z0 Kc2.1
  obtain ⟨lo9, Xh9, Nh9⟩ := own_hide X2 N2 (C := 2) (S := 4) rfl rfl
  clear R0 A H0 X2 N2
  refine OwnGo.back (T2.setTop (mkF m 9 #[.val (.ref a), .val (.ref ca)] [])) (fun tg kk => st2.trans kk) ?_
  obtain ⟨fs, hr, hrun, hended, -, hW, hI, hsame⟩ := Xh9.leaveW hS (Nat.le_refl _) (v := none) (fun _ => rfl)
  refine ⟨_, _, ?_, hrun, hended, _, _, rfl, ?_, ?_, ⟨_, rfl⟩, hW, hI, hsame.mono (by decide) (by decide)⟩
  · exact Xh9.returnOut hx Bd.returns (hb hby own_d1_9) hr
  · show own_i1_0_Q Z a ca kc h0 n0 _ T2.heap _
    exact ⟨rfl, Nh9, K7, po3⟩
  · have hr_ := CHr.trans R4 (CHv.at Xh9 hZ (own_EW hw) R4.1)
    rw [← hh] at hr_
    exact hr_
theorem own_cmp1_ef (m : MethodId) (x0 : Addr) (x1 : Int32) (x2 : Addr) (x3 : Int32) (x4 : Int32) : entryFrame m #[(.ref x0), (.int x1), (.ref x2), (.int x3), (.int x4)] 7 = mkF m 0 #[.val (.ref x0), .val (.int x1), .val (.ref x2), .val (.int x3), .val (.int x4), .unset, .unset] [] := by first | (simp [entryFrame, mkF, argsToLocals, Value.category]; done) | rfl
def own_cmp1_Q (Z : State) (ca : Addr) (b : Addr) (kc : ClassId) (x0 : Int32) (kb : ClassId) (h0 : Heap) (n0 : Nat) (rv : Option Value) (hN : Heap) (LL : List Loc) : Prop := rv = some (.int (1 : Int32)) ∧ Fr n0 LL ∧ Keep h0 hN [b] ∧ Arv Z hN b kb .byte (1 : Int32) [(.int (nar .byte (x0.toInt8.toInt32)))] (.int (0 : Int32))
set_option maxRecDepth 65536 in
set_option maxHeartbeats 40000000 in
theorem own_cmp1 (l : Launch) (Z : State) (a0 : Array Value) (hw : ∀ d ∈ tables_1, d.before a0 Z = true) (ws : List Jvm.Cond) (ca : Addr) (b : Addr) (kc : ClassId) (x0 : Int32) (kb : ClassId) (h0 : Heap) (n0 : Nat) (Z0 : n0 ≤ h0.size) (A : Arv Z h0 ca kc .char (1 : Int32) [(.int x0)] (.int (0 : Int32))) (hl0 : ¬ x0 < (0 : Int32)) (hu0 : ¬ (255 : Int32) < x0) (B : Arv Z h0 b kb .byte (1 : Int32) [(.int (0 : Int32))] (.int (0 : Int32))) (ne : ca ≠ b) (g : n0 ≤ b) :
    MetFree l (⟨"java/lang/StringUTF16", "compress", "([CI[BII)I"⟩ : MethodName) (head1 (Jvm.Cond.code (⟨"java/lang/StringUTF16", "compress", "([CI[BII)I"⟩ : MethodName) jdk_52_method_21_code 7 (some .int) :: ws) ({ frames := 0, cells := 0, slots := 0, locals := 0 } : Room)) (fun aa UU => aa = #[(.ref ca), (.int (0 : Int32)), (.ref b), (.int (0 : Int32)), (.int (1 : Int32))] ∧ Z.Warmed39 UU.vm ∧ UU.heap = h0) (fun _ _ _ _ _ => True) (fun _ UU oo UU' => ∃ rv LL, oo = .returned rv ∧ own_cmp1_Q Z ca b kc x0 kb h0 n0 rv UU'.heap LL ∧ FrameEnd UU oo UU' LL ({ frames := 0, cells := 0, slots := 0, locals := 0 } : Room).cells ({ frames := 0, cells := 0, slots := 0, locals := 0 } : Room).slots) := by
  refine MetFree.of_bodySF (plainFor_of_name own_pn1) hisR ?_
  intro p e s m args below meth c s₁ Bd hml0 hP hK
  obtain ⟨rfl, hZ, hh⟩ := hP
  have hx := Bd.exec
  have hby := Bd.bytes
  have hml : c.maxLocals = 7 := hml0
  have hown : s.vm.findClass "java/lang/StringUTF16" = some m.cls := findClass_of_methodNamed Bd.named
  have hnm := (name_of_methodNamed Bd.named Bd.method).1
  have X0 : Stand p l e ({ frames := 0, cells := 0, slots := 0, locals := 0 } : Room) s m #[(.ref ca), (.int (0 : Int32)), (.ref b), (.int (0 : Int32)), (.int (1 : Int32))] below meth c s₁ [] 0 0 := Stand.of_body Bd
  have e0 : s₁.heap = h0 := by rw [← hh, Bd.state]; rfl
  have N0 := Fr.nil n0
  have K0 : Keep h0 h0 [b] := Keep.refl h0 _
  refine (?_ : OwnGo p.tables e below (fun UU' oo => ∃ rv LL, oo = .returned rv ∧ own_cmp1_Q Z ca b kc x0 kb h0 n0 rv UU'.heap LL ∧ FrameEnd s oo UU' LL ({ frames := 0, cells := 0, slots := 0, locals := 0 } : Room).cells ({ frames := 0, cells := 0, slots := 0, locals := 0 } : Room).slots) _)
  refine OwnGo.back (s₁.setTop (mkF m 0 #[.val (.ref ca), .val (.int (0 : Int32)), .val (.ref b), .val (.int (0 : Int32)), .val (.int (1 : Int32)), .unset, .unset] [])) (fun tg kk => castTop (own_cmp1_ef m ca (0 : Int32) b (0 : Int32) (1 : Int32)) kk) ?_
  refine OwnGo.back (s₁.setTop (mkF m 1 #[.val (.ref ca), .val (.int (0 : Int32)), .val (.ref b), .val (.int (0 : Int32)), .val (.int (1 : Int32)), .unset, .unset] [(.int (0 : Int32))])) (fun tg kk => XS.iconst X0.here hx rfl (hb hby own_d5_0) kk) ?_
  refine OwnGo.back (s₁.setTop (mkF m 3 #[.val (.ref ca), .val (.int (0 : Int32)), .val (.ref b), .val (.int (0 : Int32)), .val (.int (1 : Int32)), .val (.int (0 : Int32)), .unset] [])) (fun tg kk => XS.istore X0.here hx rfl (hb hby own_d5_1) rfl (l' := #[.val (.ref ca), .val (.int (0 : Int32)), .val (.ref b), .val (.int (0 : Int32)), .val (.int (1 : Int32)), .val (.int (0 : Int32)), .unset]) rfl kk) ?_
  refine OwnGo.back (s₁.setTop (mkF m 5 #[.val (.ref ca), .val (.int (0 : Int32)), .val (.ref b), .val (.int (0 : Int32)), .val (.int (1 : Int32)), .val (.int (0 : Int32)), .unset] [(.int (0 : Int32))])) (fun tg kk => XS.iload X0.here hx rfl (hb hby own_d5_3) rfl kk) ?_
  refine OwnGo.back (s₁.setTop (mkF m 7 #[.val (.ref ca), .val (.int (0 : Int32)), .val (.ref b), .val (.int (0 : Int32)), .val (.int (1 : Int32)), .val (.int (0 : Int32)), .unset] [(.int (1 : Int32)), (.int (0 : Int32))])) (fun tg kk => XS.iload X0.here hx rfl (hb hby own_d5_5) rfl kk) ?_
  refine OwnGo.back (s₁.setTop (mkF m 10 #[.val (.ref ca), .val (.int (0 : Int32)), .val (.ref b), .val (.int (0 : Int32)), .val (.int (1 : Int32)), .val (.int (0 : Int32)), .unset] [])) (fun tg kk => XS.icmpNo X0.here hx rfl (hb hby own_d5_7) rfl (tlt (by decide : (0 : Int32) < (1 : Int32))).2.1 kk) ?_
  refine OwnGo.back (s₁.setTop (mkF m 11 #[.val (.ref ca), .val (.int (0 : Int32)), .val (.ref b), .val (.int (0 : Int32)), .val (.int (1 : Int32)), .val (.int (0 : Int32)), .unset] [(.ref ca)])) (fun tg kk => XS.aloadN X0.here hx rfl (hb hby own_d5_10) rfl rfl kk) ?_
  refine OwnGo.back (s₁.setTop (mkF m 12 #[.val (.ref ca), .val (.int (0 : Int32)), .val (.ref b), .val (.int (0 : Int32)), .val (.int (1 : Int32)), .val (.int (0 : Int32)), .unset] [(.int (0 : Int32)), (.ref ca)])) (fun tg kk => XS.iloadN X0.here hx rfl (hb hby own_d5_11) rfl kk) ?_
  obtain ⟨cl_1, Ar_1, qq_1, Sz_1, Ng_1, Hs_1, Gf_1⟩ := id A
  have hin_1 : ¬ ((0 : Int32) < 0 ∨ cl_1.slots.size ≤ ((0 : Int32)).toNatClampNeg) := inb_of Sz_1 ⟨by decide, by decide⟩
  have hat_1 : cl_1.slots[((0 : Int32)).toNatClampNeg]? = some (.int x0) := Has.at Hs_1 hin_1 rfl
  refine OwnGo.back (s₁.setTop (mkF m 13 #[.val (.ref ca), .val (.int (0 : Int32)), .val (.ref b), .val (.int (0 : Int32)), .val (.int (1 : Int32)), .val (.int (0 : Int32)), .unset] [(.int x0)])) (fun tg kk => X0.caload hx (j := (0 : Int32)) (v := (.int x0)) (by rw [e0]; exact Ar_1.1) (State.isArrayOf_alike hZ.alike Ar_1.2.1) Ar_1.2.2 hin_1 hat_1 (g := (mkF m 12 #[.val (.ref ca), .val (.int (0 : Int32)), .val (.ref b), .val (.int (0 : Int32)), .val (.int (1 : Int32)), .val (.int (0 : Int32)), .unset] [(.int (0 : Int32)), (.ref ca)])) rfl rfl (hb hby own_d5_12) _ kk) ?_
  refine OwnGo.back (s₁.setTop (mkF m 15 #[.val (.ref ca), .val (.int (0 : Int32)), .val (.ref b), .val (.int (0 : Int32)), .val (.int (1 : Int32)), .val (.int (0 : Int32)), .val (.int x0)] [])) (fun tg kk => XS.istore X0.here hx rfl (hb hby own_d5_13) rfl (l' := #[.val (.ref ca), .val (.int (0 : Int32)), .val (.ref b), .val (.int (0 : Int32)), .val (.int (1 : Int32)), .val (.int (0 : Int32)), .val (.int x0)]) rfl kk) ?_
  refine OwnGo.back (s₁.setTop (mkF m 17 #[.val (.ref ca), .val (.int (0 : Int32)), .val (.ref b), .val (.int (0 : Int32)), .val (.int (1 : Int32)), .val (.int (0 : Int32)), .val (.int x0)] [(.int x0)])) (fun tg kk => XS.iload X0.here hx rfl (hb hby own_d5_15) rfl kk) ?_
  refine OwnGo.back (s₁.setTop (mkF m 20 #[.val (.ref ca), .val (.int (0 : Int32)), .val (.ref b), .val (.int (0 : Int32)), .val (.int (1 : Int32)), .val (.int (0 : Int32)), .val (.int x0)] [(.int (255 : Int32)), (.int x0)])) (fun tg kk => XS.sipush X0.here hx rfl (hb hby own_d5_17) kk) ?_
  refine OwnGo.back (s₁.setTop (mkF m 26 #[.val (.ref ca), .val (.int (0 : Int32)), .val (.ref b), .val (.int (0 : Int32)), .val (.int (1 : Int32)), .val (.int (0 : Int32)), .val (.int x0)] [])) (fun tg kk => XS.icmpYes X0.here hx rfl (pc0 := 20) (pc' := 26) rfl (hb hby own_d5_20) rfl (flt (hu0 : ¬ ((255 : Int32) < x0))).2.2.2 (by decide) (by decide) kk) ?_
  refine OwnGo.back (s₁.setTop (mkF m 27 #[.val (.ref ca), .val (.int (0 : Int32)), .val (.ref b), .val (.int (0 : Int32)), .val (.int (1 : Int32)), .val (.int (0 : Int32)), .val (.int x0)] [(.ref b)])) (fun tg kk => XS.aloadN X0.here hx rfl (hb hby own_d5_26) rfl rfl kk) ?_
  refine OwnGo.back (s₁.setTop (mkF m 28 #[.val (.ref ca), .val (.int (0 : Int32)), .val (.ref b), .val (.int (0 : Int32)), .val (.int (1 : Int32)), .val (.int (0 : Int32)), .val (.int x0)] [(.int (0 : Int32)), (.ref b)])) (fun tg kk => XS.iloadN X0.here hx rfl (hb hby own_d5_27) rfl kk) ?_
  refine OwnGo.back (s₁.setTop (mkF m 30 #[.val (.ref ca), .val (.int (0 : Int32)), .val (.ref b), .val (.int (0 : Int32)), .val (.int (1 : Int32)), .val (.int (0 : Int32)), .val (.int x0)] [(.int x0), (.int (0 : Int32)), (.ref b)])) (fun tg kk => XS.iload X0.here hx rfl (hb hby own_d5_28) rfl kk) ?_
  refine OwnGo.back (s₁.setTop (mkF m 31 #[.val (.ref ca), .val (.int (0 : Int32)), .val (.ref b), .val (.int (0 : Int32)), .val (.int (1 : Int32)), .val (.int (0 : Int32)), .val (.int x0)] [(.int (x0.toInt8.toInt32)), (.int (0 : Int32)), (.ref b)])) (fun tg kk => XS.i2b X0.here hx rfl (hb hby own_d5_30) rfl kk) ?_
  obtain ⟨cl_2, Ar_2, qq_2, Sz_2, Ng_2, Hs_2, Gf_2⟩ := id B
  have hin_2 : ¬ ((0 : Int32) < 0 ∨ cl_2.slots.size ≤ ((0 : Int32)).toNatClampNeg) := inb_of Sz_2 ⟨by decide, by decide⟩
  obtain ⟨T3, h3, X3, e3, W3, st3⟩ := stB X0 hx hZ e0 Ar_2 (j := (0 : Int32)) hin_2 (g := (mkF m 31 #[.val (.ref ca), .val (.int (0 : Int32)), .val (.ref b), .val (.int (0 : Int32)), .val (.int (1 : Int32)), .val (.int (0 : Int32)), .val (.int x0)] [(.int (x0.toInt8.toInt32)), (.int (0 : Int32)), (.ref b)])) rfl rfl (hb hby own_d5_31)
  have f4 : Arv Z h3 b kb .byte (1 : Int32) [(.int (nar .byte (x0.toInt8.toInt32)))] (.int (0 : Int32)) := Arv.set Ar_2 qq_2 Sz_2 Ng_2 Hs_2 Gf_2 (fits_nar_byte _) W3 0 rfl (Nat.le_of_ble_eq_true rfl)
  have f5 : Arv Z h3 ca kc .char (1 : Int32) [(.int x0)] (.int (0 : Int32)) := A.other W3 ne
  have K6 : Keep h0 h3 [b] := K0.wr W3 (Or.inl (List.mem_of_getElem? (i := 0) rfl))
  have Z7 : n0 ≤ h3.size := Nat.le_trans Z0 (Keep.of_wr W3).1
  have N8 := Fr.snoc X3 N0 g
  refine OwnGo.back (T3.setTop (mkF m 32 #[.val (.ref ca), .val (.int (0 : Int32)), .val (.ref b), .val (.int (0 : Int32)), .val (.int (1 : Int32)), .val (.int (0 : Int32)), .val (.int x0)] [])) (fun tg kk => st3 _ kk) ?_
  refine OwnGo.back (T3.setTop (mkF m 35 #[.val (.ref ca), .val (.int (1 : Int32)), .val (.ref b), .val (.int (0 : Int32)), .val (.int (1 : Int32)), .val (.int (0 : Int32)), .val (.int x0)] [])) (fun tg kk => XS.iinc X3.here hx rfl (hb hby own_d5_32) rfl (l' := #[.val (.ref ca), .val (.int (1 : Int32)), .val (.ref b), .val (.int (0 : Int32)), .val (.int (1 : Int32)), .val (.int (0 : Int32)), .val (.int x0)]) rfl kk) ?_
  refine OwnGo.back (T3.setTop (mkF m 38 #[.val (.ref ca), .val (.int (1 : Int32)), .val (.ref b), .val (.int (1 : Int32)), .val (.int (1 : Int32)), .val (.int (0 : Int32)), .val (.int x0)] [])) (fun tg kk => XS.iinc X3.here hx rfl (hb hby own_d5_35) rfl (l' := #[.val (.ref ca), .val (.int (1 : Int32)), .val (.ref b), .val (.int (1 : Int32)), .val (.int (1 : Int32)), .val (.int (0 : Int32)), .val (.int x0)]) rfl kk) ?_
  refine OwnGo.back (T3.setTop (mkF m 41 #[.val (.ref ca), .val (.int (1 : Int32)), .val (.ref b), .val (.int (1 : Int32)), .val (.int (1 : Int32)), .val (.int (1 : Int32)), .val (.int x0)] [])) (fun tg kk => XS.iinc X3.here hx rfl (hb hby own_d5_38) rfl (l' := #[.val (.ref ca), .val (.int (1 : Int32)), .val (.ref b), .val (.int (1 : Int32)), .val (.int (1 : Int32)), .val (.int (1 : Int32)), .val (.int x0)]) rfl kk) ?_
  refine OwnGo.back (T3.setTop (mkF m 3 #[.val (.ref ca), .val (.int (1 : Int32)), .val (.ref b), .val (.int (1 : Int32)), .val (.int (1 : Int32)), .val (.int (1 : Int32)), .val (.int x0)] [])) (fun tg kk => XS.goto X3.here hx rfl (pc0 := 41) (pc' := 3) rfl (hb hby own_d5_41) (by decide) (by decide) kk) ?_
  refine OwnGo.back (T3.setTop (mkF m 5 #[.val (.ref ca), .val (.int (1 : Int32)), .val (.ref b), .val (.int (1 : Int32)), .val (.int (1 : Int32)), .val (.int (1 : Int32)), .val (.int x0)] [(.int (1 : Int32))])) (fun tg kk => XS.iload X3.here hx rfl (hb hby own_d5_3) rfl kk) ?_
  refine OwnGo.back (T3.setTop (mkF m 7 #[.val (.ref ca), .val (.int (1 : Int32)), .val (.ref b), .val (.int (1 : Int32)), .val (.int (1 : Int32)), .val (.int (1 : Int32)), .val (.int x0)] [(.int (1 : Int32)), (.int (1 : Int32))])) (fun tg kk => XS.iload X3.here hx rfl (hb hby own_d5_5) rfl kk) ?_
  refine OwnGo.back (T3.setTop (mkF m 44 #[.val (.ref ca), .val (.int (1 : Int32)), .val (.ref b), .val (.int (1 : Int32)), .val (.int (1 : Int32)), .val (.int (1 : Int32)), .val (.int x0)] [])) (fun tg kk => XS.icmpYes X3.here hx rfl (pc0 := 7) (pc' := 44) rfl (hb hby own_d5_7) rfl (flt (by decide : ¬ ((1 : Int32) < (1 : Int32)))).2.1 (by decide) (by decide) kk) ?_
  refine OwnGo.back (T3.setTop (mkF m 46 #[.val (.ref ca), .val (.int (1 : Int32)), .val (.ref b), .val (.int (1 : Int32)), .val (.int (1 : Int32)), .val (.int (1 : Int32)), .val (.int x0)] [(.int (1 : Int32))])) (fun tg kk => XS.iload X3.here hx rfl (hb hby own_d5_44) rfl kk) ?_
  obtain ⟨fs, hr, hrun, hended, hW, hsame⟩ := X3.leave (v := some (.int (1 : Int32))) (fun h => by rw [Bd.returns] at h; cases h)
  refine ⟨_, _, ?_, hrun, hended, _, _, rfl, ?_, ⟨_, rfl⟩, hW, hsame.mono (by decide) (by decide)⟩
  · exact own_retI X3 hx Bd.returns (hb hby own_d5_46) hr
  · show own_cmp1_Q Z ca b kc x0 kb h0 n0 _ T3.heap _
    rw [e3]
    exact ⟨rfl, N8, K6, f4⟩
theorem own_cmps1_ef (m : MethodId) (x0 : Addr) (x1 : Int32) (x2 : Int32) : entryFrame m #[(.ref x0), (.int x1), (.int x2)] 6 = mkF m 0 #[.val (.ref x0), .val (.int x1), .val (.int x2), .unset, .unset, .unset] [] := by first | (simp [entryFrame, mkF, argsToLocals, Value.category]; done) | rfl
def own_cmps1_Q (Z : State) (ca : Addr) (kc : ClassId) (x0 : Int32) (h0 : Heap) (n0 : Nat) (rv : Option Value) (hN : Heap) (LL : List Loc) : Prop := ∃ (b : Addr), ∃ (kb : ClassId), rv = some (.ref b) ∧ Fr n0 LL ∧ Keep h0 hN [] ∧ h0.size ≤ b ∧ Arv Z hN b kb .byte (1 : Int32) [(.int (nar .byte (x0.toInt8.toInt32)))] (.int (0 : Int32))
set_option maxRecDepth 65536 in
set_option maxHeartbeats 40000000 in
theorem own_cmps1 (l : Launch) (Z : State) (a0 : Array Value) (hw : ∀ d ∈ tables_1, d.before a0 Z = true) (ws : List Jvm.Cond) (ca : Addr) (kc : ClassId) (x0 : Int32) (h0 : Heap) (n0 : Nat) (Z0 : n0 ≤ h0.size) (A : Arv Z h0 ca kc .char (1 : Int32) [(.int x0)] (.int (0 : Int32))) (hl0 : ¬ x0 < (0 : Int32)) (hu0 : ¬ (255 : Int32) < x0) :
    MetFree l (⟨"java/lang/StringUTF16", "compress", "([CII)[B"⟩ : MethodName) (head1 (Jvm.Cond.code (⟨"java/lang/StringUTF16", "compress", "([CII)[B"⟩ : MethodName) jdk_52_method_16_code 6 (some (.array .byte)) :: ws) ({ frames := 1, cells := 1, slots := 1, locals := 18 } : Room)) (fun aa UU => aa = #[(.ref ca), (.int (0 : Int32)), (.int (1 : Int32))] ∧ Z.Warmed39 UU.vm ∧ UU.heap = h0) (fun _ _ _ _ _ => True) (fun _ UU oo UU' => ∃ rv LL, oo = .returned rv ∧ own_cmps1_Q Z ca kc x0 h0 n0 rv UU'.heap LL ∧ FrameEnd UU oo UU' LL ({ frames := 1, cells := 1, slots := 1, locals := 18 } : Room).cells ({ frames := 1, cells := 1, slots := 1, locals := 18 } : Room).slots) := by
  refine MetFree.of_bodySF (plainFor_of_name own_pn1) hisR ?_
  intro p e s m args below meth c s₁ Bd hml0 hP hK
  obtain ⟨rfl, hZ, hh⟩ := hP
  have hx := Bd.exec
  have hby := Bd.bytes
  have hml : c.maxLocals = 6 := hml0
  have hown : s.vm.findClass "java/lang/StringUTF16" = some m.cls := findClass_of_methodNamed Bd.named
  have hnm := (name_of_methodNamed Bd.named Bd.method).1
  have X0 : Stand p l e ({ frames := 1, cells := 1, slots := 1, locals := 18 } : Room) s m #[(.ref ca), (.int (0 : Int32)), (.int (1 : Int32))] below meth c s₁ [] 0 0 := Stand.of_body Bd
  have e0 : s₁.heap = h0 := by rw [← hh, Bd.state]; rfl
  have N0 := Fr.nil n0
  have K0 : Keep h0 h0 [] := Keep.refl h0 _
  refine (?_ : OwnGo p.tables e below (fun UU' oo => ∃ rv LL, oo = .returned rv ∧ own_cmps1_Q Z ca kc x0 h0 n0 rv UU'.heap LL ∧ FrameEnd s oo UU' LL ({ frames := 1, cells := 1, slots := 1, locals := 18 } : Room).cells ({ frames := 1, cells := 1, slots := 1, locals := 18 } : Room).slots) _)
  refine OwnGo.back (s₁.setTop (mkF m 0 #[.val (.ref ca), .val (.int (0 : Int32)), .val (.int (1 : Int32)), .unset, .unset, .unset] [])) (fun tg kk => castTop (own_cmps1_ef m ca (0 : Int32) (1 : Int32)) kk) ?_
  refine OwnGo.back (s₁.setTop (mkF m 1 #[.val (.ref ca), .val (.int (0 : Int32)), .val (.int (1 : Int32)), .unset, .unset, .unset] [(.int (1 : Int32))])) (fun tg kk => XS.iloadN X0.here hx rfl (hb hby own_d4_0) rfl kk) ?_
  obtain ⟨T1, h1, k1, X1, e1, E1, A1, st1⟩ := newP X0 hx hZ (hw _ (List.mem_of_getElem? (i := 15) rfl)) e0 (g := (mkF m 1 #[.val (.ref ca), .val (.int (0 : Int32)), .val (.int (1 : Int32)), .unset, .unset, .unset] [(.int (1 : Int32))])) rfl (hb hby own_d4_1) rfl (by decide) (cap := 1) (by decide) (by decide) (by decide) (by decide)
  obtain ⟨b1, q1⟩ : ∃ z, z = h0.size := ⟨_, rfl⟩
  rw [← q1] at A1 st1
  have n2 : ca ≠ b1 := own_ne A.lt q1
  have g3 : n0 ≤ b1 := Nat.le_trans Z0 (Nat.le_of_eq q1.symm)
  have s4 : h0.size ≤ b1 := Nat.le_trans K0.1 (Nat.le_of_eq q1.symm)
  have f5 : Arv Z h1 ca kc .char (1 : Int32) [(.int x0)] (.int (0 : Int32)) := A.ext E1
  have K6 : Keep h0 h1 [] := K0.ext E1
  have Z7 : n0 ≤ h1.size := Nat.le_trans Z0 E1.1
  have f8 : Arv Z h1 b1 k1 .byte (1 : Int32) [(.int (0 : Int32))] (.int (0 : Int32)) := (Arv.new A1 (by decide)).pad (pad_rep [] (.int (0 : Int32)) 1)
  refine OwnGo.back (T1.setTop (mkF m 3 #[.val (.ref ca), .val (.int (0 : Int32)), .val (.int (1 : Int32)), .unset, .unset, .unset] [(.ref b1)])) (fun tg kk => st1 _ kk) ?_
  refine OwnGo.back (T1.setTop (mkF m 4 #[.val (.ref ca), .val (.int (0 : Int32)), .val (.int (1 : Int32)), .val (.ref b1), .unset, .unset] [])) (fun tg kk => XS.astoreN X1.here hx rfl (hb hby own_d4_3) rfl rfl (l' := #[.val (.ref ca), .val (.int (0 : Int32)), .val (.int (1 : Int32)), .val (.ref b1), .unset, .unset]) rfl kk) ?_
  refine OwnGo.back (T1.setTop (mkF m 5 #[.val (.ref ca), .val (.int (0 : Int32)), .val (.int (1 : Int32)), .val (.ref b1), .unset, .unset] [(.ref ca)])) (fun tg kk => XS.aloadN X1.here hx rfl (hb hby own_d4_4) rfl rfl kk) ?_
  refine OwnGo.back (T1.setTop (mkF m 6 #[.val (.ref ca), .val (.int (0 : Int32)), .val (.int (1 : Int32)), .val (.ref b1), .unset, .unset] [(.int (0 : Int32)), (.ref ca)])) (fun tg kk => XS.iloadN X1.here hx rfl (hb hby own_d4_5) rfl kk) ?_
  refine OwnGo.back (T1.setTop (mkF m 7 #[.val (.ref ca), .val (.int (0 : Int32)), .val (.int (1 : Int32)), .val (.ref b1), .unset, .unset] [(.ref b1), (.int (0 : Int32)), (.ref ca)])) (fun tg kk => XS.aloadN X1.here hx rfl (hb hby own_d4_6) rfl rfl kk) ?_
  refine OwnGo.back (T1.setTop (mkF m 8 #[.val (.ref ca), .val (.int (0 : Int32)), .val (.int (1 : Int32)), .val (.ref b1), .unset, .unset] [(.int (0 : Int32)), (.ref b1), (.int (0 : Int32)), (.ref ca)])) (fun tg kk => XS.iconst X1.here hx rfl (hb hby own_d4_7) kk) ?_
  refine OwnGo.back (T1.setTop (mkF m 9 #[.val (.ref ca), .val (.int (0 : Int32)), .val (.int (1 : Int32)), .val (.ref b1), .unset, .unset] [(.int (1 : Int32)), (.int (0 : Int32)), (.ref b1), (.int (0 : Int32)), (.ref ca)])) (fun tg kk => XS.iloadN X1.here hx rfl (hb hby own_d4_8) rfl kk) ?_
  obtain ⟨_, _, ⟨T9, L9, k9, n9⟩, -, X9, ⟨Lc9, hQ9, l9, y9, z9⟩, st9⟩ := Jvm.LawKit.callS X1 hx (y := (⟨"java/lang/StringUTF16", "compress", "([CI[BII)I"⟩ : MethodName)) hown (mvT hZ (hw _ (List.mem_of_getElem? (i := 27) rfl))) (mvT hZ (hw _ (List.mem_of_getElem? (i := 28) rfl))) (mvT hZ (hw _ (List.mem_of_getElem? (i := 25) rfl))) (mvT hZ (hw _ (List.mem_of_getElem? (i := 29) rfl))) (by decide) (backOf (W := 0) (own_cmp1 l Z a0 hw [] ca b1 kc x0 k1 h1 n0 Z7 f5 hl0 hu0 f8 n2 g3) hZ (hw _ (List.mem_of_getElem? (i := 29) rfl)) (hw _ (List.mem_of_getElem? (i := 25) rfl)) (by decide) (by decide)) (g := (mkF m 9 #[.val (.ref ca), .val (.int (0 : Int32)), .val (.int (1 : Int32)), .val (.ref b1), .unset, .unset] [(.int (1 : Int32)), (.int (0 : Int32)), (.ref b1), (.int (0 : Int32)), (.ref ca)])) rfl (by rw [hml]; rfl) (argsL := [(.ref ca), (.int (0 : Int32)), (.ref b1), (.int (0 : Int32)), (.int (1 : Int32))]) (rest := []) (lenOf own_pd1 rfl) rfl (by show 2 * 0 + _ ≤ _; exact Nat.le_of_eq rfl) (hb hby own_d4_9) (fun _ _ => ⟨rfl, e1, (by decide : 1 + 0 ≤ _), (by decide : 1 + 0 ≤ _)⟩)
  dsimp only [Pt.U, Pt.locs, Pt.cells, Pt.slots] at X9 l9 y9 z9 st9 hQ9
  subst l9 y9 z9
  obtain ⟨rfl, N9q, Kc9, po10⟩ := hQ9
  have N9 := Fr.app N0 N9q
  have f11 : Arv Z T9.heap ca kc .char (1 : Int32) [(.int x0)] (.int (0 : Int32)) := f5.keep Kc9 (ninS n2 nin0)
  have K12 : Keep h0 T9.heap [] := K6.trans Kc9 (allS (Or.inr s4) all0)
  have Z13 : n0 ≤ T9.heap.size := Nat.le_trans Z7 Kc9.1
  refine OwnGo.back (T9.setTop (mkF m 12 #[.val (.ref ca), .val (.int (0 : Int32)), .val (.int (1 : Int32)), .val (.ref b1), .unset, .unset] [(.int (1 : Int32))])) (fun tg kk => st9 _ kk) ?_
  refine OwnGo.back (T9.setTop (mkF m 14 #[.val (.ref ca), .val (.int (0 : Int32)), .val (.int (1 : Int32)), .val (.ref b1), .val (.int (1 : Int32)), .unset] [])) (fun tg kk => XS.istore X9.here hx rfl (hb hby own_d4_12) rfl (l' := #[.val (.ref ca), .val (.int (0 : Int32)), .val (.int (1 : Int32)), .val (.ref b1), .val (.int (1 : Int32)), .unset]) rfl kk) ?_
  refine OwnGo.back (T9.setTop (mkF m 16 #[.val (.ref ca), .val (.int (0 : Int32)), .val (.int (1 : Int32)), .val (.ref b1), .val (.int (1 : Int32)), .unset] [(.int (1 : Int32))])) (fun tg kk => XS.iload X9.here hx rfl (hb hby own_d4_14) rfl kk) ?_
  refine OwnGo.back (T9.setTop (mkF m 17 #[.val (.ref ca), .val (.int (0 : Int32)), .val (.int (1 : Int32)), .val (.ref b1), .val (.int (1 : Int32)), .unset] [(.int (1 : Int32)), (.int (1 : Int32))])) (fun tg kk => XS.iloadN X9.here hx rfl (hb hby own_d4_16) rfl kk) ?_
  refine OwnGo.back (T9.setTop (mkF m 57 #[.val (.ref ca), .val (.int (0 : Int32)), .val (.int (1 : Int32)), .val (.ref b1), .val (.int (1 : Int32)), .unset] [])) (fun tg kk => XS.icmpYes X9.here hx rfl (pc0 := 17) (pc' := 57) rfl (hb hby own_d4_17) rfl (teq (by decide : (1 : Int32) = (1 : Int32))).1 (by decide) (by decide) kk) ?_
  refine OwnGo.back (T9.setTop (mkF m 58 #[.val (.ref ca), .val (.int (0 : Int32)), .val (.int (1 : Int32)), .val (.ref b1), .val (.int (1 : Int32)), .unset] [(.ref b1)])) (fun tg kk => XS.aloadN X9.here hx rfl (hb hby own_d4_57) rfl rfl kk) ?_
  obtain ⟨fs, hr, hrun, hended, hW, hsame⟩ := X9.leave (v := some (.ref b1)) (fun h => by rw [Bd.returns] at h; cases h)
  refine ⟨_, _, ?_, hrun, hended, _, _, rfl, ?_, ⟨_, rfl⟩, hW, hsame.mono (by decide) (by decide)⟩
  · exact own_retA X9 hx Bd.returns rfl rfl rfl (hb hby own_d4_58) hr
  · show own_cmps1_Q Z ca kc x0 h0 n0 _ T9.heap _
    exact ⟨b1, k1, rfl, N9, K12, s4, po10⟩
theorem own_cfl1_ef (m : MethodId) (x0 : Addr) (x1 : Int32) : entryFrame m #[(.ref x0), (.int x1)] 2 = mkF m 0 #[.val (.ref x0), .val (.int x1)] [] := by first | (simp [entryFrame, mkF, argsToLocals, Value.category]; done) | rfl
def own_cfl1_Q (Z : State) (b : Addr) (kb : ClassId) (x0 : Int32) (h0 : Heap) (n0 : Nat) (rv : Option Value) (hN : Heap) (LL : List Loc) : Prop := rv = some (.int (0 : Int32)) ∧ Fr n0 LL ∧ hN = h0
set_option maxRecDepth 65536 in
set_option maxHeartbeats 40000000 in
theorem own_cfl1 (l : Launch) (Z : State) (a0 : Array Value) (hw : ∀ d ∈ tables_1, d.before a0 Z = true) (ws : List Jvm.Cond) (b : Addr) (kb : ClassId) (x0 : Int32) (h0 : Heap) (n0 : Nat) (Z0 : n0 ≤ h0.size) (B : Arv Z h0 b kb .byte (1 : Int32) [(.int (nar .byte (x0.toInt8.toInt32)))] (.int (0 : Int32))) :
    MetFree l (⟨"java/lang/StringUTF16", "coderFromArrayLen", "([BI)B"⟩ : MethodName) (head1 (Jvm.Cond.code (⟨"java/lang/StringUTF16", "coderFromArrayLen", "([BI)B"⟩ : MethodName) jdk_52_method_15_code 2 (some .byte) :: ws) ({ frames := 0, cells := 0, slots := 0, locals := 0 } : Room)) (fun aa UU => aa = #[(.ref b), (.int (1 : Int32))] ∧ Z.Warmed39 UU.vm ∧ UU.heap = h0) (fun _ _ _ _ _ => True) (fun _ UU oo UU' => ∃ rv LL, oo = .returned rv ∧ own_cfl1_Q Z b kb x0 h0 n0 rv UU'.heap LL ∧ FrameEnd UU oo UU' LL ({ frames := 0, cells := 0, slots := 0, locals := 0 } : Room).cells ({ frames := 0, cells := 0, slots := 0, locals := 0 } : Room).slots) := by
  refine MetFree.of_bodySF (plainFor_of_name own_pn1) hisR ?_
  intro p e s m args below meth c s₁ Bd hml0 hP hK
  obtain ⟨rfl, hZ, hh⟩ := hP
  have hx := Bd.exec
  have hby := Bd.bytes
  have hml : c.maxLocals = 2 := hml0
  have hown : s.vm.findClass "java/lang/StringUTF16" = some m.cls := findClass_of_methodNamed Bd.named
  have hnm := (name_of_methodNamed Bd.named Bd.method).1
  have X0 : Stand p l e ({ frames := 0, cells := 0, slots := 0, locals := 0 } : Room) s m #[(.ref b), (.int (1 : Int32))] below meth c s₁ [] 0 0 := Stand.of_body Bd
  have e0 : s₁.heap = h0 := by rw [← hh, Bd.state]; rfl
  have N0 := Fr.nil n0
  have K0 : Keep h0 h0 [] := Keep.refl h0 _
  refine (?_ : OwnGo p.tables e below (fun UU' oo => ∃ rv LL, oo = .returned rv ∧ own_cfl1_Q Z b kb x0 h0 n0 rv UU'.heap LL ∧ FrameEnd s oo UU' LL ({ frames := 0, cells := 0, slots := 0, locals := 0 } : Room).cells ({ frames := 0, cells := 0, slots := 0, locals := 0 } : Room).slots) _)
  refine OwnGo.back (s₁.setTop (mkF m 0 #[.val (.ref b), .val (.int (1 : Int32))] [])) (fun tg kk => castTop (own_cfl1_ef m b (1 : Int32)) kk) ?_
  refine OwnGo.back (s₁.setTop (mkF m 1 #[.val (.ref b), .val (.int (1 : Int32))] [(.int (1 : Int32))])) (fun tg kk => XS.iloadN X0.here hx rfl (hb hby own_d6_0) rfl kk) ?_
  refine OwnGo.back (s₁.setTop (mkF m 2 #[.val (.ref b), .val (.int (1 : Int32))] [(.ref b), (.int (1 : Int32))])) (fun tg kk => XS.aloadN X0.here hx rfl (hb hby own_d6_1) rfl rfl kk) ?_
  obtain ⟨cl_1, Ar_1, -, Sz_1, Ng_1, -, -⟩ := id B
  refine OwnGo.back (s₁.setTop (mkF m 3 #[.val (.ref b), .val (.int (1 : Int32))] [(.int (1 : Int32)), (.int (1 : Int32))])) (fun tg kk => X0.arraylength hx (by rw [e0]; exact Ar_1.1) (State.isArrayOf_alike hZ.alike Ar_1.2.1) (g := (mkF m 2 #[.val (.ref b), .val (.int (1 : Int32))] [(.ref b), (.int (1 : Int32))])) rfl rfl (hb hby own_d6_2) _ (by rw [len_of Sz_1 Ng_1]; exact kk)) ?_
  refine OwnGo.back (s₁.setTop (mkF m 4 #[.val (.ref b), .val (.int (1 : Int32))] [(.int (0 : Int32))])) (fun tg kk => XS.isub X0.here hx rfl (hb hby own_d6_3) rfl kk) ?_
  refine OwnGo.back (s₁.setTop (mkF m 6 #[.val (.ref b), .val (.int (1 : Int32))] [(.int (31 : Int32)), (.int (0 : Int32))])) (fun tg kk => XS.bipush X0.here hx rfl (hb hby own_d6_4) kk) ?_
  refine OwnGo.back (s₁.setTop (mkF m 7 #[.val (.ref b), .val (.int (1 : Int32))] [(.int (0 : Int32))])) (fun tg kk => XS.iushr X0.here hx rfl (hb hby own_d6_6) rfl kk) ?_
  refine OwnGo.back (s₁.setTop (mkF m 8 #[.val (.ref b), .val (.int (1 : Int32))] [(.int (0 : Int32))])) (fun tg kk => XS.i2b X0.here hx rfl (hb hby own_d6_7) rfl kk) ?_
  obtain ⟨fs, hr, hrun, hended, hW, hsame⟩ := X0.leave (v := some (.int (0 : Int32))) (fun h => by rw [Bd.returns] at h; cases h)
  refine ⟨_, _, ?_, hrun, hended, _, _, rfl, ?_, ⟨_, rfl⟩, hW, hsame.mono (by decide) (by decide)⟩
  · exact retN X0 hx (t := .byte) Bd.returns (by simp) (hb hby own_d6_8) hr
  · show own_cfl1_Q Z b kb x0 h0 n0 _ s₁.heap _
    rw [e0]
    exact ⟨rfl, N0, rfl⟩
theorem own_i4_1_ef (m : MethodId) (x0 : Addr) (x1 : Addr) (x2 : Int32) (x3 : Int32) : entryFrame m #[(.ref x0), (.ref x1), (.int x2), (.int x3), .null] 6 = mkF m 0 #[.val (.ref x0), .val (.ref x1), .val (.int x2), .val (.int x3), .val .null, .unset] [] := by first | (simp [entryFrame, mkF, argsToLocals, Value.category]; done) | rfl
def own_i4_1_Q (Z : State) (a : Addr) (ca : Addr) (kc : ClassId) (x0 : Int32) (cs : Int32) (h0 : Heap) (n0 : Nat) (rv : Option Value) (hN : Heap) (LL : List Loc) : Prop := ∃ (b : Addr), ∃ (kb : ClassId), rv = none ∧ Fr n0 LL ∧ Keep h0 hN [a] ∧ h0.size ≤ b ∧ Exa Z hN a "java/lang/String" ∧ Fld Z hN a "java/lang/String" "value" "[B" (.ref b) ∧ Fld Z hN a "java/lang/String" "coder" "B" (.int (0 : Int32)) ∧ Arv Z hN b kb .byte (1 : Int32) [(.int (nar .byte (x0.toInt8.toInt32)))] (.int (0 : Int32))
set_option maxRecDepth 65536 in
set_option maxHeartbeats 40000000 in
theorem own_i4_1 (l : Launch) (Z : State) (a0 : Array Value) (hw : ∀ d ∈ tables_1, d.before a0 Z = true) (ws : List Jvm.Cond) (a : Addr) (ca : Addr) (kc : ClassId) (x0 : Int32) (cs : Int32) (h0 : Heap) (n0 : Nat) (Z0 : n0 ≤ h0.size) (A : Arv Z h0 ca kc .char (1 : Int32) [(.int x0)] (.int (0 : Int32))) (hl0 : ¬ x0 < (0 : Int32)) (hu0 : ¬ (255 : Int32) < x0) (S : Sta Z Z.heap "java/lang/String" "COMPACT_STRINGS" "Z" (.int cs)) (old : Old Z n0 h0) (hcs : ¬ cs = 0) (H0 : Exa Z h0 a "java/lang/String") (H1 : Fld Z h0 a "java/lang/String" "value" "[B" .null) (H2 : Fld Z h0 a "java/lang/String" "coder" "B" (.int (0 : Int32))) (H3 : n0 ≤ a) (H4 : a ≠ ca) :
    MetFree l (⟨"java/lang/String", "<init>", "([CIILjava/lang/Void;)V"⟩ : MethodName) (head1 (Jvm.Cond.code (⟨"java/lang/String", "<init>", "([CIILjava/lang/Void;)V"⟩ : MethodName) jdk_42_method_149_code 6 none :: ws) ({ frames := 2, cells := 1, slots := 1, locals := 35 } : Room)) (fun aa UU => aa = #[(.ref a), (.ref ca), (.int (0 : Int32)), (.int (1 : Int32)), .null] ∧ Z.Warmed39 UU.vm ∧ UU.heap = h0) (fun _ _ _ _ _ => True) (fun _ UU oo UU' => ∃ rv LL, oo = .returned rv ∧ own_i4_1_Q Z a ca kc x0 cs h0 n0 rv UU'.heap LL ∧ FrameEnd UU oo UU' LL ({ frames := 2, cells := 1, slots := 1, locals := 35 } : Room).cells ({ frames := 2, cells := 1, slots := 1, locals := 35 } : Room).slots) := by
  refine MetFree.of_bodySF (plainFor_of_name own_pn0) hisR ?_
  intro p e s m args below meth c s₁ Bd hml0 hP hK
  obtain ⟨rfl, hZ, hh⟩ := hP
  have hx := Bd.exec
  have hby := Bd.bytes
  have hml : c.maxLocals = 6 := hml0
  have hown : s.vm.findClass "java/lang/String" = some m.cls := findClass_of_methodNamed Bd.named
  have hnm := (name_of_methodNamed Bd.named Bd.method).1
  have X0 : Stand p l e ({ frames := 2, cells := 1, slots := 1, locals := 35 } : Room) s m #[(.ref a), (.ref ca), (.int (0 : Int32)), (.int (1 : Int32)), .null] below meth c s₁ [] 0 0 := Stand.of_body Bd
  have e0 : s₁.heap = h0 := by rw [← hh, Bd.state]; rfl
  have N0 := Fr.nil n0
  have K0 : Keep h0 h0 [a] := Keep.refl h0 _
  refine (?_ : OwnGo p.tables e below (fun UU' oo => ∃ rv LL, oo = .returned rv ∧ own_i4_1_Q Z a ca kc x0 cs h0 n0 rv UU'.heap LL ∧ FrameEnd s oo UU' LL ({ frames := 2, cells := 1, slots := 1, locals := 35 } : Room).cells ({ frames := 2, cells := 1, slots := 1, locals := 35 } : Room).slots) _)
  refine OwnGo.back (s₁.setTop (mkF m 0 #[.val (.ref a), .val (.ref ca), .val (.int (0 : Int32)), .val (.int (1 : Int32)), .val .null, .unset] [])) (fun tg kk => castTop (own_i4_1_ef m a ca (0 : Int32) (1 : Int32)) kk) ?_
  refine OwnGo.back (s₁.setTop (mkF m 1 #[.val (.ref a), .val (.ref ca), .val (.int (0 : Int32)), .val (.int (1 : Int32)), .val .null, .unset] [(.ref a)])) (fun tg kk => XS.aloadN X0.here hx rfl (hb hby own_d2_0) rfl rfl kk) ?_
  obtain ⟨T1, X1, e1, st1⟩ := initO X0 hx hZ hown (hw _ (List.mem_of_getElem? (i := 11) rfl)) (hw _ (List.mem_of_getElem? (i := 12) rfl)) (hw _ (List.mem_of_getElem? (i := 13) rfl)) e0 (g := (mkF m 1 #[.val (.ref a), .val (.ref ca), .val (.int (0 : Int32)), .val (.int (1 : Int32)), .val .null, .unset] [(.ref a)])) rfl (by rw [hml]; rfl) rfl (hb hby own_d2_1) (by decide) (W := 0) (by show 2 * 0 + _ ≤ _; exact Nat.le_of_eq rfl) (by decide)
  refine OwnGo.back (T1.setTop (mkF m 4 #[.val (.ref a), .val (.ref ca), .val (.int (0 : Int32)), .val (.int (1 : Int32)), .val .null, .unset] [])) (fun tg kk => st1 _ kk) ?_
  refine OwnGo.back (T1.setTop (mkF m 5 #[.val (.ref a), .val (.ref ca), .val (.int (0 : Int32)), .val (.int (1 : Int32)), .val .null, .unset] [(.int (1 : Int32))])) (fun tg kk => XS.iloadN X1.here hx rfl (hb hby own_d2_4) rfl kk) ?_
  refine OwnGo.back (T1.setTop (mkF m 27 #[.val (.ref a), .val (.ref ca), .val (.int (0 : Int32)), .val (.int (1 : Int32)), .val .null, .unset] [])) (fun tg kk => XS.ifYes X1.here hx rfl (pc0 := 5) (pc' := 27) rfl (hb hby own_d2_5) rfl ((if0 _ _).trans (feq (by decide : ¬ ((1 : Int32) = (0 : Int32)))).2) (by decide) (by decide) kk) ?_
  obtain ⟨T2, X2, e2, st2⟩ := getS2 X1 hx hZ hown (host := "") (Or.inl (hw _ (List.mem_of_getElem? (i := 22) rfl))) Via.refl e1 (S.ext old.2) (g := (mkF m 27 #[.val (.ref a), .val (.ref ca), .val (.int (0 : Int32)), .val (.int (1 : Int32)), .val .null, .unset] [])) rfl (hb hby own_d2_27)
  refine OwnGo.back (T2.setTop (mkF m 30 #[.val (.ref a), .val (.ref ca), .val (.int (0 : Int32)), .val (.int (1 : Int32)), .val .null, .unset] [(.int cs)])) (fun tg kk => st2 _ kk) ?_
  refine OwnGo.back (T2.setTop (mkF m 33 #[.val (.ref a), .val (.ref ca), .val (.int (0 : Int32)), .val (.int (1 : Int32)), .val .null, .unset] [])) (fun tg kk => XS.ifNo X2.here hx rfl (hb hby own_d2_30) rfl ((if0 _ _).trans (feq (hcs : ¬ (cs = (0 : Int32)))).1) kk) ?_
  refine OwnGo.back (T2.setTop (mkF m 34 #[.val (.ref a), .val (.ref ca), .val (.int (0 : Int32)), .val (.int (1 : Int32)), .val .null, .unset] [(.ref ca)])) (fun tg kk => XS.aloadN X2.here hx rfl (hb hby own_d2_33) rfl rfl kk) ?_
  refine OwnGo.back (T2.setTop (mkF m 35 #[.val (.ref a), .val (.ref ca), .val (.int (0 : Int32)), .val (.int (1 : Int32)), .val .null, .unset] [(.int (0 : Int32)), (.ref ca)])) (fun tg kk => XS.iloadN X2.here hx rfl (hb hby own_d2_34) rfl kk) ?_
  refine OwnGo.back (T2.setTop (mkF m 36 #[.val (.ref a), .val (.ref ca), .val (.int (0 : Int32)), .val (.int (1 : Int32)), .val .null, .unset] [(.int (1 : Int32)), (.int (0 : Int32)), (.ref ca)])) (fun tg kk => XS.iloadN X2.here hx rfl (hb hby own_d2_35) rfl kk) ?_
  obtain ⟨_, _, ⟨T3, L3, k3, n3⟩, -, X3, ⟨Lc3, hQ3, l3, y3, z3⟩, st3⟩ := Jvm.LawKit.callS X2 hx (y := (⟨"java/lang/StringUTF16", "compress", "([CII)[B"⟩ : MethodName)) hown (mvT hZ (hw _ (List.mem_of_getElem? (i := 23) rfl))) (mvT hZ (hw _ (List.mem_of_getElem? (i := 24) rfl))) (mvT hZ (hw _ (List.mem_of_getElem? (i := 25) rfl))) (mvT hZ (hw _ (List.mem_of_getElem? (i := 26) rfl))) (by decide) (backOf (W := 0) (own_cmps1 l Z a0 hw [] ca kc x0 h0 n0 Z0 A hl0 hu0) hZ (hw _ (List.mem_of_getElem? (i := 26) rfl)) (hw _ (List.mem_of_getElem? (i := 25) rfl)) (by decide) (by decide)) (g := (mkF m 36 #[.val (.ref a), .val (.ref ca), .val (.int (0 : Int32)), .val (.int (1 : Int32)), .val .null, .unset] [(.int (1 : Int32)), (.int (0 : Int32)), (.ref ca)])) rfl (by rw [hml]; rfl) (argsL := [(.ref ca), (.int (0 : Int32)), (.int (1 : Int32))]) (rest := []) (lenOf own_pd2 rfl) rfl (by show 2 * 0 + _ ≤ _; exact Nat.le_of_eq rfl) (hb hby own_d2_36) (fun _ _ => ⟨rfl, e2, (by decide : 0 + 1 ≤ _), (by decide : 0 + 1 ≤ _)⟩)
  dsimp only [Pt.U, Pt.locs, Pt.cells, Pt.slots] at X3 l3 y3 z3 st3 hQ3
  subst l3 y3 z3
  obtain ⟨b_4, kb_5, rfl, N3q, Kc3, po6, po7⟩ := hQ3
  have N3 := Fr.app N0 N3q
  have f8 : Arv Z T3.heap ca kc .char (1 : Int32) [(.int x0)] (.int (0 : Int32)) := A.keep Kc3 nin0
  have f9 : Old Z n0 T3.heap := old.keep Kc3 all0
  have f10 : Exa Z T3.heap a "java/lang/String" := H0.keep Kc3
  have f11 : Fld Z T3.heap a "java/lang/String" "value" "[B" .null := H1.keep Kc3 nin0
  have f12 : Fld Z T3.heap a "java/lang/String" "coder" "B" (.int (0 : Int32)) := H2.keep Kc3 nin0
  have K13 : Keep h0 T3.heap [a] := K0.trans Kc3 all0
  have Z14 : n0 ≤ T3.heap.size := Nat.le_trans Z0 Kc3.1
  have n15 : a ≠ b_4 := own_ne' H0.lt po6
  have n16 : ca ≠ b_4 := own_ne' A.lt po6
  have g17 : n0 ≤ b_4 := Nat.le_trans Z0 po6
  have s18 : h0.size ≤ b_4 := Nat.le_trans K0.1 po6
  refine OwnGo.back (T3.setTop (mkF m 39 #[.val (.ref a), .val (.ref ca), .val (.int (0 : Int32)), .val (.int (1 : Int32)), .val .null, .unset] [(.ref b_4)])) (fun tg kk => st3 _ kk) ?_
  refine OwnGo.back (T3.setTop (mkF m 41 #[.val (.ref a), .val (.ref ca), .val (.int (0 : Int32)), .val (.int (1 : Int32)), .val .null, .val (.ref b_4)] [])) (fun tg kk => XS.astore X3.here hx rfl (hb hby own_d2_39) rfl rfl (l' := #[.val (.ref a), .val (.ref ca), .val (.int (0 : Int32)), .val (.int (1 : Int32)), .val .null, .val (.ref b_4)]) rfl kk) ?_
  refine OwnGo.back (T3.setTop (mkF m 42 #[.val (.ref a), .val (.ref ca), .val (.int (0 : Int32)), .val (.int (1 : Int32)), .val .null, .val (.ref b_4)] [(.ref a)])) (fun tg kk => XS.aloadN X3.here hx rfl (hb hby own_d2_41) rfl rfl kk) ?_
  refine OwnGo.back (T3.setTop (mkF m 44 #[.val (.ref a), .val (.ref ca), .val (.int (0 : Int32)), .val (.int (1 : Int32)), .val .null, .val (.ref b_4)] [(.ref b_4), (.ref a)])) (fun tg kk => XS.aload X3.here hx rfl (hb hby own_d2_42) rfl rfl kk) ?_
  refine OwnGo.back (T3.setTop (mkF m 45 #[.val (.ref a), .val (.ref ca), .val (.int (0 : Int32)), .val (.int (1 : Int32)), .val .null, .val (.ref b_4)] [(.int (1 : Int32)), (.ref b_4), (.ref a)])) (fun tg kk => XS.iloadN X3.here hx rfl (hb hby own_d2_44) rfl kk) ?_
  obtain ⟨_, _, ⟨T19, L19, k19, n19⟩, -, X19, ⟨Lc19, hQ19, l19, y19, z19⟩, st19⟩ := Jvm.LawKit.callS X3 hx (y := (⟨"java/lang/StringUTF16", "coderFromArrayLen", "([BI)B"⟩ : MethodName)) hown (mvT hZ (hw _ (List.mem_of_getElem? (i := 30) rfl))) (mvT hZ (hw _ (List.mem_of_getElem? (i := 31) rfl))) (mvT hZ (hw _ (List.mem_of_getElem? (i := 25) rfl))) (mvT hZ (hw _ (List.mem_of_getElem? (i := 32) rfl))) (by decide) (backOf (W := 1) (own_cfl1 l Z a0 hw [] b_4 kb_5 x0 T3.heap n0 Z14 po7) hZ (hw _ (List.mem_of_getElem? (i := 32) rfl)) (hw _ (List.mem_of_getElem? (i := 25) rfl)) (by decide) (by decide)) (g := (mkF m 45 #[.val (.ref a), .val (.ref ca), .val (.int (0 : Int32)), .val (.int (1 : Int32)), .val .null, .val (.ref b_4)] [(.int (1 : Int32)), (.ref b_4), (.ref a)])) rfl (by rw [hml]; rfl) (argsL := [(.ref b_4), (.int (1 : Int32))]) (rest := [(.ref a)]) (lenOf own_pd3 rfl) rfl (by show 2 * 0 + _ ≤ _; exact Nat.le_of_eq rfl) (hb hby own_d2_45) (fun _ _ => ⟨rfl, rfl, (by decide : 1 + 0 ≤ _), (by decide : 1 + 0 ≤ _)⟩)
  dsimp only [Pt.U, Pt.locs, Pt.cells, Pt.slots] at X19 l19 y19 z19 st19 hQ19
  subst l19 y19 z19
  obtain ⟨rfl, N19q, e19⟩ := hQ19
  have N19 := Fr.app N3 N19q
  refine OwnGo.back (T19.setTop (mkF m 48 #[.val (.ref a), .val (.ref ca), .val (.int (0 : Int32)), .val (.int (1 : Int32)), .val .null, .val (.ref b_4)] [(.int (0 : Int32)), (.ref a)])) (fun tg kk => st19 _ kk) ?_
  obtain ⟨T20, h20, X20, e20, W20, st20⟩ := putF X19 hx hZ hown (host := "") (Or.inl (hw _ (List.mem_of_getElem? (i := 21) rfl))) Via.refl e19 f12 f10 (Or.inr ⟨(hw _ (List.mem_of_getElem? (i := 17) rfl)), rfl, hnm⟩) (hw _ (List.mem_of_getElem? (i := 2) rfl)) (ty := .byte) (by decide) rfl rfl (g := (mkF m 48 #[.val (.ref a), .val (.ref ca), .val (.int (0 : Int32)), .val (.int (1 : Int32)), .val .null, .val (.ref b_4)] [(.int (0 : Int32)), (.ref a)])) rfl rfl (hb hby own_d2_48)
  have f21 : Fld Z h20 a "java/lang/String" "coder" "B" (.int (0 : Int32)) := f12.same W20
  have f22 : Arv Z h20 ca kc .char (1 : Int32) [(.int x0)] (.int (0 : Int32)) := f8.other W20 (Ne.symm H4)
  have f23 : Old Z n0 h20 := f9.wr W20 H3
  have f24 : Exa Z h20 a "java/lang/String" := f10.wr W20
  have f25 : Fld Z h20 a "java/lang/String" "value" "[B" .null := f11.other W20 (Or.inr (slot_ne (Or.inr (hw _ (List.mem_of_getElem? (i := 16) rfl))) (Or.inr (hw _ (List.mem_of_getElem? (i := 17) rfl))) (by decide) (t := (.array .byte)) (t' := .byte) (by decide) (by decide)))
  have f26 : Arv Z h20 b_4 kb_5 .byte (1 : Int32) [(.int (nar .byte (x0.toInt8.toInt32)))] (.int (0 : Int32)) := po7.other W20 (Ne.symm n15)
  have K27 : Keep h0 h20 [a] := K13.wr W20 (Or.inl (List.mem_of_getElem? (i := 0) rfl))
  have Z28 : n0 ≤ h20.size := Nat.le_trans Z14 (Keep.of_wr W20).1
  have N29 := Fr.snoc X20 N19 H3
  refine OwnGo.back (T20.setTop (mkF m 51 #[.val (.ref a), .val (.ref ca), .val (.int (0 : Int32)), .val (.int (1 : Int32)), .val .null, .val (.ref b_4)] [])) (fun tg kk => st20 _ kk) ?_
  refine OwnGo.back (T20.setTop (mkF m 52 #[.val (.ref a), .val (.ref ca), .val (.int (0 : Int32)), .val (.int (1 : Int32)), .val .null, .val (.ref b_4)] [(.ref a)])) (fun tg kk => XS.aloadN X20.here hx rfl (hb hby own_d2_51) rfl rfl kk) ?_
  refine OwnGo.back (T20.setTop (mkF m 54 #[.val (.ref a), .val (.ref ca), .val (.int (0 : Int32)), .val (.int (1 : Int32)), .val .null, .val (.ref b_4)] [(.ref b_4), (.ref a)])) (fun tg kk => XS.aload X20.here hx rfl (hb hby own_d2_52) rfl rfl kk) ?_
  obtain ⟨T30, h30, X30, e30, W30, st30⟩ := putF X20 hx hZ hown (host := "") (Or.inl (hw _ (List.mem_of_getElem? (i := 20) rfl))) Via.refl e20 f25 f24 (Or.inr ⟨(hw _ (List.mem_of_getElem? (i := 16) rfl)), rfl, hnm⟩) (hw _ (List.mem_of_getElem? (i := 2) rfl)) (ty := (.array .byte)) (by decide) rfl rfl (g := (mkF m 54 #[.val (.ref a), .val (.ref ca), .val (.int (0 : Int32)), .val (.int (1 : Int32)), .val .null, .val (.ref b_4)] [(.ref b_4), (.ref a)])) rfl rfl (hb hby own_d2_54)
  have f31 : Fld Z h30 a "java/lang/String" "value" "[B" (.ref b_4) := f25.same W30
  have f32 : Arv Z h30 ca kc .char (1 : Int32) [(.int x0)] (.int (0 : Int32)) := f22.other W30 (Ne.symm H4)
  have f33 : Old Z n0 h30 := f23.wr W30 H3
  have f34 : Exa Z h30 a "java/lang/String" := f24.wr W30
  have f35 : Arv Z h30 b_4 kb_5 .byte (1 : Int32) [(.int (nar .byte (x0.toInt8.toInt32)))] (.int (0 : Int32)) := f26.other W30 (Ne.symm n15)
  have f36 : Fld Z h30 a "java/lang/String" "coder" "B" (.int (0 : Int32)) := f21.other W30 (Or.inr (slot_ne (Or.inr (hw _ (List.mem_of_getElem? (i := 17) rfl))) (Or.inr (hw _ (List.mem_of_getElem? (i := 16) rfl))) (by decide) (t := .byte) (t' := (.array .byte)) (by decide) (by decide)))
  have K37 : Keep h0 h30 [a] := K27.wr W30 (Or.inl (List.mem_of_getElem? (i := 0) rfl))
  have Z38 : n0 ≤ h30.size := Nat.le_trans Z28 (Keep.of_wr W30).1
  have N39 := Fr.snoc X30 N29 H3
  refine OwnGo.back (T30.setTop (mkF m 57 #[.val (.ref a), .val (.ref ca), .val (.int (0 : Int32)), .val (.int (1 : Int32)), .val .null, .val (.ref b_4)] [])) (fun tg kk => st30 _ kk) ?_
  obtain ⟨fs, hr, hrun, hended, hW, hsame⟩ := X30.leave (v := none) (fun _ => rfl)
  refine ⟨_, _, ?_, hrun, hended, _, _, rfl, ?_, ⟨_, rfl⟩, hW, hsame.mono (by decide) (by decide)⟩
  · exact X30.returnOut hx Bd.returns (hb hby own_d2_57) hr
  · show own_i4_1_Q Z a ca kc x0 cs h0 n0 _ T30.heap _
    rw [e30]
    exact ⟨b_4, kb_5, rfl, N39, K37, s18, f34, f31, f36, f35⟩
theorem own_i1_1_ef (m : MethodId) (x0 : Addr) (x1 : Addr) : entryFrame m #[(.ref x0), (.ref x1)] 2 = mkF m 0 #[.val (.ref x0), .val (.ref x1)] [] := by first | (simp [entryFrame, mkF, argsToLocals, Value.category]; done) | rfl
def own_i1_1_Q (Z : State) (a : Addr) (ca : Addr) (kc : ClassId) (x0 : Int32) (cs : Int32) (h0 : Heap) (n0 : Nat) (rv : Option Value) (hN : Heap) (LL : List Loc) : Prop := ∃ (b : Addr), ∃ (kb : ClassId), rv = none ∧ Fr n0 LL ∧ Keep h0 hN [a] ∧ h0.size ≤ b ∧ Exa Z hN a "java/lang/String" ∧ Fld Z hN a "java/lang/String" "value" "[B" (.ref b) ∧ Fld Z hN a "java/lang/String" "coder" "B" (.int (0 : Int32)) ∧ Arv Z hN b kb .byte (1 : Int32) [(.int (nar .byte (x0.toInt8.toInt32)))] (.int (0 : Int32))
set_option maxRecDepth 65536 in
set_option maxHeartbeats 40000000 in
theorem own_i1_1 (l : Launch) (Z : State) (a0 : Array Value) (hw : ∀ d ∈ tables_1, d.before a0 Z = true) (ws : List Jvm.Cond) (a : Addr) (ca : Addr) (kc : ClassId) (x0 : Int32) (cs : Int32) (h0 : Heap) (n0 : Nat) (Z0 : n0 ≤ h0.size) (A : Arv Z h0 ca kc .char (1 : Int32) [(.int x0)] (.int (0 : Int32))) (hl0 : ¬ x0 < (0 : Int32)) (hu0 : ¬ (255 : Int32) < x0) (S : Sta Z Z.heap "java/lang/String" "COMPACT_STRINGS" "Z" (.int cs)) (old : Old Z n0 h0) (hcs : ¬ cs = 0) (H0 : Exa Z h0 a "java/lang/String") (H1 : Fld Z h0 a "java/lang/String" "value" "[B" .null) (H2 : Fld Z h0 a "java/lang/String" "coder" "B" (.int (0 : Int32))) (H3 : n0 ≤ a) (H4 : a ≠ ca) :
    MetFree l (⟨"java/lang/String", "<init>", "([C)V"⟩ : MethodName) (head1 (Jvm.Cond.code (⟨"java/lang/String", "<init>", "([C)V"⟩ : MethodName) jdk_42_method_3_code 2 none :: ws) ({ frames := 3, cells := 1, slots := 1, locals := 52 } : Room)) (fun aa UU => aa = #[(.ref a), (.ref ca)] ∧ Z.Warmed39 UU.vm ∧ UU.heap = h0) (fun _ _ _ _ _ => True) (fun _ UU oo UU' => ∃ rv LL, oo = .returned rv ∧ own_i1_1_Q Z a ca kc x0 cs h0 n0 rv UU'.heap LL ∧ FrameEnd UU oo UU' LL ({ frames := 3, cells := 1, slots := 1, locals := 52 } : Room).cells ({ frames := 3, cells := 1, slots := 1, locals := 52 } : Room).slots) := by
  refine MetFree.of_bodySF (plainFor_of_name own_pn0) hisR ?_
  intro p e s m args below meth c s₁ Bd hml0 hP hK
  obtain ⟨rfl, hZ, hh⟩ := hP
  have hx := Bd.exec
  have hby := Bd.bytes
  have hml : c.maxLocals = 2 := hml0
  have hown : s.vm.findClass "java/lang/String" = some m.cls := findClass_of_methodNamed Bd.named
  have hnm := (name_of_methodNamed Bd.named Bd.method).1
  have X0 : Stand p l e ({ frames := 3, cells := 1, slots := 1, locals := 52 } : Room) s m #[(.ref a), (.ref ca)] below meth c s₁ [] 0 0 := Stand.of_body Bd
  have e0 : s₁.heap = h0 := by rw [← hh, Bd.state]; rfl
  have N0 := Fr.nil n0
  have K0 : Keep h0 h0 [a] := Keep.refl h0 _
  refine (?_ : OwnGo p.tables e below (fun UU' oo => ∃ rv LL, oo = .returned rv ∧ own_i1_1_Q Z a ca kc x0 cs h0 n0 rv UU'.heap LL ∧ FrameEnd s oo UU' LL ({ frames := 3, cells := 1, slots := 1, locals := 52 } : Room).cells ({ frames := 3, cells := 1, slots := 1, locals := 52 } : Room).slots) _)
  refine OwnGo.back (s₁.setTop (mkF m 0 #[.val (.ref a), .val (.ref ca)] [])) (fun tg kk => castTop (own_i1_1_ef m a ca) kk) ?_
  refine OwnGo.back (s₁.setTop (mkF m 1 #[.val (.ref a), .val (.ref ca)] [(.ref a)])) (fun tg kk => XS.aloadN X0.here hx rfl (hb hby own_d1_0) rfl rfl kk) ?_
  refine OwnGo.back (s₁.setTop (mkF m 2 #[.val (.ref a), .val (.ref ca)] [(.ref ca), (.ref a)])) (fun tg kk => XS.aloadN X0.here hx rfl (hb hby own_d1_1) rfl rfl kk) ?_
  refine OwnGo.back (s₁.setTop (mkF m 3 #[.val (.ref a), .val (.ref ca)] [(.int (0 : Int32)), (.ref ca), (.ref a)])) (fun tg kk => XS.iconst X0.here hx rfl (hb hby own_d1_2) kk) ?_
  refine OwnGo.back (s₁.setTop (mkF m 4 #[.val (.ref a), .val (.ref ca)] [(.ref ca), (.int (0 : Int32)), (.ref ca), (.ref a)])) (fun tg kk => XS.aloadN X0.here hx rfl (hb hby own_d1_3) rfl rfl kk) ?_
  obtain ⟨cl_1, Ar_1, -, Sz_1, Ng_1, -, -⟩ := id A
  refine OwnGo.back (s₁.setTop (mkF m 5 #[.val (.ref a), .val (.ref ca)] [(.int (1 : Int32)), (.int (0 : Int32)), (.ref ca), (.ref a)])) (fun tg kk => X0.arraylength hx (by rw [e0]; exact Ar_1.1) (State.isArrayOf_alike hZ.alike Ar_1.2.1) (g := (mkF m 4 #[.val (.ref a), .val (.ref ca)] [(.ref ca), (.int (0 : Int32)), (.ref ca), (.ref a)])) rfl rfl (hb hby own_d1_4) _ (by rw [len_of Sz_1 Ng_1]; exact kk)) ?_
  refine OwnGo.back (s₁.setTop (mkF m 6 #[.val (.ref a), .val (.ref ca)] [.null, (.int (1 : Int32)), (.int (0 : Int32)), (.ref ca), (.ref a)])) (fun tg kk => XS.aconstNull X0.here hx rfl (hb hby own_d1_5) kk) ?_
  obtain ⟨_, _, ⟨T2, L2, k2, n2⟩, -, X2, ⟨Lc2, hQ2, l2, y2, z2⟩, st2⟩ := X0.specialBack hx (y := (⟨"java/lang/String", "<init>", "([CIILjava/lang/Void;)V"⟩ : MethodName)) rfl hown (mvT hZ (hw _ (List.mem_of_getElem? (i := 7) rfl))) (mvT hZ (hw _ (List.mem_of_getElem? (i := 8) rfl))) (mvT hZ (hw _ (List.mem_of_getElem? (i := 10) rfl))) (by decide) (backOf (W := 0) (own_i4_1 l Z a0 hw [] a ca kc x0 cs h0 n0 Z0 A hl0 hu0 S old hcs H0 H1 H2 H3 H4) hZ (hw _ (List.mem_of_getElem? (i := 10) rfl)) (hw _ (List.mem_of_getElem? (i := 3) rfl)) (by decide) (by decide)) (g := (mkF m 6 #[.val (.ref a), .val (.ref ca)] [.null, (.int (1 : Int32)), (.int (0 : Int32)), (.ref ca), (.ref a)])) rfl (by rw [hml]; rfl) (Steps.refl _) (a := a) (argsL := [(.ref ca), (.int (0 : Int32)), (.int (1 : Int32)), .null]) (rest := []) (lenOf own_pd0 rfl) rfl (by show 2 * 0 + _ ≤ _; exact Nat.le_of_eq rfl) (hb hby own_d1_6) (fun _ _ => ⟨rfl, e0, (by decide : 0 + 1 ≤ _), (by decide : 0 + 1 ≤ _)⟩)
  dsimp only [Pt.U, Pt.locs, Pt.cells, Pt.slots] at X2 l2 y2 z2 st2 hQ2
  subst l2 y2 z2
  obtain ⟨b_3, kb_4, rfl, N2q, Kc2, po5, po6, po7, po8, po9⟩ := hQ2
  have N2 := Fr.app N0 N2q
  have f10 : Arv Z T2.heap ca kc .char (1 : Int32) [(.int x0)] (.int (0 : Int32)) := A.keep Kc2 (ninS (Ne.symm H4) nin0)
  have f11 : Old Z n0 T2.heap := old.keep Kc2 (allS H3 all0)
  have f12 : Exa Z T2.heap a "java/lang/String" := H0.keep Kc2
  have K13 : Keep h0 T2.heap [a] := K0.trans Kc2 (allS (Or.inl (List.mem_of_getElem? (i := 0) rfl)) all0)
  have Z14 : n0 ≤ T2.heap.size := Nat.le_trans Z0 Kc2.1
  have n15 : a ≠ b_3 := own_ne' H0.lt po5
  have n16 : ca ≠ b_3 := own_ne' A.lt po5
  have g17 : n0 ≤ b_3 := Nat.le_trans Z0 po5
  have s18 : h0.size ≤ b_3 := Nat.le_trans K0.1 po5
  refine OwnGo.back (T2.setTop (mkF m 9 #[.val (.ref a), .val (.ref ca)] [])) (fun tg kk => st2.trans kk) ?_
  obtain ⟨fs, hr, hrun, hended, hW, hsame⟩ := X2.leave (v := none) (fun _ => rfl)
  refine ⟨_, _, ?_, hrun, hended, _, _, rfl, ?_, ⟨_, rfl⟩, hW, hsame.mono (by decide) (by decide)⟩
  · exact X2.returnOut hx Bd.returns (hb hby own_d1_9) hr
  · show own_i1_1_Q Z a ca kc x0 cs h0 n0 _ T2.heap _
    exact ⟨b_3, kb_4, rfl, N2, K13, s18, po6, po7, po8, po9⟩
theorem own_cmp2_ef (m : MethodId) (x0 : Addr) (x1 : Int32) (x2 : Addr) (x3 : Int32) (x4 : Int32) : entryFrame m #[(.ref x0), (.int x1), (.ref x2), (.int x3), (.int x4)] 7 = mkF m 0 #[.val (.ref x0), .val (.int x1), .val (.ref x2), .val (.int x3), .val (.int x4), .unset, .unset] [] := by first | (simp [entryFrame, mkF, argsToLocals, Value.category]; done) | rfl
def own_cmp2_Q (Z : State) (ca : Addr) (b : Addr) (kc : ClassId) (x0 : Int32) (x1 : Int32) (kb : ClassId) (h0 : Heap) (n0 : Nat) (rv : Option Value) (hN : Heap) (LL : List Loc) : Prop := rv = some (.int (2 : Int32)) ∧ Fr n0 LL ∧ Keep h0 hN [b] ∧ Arv Z hN b kb .byte (2 : Int32) [(.int (nar .byte (x0.toInt8.toInt32))), (.int (nar .byte (x1.toInt8.toInt32)))] (.int (0 : Int32))
set_option maxRecDepth 65536 in
set_option maxHeartbeats 40000000 in
theorem own_cmp2 (l : Launch) (Z : State) (a0 : Array Value) (hw : ∀ d ∈ tables_1, d.before a0 Z = true) (ws : List Jvm.Cond) (ca : Addr) (b : Addr) (kc : ClassId) (x0 : Int32) (x1 : Int32) (kb : ClassId) (h0 : Heap) (n0 : Nat) (Z0 : n0 ≤ h0.size) (A : Arv Z h0 ca kc .char (2 : Int32) [(.int x0), (.int x1)] (.int (0 : Int32))) (hl0 : ¬ x0 < (0 : Int32)) (hu0 : ¬ (255 : Int32) < x0) (hl1 : ¬ x1 < (0 : Int32)) (hu1 : ¬ (255 : Int32) < x1) (B : Arv Z h0 b kb .byte (2 : Int32) [(.int (0 : Int32)), (.int (0 : Int32))] (.int (0 : Int32))) (ne : ca ≠ b) (g : n0 ≤ b) :
    MetFree l (⟨"java/lang/StringUTF16", "compress", "([CI[BII)I"⟩ : MethodName) (head1 (Jvm.Cond.code (⟨"java/lang/StringUTF16", "compress", "([CI[BII)I"⟩ : MethodName) jdk_52_method_21_code 7 (some .int) :: ws) ({ frames := 0, cells := 0, slots := 0, locals := 0 } : Room)) (fun aa UU => aa = #[(.ref ca), (.int (0 : Int32)), (.ref b), (.int (0 : Int32)), (.int (2 : Int32))] ∧ Z.Warmed39 UU.vm ∧ UU.heap = h0) (fun _ _ _ _ _ => True) (fun _ UU oo UU' => ∃ rv LL, oo = .returned rv ∧ own_cmp2_Q Z ca b kc x0 x1 kb h0 n0 rv UU'.heap LL ∧ FrameEnd UU oo UU' LL ({ frames := 0, cells := 0, slots := 0, locals := 0 } : Room).cells ({ frames := 0, cells := 0, slots := 0, locals := 0 } : Room).slots) := by
  refine MetFree.of_bodySF (plainFor_of_name own_pn1) hisR ?_
  intro p e s m args below meth c s₁ Bd hml0 hP hK
  obtain ⟨rfl, hZ, hh⟩ := hP
  have hx := Bd.exec
  have hby := Bd.bytes
  have hml : c.maxLocals = 7 := hml0
  have hown : s.vm.findClass "java/lang/StringUTF16" = some m.cls := findClass_of_methodNamed Bd.named
  have hnm := (name_of_methodNamed Bd.named Bd.method).1
  have X0 : Stand p l e ({ frames := 0, cells := 0, slots := 0, locals := 0 } : Room) s m #[(.ref ca), (.int (0 : Int32)), (.ref b), (.int (0 : Int32)), (.int (2 : Int32))] below meth c s₁ [] 0 0 := Stand.of_body Bd
  have e0 : s₁.heap = h0 := by rw [← hh, Bd.state]; rfl
  have N0 := Fr.nil n0
  have K0 : Keep h0 h0 [b] := Keep.refl h0 _
  refine (?_ : OwnGo p.tables e below (fun UU' oo => ∃ rv LL, oo = .returned rv ∧ own_cmp2_Q Z ca b kc x0 x1 kb h0 n0 rv UU'.heap LL ∧ FrameEnd s oo UU' LL ({ frames := 0, cells := 0, slots := 0, locals := 0 } : Room).cells ({ frames := 0, cells := 0, slots := 0, locals := 0 } : Room).slots) _)
  refine OwnGo.back (s₁.setTop (mkF m 0 #[.val (.ref ca), .val (.int (0 : Int32)), .val (.ref b), .val (.int (0 : Int32)), .val (.int (2 : Int32)), .unset, .unset] [])) (fun tg kk => castTop (own_cmp2_ef m ca (0 : Int32) b (0 : Int32) (2 : Int32)) kk) ?_
  refine OwnGo.back (s₁.setTop (mkF m 1 #[.val (.ref ca), .val (.int (0 : Int32)), .val (.ref b), .val (.int (0 : Int32)), .val (.int (2 : Int32)), .unset, .unset] [(.int (0 : Int32))])) (fun tg kk => XS.iconst X0.here hx rfl (hb hby own_d5_0) kk) ?_
  refine OwnGo.back (s₁.setTop (mkF m 3 #[.val (.ref ca), .val (.int (0 : Int32)), .val (.ref b), .val (.int (0 : Int32)), .val (.int (2 : Int32)), .val (.int (0 : Int32)), .unset] [])) (fun tg kk => XS.istore X0.here hx rfl (hb hby own_d5_1) rfl (l' := #[.val (.ref ca), .val (.int (0 : Int32)), .val (.ref b), .val (.int (0 : Int32)), .val (.int (2 : Int32)), .val (.int (0 : Int32)), .unset]) rfl kk) ?_
  refine OwnGo.back (s₁.setTop (mkF m 5 #[.val (.ref ca), .val (.int (0 : Int32)), .val (.ref b), .val (.int (0 : Int32)), .val (.int (2 : Int32)), .val (.int (0 : Int32)), .unset] [(.int (0 : Int32))])) (fun tg kk => XS.iload X0.here hx rfl (hb hby own_d5_3) rfl kk) ?_
  refine OwnGo.back (s₁.setTop (mkF m 7 #[.val (.ref ca), .val (.int (0 : Int32)), .val (.ref b), .val (.int (0 : Int32)), .val (.int (2 : Int32)), .val (.int (0 : Int32)), .unset] [(.int (2 : Int32)), (.int (0 : Int32))])) (fun tg kk => XS.iload X0.here hx rfl (hb hby own_d5_5) rfl kk) ?_
  refine OwnGo.back (s₁.setTop (mkF m 10 #[.val (.ref ca), .val (.int (0 : Int32)), .val (.ref b), .val (.int (0 : Int32)), .val (.int (2 : Int32)), .val (.int (0 : Int32)), .unset] [])) (fun tg kk => XS.icmpNo X0.here hx rfl (hb hby own_d5_7) rfl (tlt (by decide : (0 : Int32) < (2 : Int32))).2.1 kk) ?_
  refine OwnGo.back (s₁.setTop (mkF m 11 #[.val (.ref ca), .val (.int (0 : Int32)), .val (.ref b), .val (.int (0 : Int32)), .val (.int (2 : Int32)), .val (.int (0 : Int32)), .unset] [(.ref ca)])) (fun tg kk => XS.aloadN X0.here hx rfl (hb hby own_d5_10) rfl rfl kk) ?_
  refine OwnGo.back (s₁.setTop (mkF m 12 #[.val (.ref ca), .val (.int (0 : Int32)), .val (.ref b), .val (.int (0 : Int32)), .val (.int (2 : Int32)), .val (.int (0 : Int32)), .unset] [(.int (0 : Int32)), (.ref ca)])) (fun tg kk => XS.iloadN X0.here hx rfl (hb hby own_d5_11) rfl kk) ?_
  obtain ⟨cl_1, Ar_1, qq_1, Sz_1, Ng_1, Hs_1, Gf_1⟩ := id A
  have hin_1 : ¬ ((0 : Int32) < 0 ∨ cl_1.slots.size ≤ ((0 : Int32)).toNatClampNeg) := inb_of Sz_1 ⟨by decide, by decide⟩
  have hat_1 : cl_1.slots[((0 : Int32)).toNatClampNeg]? = some (.int x0) := Has.at Hs_1 hin_1 rfl
  refine OwnGo.back (s₁.setTop (mkF m 13 #[.val (.ref ca), .val (.int (0 : Int32)), .val (.ref b), .val (.int (0 : Int32)), .val (.int (2 : Int32)), .val (.int (0 : Int32)), .unset] [(.int x0)])) (fun tg kk => X0.caload hx (j := (0 : Int32)) (v := (.int x0)) (by rw [e0]; exact Ar_1.1) (State.isArrayOf_alike hZ.alike Ar_1.2.1) Ar_1.2.2 hin_1 hat_1 (g := (mkF m 12 #[.val (.ref ca), .val (.int (0 : Int32)), .val (.ref b), .val (.int (0 : Int32)), .val (.int (2 : Int32)), .val (.int (0 : Int32)), .unset] [(.int (0 : Int32)), (.ref ca)])) rfl rfl (hb hby own_d5_12) _ kk) ?_
  refine OwnGo.back (s₁.setTop (mkF m 15 #[.val (.ref ca), .val (.int (0 : Int32)), .val (.ref b), .val (.int (0 : Int32)), .val (.int (2 : Int32)), .val (.int (0 : Int32)), .val (.int x0)] [])) (fun tg kk => XS.istore X0.here hx rfl (hb hby own_d5_13) rfl (l' := #[.val (.ref ca), .val (.int (0 : Int32)), .val (.ref b), .val (.int (0 : Int32)), .val (.int (2 : Int32)), .val (.int (0 : Int32)), .val (.int x0)]) rfl kk) ?_
  refine OwnGo.back (s₁.setTop (mkF m 17 #[.val (.ref ca), .val (.int (0 : Int32)), .val (.ref b), .val (.int (0 : Int32)), .val (.int (2 : Int32)), .val (.int (0 : Int32)), .val (.int x0)] [(.int x0)])) (fun tg kk => XS.iload X0.here hx rfl (hb hby own_d5_15) rfl kk) ?_
  refine OwnGo.back (s₁.setTop (mkF m 20 #[.val (.ref ca), .val (.int (0 : Int32)), .val (.ref b), .val (.int (0 : Int32)), .val (.int (2 : Int32)), .val (.int (0 : Int32)), .val (.int x0)] [(.int (255 : Int32)), (.int x0)])) (fun tg kk => XS.sipush X0.here hx rfl (hb hby own_d5_17) kk) ?_
  refine OwnGo.back (s₁.setTop (mkF m 26 #[.val (.ref ca), .val (.int (0 : Int32)), .val (.ref b), .val (.int (0 : Int32)), .val (.int (2 : Int32)), .val (.int (0 : Int32)), .val (.int x0)] [])) (fun tg kk => XS.icmpYes X0.here hx rfl (pc0 := 20) (pc' := 26) rfl (hb hby own_d5_20) rfl (flt (hu0 : ¬ ((255 : Int32) < x0))).2.2.2 (by decide) (by decide) kk) ?_
  refine OwnGo.back (s₁.setTop (mkF m 27 #[.val (.ref ca), .val (.int (0 : Int32)), .val (.ref b), .val (.int (0 : Int32)), .val (.int (2 : Int32)), .val (.int (0 : Int32)), .val (.int x0)] [(.ref b)])) (fun tg kk => XS.aloadN X0.here hx rfl (hb hby own_d5_26) rfl rfl kk) ?_
  refine OwnGo.back (s₁.setTop (mkF m 28 #[.val (.ref ca), .val (.int (0 : Int32)), .val (.ref b), .val (.int (0 : Int32)), .val (.int (2 : Int32)), .val (.int (0 : Int32)), .val (.int x0)] [(.int (0 : Int32)), (.ref b)])) (fun tg kk => XS.iloadN X0.here hx rfl (hb hby own_d5_27) rfl kk) ?_
  refine OwnGo.back (s₁.setTop (mkF m 30 #[.val (.ref ca), .val (.int (0 : Int32)), .val (.ref b), .val (.int (0 : Int32)), .val (.int (2 : Int32)), .val (.int (0 : Int32)), .val (.int x0)] [(.int x0), (.int (0 : Int32)), (.ref b)])) (fun tg kk => XS.iload X0.here hx rfl (hb hby own_d5_28) rfl kk) ?_
  refine OwnGo.back (s₁.setTop (mkF m 31 #[.val (.ref ca), .val (.int (0 : Int32)), .val (.ref b), .val (.int (0 : Int32)), .val (.int (2 : Int32)), .val (.int (0 : Int32)), .val (.int x0)] [(.int (x0.toInt8.toInt32)), (.int (0 : Int32)), (.ref b)])) (fun tg kk => XS.i2b X0.here hx rfl (hb hby own_d5_30) rfl kk) ?_
  obtain ⟨cl_2, Ar_2, qq_2, Sz_2, Ng_2, Hs_2, Gf_2⟩ := id B
  have hin_2 : ¬ ((0 : Int32) < 0 ∨ cl_2.slots.size ≤ ((0 : Int32)).toNatClampNeg) := inb_of Sz_2 ⟨by decide, by decide⟩
  obtain ⟨T3, h3, X3, e3, W3, st3⟩ := stB X0 hx hZ e0 Ar_2 (j := (0 : Int32)) hin_2 (g := (mkF m 31 #[.val (.ref ca), .val (.int (0 : Int32)), .val (.ref b), .val (.int (0 : Int32)), .val (.int (2 : Int32)), .val (.int (0 : Int32)), .val (.int x0)] [(.int (x0.toInt8.toInt32)), (.int (0 : Int32)), (.ref b)])) rfl rfl (hb hby own_d5_31)
  have f4 : Arv Z h3 b kb .byte (2 : Int32) [(.int (nar .byte (x0.toInt8.toInt32))), (.int (0 : Int32))] (.int (0 : Int32)) := Arv.set Ar_2 qq_2 Sz_2 Ng_2 Hs_2 Gf_2 (fits_nar_byte _) W3 0 rfl (Nat.le_of_ble_eq_true rfl)
  have f5 : Arv Z h3 ca kc .char (2 : Int32) [(.int x0), (.int x1)] (.int (0 : Int32)) := A.other W3 ne
  have K6 : Keep h0 h3 [b] := K0.wr W3 (Or.inl (List.mem_of_getElem? (i := 0) rfl))
  have Z7 : n0 ≤ h3.size := Nat.le_trans Z0 (Keep.of_wr W3).1
  have N8 := Fr.snoc X3 N0 g
  refine OwnGo.back (T3.setTop (mkF m 32 #[.val (.ref ca), .val (.int (0 : Int32)), .val (.ref b), .val (.int (0 : Int32)), .val (.int (2 : Int32)), .val (.int (0 : Int32)), .val (.int x0)] [])) (fun tg kk => st3 _ kk) ?_
  refine OwnGo.back (T3.setTop (mkF m 35 #[.val (.ref ca), .val (.int (1 : Int32)), .val (.ref b), .val (.int (0 : Int32)), .val (.int (2 : Int32)), .val (.int (0 : Int32)), .val (.int x0)] [])) (fun tg kk => XS.iinc X3.here hx rfl (hb hby own_d5_32) rfl (l' := #[.val (.ref ca), .val (.int (1 : Int32)), .val (.ref b), .val (.int (0 : Int32)), .val (.int (2 : Int32)), .val (.int (0 : Int32)), .val (.int x0)]) rfl kk) ?_
  refine OwnGo.back (T3.setTop (mkF m 38 #[.val (.ref ca), .val (.int (1 : Int32)), .val (.ref b), .val (.int (1 : Int32)), .val (.int (2 : Int32)), .val (.int (0 : Int32)), .val (.int x0)] [])) (fun tg kk => XS.iinc X3.here hx rfl (hb hby own_d5_35) rfl (l' := #[.val (.ref ca), .val (.int (1 : Int32)), .val (.ref b), .val (.int (1 : Int32)), .val (.int (2 : Int32)), .val (.int (0 : Int32)), .val (.int x0)]) rfl kk) ?_
  refine OwnGo.back (T3.setTop (mkF m 41 #[.val (.ref ca), .val (.int (1 : Int32)), .val (.ref b), .val (.int (1 : Int32)), .val (.int (2 : Int32)), .val (.int (1 : Int32)), .val (.int x0)] [])) (fun tg kk => XS.iinc X3.here hx rfl (hb hby own_d5_38) rfl (l' := #[.val (.ref ca), .val (.int (1 : Int32)), .val (.ref b), .val (.int (1 : Int32)), .val (.int (2 : Int32)), .val (.int (1 : Int32)), .val (.int x0)]) rfl kk) ?_
  refine OwnGo.back (T3.setTop (mkF m 3 #[.val (.ref ca), .val (.int (1 : Int32)), .val (.ref b), .val (.int (1 : Int32)), .val (.int (2 : Int32)), .val (.int (1 : Int32)), .val (.int x0)] [])) (fun tg kk => XS.goto X3.here hx rfl (pc0 := 41) (pc' := 3) rfl (hb hby own_d5_41) (by decide) (by decide) kk) ?_
  refine OwnGo.back (T3.setTop (mkF m 5 #[.val (.ref ca), .val (.int (1 : Int32)), .val (.ref b), .val (.int (1 : Int32)), .val (.int (2 : Int32)), .val (.int (1 : Int32)), .val (.int x0)] [(.int (1 : Int32))])) (fun tg kk => XS.iload X3.here hx rfl (hb hby own_d5_3) rfl kk) ?_
  refine OwnGo.back (T3.setTop (mkF m 7 #[.val (.ref ca), .val (.int (1 : Int32)), .val (.ref b), .val (.int (1 : Int32)), .val (.int (2 : Int32)), .val (.int (1 : Int32)), .val (.int x0)] [(.int (2 : Int32)), (.int (1 : Int32))])) (fun tg kk => XS.iload X3.here hx rfl (hb hby own_d5_5) rfl kk) ?_
  refine OwnGo.back (T3.setTop (mkF m 10 #[.val (.ref ca), .val (.int (1 : Int32)), .val (.ref b), .val (.int (1 : Int32)), .val (.int (2 : Int32)), .val (.int (1 : Int32)), .val (.int x0)] [])) (fun tg kk => XS.icmpNo X3.here hx rfl (hb hby own_d5_7) rfl (tlt (by decide : (1 : Int32) < (2 : Int32))).2.1 kk) ?_
  refine OwnGo.back (T3.setTop (mkF m 11 #[.val (.ref ca), .val (.int (1 : Int32)), .val (.ref b), .val (.int (1 : Int32)), .val (.int (2 : Int32)), .val (.int (1 : Int32)), .val (.int x0)] [(.ref ca)])) (fun tg kk => XS.aloadN X3.here hx rfl (hb hby own_d5_10) rfl rfl kk) ?_
  refine OwnGo.back (T3.setTop (mkF m 12 #[.val (.ref ca), .val (.int (1 : Int32)), .val (.ref b), .val (.int (1 : Int32)), .val (.int (2 : Int32)), .val (.int (1 : Int32)), .val (.int x0)] [(.int (1 : Int32)), (.ref ca)])) (fun tg kk => XS.iloadN X3.here hx rfl (hb hby own_d5_11) rfl kk) ?_
  obtain ⟨cl_9, Ar_9, qq_9, Sz_9, Ng_9, Hs_9, Gf_9⟩ := id f5
  have hin_9 : ¬ ((1 : Int32) < 0 ∨ cl_9.slots.size ≤ ((1 : Int32)).toNatClampNeg) := inb_of Sz_9 ⟨by decide, by decide⟩
  have hat_9 : cl_9.slots[((1 : Int32)).toNatClampNeg]? = some (.int x1) := Has.at Hs_9 hin_9 rfl
  refine OwnGo.back (T3.setTop (mkF m 13 #[.val (.ref ca), .val (.int (1 : Int32)), .val (.ref b), .val (.int (1 : Int32)), .val (.int (2 : Int32)), .val (.int (1 : Int32)), .val (.int x0)] [(.int x1)])) (fun tg kk => X3.caload hx (j := (1 : Int32)) (v := (.int x1)) (by rw [e3]; exact Ar_9.1) (State.isArrayOf_alike hZ.alike Ar_9.2.1) Ar_9.2.2 hin_9 hat_9 (g := (mkF m 12 #[.val (.ref ca), .val (.int (1 : Int32)), .val (.ref b), .val (.int (1 : Int32)), .val (.int (2 : Int32)), .val (.int (1 : Int32)), .val (.int x0)] [(.int (1 : Int32)), (.ref ca)])) rfl rfl (hb hby own_d5_12) _ kk) ?_
  refine OwnGo.back (T3.setTop (mkF m 15 #[.val (.ref ca), .val (.int (1 : Int32)), .val (.ref b), .val (.int (1 : Int32)), .val (.int (2 : Int32)), .val (.int (1 : Int32)), .val (.int x1)] [])) (fun tg kk => XS.istore X3.here hx rfl (hb hby own_d5_13) rfl (l' := #[.val (.ref ca), .val (.int (1 : Int32)), .val (.ref b), .val (.int (1 : Int32)), .val (.int (2 : Int32)), .val (.int (1 : Int32)), .val (.int x1)]) rfl kk) ?_
  refine OwnGo.back (T3.setTop (mkF m 17 #[.val (.ref ca), .val (.int (1 : Int32)), .val (.ref b), .val (.int (1 : Int32)), .val (.int (2 : Int32)), .val (.int (1 : Int32)), .val (.int x1)] [(.int x1)])) (fun tg kk => XS.iload X3.here hx rfl (hb hby own_d5_15) rfl kk) ?_
  refine OwnGo.back (T3.setTop (mkF m 20 #[.val (.ref ca), .val (.int (1 : Int32)), .val (.ref b), .val (.int (1 : Int32)), .val (.int (2 : Int32)), .val (.int (1 : Int32)), .val (.int x1)] [(.int (255 : Int32)), (.int x1)])) (fun tg kk => XS.sipush X3.here hx rfl (hb hby own_d5_17) kk) ?_
  refine OwnGo.back (T3.setTop (mkF m 26 #[.val (.ref ca), .val (.int (1 : Int32)), .val (.ref b), .val (.int (1 : Int32)), .val (.int (2 : Int32)), .val (.int (1 : Int32)), .val (.int x1)] [])) (fun tg kk => XS.icmpYes X3.here hx rfl (pc0 := 20) (pc' := 26) rfl (hb hby own_d5_20) rfl (flt (hu1 : ¬ ((255 : Int32) < x1))).2.2.2 (by decide) (by decide) kk) ?_
  refine OwnGo.back (T3.setTop (mkF m 27 #[.val (.ref ca), .val (.int (1 : Int32)), .val (.ref b), .val (.int (1 : Int32)), .val (.int (2 : Int32)), .val (.int (1 : Int32)), .val (.int x1)] [(.ref b)])) (fun tg kk => XS.aloadN X3.here hx rfl (hb hby own_d5_26) rfl rfl kk) ?_
  refine OwnGo.back (T3.setTop (mkF m 28 #[.val (.ref ca), .val (.int (1 : Int32)), .val (.ref b), .val (.int (1 : Int32)), .val (.int (2 : Int32)), .val (.int (1 : Int32)), .val (.int x1)] [(.int (1 : Int32)), (.ref b)])) (fun tg kk => XS.iloadN X3.here hx rfl (hb hby own_d5_27) rfl kk) ?_
  refine OwnGo.back (T3.setTop (mkF m 30 #[.val (.ref ca), .val (.int (1 : Int32)), .val (.ref b), .val (.int (1 : Int32)), .val (.int (2 : Int32)), .val (.int (1 : Int32)), .val (.int x1)] [(.int x1), (.int (1 : Int32)), (.ref b)])) (fun tg kk => XS.iload X3.here hx rfl (hb hby own_d5_28) rfl kk) ?_
  refine OwnGo.back (T3.setTop (mkF m 31 #[.val (.ref ca), .val (.int (1 : Int32)), .val (.ref b), .val (.int (1 : Int32)), .val (.int (2 : Int32)), .val (.int (1 : Int32)), .val (.int x1)] [(.int (x1.toInt8.toInt32)), (.int (1 : Int32)), (.ref b)])) (fun tg kk => XS.i2b X3.here hx rfl (hb hby own_d5_30) rfl kk) ?_
  obtain ⟨cl_10, Ar_10, qq_10, Sz_10, Ng_10, Hs_10, Gf_10⟩ := id f4
  have hin_10 : ¬ ((1 : Int32) < 0 ∨ cl_10.slots.size ≤ ((1 : Int32)).toNatClampNeg) := inb_of Sz_10 ⟨by decide, by decide⟩
  obtain ⟨T11, h11, X11, e11, W11, st11⟩ := stB X3 hx hZ e3 Ar_10 (j := (1 : Int32)) hin_10 (g := (mkF m 31 #[.val (.ref ca), .val (.int (1 : Int32)), .val (.ref b), .val (.int (1 : Int32)), .val (.int (2 : Int32)), .val (.int (1 : Int32)), .val (.int x1)] [(.int (x1.toInt8.toInt32)), (.int (1 : Int32)), (.ref b)])) rfl rfl (hb hby own_d5_31)
  have f12 : Arv Z h11 b kb .byte (2 : Int32) [(.int (nar .byte (x0.toInt8.toInt32))), (.int (nar .byte (x1.toInt8.toInt32)))] (.int (0 : Int32)) := Arv.set Ar_10 qq_10 Sz_10 Ng_10 Hs_10 Gf_10 (fits_nar_byte _) W11 1 rfl (Nat.le_of_ble_eq_true rfl)
  have f13 : Arv Z h11 ca kc .char (2 : Int32) [(.int x0), (.int x1)] (.int (0 : Int32)) := f5.other W11 ne
  have K14 : Keep h0 h11 [b] := K6.wr W11 (Or.inl (List.mem_of_getElem? (i := 0) rfl))
  have Z15 : n0 ≤ h11.size := Nat.le_trans Z7 (Keep.of_wr W11).1
  have N16 := Fr.snoc X11 N8 g
  refine OwnGo.back (T11.setTop (mkF m 32 #[.val (.ref ca), .val (.int (1 : Int32)), .val (.ref b), .val (.int (1 : Int32)), .val (.int (2 : Int32)), .val (.int (1 : Int32)), .val (.int x1)] [])) (fun tg kk => st11 _ kk) ?_
  refine OwnGo.back (T11.setTop (mkF m 35 #[.val (.ref ca), .val (.int (2 : Int32)), .val (.ref b), .val (.int (1 : Int32)), .val (.int (2 : Int32)), .val (.int (1 : Int32)), .val (.int x1)] [])) (fun tg kk => XS.iinc X11.here hx rfl (hb hby own_d5_32) rfl (l' := #[.val (.ref ca), .val (.int (2 : Int32)), .val (.ref b), .val (.int (1 : Int32)), .val (.int (2 : Int32)), .val (.int (1 : Int32)), .val (.int x1)]) rfl kk) ?_
  refine OwnGo.back (T11.setTop (mkF m 38 #[.val (.ref ca), .val (.int (2 : Int32)), .val (.ref b), .val (.int (2 : Int32)), .val (.int (2 : Int32)), .val (.int (1 : Int32)), .val (.int x1)] [])) (fun tg kk => XS.iinc X11.here hx rfl (hb hby own_d5_35) rfl (l' := #[.val (.ref ca), .val (.int (2 : Int32)), .val (.ref b), .val (.int (2 : Int32)), .val (.int (2 : Int32)), .val (.int (1 : Int32)), .val (.int x1)]) rfl kk) ?_
  refine OwnGo.back (T11.setTop (mkF m 41 #[.val (.ref ca), .val (.int (2 : Int32)), .val (.ref b), .val (.int (2 : Int32)), .val (.int (2 : Int32)), .val (.int (2 : Int32)), .val (.int x1)] [])) (fun tg kk => XS.iinc X11.here hx rfl (hb hby own_d5_38) rfl (l' := #[.val (.ref ca), .val (.int (2 : Int32)), .val (.ref b), .val (.int (2 : Int32)), .val (.int (2 : Int32)), .val (.int (2 : Int32)), .val (.int x1)]) rfl kk) ?_
  refine OwnGo.back (T11.setTop (mkF m 3 #[.val (.ref ca), .val (.int (2 : Int32)), .val (.ref b), .val (.int (2 : Int32)), .val (.int (2 : Int32)), .val (.int (2 : Int32)), .val (.int x1)] [])) (fun tg kk => XS.goto X11.here hx rfl (pc0 := 41) (pc' := 3) rfl (hb hby own_d5_41) (by decide) (by decide) kk) ?_
  refine OwnGo.back (T11.setTop (mkF m 5 #[.val (.ref ca), .val (.int (2 : Int32)), .val (.ref b), .val (.int (2 : Int32)), .val (.int (2 : Int32)), .val (.int (2 : Int32)), .val (.int x1)] [(.int (2 : Int32))])) (fun tg kk => XS.iload X11.here hx rfl (hb hby own_d5_3) rfl kk) ?_
  refine OwnGo.back (T11.setTop (mkF m 7 #[.val (.ref ca), .val (.int (2 : Int32)), .val (.ref b), .val (.int (2 : Int32)), .val (.int (2 : Int32)), .val (.int (2 : Int32)), .val (.int x1)] [(.int (2 : Int32)), (.int (2 : Int32))])) (fun tg kk => XS.iload X11.here hx rfl (hb hby own_d5_5) rfl kk) ?_
  refine OwnGo.back (T11.setTop (mkF m 44 #[.val (.ref ca), .val (.int (2 : Int32)), .val (.ref b), .val (.int (2 : Int32)), .val (.int (2 : Int32)), .val (.int (2 : Int32)), .val (.int x1)] [])) (fun tg kk => XS.icmpYes X11.here hx rfl (pc0 := 7) (pc' := 44) rfl (hb hby own_d5_7) rfl (flt (by decide : ¬ ((2 : Int32) < (2 : Int32)))).2.1 (by decide) (by decide) kk) ?_
  refine OwnGo.back (T11.setTop (mkF m 46 #[.val (.ref ca), .val (.int (2 : Int32)), .val (.ref b), .val (.int (2 : Int32)), .val (.int (2 : Int32)), .val (.int (2 : Int32)), .val (.int x1)] [(.int (2 : Int32))])) (fun tg kk => XS.iload X11.here hx rfl (hb hby own_d5_44) rfl kk) ?_
  obtain ⟨fs, hr, hrun, hended, hW, hsame⟩ := X11.leave (v := some (.int (2 : Int32))) (fun h => by rw [Bd.returns] at h; cases h)
  refine ⟨_, _, ?_, hrun, hended, _, _, rfl, ?_, ⟨_, rfl⟩, hW, hsame.mono (by decide) (by decide)⟩
  · exact own_retI X11 hx Bd.returns (hb hby own_d5_46) hr
  · show own_cmp2_Q Z ca b kc x0 x1 kb h0 n0 _ T11.heap _
    rw [e11]
    exact ⟨rfl, N16, K14, f12⟩
theorem own_cmps2_ef (m : MethodId) (x0 : Addr) (x1 : Int32) (x2 : Int32) : entryFrame m #[(.ref x0), (.int x1), (.int x2)] 6 = mkF m 0 #[.val (.ref x0), .val (.int x1), .val (.int x2), .unset, .unset, .unset] [] := by first | (simp [entryFrame, mkF, argsToLocals, Value.category]; done) | rfl
def own_cmps2_Q (Z : State) (ca : Addr) (kc : ClassId) (x0 : Int32) (x1 : Int32) (h0 : Heap) (n0 : Nat) (rv : Option Value) (hN : Heap) (LL : List Loc) : Prop := ∃ (b : Addr), ∃ (kb : ClassId), rv = some (.ref b) ∧ Fr n0 LL ∧ Keep h0 hN [] ∧ h0.size ≤ b ∧ Arv Z hN b kb .byte (2 : Int32) [(.int (nar .byte (x0.toInt8.toInt32))), (.int (nar .byte (x1.toInt8.toInt32)))] (.int (0 : Int32))
set_option maxRecDepth 65536 in
set_option maxHeartbeats 40000000 in
theorem own_cmps2 (l : Launch) (Z : State) (a0 : Array Value) (hw : ∀ d ∈ tables_1, d.before a0 Z = true) (ws : List Jvm.Cond) (ca : Addr) (kc : ClassId) (x0 : Int32) (x1 : Int32) (h0 : Heap) (n0 : Nat) (Z0 : n0 ≤ h0.size) (A : Arv Z h0 ca kc .char (2 : Int32) [(.int x0), (.int x1)] (.int (0 : Int32))) (hl0 : ¬ x0 < (0 : Int32)) (hu0 : ¬ (255 : Int32) < x0) (hl1 : ¬ x1 < (0 : Int32)) (hu1 : ¬ (255 : Int32) < x1) :
    MetFree l (⟨"java/lang/StringUTF16", "compress", "([CII)[B"⟩ : MethodName) (head1 (Jvm.Cond.code (⟨"java/lang/StringUTF16", "compress", "([CII)[B"⟩ : MethodName) jdk_52_method_16_code 6 (some (.array .byte)) :: ws) ({ frames := 1, cells := 1, slots := 2, locals := 18 } : Room)) (fun aa UU => aa = #[(.ref ca), (.int (0 : Int32)), (.int (2 : Int32))] ∧ Z.Warmed39 UU.vm ∧ UU.heap = h0) (fun _ _ _ _ _ => True) (fun _ UU oo UU' => ∃ rv LL, oo = .returned rv ∧ own_cmps2_Q Z ca kc x0 x1 h0 n0 rv UU'.heap LL ∧ FrameEnd UU oo UU' LL ({ frames := 1, cells := 1, slots := 2, locals := 18 } : Room).cells ({ frames := 1, cells := 1, slots := 2, locals := 18 } : Room).slots) := by
  refine MetFree.of_bodySF (plainFor_of_name own_pn1) hisR ?_
  intro p e s m args below meth c s₁ Bd hml0 hP hK
  obtain ⟨rfl, hZ, hh⟩ := hP
  have hx := Bd.exec
  have hby := Bd.bytes
  have hml : c.maxLocals = 6 := hml0
  have hown : s.vm.findClass "java/lang/StringUTF16" = some m.cls := findClass_of_methodNamed Bd.named
  have hnm := (name_of_methodNamed Bd.named Bd.method).1
  have X0 : Stand p l e ({ frames := 1, cells := 1, slots := 2, locals := 18 } : Room) s m #[(.ref ca), (.int (0 : Int32)), (.int (2 : Int32))] below meth c s₁ [] 0 0 := Stand.of_body Bd
  have e0 : s₁.heap = h0 := by rw [← hh, Bd.state]; rfl
  have N0 := Fr.nil n0
  have K0 : Keep h0 h0 [] := Keep.refl h0 _
  refine (?_ : OwnGo p.tables e below (fun UU' oo => ∃ rv LL, oo = .returned rv ∧ own_cmps2_Q Z ca kc x0 x1 h0 n0 rv UU'.heap LL ∧ FrameEnd s oo UU' LL ({ frames := 1, cells := 1, slots := 2, locals := 18 } : Room).cells ({ frames := 1, cells := 1, slots := 2, locals := 18 } : Room).slots) _)
  refine OwnGo.back (s₁.setTop (mkF m 0 #[.val (.ref ca), .val (.int (0 : Int32)), .val (.int (2 : Int32)), .unset, .unset, .unset] [])) (fun tg kk => castTop (own_cmps2_ef m ca (0 : Int32) (2 : Int32)) kk) ?_
  refine OwnGo.back (s₁.setTop (mkF m 1 #[.val (.ref ca), .val (.int (0 : Int32)), .val (.int (2 : Int32)), .unset, .unset, .unset] [(.int (2 : Int32))])) (fun tg kk => XS.iloadN X0.here hx rfl (hb hby own_d4_0) rfl kk) ?_
  obtain ⟨T1, h1, k1, X1, e1, E1, A1, st1⟩ := newP X0 hx hZ (hw _ (List.mem_of_getElem? (i := 15) rfl)) e0 (g := (mkF m 1 #[.val (.ref ca), .val (.int (0 : Int32)), .val (.int (2 : Int32)), .unset, .unset, .unset] [(.int (2 : Int32))])) rfl (hb hby own_d4_1) rfl (by decide) (cap := 2) (by decide) (by decide) (by decide) (by decide)
  obtain ⟨b1, q1⟩ : ∃ z, z = h0.size := ⟨_, rfl⟩
  rw [← q1] at A1 st1
  have n2 : ca ≠ b1 := own_ne A.lt q1
  have g3 : n0 ≤ b1 := Nat.le_trans Z0 (Nat.le_of_eq q1.symm)
  have s4 : h0.size ≤ b1 := Nat.le_trans K0.1 (Nat.le_of_eq q1.symm)
  have f5 : Arv Z h1 ca kc .char (2 : Int32) [(.int x0), (.int x1)] (.int (0 : Int32)) := A.ext E1
  have K6 : Keep h0 h1 [] := K0.ext E1
  have Z7 : n0 ≤ h1.size := Nat.le_trans Z0 E1.1
  have f8 : Arv Z h1 b1 k1 .byte (2 : Int32) [(.int (0 : Int32)), (.int (0 : Int32))] (.int (0 : Int32)) := (Arv.new A1 (by decide)).pad (pad_rep [] (.int (0 : Int32)) 2)
  refine OwnGo.back (T1.setTop (mkF m 3 #[.val (.ref ca), .val (.int (0 : Int32)), .val (.int (2 : Int32)), .unset, .unset, .unset] [(.ref b1)])) (fun tg kk => st1 _ kk) ?_
  refine OwnGo.back (T1.setTop (mkF m 4 #[.val (.ref ca), .val (.int (0 : Int32)), .val (.int (2 : Int32)), .val (.ref b1), .unset, .unset] [])) (fun tg kk => XS.astoreN X1.here hx rfl (hb hby own_d4_3) rfl rfl (l' := #[.val (.ref ca), .val (.int (0 : Int32)), .val (.int (2 : Int32)), .val (.ref b1), .unset, .unset]) rfl kk) ?_
  refine OwnGo.back (T1.setTop (mkF m 5 #[.val (.ref ca), .val (.int (0 : Int32)), .val (.int (2 : Int32)), .val (.ref b1), .unset, .unset] [(.ref ca)])) (fun tg kk => XS.aloadN X1.here hx rfl (hb hby own_d4_4) rfl rfl kk) ?_
  refine OwnGo.back (T1.setTop (mkF m 6 #[.val (.ref ca), .val (.int (0 : Int32)), .val (.int (2 : Int32)), .val (.ref b1), .unset, .unset] [(.int (0 : Int32)), (.ref ca)])) (fun tg kk => XS.iloadN X1.here hx rfl (hb hby own_d4_5) rfl kk) ?_
  refine OwnGo.back (T1.setTop (mkF m 7 #[.val (.ref ca), .val (.int (0 : Int32)), .val (.int (2 : Int32)), .val (.ref b1), .unset, .unset] [(.ref b1), (.int (0 : Int32)), (.ref ca)])) (fun tg kk => XS.aloadN X1.here hx rfl (hb hby own_d4_6) rfl rfl kk) ?_
  refine OwnGo.back (T1.setTop (mkF m 8 #[.val (.ref ca), .val (.int (0 : Int32)), .val (.int (2 : Int32)), .val (.ref b1), .unset, .unset] [(.int (0 : Int32)), (.ref b1), (.int (0 : Int32)), (.ref ca)])) (fun tg kk => XS.iconst X1.here hx rfl (hb hby own_d4_7) kk) ?_
  refine OwnGo.back (T1.setTop (mkF m 9 #[.val (.ref ca), .val (.int (0 : Int32)), .val (.int (2 : Int32)), .val (.ref b1), .unset, .unset] [(.int (2 : Int32)), (.int (0 : Int32)), (.ref b1), (.int (0 : Int32)), (.ref ca)])) (fun tg kk => XS.iloadN X1.here hx rfl (hb hby own_d4_8) rfl kk) ?_
  obtain ⟨_, _, ⟨T9, L9, k9, n9⟩, -, X9, ⟨Lc9, hQ9, l9, y9, z9⟩, st9⟩ := Jvm.LawKit.callS X1 hx (y := (⟨"java/lang/StringUTF16", "compress", "([CI[BII)I"⟩ : MethodName)) hown (mvT hZ (hw _ (List.mem_of_getElem? (i := 27) rfl))) (mvT hZ (hw _ (List.mem_of_getElem? (i := 28) rfl))) (mvT hZ (hw _ (List.mem_of_getElem? (i := 25) rfl))) (mvT hZ (hw _ (List.mem_of_getElem? (i := 29) rfl))) (by decide) (backOf (W := 0) (own_cmp2 l Z a0 hw [] ca b1 kc x0 x1 k1 h1 n0 Z7 f5 hl0 hu0 hl1 hu1 f8 n2 g3) hZ (hw _ (List.mem_of_getElem? (i := 29) rfl)) (hw _ (List.mem_of_getElem? (i := 25) rfl)) (by decide) (by decide)) (g := (mkF m 9 #[.val (.ref ca), .val (.int (0 : Int32)), .val (.int (2 : Int32)), .val (.ref b1), .unset, .unset] [(.int (2 : Int32)), (.int (0 : Int32)), (.ref b1), (.int (0 : Int32)), (.ref ca)])) rfl (by rw [hml]; rfl) (argsL := [(.ref ca), (.int (0 : Int32)), (.ref b1), (.int (0 : Int32)), (.int (2 : Int32))]) (rest := []) (lenOf own_pd1 rfl) rfl (by show 2 * 0 + _ ≤ _; exact Nat.le_of_eq rfl) (hb hby own_d4_9) (fun _ _ => ⟨rfl, e1, (by decide : 1 + 0 ≤ _), (by decide : 2 + 0 ≤ _)⟩)
  dsimp only [Pt.U, Pt.locs, Pt.cells, Pt.slots] at X9 l9 y9 z9 st9 hQ9
  subst l9 y9 z9
  obtain ⟨rfl, N9q, Kc9, po10⟩ := hQ9
  have N9 := Fr.app N0 N9q
  have f11 : Arv Z T9.heap ca kc .char (2 : Int32) [(.int x0), (.int x1)] (.int (0 : Int32)) := f5.keep Kc9 (ninS n2 nin0)
  have K12 : Keep h0 T9.heap [] := K6.trans Kc9 (allS (Or.inr s4) all0)
  have Z13 : n0 ≤ T9.heap.size := Nat.le_trans Z7 Kc9.1
  refine OwnGo.back (T9.setTop (mkF m 12 #[.val (.ref ca), .val (.int (0 : Int32)), .val (.int (2 : Int32)), .val (.ref b1), .unset, .unset] [(.int (2 : Int32))])) (fun tg kk => st9 _ kk) ?_
  refine OwnGo.back (T9.setTop (mkF m 14 #[.val (.ref ca), .val (.int (0 : Int32)), .val (.int (2 : Int32)), .val (.ref b1), .val (.int (2 : Int32)), .unset] [])) (fun tg kk => XS.istore X9.here hx rfl (hb hby own_d4_12) rfl (l' := #[.val (.ref ca), .val (.int (0 : Int32)), .val (.int (2 : Int32)), .val (.ref b1), .val (.int (2 : Int32)), .unset]) rfl kk) ?_
  refine OwnGo.back (T9.setTop (mkF m 16 #[.val (.ref ca), .val (.int (0 : Int32)), .val (.int (2 : Int32)), .val (.ref b1), .val (.int (2 : Int32)), .unset] [(.int (2 : Int32))])) (fun tg kk => XS.iload X9.here hx rfl (hb hby own_d4_14) rfl kk) ?_
  refine OwnGo.back (T9.setTop (mkF m 17 #[.val (.ref ca), .val (.int (0 : Int32)), .val (.int (2 : Int32)), .val (.ref b1), .val (.int (2 : Int32)), .unset] [(.int (2 : Int32)), (.int (2 : Int32))])) (fun tg kk => XS.iloadN X9.here hx rfl (hb hby own_d4_16) rfl kk) ?_
  refine OwnGo.back (T9.setTop (mkF m 57 #[.val (.ref ca), .val (.int (0 : Int32)), .val (.int (2 : Int32)), .val (.ref b1), .val (.int (2 : Int32)), .unset] [])) (fun tg kk => XS.icmpYes X9.here hx rfl (pc0 := 17) (pc' := 57) rfl (hb hby own_d4_17) rfl (teq (by decide : (2 : Int32) = (2 : Int32))).1 (by decide) (by decide) kk) ?_
  refine OwnGo.back (T9.setTop (mkF m 58 #[.val (.ref ca), .val (.int (0 : Int32)), .val (.int (2 : Int32)), .val (.ref b1), .val (.int (2 : Int32)), .unset] [(.ref b1)])) (fun tg kk => XS.aloadN X9.here hx rfl (hb hby own_d4_57) rfl rfl kk) ?_
  obtain ⟨fs, hr, hrun, hended, hW, hsame⟩ := X9.leave (v := some (.ref b1)) (fun h => by rw [Bd.returns] at h; cases h)
  refine ⟨_, _, ?_, hrun, hended, _, _, rfl, ?_, ⟨_, rfl⟩, hW, hsame.mono (by decide) (by decide)⟩
  · exact own_retA X9 hx Bd.returns rfl rfl rfl (hb hby own_d4_58) hr
  · show own_cmps2_Q Z ca kc x0 x1 h0 n0 _ T9.heap _
    exact ⟨b1, k1, rfl, N9, K12, s4, po10⟩
theorem own_cfl2_ef (m : MethodId) (x0 : Addr) (x1 : Int32) : entryFrame m #[(.ref x0), (.int x1)] 2 = mkF m 0 #[.val (.ref x0), .val (.int x1)] [] := by first | (simp [entryFrame, mkF, argsToLocals, Value.category]; done) | rfl
def own_cfl2_Q (Z : State) (b : Addr) (kb : ClassId) (x0 : Int32) (x1 : Int32) (h0 : Heap) (n0 : Nat) (rv : Option Value) (hN : Heap) (LL : List Loc) : Prop := rv = some (.int (0 : Int32)) ∧ Fr n0 LL ∧ hN = h0
set_option maxRecDepth 65536 in
set_option maxHeartbeats 40000000 in
theorem own_cfl2 (l : Launch) (Z : State) (a0 : Array Value) (hw : ∀ d ∈ tables_1, d.before a0 Z = true) (ws : List Jvm.Cond) (b : Addr) (kb : ClassId) (x0 : Int32) (x1 : Int32) (h0 : Heap) (n0 : Nat) (Z0 : n0 ≤ h0.size) (B : Arv Z h0 b kb .byte (2 : Int32) [(.int (nar .byte (x0.toInt8.toInt32))), (.int (nar .byte (x1.toInt8.toInt32)))] (.int (0 : Int32))) :
    MetFree l (⟨"java/lang/StringUTF16", "coderFromArrayLen", "([BI)B"⟩ : MethodName) (head1 (Jvm.Cond.code (⟨"java/lang/StringUTF16", "coderFromArrayLen", "([BI)B"⟩ : MethodName) jdk_52_method_15_code 2 (some .byte) :: ws) ({ frames := 0, cells := 0, slots := 0, locals := 0 } : Room)) (fun aa UU => aa = #[(.ref b), (.int (2 : Int32))] ∧ Z.Warmed39 UU.vm ∧ UU.heap = h0) (fun _ _ _ _ _ => True) (fun _ UU oo UU' => ∃ rv LL, oo = .returned rv ∧ own_cfl2_Q Z b kb x0 x1 h0 n0 rv UU'.heap LL ∧ FrameEnd UU oo UU' LL ({ frames := 0, cells := 0, slots := 0, locals := 0 } : Room).cells ({ frames := 0, cells := 0, slots := 0, locals := 0 } : Room).slots) := by
  refine MetFree.of_bodySF (plainFor_of_name own_pn1) hisR ?_
  intro p e s m args below meth c s₁ Bd hml0 hP hK
  obtain ⟨rfl, hZ, hh⟩ := hP
  have hx := Bd.exec
  have hby := Bd.bytes
  have hml : c.maxLocals = 2 := hml0
  have hown : s.vm.findClass "java/lang/StringUTF16" = some m.cls := findClass_of_methodNamed Bd.named
  have hnm := (name_of_methodNamed Bd.named Bd.method).1
  have X0 : Stand p l e ({ frames := 0, cells := 0, slots := 0, locals := 0 } : Room) s m #[(.ref b), (.int (2 : Int32))] below meth c s₁ [] 0 0 := Stand.of_body Bd
  have e0 : s₁.heap = h0 := by rw [← hh, Bd.state]; rfl
  have N0 := Fr.nil n0
  have K0 : Keep h0 h0 [] := Keep.refl h0 _
  refine (?_ : OwnGo p.tables e below (fun UU' oo => ∃ rv LL, oo = .returned rv ∧ own_cfl2_Q Z b kb x0 x1 h0 n0 rv UU'.heap LL ∧ FrameEnd s oo UU' LL ({ frames := 0, cells := 0, slots := 0, locals := 0 } : Room).cells ({ frames := 0, cells := 0, slots := 0, locals := 0 } : Room).slots) _)
  refine OwnGo.back (s₁.setTop (mkF m 0 #[.val (.ref b), .val (.int (2 : Int32))] [])) (fun tg kk => castTop (own_cfl2_ef m b (2 : Int32)) kk) ?_
  refine OwnGo.back (s₁.setTop (mkF m 1 #[.val (.ref b), .val (.int (2 : Int32))] [(.int (2 : Int32))])) (fun tg kk => XS.iloadN X0.here hx rfl (hb hby own_d6_0) rfl kk) ?_
  refine OwnGo.back (s₁.setTop (mkF m 2 #[.val (.ref b), .val (.int (2 : Int32))] [(.ref b), (.int (2 : Int32))])) (fun tg kk => XS.aloadN X0.here hx rfl (hb hby own_d6_1) rfl rfl kk) ?_
  obtain ⟨cl_1, Ar_1, -, Sz_1, Ng_1, -, -⟩ := id B
  refine OwnGo.back (s₁.setTop (mkF m 3 #[.val (.ref b), .val (.int (2 : Int32))] [(.int (2 : Int32)), (.int (2 : Int32))])) (fun tg kk => X0.arraylength hx (by rw [e0]; exact Ar_1.1) (State.isArrayOf_alike hZ.alike Ar_1.2.1) (g := (mkF m 2 #[.val (.ref b), .val (.int (2 : Int32))] [(.ref b), (.int (2 : Int32))])) rfl rfl (hb hby own_d6_2) _ (by rw [len_of Sz_1 Ng_1]; exact kk)) ?_
  refine OwnGo.back (s₁.setTop (mkF m 4 #[.val (.ref b), .val (.int (2 : Int32))] [(.int (0 : Int32))])) (fun tg kk => XS.isub X0.here hx rfl (hb hby own_d6_3) rfl kk) ?_
  refine OwnGo.back (s₁.setTop (mkF m 6 #[.val (.ref b), .val (.int (2 : Int32))] [(.int (31 : Int32)), (.int (0 : Int32))])) (fun tg kk => XS.bipush X0.here hx rfl (hb hby own_d6_4) kk) ?_
  refine OwnGo.back (s₁.setTop (mkF m 7 #[.val (.ref b), .val (.int (2 : Int32))] [(.int (0 : Int32))])) (fun tg kk => XS.iushr X0.here hx rfl (hb hby own_d6_6) rfl kk) ?_
  refine OwnGo.back (s₁.setTop (mkF m 8 #[.val (.ref b), .val (.int (2 : Int32))] [(.int (0 : Int32))])) (fun tg kk => XS.i2b X0.here hx rfl (hb hby own_d6_7) rfl kk) ?_
  obtain ⟨fs, hr, hrun, hended, hW, hsame⟩ := X0.leave (v := some (.int (0 : Int32))) (fun h => by rw [Bd.returns] at h; cases h)
  refine ⟨_, _, ?_, hrun, hended, _, _, rfl, ?_, ⟨_, rfl⟩, hW, hsame.mono (by decide) (by decide)⟩
  · exact retN X0 hx (t := .byte) Bd.returns (by simp) (hb hby own_d6_8) hr
  · show own_cfl2_Q Z b kb x0 x1 h0 n0 _ s₁.heap _
    rw [e0]
    exact ⟨rfl, N0, rfl⟩
theorem own_i4_2_ef (m : MethodId) (x0 : Addr) (x1 : Addr) (x2 : Int32) (x3 : Int32) : entryFrame m #[(.ref x0), (.ref x1), (.int x2), (.int x3), .null] 6 = mkF m 0 #[.val (.ref x0), .val (.ref x1), .val (.int x2), .val (.int x3), .val .null, .unset] [] := by first | (simp [entryFrame, mkF, argsToLocals, Value.category]; done) | rfl
def own_i4_2_Q (Z : State) (a : Addr) (ca : Addr) (kc : ClassId) (x0 : Int32) (x1 : Int32) (cs : Int32) (h0 : Heap) (n0 : Nat) (rv : Option Value) (hN : Heap) (LL : List Loc) : Prop := ∃ (b : Addr), ∃ (kb : ClassId), rv = none ∧ Fr n0 LL ∧ Keep h0 hN [a] ∧ h0.size ≤ b ∧ Exa Z hN a "java/lang/String" ∧ Fld Z hN a "java/lang/String" "value" "[B" (.ref b) ∧ Fld Z hN a "java/lang/String" "coder" "B" (.int (0 : Int32)) ∧ Arv Z hN b kb .byte (2 : Int32) [(.int (nar .byte (x0.toInt8.toInt32))), (.int (nar .byte (x1.toInt8.toInt32)))] (.int (0 : Int32))
set_option maxRecDepth 65536 in
set_option maxHeartbeats 40000000 in
theorem own_i4_2 (l : Launch) (Z : State) (a0 : Array Value) (hw : ∀ d ∈ tables_1, d.before a0 Z = true) (ws : List Jvm.Cond) (a : Addr) (ca : Addr) (kc : ClassId) (x0 : Int32) (x1 : Int32) (cs : Int32) (h0 : Heap) (n0 : Nat) (Z0 : n0 ≤ h0.size) (A : Arv Z h0 ca kc .char (2 : Int32) [(.int x0), (.int x1)] (.int (0 : Int32))) (hl0 : ¬ x0 < (0 : Int32)) (hu0 : ¬ (255 : Int32) < x0) (hl1 : ¬ x1 < (0 : Int32)) (hu1 : ¬ (255 : Int32) < x1) (S : Sta Z Z.heap "java/lang/String" "COMPACT_STRINGS" "Z" (.int cs)) (old : Old Z n0 h0) (hcs : ¬ cs = 0) (H0 : Exa Z h0 a "java/lang/String") (H1 : Fld Z h0 a "java/lang/String" "value" "[B" .null) (H2 : Fld Z h0 a "java/lang/String" "coder" "B" (.int (0 : Int32))) (H3 : n0 ≤ a) (H4 : a ≠ ca) :
    MetFree l (⟨"java/lang/String", "<init>", "([CIILjava/lang/Void;)V"⟩ : MethodName) (head1 (Jvm.Cond.code (⟨"java/lang/String", "<init>", "([CIILjava/lang/Void;)V"⟩ : MethodName) jdk_42_method_149_code 6 none :: ws) ({ frames := 2, cells := 1, slots := 2, locals := 35 } : Room)) (fun aa UU => aa = #[(.ref a), (.ref ca), (.int (0 : Int32)), (.int (2 : Int32)), .null] ∧ Z.Warmed39 UU.vm ∧ UU.heap = h0) (fun _ _ _ _ _ => True) (fun _ UU oo UU' => ∃ rv LL, oo = .returned rv ∧ own_i4_2_Q Z a ca kc x0 x1 cs h0 n0 rv UU'.heap LL ∧ FrameEnd UU oo UU' LL ({ frames := 2, cells := 1, slots := 2, locals := 35 } : Room).cells ({ frames := 2, cells := 1, slots := 2, locals := 35 } : Room).slots) := by
  refine MetFree.of_bodySF (plainFor_of_name own_pn0) hisR ?_
  intro p e s m args below meth c s₁ Bd hml0 hP hK
  obtain ⟨rfl, hZ, hh⟩ := hP
  have hx := Bd.exec
  have hby := Bd.bytes
  have hml : c.maxLocals = 6 := hml0
  have hown : s.vm.findClass "java/lang/String" = some m.cls := findClass_of_methodNamed Bd.named
  have hnm := (name_of_methodNamed Bd.named Bd.method).1
  have X0 : Stand p l e ({ frames := 2, cells := 1, slots := 2, locals := 35 } : Room) s m #[(.ref a), (.ref ca), (.int (0 : Int32)), (.int (2 : Int32)), .null] below meth c s₁ [] 0 0 := Stand.of_body Bd
  have e0 : s₁.heap = h0 := by rw [← hh, Bd.state]; rfl
  have N0 := Fr.nil n0
  have K0 : Keep h0 h0 [a] := Keep.refl h0 _
  refine (?_ : OwnGo p.tables e below (fun UU' oo => ∃ rv LL, oo = .returned rv ∧ own_i4_2_Q Z a ca kc x0 x1 cs h0 n0 rv UU'.heap LL ∧ FrameEnd s oo UU' LL ({ frames := 2, cells := 1, slots := 2, locals := 35 } : Room).cells ({ frames := 2, cells := 1, slots := 2, locals := 35 } : Room).slots) _)
  refine OwnGo.back (s₁.setTop (mkF m 0 #[.val (.ref a), .val (.ref ca), .val (.int (0 : Int32)), .val (.int (2 : Int32)), .val .null, .unset] [])) (fun tg kk => castTop (own_i4_2_ef m a ca (0 : Int32) (2 : Int32)) kk) ?_
  refine OwnGo.back (s₁.setTop (mkF m 1 #[.val (.ref a), .val (.ref ca), .val (.int (0 : Int32)), .val (.int (2 : Int32)), .val .null, .unset] [(.ref a)])) (fun tg kk => XS.aloadN X0.here hx rfl (hb hby own_d2_0) rfl rfl kk) ?_
  obtain ⟨T1, X1, e1, st1⟩ := initO X0 hx hZ hown (hw _ (List.mem_of_getElem? (i := 11) rfl)) (hw _ (List.mem_of_getElem? (i := 12) rfl)) (hw _ (List.mem_of_getElem? (i := 13) rfl)) e0 (g := (mkF m 1 #[.val (.ref a), .val (.ref ca), .val (.int (0 : Int32)), .val (.int (2 : Int32)), .val .null, .unset] [(.ref a)])) rfl (by rw [hml]; rfl) rfl (hb hby own_d2_1) (by decide) (W := 0) (by show 2 * 0 + _ ≤ _; exact Nat.le_of_eq rfl) (by decide)
  refine OwnGo.back (T1.setTop (mkF m 4 #[.val (.ref a), .val (.ref ca), .val (.int (0 : Int32)), .val (.int (2 : Int32)), .val .null, .unset] [])) (fun tg kk => st1 _ kk) ?_
  refine OwnGo.back (T1.setTop (mkF m 5 #[.val (.ref a), .val (.ref ca), .val (.int (0 : Int32)), .val (.int (2 : Int32)), .val .null, .unset] [(.int (2 : Int32))])) (fun tg kk => XS.iloadN X1.here hx rfl (hb hby own_d2_4) rfl kk) ?_
  refine OwnGo.back (T1.setTop (mkF m 27 #[.val (.ref a), .val (.ref ca), .val (.int (0 : Int32)), .val (.int (2 : Int32)), .val .null, .unset] [])) (fun tg kk => XS.ifYes X1.here hx rfl (pc0 := 5) (pc' := 27) rfl (hb hby own_d2_5) rfl ((if0 _ _).trans (feq (by decide : ¬ ((2 : Int32) = (0 : Int32)))).2) (by decide) (by decide) kk) ?_
  obtain ⟨T2, X2, e2, st2⟩ := getS2 X1 hx hZ hown (host := "") (Or.inl (hw _ (List.mem_of_getElem? (i := 22) rfl))) Via.refl e1 (S.ext old.2) (g := (mkF m 27 #[.val (.ref a), .val (.ref ca), .val (.int (0 : Int32)), .val (.int (2 : Int32)), .val .null, .unset] [])) rfl (hb hby own_d2_27)
  refine OwnGo.back (T2.setTop (mkF m 30 #[.val (.ref a), .val (.ref ca), .val (.int (0 : Int32)), .val (.int (2 : Int32)), .val .null, .unset] [(.int cs)])) (fun tg kk => st2 _ kk) ?_
  refine OwnGo.back (T2.setTop (mkF m 33 #[.val (.ref a), .val (.ref ca), .val (.int (0 : Int32)), .val (.int (2 : Int32)), .val .null, .unset] [])) (fun tg kk => XS.ifNo X2.here hx rfl (hb hby own_d2_30) rfl ((if0 _ _).trans (feq (hcs : ¬ (cs = (0 : Int32)))).1) kk) ?_
  refine OwnGo.back (T2.setTop (mkF m 34 #[.val (.ref a), .val (.ref ca), .val (.int (0 : Int32)), .val (.int (2 : Int32)), .val .null, .unset] [(.ref ca)])) (fun tg kk => XS.aloadN X2.here hx rfl (hb hby own_d2_33) rfl rfl kk) ?_
  refine OwnGo.back (T2.setTop (mkF m 35 #[.val (.ref a), .val (.ref ca), .val (.int (0 : Int32)), .val (.int (2 : Int32)), .val .null, .unset] [(.int (0 : Int32)), (.ref ca)])) (fun tg kk => XS.iloadN X2.here hx rfl (hb hby own_d2_34) rfl kk) ?_
  refine OwnGo.back (T2.setTop (mkF m 36 #[.val (.ref a), .val (.ref ca), .val (.int (0 : Int32)), .val (.int (2 : Int32)), .val .null, .unset] [(.int (2 : Int32)), (.int (0 : Int32)), (.ref ca)])) (fun tg kk => XS.iloadN X2.here hx rfl (hb hby own_d2_35) rfl kk) ?_
  obtain ⟨_, _, ⟨T3, L3, k3, n3⟩, -, X3, ⟨Lc3, hQ3, l3, y3, z3⟩, st3⟩ := Jvm.LawKit.callS X2 hx (y := (⟨"java/lang/StringUTF16", "compress", "([CII)[B"⟩ : MethodName)) hown (mvT hZ (hw _ (List.mem_of_getElem? (i := 23) rfl))) (mvT hZ (hw _ (List.mem_of_getElem? (i := 24) rfl))) (mvT hZ (hw _ (List.mem_of_getElem? (i := 25) rfl))) (mvT hZ (hw _ (List.mem_of_getElem? (i := 26) rfl))) (by decide) (backOf (W := 0) (own_cmps2 l Z a0 hw [] ca kc x0 x1 h0 n0 Z0 A hl0 hu0 hl1 hu1) hZ (hw _ (List.mem_of_getElem? (i := 26) rfl)) (hw _ (List.mem_of_getElem? (i := 25) rfl)) (by decide) (by decide)) (g := (mkF m 36 #[.val (.ref a), .val (.ref ca), .val (.int (0 : Int32)), .val (.int (2 : Int32)), .val .null, .unset] [(.int (2 : Int32)), (.int (0 : Int32)), (.ref ca)])) rfl (by rw [hml]; rfl) (argsL := [(.ref ca), (.int (0 : Int32)), (.int (2 : Int32))]) (rest := []) (lenOf own_pd2 rfl) rfl (by show 2 * 0 + _ ≤ _; exact Nat.le_of_eq rfl) (hb hby own_d2_36) (fun _ _ => ⟨rfl, e2, (by decide : 0 + 1 ≤ _), (by decide : 0 + 2 ≤ _)⟩)
  dsimp only [Pt.U, Pt.locs, Pt.cells, Pt.slots] at X3 l3 y3 z3 st3 hQ3
  subst l3 y3 z3
  obtain ⟨b_4, kb_5, rfl, N3q, Kc3, po6, po7⟩ := hQ3
  have N3 := Fr.app N0 N3q
  have f8 : Arv Z T3.heap ca kc .char (2 : Int32) [(.int x0), (.int x1)] (.int (0 : Int32)) := A.keep Kc3 nin0
  have f9 : Old Z n0 T3.heap := old.keep Kc3 all0
  have f10 : Exa Z T3.heap a "java/lang/String" := H0.keep Kc3
  have f11 : Fld Z T3.heap a "java/lang/String" "value" "[B" .null := H1.keep Kc3 nin0
  have f12 : Fld Z T3.heap a "java/lang/String" "coder" "B" (.int (0 : Int32)) := H2.keep Kc3 nin0
  have K13 : Keep h0 T3.heap [a] := K0.trans Kc3 all0
  have Z14 : n0 ≤ T3.heap.size := Nat.le_trans Z0 Kc3.1
  have n15 : a ≠ b_4 := own_ne' H0.lt po6
  have n16 : ca ≠ b_4 := own_ne' A.lt po6
  have g17 : n0 ≤ b_4 := Nat.le_trans Z0 po6
  have s18 : h0.size ≤ b_4 := Nat.le_trans K0.1 po6
  refine OwnGo.back (T3.setTop (mkF m 39 #[.val (.ref a), .val (.ref ca), .val (.int (0 : Int32)), .val (.int (2 : Int32)), .val .null, .unset] [(.ref b_4)])) (fun tg kk => st3 _ kk) ?_
  refine OwnGo.back (T3.setTop (mkF m 41 #[.val (.ref a), .val (.ref ca), .val (.int (0 : Int32)), .val (.int (2 : Int32)), .val .null, .val (.ref b_4)] [])) (fun tg kk => XS.astore X3.here hx rfl (hb hby own_d2_39) rfl rfl (l' := #[.val (.ref a), .val (.ref ca), .val (.int (0 : Int32)), .val (.int (2 : Int32)), .val .null, .val (.ref b_4)]) rfl kk) ?_
  refine OwnGo.back (T3.setTop (mkF m 42 #[.val (.ref a), .val (.ref ca), .val (.int (0 : Int32)), .val (.int (2 : Int32)), .val .null, .val (.ref b_4)] [(.ref a)])) (fun tg kk => XS.aloadN X3.here hx rfl (hb hby own_d2_41) rfl rfl kk) ?_
  refine OwnGo.back (T3.setTop (mkF m 44 #[.val (.ref a), .val (.ref ca), .val (.int (0 : Int32)), .val (.int (2 : Int32)), .val .null, .val (.ref b_4)] [(.ref b_4), (.ref a)])) (fun tg kk => XS.aload X3.here hx rfl (hb hby own_d2_42) rfl rfl kk) ?_
  refine OwnGo.back (T3.setTop (mkF m 45 #[.val (.ref a), .val (.ref ca), .val (.int (0 : Int32)), .val (.int (2 : Int32)), .val .null, .val (.ref b_4)] [(.int (2 : Int32)), (.ref b_4), (.ref a)])) (fun tg kk => XS.iloadN X3.here hx rfl (hb hby own_d2_44) rfl kk) ?_
  obtain ⟨_, _, ⟨T19, L19, k19, n19⟩, -, X19, ⟨Lc19, hQ19, l19, y19, z19⟩, st19⟩ := Jvm.LawKit.callS X3 hx (y := (⟨"java/lang/StringUTF16", "coderFromArrayLen", "([BI)B"⟩ : MethodName)) hown (mvT hZ (hw _ (List.mem_of_getElem? (i := 30) rfl))) (mvT hZ (hw _ (List.mem_of_getElem? (i := 31) rfl))) (mvT hZ (hw _ (List.mem_of_getElem? (i := 25) rfl))) (mvT hZ (hw _ (List.mem_of_getElem? (i := 32) rfl))) (by decide) (backOf (W := 1) (own_cfl2 l Z a0 hw [] b_4 kb_5 x0 x1 T3.heap n0 Z14 po7) hZ (hw _ (List.mem_of_getElem? (i := 32) rfl)) (hw _ (List.mem_of_getElem? (i := 25) rfl)) (by decide) (by decide)) (g := (mkF m 45 #[.val (.ref a), .val (.ref ca), .val (.int (0 : Int32)), .val (.int (2 : Int32)), .val .null, .val (.ref b_4)] [(.int (2 : Int32)), (.ref b_4), (.ref a)])) rfl (by rw [hml]; rfl) (argsL := [(.ref b_4), (.int (2 : Int32))]) (rest := [(.ref a)]) (lenOf own_pd3 rfl) rfl (by show 2 * 0 + _ ≤ _; exact Nat.le_of_eq rfl) (hb hby own_d2_45) (fun _ _ => ⟨rfl, rfl, (by decide : 1 + 0 ≤ _), (by decide : 2 + 0 ≤ _)⟩)
  dsimp only [Pt.U, Pt.locs, Pt.cells, Pt.slots] at X19 l19 y19 z19 st19 hQ19
  subst l19 y19 z19
  obtain ⟨rfl, N19q, e19⟩ := hQ19
  have N19 := Fr.app N3 N19q
  refine OwnGo.back (T19.setTop (mkF m 48 #[.val (.ref a), .val (.ref ca), .val (.int (0 : Int32)), .val (.int (2 : Int32)), .val .null, .val (.ref b_4)] [(.int (0 : Int32)), (.ref a)])) (fun tg kk => st19 _ kk) ?_
  obtain ⟨T20, h20, X20, e20, W20, st20⟩ := putF X19 hx hZ hown (host := "") (Or.inl (hw _ (List.mem_of_getElem? (i := 21) rfl))) Via.refl e19 f12 f10 (Or.inr ⟨(hw _ (List.mem_of_getElem? (i := 17) rfl)), rfl, hnm⟩) (hw _ (List.mem_of_getElem? (i := 2) rfl)) (ty := .byte) (by decide) rfl rfl (g := (mkF m 48 #[.val (.ref a), .val (.ref ca), .val (.int (0 : Int32)), .val (.int (2 : Int32)), .val .null, .val (.ref b_4)] [(.int (0 : Int32)), (.ref a)])) rfl rfl (hb hby own_d2_48)
  have f21 : Fld Z h20 a "java/lang/String" "coder" "B" (.int (0 : Int32)) := f12.same W20
  have f22 : Arv Z h20 ca kc .char (2 : Int32) [(.int x0), (.int x1)] (.int (0 : Int32)) := f8.other W20 (Ne.symm H4)
  have f23 : Old Z n0 h20 := f9.wr W20 H3
  have f24 : Exa Z h20 a "java/lang/String" := f10.wr W20
  have f25 : Fld Z h20 a "java/lang/String" "value" "[B" .null := f11.other W20 (Or.inr (slot_ne (Or.inr (hw _ (List.mem_of_getElem? (i := 16) rfl))) (Or.inr (hw _ (List.mem_of_getElem? (i := 17) rfl))) (by decide) (t := (.array .byte)) (t' := .byte) (by decide) (by decide)))
  have f26 : Arv Z h20 b_4 kb_5 .byte (2 : Int32) [(.int (nar .byte (x0.toInt8.toInt32))), (.int (nar .byte (x1.toInt8.toInt32)))] (.int (0 : Int32)) := po7.other W20 (Ne.symm n15)
  have K27 : Keep h0 h20 [a] := K13.wr W20 (Or.inl (List.mem_of_getElem? (i := 0) rfl))
  have Z28 : n0 ≤ h20.size := Nat.le_trans Z14 (Keep.of_wr W20).1
  have N29 := Fr.snoc X20 N19 H3
  refine OwnGo.back (T20.setTop (mkF m 51 #[.val (.ref a), .val (.ref ca), .val (.int (0 : Int32)), .val (.int (2 : Int32)), .val .null, .val (.ref b_4)] [])) (fun tg kk => st20 _ kk) ?_
  refine OwnGo.back (T20.setTop (mkF m 52 #[.val (.ref a), .val (.ref ca), .val (.int (0 : Int32)), .val (.int (2 : Int32)), .val .null, .val (.ref b_4)] [(.ref a)])) (fun tg kk => XS.aloadN X20.here hx rfl (hb hby own_d2_51) rfl rfl kk) ?_
  refine OwnGo.back (T20.setTop (mkF m 54 #[.val (.ref a), .val (.ref ca), .val (.int (0 : Int32)), .val (.int (2 : Int32)), .val .null, .val (.ref b_4)] [(.ref b_4), (.ref a)])) (fun tg kk => XS.aload X20.here hx rfl (hb hby own_d2_52) rfl rfl kk) ?_
  obtain ⟨T30, h30, X30, e30, W30, st30⟩ := putF X20 hx hZ hown (host := "") (Or.inl (hw _ (List.mem_of_getElem? (i := 20) rfl))) Via.refl e20 f25 f24 (Or.inr ⟨(hw _ (List.mem_of_getElem? (i := 16) rfl)), rfl, hnm⟩) (hw _ (List.mem_of_getElem? (i := 2) rfl)) (ty := (.array .byte)) (by decide) rfl rfl (g := (mkF m 54 #[.val (.ref a), .val (.ref ca), .val (.int (0 : Int32)), .val (.int (2 : Int32)), .val .null, .val (.ref b_4)] [(.ref b_4), (.ref a)])) rfl rfl (hb hby own_d2_54)
  have f31 : Fld Z h30 a "java/lang/String" "value" "[B" (.ref b_4) := f25.same W30
  have f32 : Arv Z h30 ca kc .char (2 : Int32) [(.int x0), (.int x1)] (.int (0 : Int32)) := f22.other W30 (Ne.symm H4)
  have f33 : Old Z n0 h30 := f23.wr W30 H3
  have f34 : Exa Z h30 a "java/lang/String" := f24.wr W30
  have f35 : Arv Z h30 b_4 kb_5 .byte (2 : Int32) [(.int (nar .byte (x0.toInt8.toInt32))), (.int (nar .byte (x1.toInt8.toInt32)))] (.int (0 : Int32)) := f26.other W30 (Ne.symm n15)
  have f36 : Fld Z h30 a "java/lang/String" "coder" "B" (.int (0 : Int32)) := f21.other W30 (Or.inr (slot_ne (Or.inr (hw _ (List.mem_of_getElem? (i := 17) rfl))) (Or.inr (hw _ (List.mem_of_getElem? (i := 16) rfl))) (by decide) (t := .byte) (t' := (.array .byte)) (by decide) (by decide)))
  have K37 : Keep h0 h30 [a] := K27.wr W30 (Or.inl (List.mem_of_getElem? (i := 0) rfl))
  have Z38 : n0 ≤ h30.size := Nat.le_trans Z28 (Keep.of_wr W30).1
  have N39 := Fr.snoc X30 N29 H3
  refine OwnGo.back (T30.setTop (mkF m 57 #[.val (.ref a), .val (.ref ca), .val (.int (0 : Int32)), .val (.int (2 : Int32)), .val .null, .val (.ref b_4)] [])) (fun tg kk => st30 _ kk) ?_
  obtain ⟨fs, hr, hrun, hended, hW, hsame⟩ := X30.leave (v := none) (fun _ => rfl)
  refine ⟨_, _, ?_, hrun, hended, _, _, rfl, ?_, ⟨_, rfl⟩, hW, hsame.mono (by decide) (by decide)⟩
  · exact X30.returnOut hx Bd.returns (hb hby own_d2_57) hr
  · show own_i4_2_Q Z a ca kc x0 x1 cs h0 n0 _ T30.heap _
    rw [e30]
    exact ⟨b_4, kb_5, rfl, N39, K37, s18, f34, f31, f36, f35⟩
theorem own_i1_2_ef (m : MethodId) (x0 : Addr) (x1 : Addr) : entryFrame m #[(.ref x0), (.ref x1)] 2 = mkF m 0 #[.val (.ref x0), .val (.ref x1)] [] := by first | (simp [entryFrame, mkF, argsToLocals, Value.category]; done) | rfl
def own_i1_2_Q (Z : State) (a : Addr) (ca : Addr) (kc : ClassId) (x0 : Int32) (x1 : Int32) (cs : Int32) (h0 : Heap) (n0 : Nat) (rv : Option Value) (hN : Heap) (LL : List Loc) : Prop := ∃ (b : Addr), ∃ (kb : ClassId), rv = none ∧ Fr n0 LL ∧ Keep h0 hN [a] ∧ h0.size ≤ b ∧ Exa Z hN a "java/lang/String" ∧ Fld Z hN a "java/lang/String" "value" "[B" (.ref b) ∧ Fld Z hN a "java/lang/String" "coder" "B" (.int (0 : Int32)) ∧ Arv Z hN b kb .byte (2 : Int32) [(.int (nar .byte (x0.toInt8.toInt32))), (.int (nar .byte (x1.toInt8.toInt32)))] (.int (0 : Int32))
set_option maxRecDepth 65536 in
set_option maxHeartbeats 40000000 in
theorem own_i1_2 (l : Launch) (Z : State) (a0 : Array Value) (hw : ∀ d ∈ tables_1, d.before a0 Z = true) (ws : List Jvm.Cond) (a : Addr) (ca : Addr) (kc : ClassId) (x0 : Int32) (x1 : Int32) (cs : Int32) (h0 : Heap) (n0 : Nat) (Z0 : n0 ≤ h0.size) (A : Arv Z h0 ca kc .char (2 : Int32) [(.int x0), (.int x1)] (.int (0 : Int32))) (hl0 : ¬ x0 < (0 : Int32)) (hu0 : ¬ (255 : Int32) < x0) (hl1 : ¬ x1 < (0 : Int32)) (hu1 : ¬ (255 : Int32) < x1) (S : Sta Z Z.heap "java/lang/String" "COMPACT_STRINGS" "Z" (.int cs)) (old : Old Z n0 h0) (hcs : ¬ cs = 0) (H0 : Exa Z h0 a "java/lang/String") (H1 : Fld Z h0 a "java/lang/String" "value" "[B" .null) (H2 : Fld Z h0 a "java/lang/String" "coder" "B" (.int (0 : Int32))) (H3 : n0 ≤ a) (H4 : a ≠ ca) :
    MetFree l (⟨"java/lang/String", "<init>", "([C)V"⟩ : MethodName) (head1 (Jvm.Cond.code (⟨"java/lang/String", "<init>", "([C)V"⟩ : MethodName) jdk_42_method_3_code 2 none :: ws) ({ frames := 3, cells := 1, slots := 2, locals := 52 } : Room)) (fun aa UU => aa = #[(.ref a), (.ref ca)] ∧ Z.Warmed39 UU.vm ∧ UU.heap = h0) (fun _ _ _ _ _ => True) (fun _ UU oo UU' => ∃ rv LL, oo = .returned rv ∧ own_i1_2_Q Z a ca kc x0 x1 cs h0 n0 rv UU'.heap LL ∧ FrameEnd UU oo UU' LL ({ frames := 3, cells := 1, slots := 2, locals := 52 } : Room).cells ({ frames := 3, cells := 1, slots := 2, locals := 52 } : Room).slots) := by
  refine MetFree.of_bodySF (plainFor_of_name own_pn0) hisR ?_
  intro p e s m args below meth c s₁ Bd hml0 hP hK
  obtain ⟨rfl, hZ, hh⟩ := hP
  have hx := Bd.exec
  have hby := Bd.bytes
  have hml : c.maxLocals = 2 := hml0
  have hown : s.vm.findClass "java/lang/String" = some m.cls := findClass_of_methodNamed Bd.named
  have hnm := (name_of_methodNamed Bd.named Bd.method).1
  have X0 : Stand p l e ({ frames := 3, cells := 1, slots := 2, locals := 52 } : Room) s m #[(.ref a), (.ref ca)] below meth c s₁ [] 0 0 := Stand.of_body Bd
  have e0 : s₁.heap = h0 := by rw [← hh, Bd.state]; rfl
  have N0 := Fr.nil n0
  have K0 : Keep h0 h0 [a] := Keep.refl h0 _
  refine (?_ : OwnGo p.tables e below (fun UU' oo => ∃ rv LL, oo = .returned rv ∧ own_i1_2_Q Z a ca kc x0 x1 cs h0 n0 rv UU'.heap LL ∧ FrameEnd s oo UU' LL ({ frames := 3, cells := 1, slots := 2, locals := 52 } : Room).cells ({ frames := 3, cells := 1, slots := 2, locals := 52 } : Room).slots) _)
  refine OwnGo.back (s₁.setTop (mkF m 0 #[.val (.ref a), .val (.ref ca)] [])) (fun tg kk => castTop (own_i1_2_ef m a ca) kk) ?_
  refine OwnGo.back (s₁.setTop (mkF m 1 #[.val (.ref a), .val (.ref ca)] [(.ref a)])) (fun tg kk => XS.aloadN X0.here hx rfl (hb hby own_d1_0) rfl rfl kk) ?_
  refine OwnGo.back (s₁.setTop (mkF m 2 #[.val (.ref a), .val (.ref ca)] [(.ref ca), (.ref a)])) (fun tg kk => XS.aloadN X0.here hx rfl (hb hby own_d1_1) rfl rfl kk) ?_
  refine OwnGo.back (s₁.setTop (mkF m 3 #[.val (.ref a), .val (.ref ca)] [(.int (0 : Int32)), (.ref ca), (.ref a)])) (fun tg kk => XS.iconst X0.here hx rfl (hb hby own_d1_2) kk) ?_
  refine OwnGo.back (s₁.setTop (mkF m 4 #[.val (.ref a), .val (.ref ca)] [(.ref ca), (.int (0 : Int32)), (.ref ca), (.ref a)])) (fun tg kk => XS.aloadN X0.here hx rfl (hb hby own_d1_3) rfl rfl kk) ?_
  obtain ⟨cl_1, Ar_1, -, Sz_1, Ng_1, -, -⟩ := id A
  refine OwnGo.back (s₁.setTop (mkF m 5 #[.val (.ref a), .val (.ref ca)] [(.int (2 : Int32)), (.int (0 : Int32)), (.ref ca), (.ref a)])) (fun tg kk => X0.arraylength hx (by rw [e0]; exact Ar_1.1) (State.isArrayOf_alike hZ.alike Ar_1.2.1) (g := (mkF m 4 #[.val (.ref a), .val (.ref ca)] [(.ref ca), (.int (0 : Int32)), (.ref ca), (.ref a)])) rfl rfl (hb hby own_d1_4) _ (by rw [len_of Sz_1 Ng_1]; exact kk)) ?_
  refine OwnGo.back (s₁.setTop (mkF m 6 #[.val (.ref a), .val (.ref ca)] [.null, (.int (2 : Int32)), (.int (0 : Int32)), (.ref ca), (.ref a)])) (fun tg kk => XS.aconstNull X0.here hx rfl (hb hby own_d1_5) kk) ?_
  obtain ⟨_, _, ⟨T2, L2, k2, n2⟩, -, X2, ⟨Lc2, hQ2, l2, y2, z2⟩, st2⟩ := X0.specialBack hx (y := (⟨"java/lang/String", "<init>", "([CIILjava/lang/Void;)V"⟩ : MethodName)) rfl hown (mvT hZ (hw _ (List.mem_of_getElem? (i := 7) rfl))) (mvT hZ (hw _ (List.mem_of_getElem? (i := 8) rfl))) (mvT hZ (hw _ (List.mem_of_getElem? (i := 10) rfl))) (by decide) (backOf (W := 0) (own_i4_2 l Z a0 hw [] a ca kc x0 x1 cs h0 n0 Z0 A hl0 hu0 hl1 hu1 S old hcs H0 H1 H2 H3 H4) hZ (hw _ (List.mem_of_getElem? (i := 10) rfl)) (hw _ (List.mem_of_getElem? (i := 3) rfl)) (by decide) (by decide)) (g := (mkF m 6 #[.val (.ref a), .val (.ref ca)] [.null, (.int (2 : Int32)), (.int (0 : Int32)), (.ref ca), (.ref a)])) rfl (by rw [hml]; rfl) (Steps.refl _) (a := a) (argsL := [(.ref ca), (.int (0 : Int32)), (.int (2 : Int32)), .null]) (rest := []) (lenOf own_pd0 rfl) rfl (by show 2 * 0 + _ ≤ _; exact Nat.le_of_eq rfl) (hb hby own_d1_6) (fun _ _ => ⟨rfl, e0, (by decide : 0 + 1 ≤ _), (by decide : 0 + 2 ≤ _)⟩)
  dsimp only [Pt.U, Pt.locs, Pt.cells, Pt.slots] at X2 l2 y2 z2 st2 hQ2
  subst l2 y2 z2
  obtain ⟨b_3, kb_4, rfl, N2q, Kc2, po5, po6, po7, po8, po9⟩ := hQ2
  have N2 := Fr.app N0 N2q
  have f10 : Arv Z T2.heap ca kc .char (2 : Int32) [(.int x0), (.int x1)] (.int (0 : Int32)) := A.keep Kc2 (ninS (Ne.symm H4) nin0)
  have f11 : Old Z n0 T2.heap := old.keep Kc2 (allS H3 all0)
  have f12 : Exa Z T2.heap a "java/lang/String" := H0.keep Kc2
  have K13 : Keep h0 T2.heap [a] := K0.trans Kc2 (allS (Or.inl (List.mem_of_getElem? (i := 0) rfl)) all0)
  have Z14 : n0 ≤ T2.heap.size := Nat.le_trans Z0 Kc2.1
  have n15 : a ≠ b_3 := own_ne' H0.lt po5
  have n16 : ca ≠ b_3 := own_ne' A.lt po5
  have g17 : n0 ≤ b_3 := Nat.le_trans Z0 po5
  have s18 : h0.size ≤ b_3 := Nat.le_trans K0.1 po5
  refine OwnGo.back (T2.setTop (mkF m 9 #[.val (.ref a), .val (.ref ca)] [])) (fun tg kk => st2.trans kk) ?_
  obtain ⟨fs, hr, hrun, hended, hW, hsame⟩ := X2.leave (v := none) (fun _ => rfl)
  refine ⟨_, _, ?_, hrun, hended, _, _, rfl, ?_, ⟨_, rfl⟩, hW, hsame.mono (by decide) (by decide)⟩
  · exact X2.returnOut hx Bd.returns (hb hby own_d1_9) hr
  · show own_i1_2_Q Z a ca kc x0 x1 cs h0 n0 _ T2.heap _
    exact ⟨b_3, kb_4, rfl, N2, K13, s18, po6, po7, po8, po9⟩
theorem own_cmp3_ef (m : MethodId) (x0 : Addr) (x1 : Int32) (x2 : Addr) (x3 : Int32) (x4 : Int32) : entryFrame m #[(.ref x0), (.int x1), (.ref x2), (.int x3), (.int x4)] 7 = mkF m 0 #[.val (.ref x0), .val (.int x1), .val (.ref x2), .val (.int x3), .val (.int x4), .unset, .unset] [] := by first | (simp [entryFrame, mkF, argsToLocals, Value.category]; done) | rfl
def own_cmp3_Q (Z : State) (ca : Addr) (b : Addr) (kc : ClassId) (x0 : Int32) (x1 : Int32) (x2 : Int32) (kb : ClassId) (h0 : Heap) (n0 : Nat) (rv : Option Value) (hN : Heap) (LL : List Loc) : Prop := rv = some (.int (3 : Int32)) ∧ Fr n0 LL ∧ Keep h0 hN [b] ∧ Arv Z hN b kb .byte (3 : Int32) [(.int (nar .byte (x0.toInt8.toInt32))), (.int (nar .byte (x1.toInt8.toInt32))), (.int (nar .byte (x2.toInt8.toInt32)))] (.int (0 : Int32))
set_option maxRecDepth 65536 in
set_option maxHeartbeats 40000000 in
theorem own_cmp3 (l : Launch) (Z : State) (a0 : Array Value) (hw : ∀ d ∈ tables_1, d.before a0 Z = true) (ws : List Jvm.Cond) (ca : Addr) (b : Addr) (kc : ClassId) (x0 : Int32) (x1 : Int32) (x2 : Int32) (kb : ClassId) (h0 : Heap) (n0 : Nat) (Z0 : n0 ≤ h0.size) (A : Arv Z h0 ca kc .char (3 : Int32) [(.int x0), (.int x1), (.int x2)] (.int (0 : Int32))) (hl0 : ¬ x0 < (0 : Int32)) (hu0 : ¬ (255 : Int32) < x0) (hl1 : ¬ x1 < (0 : Int32)) (hu1 : ¬ (255 : Int32) < x1) (hl2 : ¬ x2 < (0 : Int32)) (hu2 : ¬ (255 : Int32) < x2) (B : Arv Z h0 b kb .byte (3 : Int32) [(.int (0 : Int32)), (.int (0 : Int32)), (.int (0 : Int32))] (.int (0 : Int32))) (ne : ca ≠ b) (g : n0 ≤ b) :
    MetFree l (⟨"java/lang/StringUTF16", "compress", "([CI[BII)I"⟩ : MethodName) (head1 (Jvm.Cond.code (⟨"java/lang/StringUTF16", "compress", "([CI[BII)I"⟩ : MethodName) jdk_52_method_21_code 7 (some .int) :: ws) ({ frames := 0, cells := 0, slots := 0, locals := 0 } : Room)) (fun aa UU => aa = #[(.ref ca), (.int (0 : Int32)), (.ref b), (.int (0 : Int32)), (.int (3 : Int32))] ∧ Z.Warmed39 UU.vm ∧ UU.heap = h0) (fun _ _ _ _ _ => True) (fun _ UU oo UU' => ∃ rv LL, oo = .returned rv ∧ own_cmp3_Q Z ca b kc x0 x1 x2 kb h0 n0 rv UU'.heap LL ∧ FrameEnd UU oo UU' LL ({ frames := 0, cells := 0, slots := 0, locals := 0 } : Room).cells ({ frames := 0, cells := 0, slots := 0, locals := 0 } : Room).slots) := by
  refine MetFree.of_bodySF (plainFor_of_name own_pn1) hisR ?_
  intro p e s m args below meth c s₁ Bd hml0 hP hK
  obtain ⟨rfl, hZ, hh⟩ := hP
  have hx := Bd.exec
  have hby := Bd.bytes
  have hml : c.maxLocals = 7 := hml0
  have hown : s.vm.findClass "java/lang/StringUTF16" = some m.cls := findClass_of_methodNamed Bd.named
  have hnm := (name_of_methodNamed Bd.named Bd.method).1
  have X0 : Stand p l e ({ frames := 0, cells := 0, slots := 0, locals := 0 } : Room) s m #[(.ref ca), (.int (0 : Int32)), (.ref b), (.int (0 : Int32)), (.int (3 : Int32))] below meth c s₁ [] 0 0 := Stand.of_body Bd
  have e0 : s₁.heap = h0 := by rw [← hh, Bd.state]; rfl
  have N0 := Fr.nil n0
  have K0 : Keep h0 h0 [b] := Keep.refl h0 _
  refine (?_ : OwnGo p.tables e below (fun UU' oo => ∃ rv LL, oo = .returned rv ∧ own_cmp3_Q Z ca b kc x0 x1 x2 kb h0 n0 rv UU'.heap LL ∧ FrameEnd s oo UU' LL ({ frames := 0, cells := 0, slots := 0, locals := 0 } : Room).cells ({ frames := 0, cells := 0, slots := 0, locals := 0 } : Room).slots) _)
  refine OwnGo.back (s₁.setTop (mkF m 0 #[.val (.ref ca), .val (.int (0 : Int32)), .val (.ref b), .val (.int (0 : Int32)), .val (.int (3 : Int32)), .unset, .unset] [])) (fun tg kk => castTop (own_cmp3_ef m ca (0 : Int32) b (0 : Int32) (3 : Int32)) kk) ?_
  refine OwnGo.back (s₁.setTop (mkF m 1 #[.val (.ref ca), .val (.int (0 : Int32)), .val (.ref b), .val (.int (0 : Int32)), .val (.int (3 : Int32)), .unset, .unset] [(.int (0 : Int32))])) (fun tg kk => XS.iconst X0.here hx rfl (hb hby own_d5_0) kk) ?_
  refine OwnGo.back (s₁.setTop (mkF m 3 #[.val (.ref ca), .val (.int (0 : Int32)), .val (.ref b), .val (.int (0 : Int32)), .val (.int (3 : Int32)), .val (.int (0 : Int32)), .unset] [])) (fun tg kk => XS.istore X0.here hx rfl (hb hby own_d5_1) rfl (l' := #[.val (.ref ca), .val (.int (0 : Int32)), .val (.ref b), .val (.int (0 : Int32)), .val (.int (3 : Int32)), .val (.int (0 : Int32)), .unset]) rfl kk) ?_
  refine OwnGo.back (s₁.setTop (mkF m 5 #[.val (.ref ca), .val (.int (0 : Int32)), .val (.ref b), .val (.int (0 : Int32)), .val (.int (3 : Int32)), .val (.int (0 : Int32)), .unset] [(.int (0 : Int32))])) (fun tg kk => XS.iload X0.here hx rfl (hb hby own_d5_3) rfl kk) ?_
  refine OwnGo.back (s₁.setTop (mkF m 7 #[.val (.ref ca), .val (.int (0 : Int32)), .val (.ref b), .val (.int (0 : Int32)), .val (.int (3 : Int32)), .val (.int (0 : Int32)), .unset] [(.int (3 : Int32)), (.int (0 : Int32))])) (fun tg kk => XS.iload X0.here hx rfl (hb hby own_d5_5) rfl kk) ?_
  refine OwnGo.back (s₁.setTop (mkF m 10 #[.val (.ref ca), .val (.int (0 : Int32)), .val (.ref b), .val (.int (0 : Int32)), .val (.int (3 : Int32)), .val (.int (0 : Int32)), .unset] [])) (fun tg kk => XS.icmpNo X0.here hx rfl (hb hby own_d5_7) rfl (tlt (by decide : (0 : Int32) < (3 : Int32))).2.1 kk) ?_
  refine OwnGo.back (s₁.setTop (mkF m 11 #[.val (.ref ca), .val (.int (0 : Int32)), .val (.ref b), .val (.int (0 : Int32)), .val (.int (3 : Int32)), .val (.int (0 : Int32)), .unset] [(.ref ca)])) (fun tg kk => XS.aloadN X0.here hx rfl (hb hby own_d5_10) rfl rfl kk) ?_
  refine OwnGo.back (s₁.setTop (mkF m 12 #[.val (.ref ca), .val (.int (0 : Int32)), .val (.ref b), .val (.int (0 : Int32)), .val (.int (3 : Int32)), .val (.int (0 : Int32)), .unset] [(.int (0 : Int32)), (.ref ca)])) (fun tg kk => XS.iloadN X0.here hx rfl (hb hby own_d5_11) rfl kk) ?_
  obtain ⟨cl_1, Ar_1, qq_1, Sz_1, Ng_1, Hs_1, Gf_1⟩ := id A
  have hin_1 : ¬ ((0 : Int32) < 0 ∨ cl_1.slots.size ≤ ((0 : Int32)).toNatClampNeg) := inb_of Sz_1 ⟨by decide, by decide⟩
  have hat_1 : cl_1.slots[((0 : Int32)).toNatClampNeg]? = some (.int x0) := Has.at Hs_1 hin_1 rfl
  refine OwnGo.back (s₁.setTop (mkF m 13 #[.val (.ref ca), .val (.int (0 : Int32)), .val (.ref b), .val (.int (0 : Int32)), .val (.int (3 : Int32)), .val (.int (0 : Int32)), .unset] [(.int x0)])) (fun tg kk => X0.caload hx (j := (0 : Int32)) (v := (.int x0)) (by rw [e0]; exact Ar_1.1) (State.isArrayOf_alike hZ.alike Ar_1.2.1) Ar_1.2.2 hin_1 hat_1 (g := (mkF m 12 #[.val (.ref ca), .val (.int (0 : Int32)), .val (.ref b), .val (.int (0 : Int32)), .val (.int (3 : Int32)), .val (.int (0 : Int32)), .unset] [(.int (0 : Int32)), (.ref ca)])) rfl rfl (hb hby own_d5_12) _ kk) ?_
  refine OwnGo.back (s₁.setTop (mkF m 15 #[.val (.ref ca), .val (.int (0 : Int32)), .val (.ref b), .val (.int (0 : Int32)), .val (.int (3 : Int32)), .val (.int (0 : Int32)), .val (.int x0)] [])) (fun tg kk => XS.istore X0.here hx rfl (hb hby own_d5_13) rfl (l' := #[.val (.ref ca), .val (.int (0 : Int32)), .val (.ref b), .val (.int (0 : Int32)), .val (.int (3 : Int32)), .val (.int (0 : Int32)), .val (.int x0)]) rfl kk) ?_
  refine OwnGo.back (s₁.setTop (mkF m 17 #[.val (.ref ca), .val (.int (0 : Int32)), .val (.ref b), .val (.int (0 : Int32)), .val (.int (3 : Int32)), .val (.int (0 : Int32)), .val (.int x0)] [(.int x0)])) (fun tg kk => XS.iload X0.here hx rfl (hb hby own_d5_15) rfl kk) ?_
  refine OwnGo.back (s₁.setTop (mkF m 20 #[.val (.ref ca), .val (.int (0 : Int32)), .val (.ref b), .val (.int (0 : Int32)), .val (.int (3 : Int32)), .val (.int (0 : Int32)), .val (.int x0)] [(.int (255 : Int32)), (.int x0)])) (fun tg kk => XS.sipush X0.here hx rfl (hb hby own_d5_17) kk) ?_
  refine OwnGo.back (s₁.setTop (mkF m 26 #[.val (.ref ca), .val (.int (0 : Int32)), .val (.ref b), .val (.int (0 : Int32)), .val (.int (3 : Int32)), .val (.int (0 : Int32)), .val (.int x0)] [])) (fun tg kk => XS.icmpYes X0.here hx rfl (pc0 := 20) (pc' := 26) rfl (hb hby own_d5_20) rfl (flt (hu0 : ¬ ((255 : Int32) < x0))).2.2.2 (by decide) (by decide) kk) ?_
  refine OwnGo.back (s₁.setTop (mkF m 27 #[.val (.ref ca), .val (.int (0 : Int32)), .val (.ref b), .val (.int (0 : Int32)), .val (.int (3 : Int32)), .val (.int (0 : Int32)), .val (.int x0)] [(.ref b)])) (fun tg kk => XS.aloadN X0.here hx rfl (hb hby own_d5_26) rfl rfl kk) ?_
  refine OwnGo.back (s₁.setTop (mkF m 28 #[.val (.ref ca), .val (.int (0 : Int32)), .val (.ref b), .val (.int (0 : Int32)), .val (.int (3 : Int32)), .val (.int (0 : Int32)), .val (.int x0)] [(.int (0 : Int32)), (.ref b)])) (fun tg kk => XS.iloadN X0.here hx rfl (hb hby own_d5_27) rfl kk) ?_
  refine OwnGo.back (s₁.setTop (mkF m 30 #[.val (.ref ca), .val (.int (0 : Int32)), .val (.ref b), .val (.int (0 : Int32)), .val (.int (3 : Int32)), .val (.int (0 : Int32)), .val (.int x0)] [(.int x0), (.int (0 : Int32)), (.ref b)])) (fun tg kk => XS.iload X0.here hx rfl (hb hby own_d5_28) rfl kk) ?_
  refine OwnGo.back (s₁.setTop (mkF m 31 #[.val (.ref ca), .val (.int (0 : Int32)), .val (.ref b), .val (.int (0 : Int32)), .val (.int (3 : Int32)), .val (.int (0 : Int32)), .val (.int x0)] [(.int (x0.toInt8.toInt32)), (.int (0 : Int32)), (.ref b)])) (fun tg kk => XS.i2b X0.here hx rfl (hb hby own_d5_30) rfl kk) ?_
  obtain ⟨cl_2, Ar_2, qq_2, Sz_2, Ng_2, Hs_2, Gf_2⟩ := id B
  have hin_2 : ¬ ((0 : Int32) < 0 ∨ cl_2.slots.size ≤ ((0 : Int32)).toNatClampNeg) := inb_of Sz_2 ⟨by decide, by decide⟩
  obtain ⟨T3, h3, X3, e3, W3, st3⟩ := stB X0 hx hZ e0 Ar_2 (j := (0 : Int32)) hin_2 (g := (mkF m 31 #[.val (.ref ca), .val (.int (0 : Int32)), .val (.ref b), .val (.int (0 : Int32)), .val (.int (3 : Int32)), .val (.int (0 : Int32)), .val (.int x0)] [(.int (x0.toInt8.toInt32)), (.int (0 : Int32)), (.ref b)])) rfl rfl (hb hby own_d5_31)
  have f4 : Arv Z h3 b kb .byte (3 : Int32) [(.int (nar .byte (x0.toInt8.toInt32))), (.int (0 : Int32)), (.int (0 : Int32))] (.int (0 : Int32)) := Arv.set Ar_2 qq_2 Sz_2 Ng_2 Hs_2 Gf_2 (fits_nar_byte _) W3 0 rfl (Nat.le_of_ble_eq_true rfl)
  have f5 : Arv Z h3 ca kc .char (3 : Int32) [(.int x0), (.int x1), (.int x2)] (.int (0 : Int32)) := A.other W3 ne
  have K6 : Keep h0 h3 [b] := K0.wr W3 (Or.inl (List.mem_of_getElem? (i := 0) rfl))
  have Z7 : n0 ≤ h3.size := Nat.le_trans Z0 (Keep.of_wr W3).1
  have N8 := Fr.snoc X3 N0 g
  refine OwnGo.back (T3.setTop (mkF m 32 #[.val (.ref ca), .val (.int (0 : Int32)), .val (.ref b), .val (.int (0 : Int32)), .val (.int (3 : Int32)), .val (.int (0 : Int32)), .val (.int x0)] [])) (fun tg kk => st3 _ kk) ?_
  refine OwnGo.back (T3.setTop (mkF m 35 #[.val (.ref ca), .val (.int (1 : Int32)), .val (.ref b), .val (.int (0 : Int32)), .val (.int (3 : Int32)), .val (.int (0 : Int32)), .val (.int x0)] [])) (fun tg kk => XS.iinc X3.here hx rfl (hb hby own_d5_32) rfl (l' := #[.val (.ref ca), .val (.int (1 : Int32)), .val (.ref b), .val (.int (0 : Int32)), .val (.int (3 : Int32)), .val (.int (0 : Int32)), .val (.int x0)]) rfl kk) ?_
  refine OwnGo.back (T3.setTop (mkF m 38 #[.val (.ref ca), .val (.int (1 : Int32)), .val (.ref b), .val (.int (1 : Int32)), .val (.int (3 : Int32)), .val (.int (0 : Int32)), .val (.int x0)] [])) (fun tg kk => XS.iinc X3.here hx rfl (hb hby own_d5_35) rfl (l' := #[.val (.ref ca), .val (.int (1 : Int32)), .val (.ref b), .val (.int (1 : Int32)), .val (.int (3 : Int32)), .val (.int (0 : Int32)), .val (.int x0)]) rfl kk) ?_
  refine OwnGo.back (T3.setTop (mkF m 41 #[.val (.ref ca), .val (.int (1 : Int32)), .val (.ref b), .val (.int (1 : Int32)), .val (.int (3 : Int32)), .val (.int (1 : Int32)), .val (.int x0)] [])) (fun tg kk => XS.iinc X3.here hx rfl (hb hby own_d5_38) rfl (l' := #[.val (.ref ca), .val (.int (1 : Int32)), .val (.ref b), .val (.int (1 : Int32)), .val (.int (3 : Int32)), .val (.int (1 : Int32)), .val (.int x0)]) rfl kk) ?_
  refine OwnGo.back (T3.setTop (mkF m 3 #[.val (.ref ca), .val (.int (1 : Int32)), .val (.ref b), .val (.int (1 : Int32)), .val (.int (3 : Int32)), .val (.int (1 : Int32)), .val (.int x0)] [])) (fun tg kk => XS.goto X3.here hx rfl (pc0 := 41) (pc' := 3) rfl (hb hby own_d5_41) (by decide) (by decide) kk) ?_
  refine OwnGo.back (T3.setTop (mkF m 5 #[.val (.ref ca), .val (.int (1 : Int32)), .val (.ref b), .val (.int (1 : Int32)), .val (.int (3 : Int32)), .val (.int (1 : Int32)), .val (.int x0)] [(.int (1 : Int32))])) (fun tg kk => XS.iload X3.here hx rfl (hb hby own_d5_3) rfl kk) ?_
  refine OwnGo.back (T3.setTop (mkF m 7 #[.val (.ref ca), .val (.int (1 : Int32)), .val (.ref b), .val (.int (1 : Int32)), .val (.int (3 : Int32)), .val (.int (1 : Int32)), .val (.int x0)] [(.int (3 : Int32)), (.int (1 : Int32))])) (fun tg kk => XS.iload X3.here hx rfl (hb hby own_d5_5) rfl kk) ?_
  refine OwnGo.back (T3.setTop (mkF m 10 #[.val (.ref ca), .val (.int (1 : Int32)), .val (.ref b), .val (.int (1 : Int32)), .val (.int (3 : Int32)), .val (.int (1 : Int32)), .val (.int x0)] [])) (fun tg kk => XS.icmpNo X3.here hx rfl (hb hby own_d5_7) rfl (tlt (by decide : (1 : Int32) < (3 : Int32))).2.1 kk) ?_
  refine OwnGo.back (T3.setTop (mkF m 11 #[.val (.ref ca), .val (.int (1 : Int32)), .val (.ref b), .val (.int (1 : Int32)), .val (.int (3 : Int32)), .val (.int (1 : Int32)), .val (.int x0)] [(.ref ca)])) (fun tg kk => XS.aloadN X3.here hx rfl (hb hby own_d5_10) rfl rfl kk) ?_
  refine OwnGo.back (T3.setTop (mkF m 12 #[.val (.ref ca), .val (.int (1 : Int32)), .val (.ref b), .val (.int (1 : Int32)), .val (.int (3 : Int32)), .val (.int (1 : Int32)), .val (.int x0)] [(.int (1 : Int32)), (.ref ca)])) (fun tg kk => XS.iloadN X3.here hx rfl (hb hby own_d5_11) rfl kk) ?_
  obtain ⟨cl_9, Ar_9, qq_9, Sz_9, Ng_9, Hs_9, Gf_9⟩ := id f5
  have hin_9 : ¬ ((1 : Int32) < 0 ∨ cl_9.slots.size ≤ ((1 : Int32)).toNatClampNeg) := inb_of Sz_9 ⟨by decide, by decide⟩
  have hat_9 : cl_9.slots[((1 : Int32)).toNatClampNeg]? = some (.int x1) := Has.at Hs_9 hin_9 rfl
  refine OwnGo.back (T3.setTop (mkF m 13 #[.val (.ref ca), .val (.int (1 : Int32)), .val (.ref b), .val (.int (1 : Int32)), .val (.int (3 : Int32)), .val (.int (1 : Int32)), .val (.int x0)] [(.int x1)])) (fun tg kk => X3.caload hx (j := (1 : Int32)) (v := (.int x1)) (by rw [e3]; exact Ar_9.1) (State.isArrayOf_alike hZ.alike Ar_9.2.1) Ar_9.2.2 hin_9 hat_9 (g := (mkF m 12 #[.val (.ref ca), .val (.int (1 : Int32)), .val (.ref b), .val (.int (1 : Int32)), .val (.int (3 : Int32)), .val (.int (1 : Int32)), .val (.int x0)] [(.int (1 : Int32)), (.ref ca)])) rfl rfl (hb hby own_d5_12) _ kk) ?_
  refine OwnGo.back (T3.setTop (mkF m 15 #[.val (.ref ca), .val (.int (1 : Int32)), .val (.ref b), .val (.int (1 : Int32)), .val (.int (3 : Int32)), .val (.int (1 : Int32)), .val (.int x1)] [])) (fun tg kk => XS.istore X3.here hx rfl (hb hby own_d5_13) rfl (l' := #[.val (.ref ca), .val (.int (1 : Int32)), .val (.ref b), .val (.int (1 : Int32)), .val (.int (3 : Int32)), .val (.int (1 : Int32)), .val (.int x1)]) rfl kk) ?_
  refine OwnGo.back (T3.setTop (mkF m 17 #[.val (.ref ca), .val (.int (1 : Int32)), .val (.ref b), .val (.int (1 : Int32)), .val (.int (3 : Int32)), .val (.int (1 : Int32)), .val (.int x1)] [(.int x1)])) (fun tg kk => XS.iload X3.here hx rfl (hb hby own_d5_15) rfl kk) ?_
  refine OwnGo.back (T3.setTop (mkF m 20 #[.val (.ref ca), .val (.int (1 : Int32)), .val (.ref b), .val (.int (1 : Int32)), .val (.int (3 : Int32)), .val (.int (1 : Int32)), .val (.int x1)] [(.int (255 : Int32)), (.int x1)])) (fun tg kk => XS.sipush X3.here hx rfl (hb hby own_d5_17) kk) ?_
  refine OwnGo.back (T3.setTop (mkF m 26 #[.val (.ref ca), .val (.int (1 : Int32)), .val (.ref b), .val (.int (1 : Int32)), .val (.int (3 : Int32)), .val (.int (1 : Int32)), .val (.int x1)] [])) (fun tg kk => XS.icmpYes X3.here hx rfl (pc0 := 20) (pc' := 26) rfl (hb hby own_d5_20) rfl (flt (hu1 : ¬ ((255 : Int32) < x1))).2.2.2 (by decide) (by decide) kk) ?_
  refine OwnGo.back (T3.setTop (mkF m 27 #[.val (.ref ca), .val (.int (1 : Int32)), .val (.ref b), .val (.int (1 : Int32)), .val (.int (3 : Int32)), .val (.int (1 : Int32)), .val (.int x1)] [(.ref b)])) (fun tg kk => XS.aloadN X3.here hx rfl (hb hby own_d5_26) rfl rfl kk) ?_
  refine OwnGo.back (T3.setTop (mkF m 28 #[.val (.ref ca), .val (.int (1 : Int32)), .val (.ref b), .val (.int (1 : Int32)), .val (.int (3 : Int32)), .val (.int (1 : Int32)), .val (.int x1)] [(.int (1 : Int32)), (.ref b)])) (fun tg kk => XS.iloadN X3.here hx rfl (hb hby own_d5_27) rfl kk) ?_
  refine OwnGo.back (T3.setTop (mkF m 30 #[.val (.ref ca), .val (.int (1 : Int32)), .val (.ref b), .val (.int (1 : Int32)), .val (.int (3 : Int32)), .val (.int (1 : Int32)), .val (.int x1)] [(.int x1), (.int (1 : Int32)), (.ref b)])) (fun tg kk => XS.iload X3.here hx rfl (hb hby own_d5_28) rfl kk) ?_
  refine OwnGo.back (T3.setTop (mkF m 31 #[.val (.ref ca), .val (.int (1 : Int32)), .val (.ref b), .val (.int (1 : Int32)), .val (.int (3 : Int32)), .val (.int (1 : Int32)), .val (.int x1)] [(.int (x1.toInt8.toInt32)), (.int (1 : Int32)), (.ref b)])) (fun tg kk => XS.i2b X3.here hx rfl (hb hby own_d5_30) rfl kk) ?_
  obtain ⟨cl_10, Ar_10, qq_10, Sz_10, Ng_10, Hs_10, Gf_10⟩ := id f4
  have hin_10 : ¬ ((1 : Int32) < 0 ∨ cl_10.slots.size ≤ ((1 : Int32)).toNatClampNeg) := inb_of Sz_10 ⟨by decide, by decide⟩
  obtain ⟨T11, h11, X11, e11, W11, st11⟩ := stB X3 hx hZ e3 Ar_10 (j := (1 : Int32)) hin_10 (g := (mkF m 31 #[.val (.ref ca), .val (.int (1 : Int32)), .val (.ref b), .val (.int (1 : Int32)), .val (.int (3 : Int32)), .val (.int (1 : Int32)), .val (.int x1)] [(.int (x1.toInt8.toInt32)), (.int (1 : Int32)), (.ref b)])) rfl rfl (hb hby own_d5_31)
  have f12 : Arv Z h11 b kb .byte (3 : Int32) [(.int (nar .byte (x0.toInt8.toInt32))), (.int (nar .byte (x1.toInt8.toInt32))), (.int (0 : Int32))] (.int (0 : Int32)) := Arv.set Ar_10 qq_10 Sz_10 Ng_10 Hs_10 Gf_10 (fits_nar_byte _) W11 1 rfl (Nat.le_of_ble_eq_true rfl)
  have f13 : Arv Z h11 ca kc .char (3 : Int32) [(.int x0), (.int x1), (.int x2)] (.int (0 : Int32)) := f5.other W11 ne
  have K14 : Keep h0 h11 [b] := K6.wr W11 (Or.inl (List.mem_of_getElem? (i := 0) rfl))
  have Z15 : n0 ≤ h11.size := Nat.le_trans Z7 (Keep.of_wr W11).1
  have N16 := Fr.snoc X11 N8 g
  refine OwnGo.back (T11.setTop (mkF m 32 #[.val (.ref ca), .val (.int (1 : Int32)), .val (.ref b), .val (.int (1 : Int32)), .val (.int (3 : Int32)), .val (.int (1 : Int32)), .val (.int x1)] [])) (fun tg kk => st11 _ kk) ?_
  refine OwnGo.back (T11.setTop (mkF m 35 #[.val (.ref ca), .val (.int (2 : Int32)), .val (.ref b), .val (.int (1 : Int32)), .val (.int (3 : Int32)), .val (.int (1 : Int32)), .val (.int x1)] [])) (fun tg kk => XS.iinc X11.here hx rfl (hb hby own_d5_32) rfl (l' := #[.val (.ref ca), .val (.int (2 : Int32)), .val (.ref b), .val (.int (1 : Int32)), .val (.int (3 : Int32)), .val (.int (1 : Int32)), .val (.int x1)]) rfl kk) ?_
  refine OwnGo.back (T11.setTop (mkF m 38 #[.val (.ref ca), .val (.int (2 : Int32)), .val (.ref b), .val (.int (2 : Int32)), .val (.int (3 : Int32)), .val (.int (1 : Int32)), .val (.int x1)] [])) (fun tg kk => XS.iinc X11.here hx rfl (hb hby own_d5_35) rfl (l' := #[.val (.ref ca), .val (.int (2 : Int32)), .val (.ref b), .val (.int (2 : Int32)), .val (.int (3 : Int32)), .val (.int (1 : Int32)), .val (.int x1)]) rfl kk) ?_
  refine OwnGo.back (T11.setTop (mkF m 41 #[.val (.ref ca), .val (.int (2 : Int32)), .val (.ref b), .val (.int (2 : Int32)), .val (.int (3 : Int32)), .val (.int (2 : Int32)), .val (.int x1)] [])) (fun tg kk => XS.iinc X11.here hx rfl (hb hby own_d5_38) rfl (l' := #[.val (.ref ca), .val (.int (2 : Int32)), .val (.ref b), .val (.int (2 : Int32)), .val (.int (3 : Int32)), .val (.int (2 : Int32)), .val (.int x1)]) rfl kk) ?_
  refine OwnGo.back (T11.setTop (mkF m 3 #[.val (.ref ca), .val (.int (2 : Int32)), .val (.ref b), .val (.int (2 : Int32)), .val (.int (3 : Int32)), .val (.int (2 : Int32)), .val (.int x1)] [])) (fun tg kk => XS.goto X11.here hx rfl (pc0 := 41) (pc' := 3) rfl (hb hby own_d5_41) (by decide) (by decide) kk) ?_
  refine OwnGo.back (T11.setTop (mkF m 5 #[.val (.ref ca), .val (.int (2 : Int32)), .val (.ref b), .val (.int (2 : Int32)), .val (.int (3 : Int32)), .val (.int (2 : Int32)), .val (.int x1)] [(.int (2 : Int32))])) (fun tg kk => XS.iload X11.here hx rfl (hb hby own_d5_3) rfl kk) ?_
  refine OwnGo.back (T11.setTop (mkF m 7 #[.val (.ref ca), .val (.int (2 : Int32)), .val (.ref b), .val (.int (2 : Int32)), .val (.int (3 : Int32)), .val (.int (2 : Int32)), .val (.int x1)] [(.int (3 : Int32)), (.int (2 : Int32))])) (fun tg kk => XS.iload X11.here hx rfl (hb hby own_d5_5) rfl kk) ?_
  refine OwnGo.back (T11.setTop (mkF m 10 #[.val (.ref ca), .val (.int (2 : Int32)), .val (.ref b), .val (.int (2 : Int32)), .val (.int (3 : Int32)), .val (.int (2 : Int32)), .val (.int x1)] [])) (fun tg kk => XS.icmpNo X11.here hx rfl (hb hby own_d5_7) rfl (tlt (by decide : (2 : Int32) < (3 : Int32))).2.1 kk) ?_
  refine OwnGo.back (T11.setTop (mkF m 11 #[.val (.ref ca), .val (.int (2 : Int32)), .val (.ref b), .val (.int (2 : Int32)), .val (.int (3 : Int32)), .val (.int (2 : Int32)), .val (.int x1)] [(.ref ca)])) (fun tg kk => XS.aloadN X11.here hx rfl (hb hby own_d5_10) rfl rfl kk) ?_
  refine OwnGo.back (T11.setTop (mkF m 12 #[.val (.ref ca), .val (.int (2 : Int32)), .val (.ref b), .val (.int (2 : Int32)), .val (.int (3 : Int32)), .val (.int (2 : Int32)), .val (.int x1)] [(.int (2 : Int32)), (.ref ca)])) (fun tg kk => XS.iloadN X11.here hx rfl (hb hby own_d5_11) rfl kk) ?_
  obtain ⟨cl_17, Ar_17, qq_17, Sz_17, Ng_17, Hs_17, Gf_17⟩ := id f13
  have hin_17 : ¬ ((2 : Int32) < 0 ∨ cl_17.slots.size ≤ ((2 : Int32)).toNatClampNeg) := inb_of Sz_17 ⟨by decide, by decide⟩
  have hat_17 : cl_17.slots[((2 : Int32)).toNatClampNeg]? = some (.int x2) := Has.at Hs_17 hin_17 rfl
  refine OwnGo.back (T11.setTop (mkF m 13 #[.val (.ref ca), .val (.int (2 : Int32)), .val (.ref b), .val (.int (2 : Int32)), .val (.int (3 : Int32)), .val (.int (2 : Int32)), .val (.int x1)] [(.int x2)])) (fun tg kk => X11.caload hx (j := (2 : Int32)) (v := (.int x2)) (by rw [e11]; exact Ar_17.1) (State.isArrayOf_alike hZ.alike Ar_17.2.1) Ar_17.2.2 hin_17 hat_17 (g := (mkF m 12 #[.val (.ref ca), .val (.int (2 : Int32)), .val (.ref b), .val (.int (2 : Int32)), .val (.int (3 : Int32)), .val (.int (2 : Int32)), .val (.int x1)] [(.int (2 : Int32)), (.ref ca)])) rfl rfl (hb hby own_d5_12) _ kk) ?_
  refine OwnGo.back (T11.setTop (mkF m 15 #[.val (.ref ca), .val (.int (2 : Int32)), .val (.ref b), .val (.int (2 : Int32)), .val (.int (3 : Int32)), .val (.int (2 : Int32)), .val (.int x2)] [])) (fun tg kk => XS.istore X11.here hx rfl (hb hby own_d5_13) rfl (l' := #[.val (.ref ca), .val (.int (2 : Int32)), .val (.ref b), .val (.int (2 : Int32)), .val (.int (3 : Int32)), .val (.int (2 : Int32)), .val (.int x2)]) rfl kk) ?_
  refine OwnGo.back (T11.setTop (mkF m 17 #[.val (.ref ca), .val (.int (2 : Int32)), .val (.ref b), .val (.int (2 : Int32)), .val (.int (3 : Int32)), .val (.int (2 : Int32)), .val (.int x2)] [(.int x2)])) (fun tg kk => XS.iload X11.here hx rfl (hb hby own_d5_15) rfl kk) ?_
  refine OwnGo.back (T11.setTop (mkF m 20 #[.val (.ref ca), .val (.int (2 : Int32)), .val (.ref b), .val (.int (2 : Int32)), .val (.int (3 : Int32)), .val (.int (2 : Int32)), .val (.int x2)] [(.int (255 : Int32)), (.int x2)])) (fun tg kk => XS.sipush X11.here hx rfl (hb hby own_d5_17) kk) ?_
  refine OwnGo.back (T11.setTop (mkF m 26 #[.val (.ref ca), .val (.int (2 : Int32)), .val (.ref b), .val (.int (2 : Int32)), .val (.int (3 : Int32)), .val (.int (2 : Int32)), .val (.int x2)] [])) (fun tg kk => XS.icmpYes X11.here hx rfl (pc0 := 20) (pc' := 26) rfl (hb hby own_d5_20) rfl (flt (hu2 : ¬ ((255 : Int32) < x2))).2.2.2 (by decide) (by decide) kk) ?_
  refine OwnGo.back (T11.setTop (mkF m 27 #[.val (.ref ca), .val (.int (2 : Int32)), .val (.ref b), .val (.int (2 : Int32)), .val (.int (3 : Int32)), .val (.int (2 : Int32)), .val (.int x2)] [(.ref b)])) (fun tg kk => XS.aloadN X11.here hx rfl (hb hby own_d5_26) rfl rfl kk) ?_
  refine OwnGo.back (T11.setTop (mkF m 28 #[.val (.ref ca), .val (.int (2 : Int32)), .val (.ref b), .val (.int (2 : Int32)), .val (.int (3 : Int32)), .val (.int (2 : Int32)), .val (.int x2)] [(.int (2 : Int32)), (.ref b)])) (fun tg kk => XS.iloadN X11.here hx rfl (hb hby own_d5_27) rfl kk) ?_
  refine OwnGo.back (T11.setTop (mkF m 30 #[.val (.ref ca), .val (.int (2 : Int32)), .val (.ref b), .val (.int (2 : Int32)), .val (.int (3 : Int32)), .val (.int (2 : Int32)), .val (.int x2)] [(.int x2), (.int (2 : Int32)), (.ref b)])) (fun tg kk => XS.iload X11.here hx rfl (hb hby own_d5_28) rfl kk) ?_
  refine OwnGo.back (T11.setTop (mkF m 31 #[.val (.ref ca), .val (.int (2 : Int32)), .val (.ref b), .val (.int (2 : Int32)), .val (.int (3 : Int32)), .val (.int (2 : Int32)), .val (.int x2)] [(.int (x2.toInt8.toInt32)), (.int (2 : Int32)), (.ref b)])) (fun tg kk => XS.i2b X11.here hx rfl (hb hby own_d5_30) rfl kk) ?_
  obtain ⟨cl_18, Ar_18, qq_18, Sz_18, Ng_18, Hs_18, Gf_18⟩ := id f12
  have hin_18 : ¬ ((2 : Int32) < 0 ∨ cl_18.slots.size ≤ ((2 : Int32)).toNatClampNeg) := inb_of Sz_18 ⟨by decide, by decide⟩
  obtain ⟨T19, h19, X19, e19, W19, st19⟩ := stB X11 hx hZ e11 Ar_18 (j := (2 : Int32)) hin_18 (g := (mkF m 31 #[.val (.ref ca), .val (.int (2 : Int32)), .val (.ref b), .val (.int (2 : Int32)), .val (.int (3 : Int32)), .val (.int (2 : Int32)), .val (.int x2)] [(.int (x2.toInt8.toInt32)), (.int (2 : Int32)), (.ref b)])) rfl rfl (hb hby own_d5_31)
  have f20 : Arv Z h19 b kb .byte (3 : Int32) [(.int (nar .byte (x0.toInt8.toInt32))), (.int (nar .byte (x1.toInt8.toInt32))), (.int (nar .byte (x2.toInt8.toInt32)))] (.int (0 : Int32)) := Arv.set Ar_18 qq_18 Sz_18 Ng_18 Hs_18 Gf_18 (fits_nar_byte _) W19 2 rfl (Nat.le_of_ble_eq_true rfl)
  have f21 : Arv Z h19 ca kc .char (3 : Int32) [(.int x0), (.int x1), (.int x2)] (.int (0 : Int32)) := f13.other W19 ne
  have K22 : Keep h0 h19 [b] := K14.wr W19 (Or.inl (List.mem_of_getElem? (i := 0) rfl))
  have Z23 : n0 ≤ h19.size := Nat.le_trans Z15 (Keep.of_wr W19).1
  have N24 := Fr.snoc X19 N16 g
  refine OwnGo.back (T19.setTop (mkF m 32 #[.val (.ref ca), .val (.int (2 : Int32)), .val (.ref b), .val (.int (2 : Int32)), .val (.int (3 : Int32)), .val (.int (2 : Int32)), .val (.int x2)] [])) (fun tg kk => st19 _ kk) ?_
  refine OwnGo.back (T19.setTop (mkF m 35 #[.val (.ref ca), .val (.int (3 : Int32)), .val (.ref b), .val (.int (2 : Int32)), .val (.int (3 : Int32)), .val (.int (2 : Int32)), .val (.int x2)] [])) (fun tg kk => XS.iinc X19.here hx rfl (hb hby own_d5_32) rfl (l' := #[.val (.ref ca), .val (.int (3 : Int32)), .val (.ref b), .val (.int (2 : Int32)), .val (.int (3 : Int32)), .val (.int (2 : Int32)), .val (.int x2)]) rfl kk) ?_
  refine OwnGo.back (T19.setTop (mkF m 38 #[.val (.ref ca), .val (.int (3 : Int32)), .val (.ref b), .val (.int (3 : Int32)), .val (.int (3 : Int32)), .val (.int (2 : Int32)), .val (.int x2)] [])) (fun tg kk => XS.iinc X19.here hx rfl (hb hby own_d5_35) rfl (l' := #[.val (.ref ca), .val (.int (3 : Int32)), .val (.ref b), .val (.int (3 : Int32)), .val (.int (3 : Int32)), .val (.int (2 : Int32)), .val (.int x2)]) rfl kk) ?_
  refine OwnGo.back (T19.setTop (mkF m 41 #[.val (.ref ca), .val (.int (3 : Int32)), .val (.ref b), .val (.int (3 : Int32)), .val (.int (3 : Int32)), .val (.int (3 : Int32)), .val (.int x2)] [])) (fun tg kk => XS.iinc X19.here hx rfl (hb hby own_d5_38) rfl (l' := #[.val (.ref ca), .val (.int (3 : Int32)), .val (.ref b), .val (.int (3 : Int32)), .val (.int (3 : Int32)), .val (.int (3 : Int32)), .val (.int x2)]) rfl kk) ?_
  refine OwnGo.back (T19.setTop (mkF m 3 #[.val (.ref ca), .val (.int (3 : Int32)), .val (.ref b), .val (.int (3 : Int32)), .val (.int (3 : Int32)), .val (.int (3 : Int32)), .val (.int x2)] [])) (fun tg kk => XS.goto X19.here hx rfl (pc0 := 41) (pc' := 3) rfl (hb hby own_d5_41) (by decide) (by decide) kk) ?_
  refine OwnGo.back (T19.setTop (mkF m 5 #[.val (.ref ca), .val (.int (3 : Int32)), .val (.ref b), .val (.int (3 : Int32)), .val (.int (3 : Int32)), .val (.int (3 : Int32)), .val (.int x2)] [(.int (3 : Int32))])) (fun tg kk => XS.iload X19.here hx rfl (hb hby own_d5_3) rfl kk) ?_
  refine OwnGo.back (T19.setTop (mkF m 7 #[.val (.ref ca), .val (.int (3 : Int32)), .val (.ref b), .val (.int (3 : Int32)), .val (.int (3 : Int32)), .val (.int (3 : Int32)), .val (.int x2)] [(.int (3 : Int32)), (.int (3 : Int32))])) (fun tg kk => XS.iload X19.here hx rfl (hb hby own_d5_5) rfl kk) ?_
  refine OwnGo.back (T19.setTop (mkF m 44 #[.val (.ref ca), .val (.int (3 : Int32)), .val (.ref b), .val (.int (3 : Int32)), .val (.int (3 : Int32)), .val (.int (3 : Int32)), .val (.int x2)] [])) (fun tg kk => XS.icmpYes X19.here hx rfl (pc0 := 7) (pc' := 44) rfl (hb hby own_d5_7) rfl (flt (by decide : ¬ ((3 : Int32) < (3 : Int32)))).2.1 (by decide) (by decide) kk) ?_
  refine OwnGo.back (T19.setTop (mkF m 46 #[.val (.ref ca), .val (.int (3 : Int32)), .val (.ref b), .val (.int (3 : Int32)), .val (.int (3 : Int32)), .val (.int (3 : Int32)), .val (.int x2)] [(.int (3 : Int32))])) (fun tg kk => XS.iload X19.here hx rfl (hb hby own_d5_44) rfl kk) ?_
  obtain ⟨fs, hr, hrun, hended, hW, hsame⟩ := X19.leave (v := some (.int (3 : Int32))) (fun h => by rw [Bd.returns] at h; cases h)
  refine ⟨_, _, ?_, hrun, hended, _, _, rfl, ?_, ⟨_, rfl⟩, hW, hsame.mono (by decide) (by decide)⟩
  · exact own_retI X19 hx Bd.returns (hb hby own_d5_46) hr
  · show own_cmp3_Q Z ca b kc x0 x1 x2 kb h0 n0 _ T19.heap _
    rw [e19]
    exact ⟨rfl, N24, K22, f20⟩
theorem own_cmps3_ef (m : MethodId) (x0 : Addr) (x1 : Int32) (x2 : Int32) : entryFrame m #[(.ref x0), (.int x1), (.int x2)] 6 = mkF m 0 #[.val (.ref x0), .val (.int x1), .val (.int x2), .unset, .unset, .unset] [] := by first | (simp [entryFrame, mkF, argsToLocals, Value.category]; done) | rfl
def own_cmps3_Q (Z : State) (ca : Addr) (kc : ClassId) (x0 : Int32) (x1 : Int32) (x2 : Int32) (h0 : Heap) (n0 : Nat) (rv : Option Value) (hN : Heap) (LL : List Loc) : Prop := ∃ (b : Addr), ∃ (kb : ClassId), rv = some (.ref b) ∧ Fr n0 LL ∧ Keep h0 hN [] ∧ h0.size ≤ b ∧ Arv Z hN b kb .byte (3 : Int32) [(.int (nar .byte (x0.toInt8.toInt32))), (.int (nar .byte (x1.toInt8.toInt32))), (.int (nar .byte (x2.toInt8.toInt32)))] (.int (0 : Int32))
set_option maxRecDepth 65536 in
set_option maxHeartbeats 40000000 in
theorem own_cmps3 (l : Launch) (Z : State) (a0 : Array Value) (hw : ∀ d ∈ tables_1, d.before a0 Z = true) (ws : List Jvm.Cond) (ca : Addr) (kc : ClassId) (x0 : Int32) (x1 : Int32) (x2 : Int32) (h0 : Heap) (n0 : Nat) (Z0 : n0 ≤ h0.size) (A : Arv Z h0 ca kc .char (3 : Int32) [(.int x0), (.int x1), (.int x2)] (.int (0 : Int32))) (hl0 : ¬ x0 < (0 : Int32)) (hu0 : ¬ (255 : Int32) < x0) (hl1 : ¬ x1 < (0 : Int32)) (hu1 : ¬ (255 : Int32) < x1) (hl2 : ¬ x2 < (0 : Int32)) (hu2 : ¬ (255 : Int32) < x2) :
    MetFree l (⟨"java/lang/StringUTF16", "compress", "([CII)[B"⟩ : MethodName) (head1 (Jvm.Cond.code (⟨"java/lang/StringUTF16", "compress", "([CII)[B"⟩ : MethodName) jdk_52_method_16_code 6 (some (.array .byte)) :: ws) ({ frames := 1, cells := 1, slots := 3, locals := 18 } : Room)) (fun aa UU => aa = #[(.ref ca), (.int (0 : Int32)), (.int (3 : Int32))] ∧ Z.Warmed39 UU.vm ∧ UU.heap = h0) (fun _ _ _ _ _ => True) (fun _ UU oo UU' => ∃ rv LL, oo = .returned rv ∧ own_cmps3_Q Z ca kc x0 x1 x2 h0 n0 rv UU'.heap LL ∧ FrameEnd UU oo UU' LL ({ frames := 1, cells := 1, slots := 3, locals := 18 } : Room).cells ({ frames := 1, cells := 1, slots := 3, locals := 18 } : Room).slots) := by
  refine MetFree.of_bodySF (plainFor_of_name own_pn1) hisR ?_
  intro p e s m args below meth c s₁ Bd hml0 hP hK
  obtain ⟨rfl, hZ, hh⟩ := hP
  have hx := Bd.exec
  have hby := Bd.bytes
  have hml : c.maxLocals = 6 := hml0
  have hown : s.vm.findClass "java/lang/StringUTF16" = some m.cls := findClass_of_methodNamed Bd.named
  have hnm := (name_of_methodNamed Bd.named Bd.method).1
  have X0 : Stand p l e ({ frames := 1, cells := 1, slots := 3, locals := 18 } : Room) s m #[(.ref ca), (.int (0 : Int32)), (.int (3 : Int32))] below meth c s₁ [] 0 0 := Stand.of_body Bd
  have e0 : s₁.heap = h0 := by rw [← hh, Bd.state]; rfl
  have N0 := Fr.nil n0
  have K0 : Keep h0 h0 [] := Keep.refl h0 _
  refine (?_ : OwnGo p.tables e below (fun UU' oo => ∃ rv LL, oo = .returned rv ∧ own_cmps3_Q Z ca kc x0 x1 x2 h0 n0 rv UU'.heap LL ∧ FrameEnd s oo UU' LL ({ frames := 1, cells := 1, slots := 3, locals := 18 } : Room).cells ({ frames := 1, cells := 1, slots := 3, locals := 18 } : Room).slots) _)
  refine OwnGo.back (s₁.setTop (mkF m 0 #[.val (.ref ca), .val (.int (0 : Int32)), .val (.int (3 : Int32)), .unset, .unset, .unset] [])) (fun tg kk => castTop (own_cmps3_ef m ca (0 : Int32) (3 : Int32)) kk) ?_
  refine OwnGo.back (s₁.setTop (mkF m 1 #[.val (.ref ca), .val (.int (0 : Int32)), .val (.int (3 : Int32)), .unset, .unset, .unset] [(.int (3 : Int32))])) (fun tg kk => XS.iloadN X0.here hx rfl (hb hby own_d4_0) rfl kk) ?_
  obtain ⟨T1, h1, k1, X1, e1, E1, A1, st1⟩ := newP X0 hx hZ (hw _ (List.mem_of_getElem? (i := 15) rfl)) e0 (g := (mkF m 1 #[.val (.ref ca), .val (.int (0 : Int32)), .val (.int (3 : Int32)), .unset, .unset, .unset] [(.int (3 : Int32))])) rfl (hb hby own_d4_1) rfl (by decide) (cap := 3) (by decide) (by decide) (by decide) (by decide)
  obtain ⟨b1, q1⟩ : ∃ z, z = h0.size := ⟨_, rfl⟩
  rw [← q1] at A1 st1
  have n2 : ca ≠ b1 := own_ne A.lt q1
  have g3 : n0 ≤ b1 := Nat.le_trans Z0 (Nat.le_of_eq q1.symm)
  have s4 : h0.size ≤ b1 := Nat.le_trans K0.1 (Nat.le_of_eq q1.symm)
  have f5 : Arv Z h1 ca kc .char (3 : Int32) [(.int x0), (.int x1), (.int x2)] (.int (0 : Int32)) := A.ext E1
  have K6 : Keep h0 h1 [] := K0.ext E1
  have Z7 : n0 ≤ h1.size := Nat.le_trans Z0 E1.1
  have f8 : Arv Z h1 b1 k1 .byte (3 : Int32) [(.int (0 : Int32)), (.int (0 : Int32)), (.int (0 : Int32))] (.int (0 : Int32)) := (Arv.new A1 (by decide)).pad (pad_rep [] (.int (0 : Int32)) 3)
  refine OwnGo.back (T1.setTop (mkF m 3 #[.val (.ref ca), .val (.int (0 : Int32)), .val (.int (3 : Int32)), .unset, .unset, .unset] [(.ref b1)])) (fun tg kk => st1 _ kk) ?_
  refine OwnGo.back (T1.setTop (mkF m 4 #[.val (.ref ca), .val (.int (0 : Int32)), .val (.int (3 : Int32)), .val (.ref b1), .unset, .unset] [])) (fun tg kk => XS.astoreN X1.here hx rfl (hb hby own_d4_3) rfl rfl (l' := #[.val (.ref ca), .val (.int (0 : Int32)), .val (.int (3 : Int32)), .val (.ref b1), .unset, .unset]) rfl kk) ?_
  refine OwnGo.back (T1.setTop (mkF m 5 #[.val (.ref ca), .val (.int (0 : Int32)), .val (.int (3 : Int32)), .val (.ref b1), .unset, .unset] [(.ref ca)])) (fun tg kk => XS.aloadN X1.here hx rfl (hb hby own_d4_4) rfl rfl kk) ?_
  refine OwnGo.back (T1.setTop (mkF m 6 #[.val (.ref ca), .val (.int (0 : Int32)), .val (.int (3 : Int32)), .val (.ref b1), .unset, .unset] [(.int (0 : Int32)), (.ref ca)])) (fun tg kk => XS.iloadN X1.here hx rfl (hb hby own_d4_5) rfl kk) ?_
  refine OwnGo.back (T1.setTop (mkF m 7 #[.val (.ref ca), .val (.int (0 : Int32)), .val (.int (3 : Int32)), .val (.ref b1), .unset, .unset] [(.ref b1), (.int (0 : Int32)), (.ref ca)])) (fun tg kk => XS.aloadN X1.here hx rfl (hb hby own_d4_6) rfl rfl kk) ?_
  refine OwnGo.back (T1.setTop (mkF m 8 #[.val (.ref ca), .val (.int (0 : Int32)), .val (.int (3 : Int32)), .val (.ref b1), .unset, .unset] [(.int (0 : Int32)), (.ref b1), (.int (0 : Int32)), (.ref ca)])) (fun tg kk => XS.iconst X1.here hx rfl (hb hby own_d4_7) kk) ?_
  refine OwnGo.back (T1.setTop (mkF m 9 #[.val (.ref ca), .val (.int (0 : Int32)), .val (.int (3 : Int32)), .val (.ref b1), .unset, .unset] [(.int (3 : Int32)), (.int (0 : Int32)), (.ref b1), (.int (0 : Int32)), (.ref ca)])) (fun tg kk => XS.iloadN X1.here hx rfl (hb hby own_d4_8) rfl kk) ?_
  obtain ⟨_, _, ⟨T9, L9, k9, n9⟩, -, X9, ⟨Lc9, hQ9, l9, y9, z9⟩, st9⟩ := Jvm.LawKit.callS X1 hx (y := (⟨"java/lang/StringUTF16", "compress", "([CI[BII)I"⟩ : MethodName)) hown (mvT hZ (hw _ (List.mem_of_getElem? (i := 27) rfl))) (mvT hZ (hw _ (List.mem_of_getElem? (i := 28) rfl))) (mvT hZ (hw _ (List.mem_of_getElem? (i := 25) rfl))) (mvT hZ (hw _ (List.mem_of_getElem? (i := 29) rfl))) (by decide) (backOf (W := 0) (own_cmp3 l Z a0 hw [] ca b1 kc x0 x1 x2 k1 h1 n0 Z7 f5 hl0 hu0 hl1 hu1 hl2 hu2 f8 n2 g3) hZ (hw _ (List.mem_of_getElem? (i := 29) rfl)) (hw _ (List.mem_of_getElem? (i := 25) rfl)) (by decide) (by decide)) (g := (mkF m 9 #[.val (.ref ca), .val (.int (0 : Int32)), .val (.int (3 : Int32)), .val (.ref b1), .unset, .unset] [(.int (3 : Int32)), (.int (0 : Int32)), (.ref b1), (.int (0 : Int32)), (.ref ca)])) rfl (by rw [hml]; rfl) (argsL := [(.ref ca), (.int (0 : Int32)), (.ref b1), (.int (0 : Int32)), (.int (3 : Int32))]) (rest := []) (lenOf own_pd1 rfl) rfl (by show 2 * 0 + _ ≤ _; exact Nat.le_of_eq rfl) (hb hby own_d4_9) (fun _ _ => ⟨rfl, e1, (by decide : 1 + 0 ≤ _), (by decide : 3 + 0 ≤ _)⟩)
  dsimp only [Pt.U, Pt.locs, Pt.cells, Pt.slots] at X9 l9 y9 z9 st9 hQ9
  subst l9 y9 z9
  obtain ⟨rfl, N9q, Kc9, po10⟩ := hQ9
  have N9 := Fr.app N0 N9q
  have f11 : Arv Z T9.heap ca kc .char (3 : Int32) [(.int x0), (.int x1), (.int x2)] (.int (0 : Int32)) := f5.keep Kc9 (ninS n2 nin0)
  have K12 : Keep h0 T9.heap [] := K6.trans Kc9 (allS (Or.inr s4) all0)
  have Z13 : n0 ≤ T9.heap.size := Nat.le_trans Z7 Kc9.1
  refine OwnGo.back (T9.setTop (mkF m 12 #[.val (.ref ca), .val (.int (0 : Int32)), .val (.int (3 : Int32)), .val (.ref b1), .unset, .unset] [(.int (3 : Int32))])) (fun tg kk => st9 _ kk) ?_
  refine OwnGo.back (T9.setTop (mkF m 14 #[.val (.ref ca), .val (.int (0 : Int32)), .val (.int (3 : Int32)), .val (.ref b1), .val (.int (3 : Int32)), .unset] [])) (fun tg kk => XS.istore X9.here hx rfl (hb hby own_d4_12) rfl (l' := #[.val (.ref ca), .val (.int (0 : Int32)), .val (.int (3 : Int32)), .val (.ref b1), .val (.int (3 : Int32)), .unset]) rfl kk) ?_
  refine OwnGo.back (T9.setTop (mkF m 16 #[.val (.ref ca), .val (.int (0 : Int32)), .val (.int (3 : Int32)), .val (.ref b1), .val (.int (3 : Int32)), .unset] [(.int (3 : Int32))])) (fun tg kk => XS.iload X9.here hx rfl (hb hby own_d4_14) rfl kk) ?_
  refine OwnGo.back (T9.setTop (mkF m 17 #[.val (.ref ca), .val (.int (0 : Int32)), .val (.int (3 : Int32)), .val (.ref b1), .val (.int (3 : Int32)), .unset] [(.int (3 : Int32)), (.int (3 : Int32))])) (fun tg kk => XS.iloadN X9.here hx rfl (hb hby own_d4_16) rfl kk) ?_
  refine OwnGo.back (T9.setTop (mkF m 57 #[.val (.ref ca), .val (.int (0 : Int32)), .val (.int (3 : Int32)), .val (.ref b1), .val (.int (3 : Int32)), .unset] [])) (fun tg kk => XS.icmpYes X9.here hx rfl (pc0 := 17) (pc' := 57) rfl (hb hby own_d4_17) rfl (teq (by decide : (3 : Int32) = (3 : Int32))).1 (by decide) (by decide) kk) ?_
  refine OwnGo.back (T9.setTop (mkF m 58 #[.val (.ref ca), .val (.int (0 : Int32)), .val (.int (3 : Int32)), .val (.ref b1), .val (.int (3 : Int32)), .unset] [(.ref b1)])) (fun tg kk => XS.aloadN X9.here hx rfl (hb hby own_d4_57) rfl rfl kk) ?_
  obtain ⟨fs, hr, hrun, hended, hW, hsame⟩ := X9.leave (v := some (.ref b1)) (fun h => by rw [Bd.returns] at h; cases h)
  refine ⟨_, _, ?_, hrun, hended, _, _, rfl, ?_, ⟨_, rfl⟩, hW, hsame.mono (by decide) (by decide)⟩
  · exact own_retA X9 hx Bd.returns rfl rfl rfl (hb hby own_d4_58) hr
  · show own_cmps3_Q Z ca kc x0 x1 x2 h0 n0 _ T9.heap _
    exact ⟨b1, k1, rfl, N9, K12, s4, po10⟩
theorem own_cfl3_ef (m : MethodId) (x0 : Addr) (x1 : Int32) : entryFrame m #[(.ref x0), (.int x1)] 2 = mkF m 0 #[.val (.ref x0), .val (.int x1)] [] := by first | (simp [entryFrame, mkF, argsToLocals, Value.category]; done) | rfl
def own_cfl3_Q (Z : State) (b : Addr) (kb : ClassId) (x0 : Int32) (x1 : Int32) (x2 : Int32) (h0 : Heap) (n0 : Nat) (rv : Option Value) (hN : Heap) (LL : List Loc) : Prop := rv = some (.int (0 : Int32)) ∧ Fr n0 LL ∧ hN = h0
set_option maxRecDepth 65536 in
set_option maxHeartbeats 40000000 in
theorem own_cfl3 (l : Launch) (Z : State) (a0 : Array Value) (hw : ∀ d ∈ tables_1, d.before a0 Z = true) (ws : List Jvm.Cond) (b : Addr) (kb : ClassId) (x0 : Int32) (x1 : Int32) (x2 : Int32) (h0 : Heap) (n0 : Nat) (Z0 : n0 ≤ h0.size) (B : Arv Z h0 b kb .byte (3 : Int32) [(.int (nar .byte (x0.toInt8.toInt32))), (.int (nar .byte (x1.toInt8.toInt32))), (.int (nar .byte (x2.toInt8.toInt32)))] (.int (0 : Int32))) :
    MetFree l (⟨"java/lang/StringUTF16", "coderFromArrayLen", "([BI)B"⟩ : MethodName) (head1 (Jvm.Cond.code (⟨"java/lang/StringUTF16", "coderFromArrayLen", "([BI)B"⟩ : MethodName) jdk_52_method_15_code 2 (some .byte) :: ws) ({ frames := 0, cells := 0, slots := 0, locals := 0 } : Room)) (fun aa UU => aa = #[(.ref b), (.int (3 : Int32))] ∧ Z.Warmed39 UU.vm ∧ UU.heap = h0) (fun _ _ _ _ _ => True) (fun _ UU oo UU' => ∃ rv LL, oo = .returned rv ∧ own_cfl3_Q Z b kb x0 x1 x2 h0 n0 rv UU'.heap LL ∧ FrameEnd UU oo UU' LL ({ frames := 0, cells := 0, slots := 0, locals := 0 } : Room).cells ({ frames := 0, cells := 0, slots := 0, locals := 0 } : Room).slots) := by
  refine MetFree.of_bodySF (plainFor_of_name own_pn1) hisR ?_
  intro p e s m args below meth c s₁ Bd hml0 hP hK
  obtain ⟨rfl, hZ, hh⟩ := hP
  have hx := Bd.exec
  have hby := Bd.bytes
  have hml : c.maxLocals = 2 := hml0
  have hown : s.vm.findClass "java/lang/StringUTF16" = some m.cls := findClass_of_methodNamed Bd.named
  have hnm := (name_of_methodNamed Bd.named Bd.method).1
  have X0 : Stand p l e ({ frames := 0, cells := 0, slots := 0, locals := 0 } : Room) s m #[(.ref b), (.int (3 : Int32))] below meth c s₁ [] 0 0 := Stand.of_body Bd
  have e0 : s₁.heap = h0 := by rw [← hh, Bd.state]; rfl
  have N0 := Fr.nil n0
  have K0 : Keep h0 h0 [] := Keep.refl h0 _
  refine (?_ : OwnGo p.tables e below (fun UU' oo => ∃ rv LL, oo = .returned rv ∧ own_cfl3_Q Z b kb x0 x1 x2 h0 n0 rv UU'.heap LL ∧ FrameEnd s oo UU' LL ({ frames := 0, cells := 0, slots := 0, locals := 0 } : Room).cells ({ frames := 0, cells := 0, slots := 0, locals := 0 } : Room).slots) _)
  refine OwnGo.back (s₁.setTop (mkF m 0 #[.val (.ref b), .val (.int (3 : Int32))] [])) (fun tg kk => castTop (own_cfl3_ef m b (3 : Int32)) kk) ?_
  refine OwnGo.back (s₁.setTop (mkF m 1 #[.val (.ref b), .val (.int (3 : Int32))] [(.int (3 : Int32))])) (fun tg kk => XS.iloadN X0.here hx rfl (hb hby own_d6_0) rfl kk) ?_
  refine OwnGo.back (s₁.setTop (mkF m 2 #[.val (.ref b), .val (.int (3 : Int32))] [(.ref b), (.int (3 : Int32))])) (fun tg kk => XS.aloadN X0.here hx rfl (hb hby own_d6_1) rfl rfl kk) ?_
  obtain ⟨cl_1, Ar_1, -, Sz_1, Ng_1, -, -⟩ := id B
  refine OwnGo.back (s₁.setTop (mkF m 3 #[.val (.ref b), .val (.int (3 : Int32))] [(.int (3 : Int32)), (.int (3 : Int32))])) (fun tg kk => X0.arraylength hx (by rw [e0]; exact Ar_1.1) (State.isArrayOf_alike hZ.alike Ar_1.2.1) (g := (mkF m 2 #[.val (.ref b), .val (.int (3 : Int32))] [(.ref b), (.int (3 : Int32))])) rfl rfl (hb hby own_d6_2) _ (by rw [len_of Sz_1 Ng_1]; exact kk)) ?_
  refine OwnGo.back (s₁.setTop (mkF m 4 #[.val (.ref b), .val (.int (3 : Int32))] [(.int (0 : Int32))])) (fun tg kk => XS.isub X0.here hx rfl (hb hby own_d6_3) rfl kk) ?_
  refine OwnGo.back (s₁.setTop (mkF m 6 #[.val (.ref b), .val (.int (3 : Int32))] [(.int (31 : Int32)), (.int (0 : Int32))])) (fun tg kk => XS.bipush X0.here hx rfl (hb hby own_d6_4) kk) ?_
  refine OwnGo.back (s₁.setTop (mkF m 7 #[.val (.ref b), .val (.int (3 : Int32))] [(.int (0 : Int32))])) (fun tg kk => XS.iushr X0.here hx rfl (hb hby own_d6_6) rfl kk) ?_
  refine OwnGo.back (s₁.setTop (mkF m 8 #[.val (.ref b), .val (.int (3 : Int32))] [(.int (0 : Int32))])) (fun tg kk => XS.i2b X0.here hx rfl (hb hby own_d6_7) rfl kk) ?_
  obtain ⟨fs, hr, hrun, hended, hW, hsame⟩ := X0.leave (v := some (.int (0 : Int32))) (fun h => by rw [Bd.returns] at h; cases h)
  refine ⟨_, _, ?_, hrun, hended, _, _, rfl, ?_, ⟨_, rfl⟩, hW, hsame.mono (by decide) (by decide)⟩
  · exact retN X0 hx (t := .byte) Bd.returns (by simp) (hb hby own_d6_8) hr
  · show own_cfl3_Q Z b kb x0 x1 x2 h0 n0 _ s₁.heap _
    rw [e0]
    exact ⟨rfl, N0, rfl⟩
theorem own_i4_3_ef (m : MethodId) (x0 : Addr) (x1 : Addr) (x2 : Int32) (x3 : Int32) : entryFrame m #[(.ref x0), (.ref x1), (.int x2), (.int x3), .null] 6 = mkF m 0 #[.val (.ref x0), .val (.ref x1), .val (.int x2), .val (.int x3), .val .null, .unset] [] := by first | (simp [entryFrame, mkF, argsToLocals, Value.category]; done) | rfl
def own_i4_3_Q (Z : State) (a : Addr) (ca : Addr) (kc : ClassId) (x0 : Int32) (x1 : Int32) (x2 : Int32) (cs : Int32) (h0 : Heap) (n0 : Nat) (rv : Option Value) (hN : Heap) (LL : List Loc) : Prop := ∃ (b : Addr), ∃ (kb : ClassId), rv = none ∧ Fr n0 LL ∧ Keep h0 hN [a] ∧ h0.size ≤ b ∧ Exa Z hN a "java/lang/String" ∧ Fld Z hN a "java/lang/String" "value" "[B" (.ref b) ∧ Fld Z hN a "java/lang/String" "coder" "B" (.int (0 : Int32)) ∧ Arv Z hN b kb .byte (3 : Int32) [(.int (nar .byte (x0.toInt8.toInt32))), (.int (nar .byte (x1.toInt8.toInt32))), (.int (nar .byte (x2.toInt8.toInt32)))] (.int (0 : Int32))
set_option maxRecDepth 65536 in
set_option maxHeartbeats 40000000 in
theorem own_i4_3 (l : Launch) (Z : State) (a0 : Array Value) (hw : ∀ d ∈ tables_1, d.before a0 Z = true) (ws : List Jvm.Cond) (a : Addr) (ca : Addr) (kc : ClassId) (x0 : Int32) (x1 : Int32) (x2 : Int32) (cs : Int32) (h0 : Heap) (n0 : Nat) (Z0 : n0 ≤ h0.size) (A : Arv Z h0 ca kc .char (3 : Int32) [(.int x0), (.int x1), (.int x2)] (.int (0 : Int32))) (hl0 : ¬ x0 < (0 : Int32)) (hu0 : ¬ (255 : Int32) < x0) (hl1 : ¬ x1 < (0 : Int32)) (hu1 : ¬ (255 : Int32) < x1) (hl2 : ¬ x2 < (0 : Int32)) (hu2 : ¬ (255 : Int32) < x2) (S : Sta Z Z.heap "java/lang/String" "COMPACT_STRINGS" "Z" (.int cs)) (old : Old Z n0 h0) (hcs : ¬ cs = 0) (H0 : Exa Z h0 a "java/lang/String") (H1 : Fld Z h0 a "java/lang/String" "value" "[B" .null) (H2 : Fld Z h0 a "java/lang/String" "coder" "B" (.int (0 : Int32))) (H3 : n0 ≤ a) (H4 : a ≠ ca) :
    MetFree l (⟨"java/lang/String", "<init>", "([CIILjava/lang/Void;)V"⟩ : MethodName) (head1 (Jvm.Cond.code (⟨"java/lang/String", "<init>", "([CIILjava/lang/Void;)V"⟩ : MethodName) jdk_42_method_149_code 6 none :: ws) ({ frames := 2, cells := 1, slots := 3, locals := 35 } : Room)) (fun aa UU => aa = #[(.ref a), (.ref ca), (.int (0 : Int32)), (.int (3 : Int32)), .null] ∧ Z.Warmed39 UU.vm ∧ UU.heap = h0) (fun _ _ _ _ _ => True) (fun _ UU oo UU' => ∃ rv LL, oo = .returned rv ∧ own_i4_3_Q Z a ca kc x0 x1 x2 cs h0 n0 rv UU'.heap LL ∧ FrameEnd UU oo UU' LL ({ frames := 2, cells := 1, slots := 3, locals := 35 } : Room).cells ({ frames := 2, cells := 1, slots := 3, locals := 35 } : Room).slots) := by
  refine MetFree.of_bodySF (plainFor_of_name own_pn0) hisR ?_
  intro p e s m args below meth c s₁ Bd hml0 hP hK
  obtain ⟨rfl, hZ, hh⟩ := hP
  have hx := Bd.exec
  have hby := Bd.bytes
  have hml : c.maxLocals = 6 := hml0
  have hown : s.vm.findClass "java/lang/String" = some m.cls := findClass_of_methodNamed Bd.named
  have hnm := (name_of_methodNamed Bd.named Bd.method).1
  have X0 : Stand p l e ({ frames := 2, cells := 1, slots := 3, locals := 35 } : Room) s m #[(.ref a), (.ref ca), (.int (0 : Int32)), (.int (3 : Int32)), .null] below meth c s₁ [] 0 0 := Stand.of_body Bd
  have e0 : s₁.heap = h0 := by rw [← hh, Bd.state]; rfl
  have N0 := Fr.nil n0
  have K0 : Keep h0 h0 [a] := Keep.refl h0 _
  refine (?_ : OwnGo p.tables e below (fun UU' oo => ∃ rv LL, oo = .returned rv ∧ own_i4_3_Q Z a ca kc x0 x1 x2 cs h0 n0 rv UU'.heap LL ∧ FrameEnd s oo UU' LL ({ frames := 2, cells := 1, slots := 3, locals := 35 } : Room).cells ({ frames := 2, cells := 1, slots := 3, locals := 35 } : Room).slots) _)
  refine OwnGo.back (s₁.setTop (mkF m 0 #[.val (.ref a), .val (.ref ca), .val (.int (0 : Int32)), .val (.int (3 : Int32)), .val .null, .unset] [])) (fun tg kk => castTop (own_i4_3_ef m a ca (0 : Int32) (3 : Int32)) kk) ?_
  refine OwnGo.back (s₁.setTop (mkF m 1 #[.val (.ref a), .val (.ref ca), .val (.int (0 : Int32)), .val (.int (3 : Int32)), .val .null, .unset] [(.ref a)])) (fun tg kk => XS.aloadN X0.here hx rfl (hb hby own_d2_0) rfl rfl kk) ?_
  obtain ⟨T1, X1, e1, st1⟩ := initO X0 hx hZ hown (hw _ (List.mem_of_getElem? (i := 11) rfl)) (hw _ (List.mem_of_getElem? (i := 12) rfl)) (hw _ (List.mem_of_getElem? (i := 13) rfl)) e0 (g := (mkF m 1 #[.val (.ref a), .val (.ref ca), .val (.int (0 : Int32)), .val (.int (3 : Int32)), .val .null, .unset] [(.ref a)])) rfl (by rw [hml]; rfl) rfl (hb hby own_d2_1) (by decide) (W := 0) (by show 2 * 0 + _ ≤ _; exact Nat.le_of_eq rfl) (by decide)
  refine OwnGo.back (T1.setTop (mkF m 4 #[.val (.ref a), .val (.ref ca), .val (.int (0 : Int32)), .val (.int (3 : Int32)), .val .null, .unset] [])) (fun tg kk => st1 _ kk) ?_
  refine OwnGo.back (T1.setTop (mkF m 5 #[.val (.ref a), .val (.ref ca), .val (.int (0 : Int32)), .val (.int (3 : Int32)), .val .null, .unset] [(.int (3 : Int32))])) (fun tg kk => XS.iloadN X1.here hx rfl (hb hby own_d2_4) rfl kk) ?_
  refine OwnGo.back (T1.setTop (mkF m 27 #[.val (.ref a), .val (.ref ca), .val (.int (0 : Int32)), .val (.int (3 : Int32)), .val .null, .unset] [])) (fun tg kk => XS.ifYes X1.here hx rfl (pc0 := 5) (pc' := 27) rfl (hb hby own_d2_5) rfl ((if0 _ _).trans (feq (by decide : ¬ ((3 : Int32) = (0 : Int32)))).2) (by decide) (by decide) kk) ?_
  obtain ⟨T2, X2, e2, st2⟩ := getS2 X1 hx hZ hown (host := "") (Or.inl (hw _ (List.mem_of_getElem? (i := 22) rfl))) Via.refl e1 (S.ext old.2) (g := (mkF m 27 #[.val (.ref a), .val (.ref ca), .val (.int (0 : Int32)), .val (.int (3 : Int32)), .val .null, .unset] [])) rfl (hb hby own_d2_27)
  refine OwnGo.back (T2.setTop (mkF m 30 #[.val (.ref a), .val (.ref ca), .val (.int (0 : Int32)), .val (.int (3 : Int32)), .val .null, .unset] [(.int cs)])) (fun tg kk => st2 _ kk) ?_
  refine OwnGo.back (T2.setTop (mkF m 33 #[.val (.ref a), .val (.ref ca), .val (.int (0 : Int32)), .val (.int (3 : Int32)), .val .null, .unset] [])) (fun tg kk => XS.ifNo X2.here hx rfl (hb hby own_d2_30) rfl ((if0 _ _).trans (feq (hcs : ¬ (cs = (0 : Int32)))).1) kk) ?_
  refine OwnGo.back (T2.setTop (mkF m 34 #[.val (.ref a), .val (.ref ca), .val (.int (0 : Int32)), .val (.int (3 : Int32)), .val .null, .unset] [(.ref ca)])) (fun tg kk => XS.aloadN X2.here hx rfl (hb hby own_d2_33) rfl rfl kk) ?_
  refine OwnGo.back (T2.setTop (mkF m 35 #[.val (.ref a), .val (.ref ca), .val (.int (0 : Int32)), .val (.int (3 : Int32)), .val .null, .unset] [(.int (0 : Int32)), (.ref ca)])) (fun tg kk => XS.iloadN X2.here hx rfl (hb hby own_d2_34) rfl kk) ?_
  refine OwnGo.back (T2.setTop (mkF m 36 #[.val (.ref a), .val (.ref ca), .val (.int (0 : Int32)), .val (.int (3 : Int32)), .val .null, .unset] [(.int (3 : Int32)), (.int (0 : Int32)), (.ref ca)])) (fun tg kk => XS.iloadN X2.here hx rfl (hb hby own_d2_35) rfl kk) ?_
  obtain ⟨_, _, ⟨T3, L3, k3, n3⟩, -, X3, ⟨Lc3, hQ3, l3, y3, z3⟩, st3⟩ := Jvm.LawKit.callS X2 hx (y := (⟨"java/lang/StringUTF16", "compress", "([CII)[B"⟩ : MethodName)) hown (mvT hZ (hw _ (List.mem_of_getElem? (i := 23) rfl))) (mvT hZ (hw _ (List.mem_of_getElem? (i := 24) rfl))) (mvT hZ (hw _ (List.mem_of_getElem? (i := 25) rfl))) (mvT hZ (hw _ (List.mem_of_getElem? (i := 26) rfl))) (by decide) (backOf (W := 0) (own_cmps3 l Z a0 hw [] ca kc x0 x1 x2 h0 n0 Z0 A hl0 hu0 hl1 hu1 hl2 hu2) hZ (hw _ (List.mem_of_getElem? (i := 26) rfl)) (hw _ (List.mem_of_getElem? (i := 25) rfl)) (by decide) (by decide)) (g := (mkF m 36 #[.val (.ref a), .val (.ref ca), .val (.int (0 : Int32)), .val (.int (3 : Int32)), .val .null, .unset] [(.int (3 : Int32)), (.int (0 : Int32)), (.ref ca)])) rfl (by rw [hml]; rfl) (argsL := [(.ref ca), (.int (0 : Int32)), (.int (3 : Int32))]) (rest := []) (lenOf own_pd2 rfl) rfl (by show 2 * 0 + _ ≤ _; exact Nat.le_of_eq rfl) (hb hby own_d2_36) (fun _ _ => ⟨rfl, e2, (by decide : 0 + 1 ≤ _), (by decide : 0 + 3 ≤ _)⟩)
  dsimp only [Pt.U, Pt.locs, Pt.cells, Pt.slots] at X3 l3 y3 z3 st3 hQ3
  subst l3 y3 z3
  obtain ⟨b_4, kb_5, rfl, N3q, Kc3, po6, po7⟩ := hQ3
  have N3 := Fr.app N0 N3q
  have f8 : Arv Z T3.heap ca kc .char (3 : Int32) [(.int x0), (.int x1), (.int x2)] (.int (0 : Int32)) := A.keep Kc3 nin0
  have f9 : Old Z n0 T3.heap := old.keep Kc3 all0
  have f10 : Exa Z T3.heap a "java/lang/String" := H0.keep Kc3
  have f11 : Fld Z T3.heap a "java/lang/String" "value" "[B" .null := H1.keep Kc3 nin0
  have f12 : Fld Z T3.heap a "java/lang/String" "coder" "B" (.int (0 : Int32)) := H2.keep Kc3 nin0
  have K13 : Keep h0 T3.heap [a] := K0.trans Kc3 all0
  have Z14 : n0 ≤ T3.heap.size := Nat.le_trans Z0 Kc3.1
  have n15 : a ≠ b_4 := own_ne' H0.lt po6
  have n16 : ca ≠ b_4 := own_ne' A.lt po6
  have g17 : n0 ≤ b_4 := Nat.le_trans Z0 po6
  have s18 : h0.size ≤ b_4 := Nat.le_trans K0.1 po6
  refine OwnGo.back (T3.setTop (mkF m 39 #[.val (.ref a), .val (.ref ca), .val (.int (0 : Int32)), .val (.int (3 : Int32)), .val .null, .unset] [(.ref b_4)])) (fun tg kk => st3 _ kk) ?_
  refine OwnGo.back (T3.setTop (mkF m 41 #[.val (.ref a), .val (.ref ca), .val (.int (0 : Int32)), .val (.int (3 : Int32)), .val .null, .val (.ref b_4)] [])) (fun tg kk => XS.astore X3.here hx rfl (hb hby own_d2_39) rfl rfl (l' := #[.val (.ref a), .val (.ref ca), .val (.int (0 : Int32)), .val (.int (3 : Int32)), .val .null, .val (.ref b_4)]) rfl kk) ?_
  refine OwnGo.back (T3.setTop (mkF m 42 #[.val (.ref a), .val (.ref ca), .val (.int (0 : Int32)), .val (.int (3 : Int32)), .val .null, .val (.ref b_4)] [(.ref a)])) (fun tg kk => XS.aloadN X3.here hx rfl (hb hby own_d2_41) rfl rfl kk) ?_
  refine OwnGo.back (T3.setTop (mkF m 44 #[.val (.ref a), .val (.ref ca), .val (.int (0 : Int32)), .val (.int (3 : Int32)), .val .null, .val (.ref b_4)] [(.ref b_4), (.ref a)])) (fun tg kk => XS.aload X3.here hx rfl (hb hby own_d2_42) rfl rfl kk) ?_
  refine OwnGo.back (T3.setTop (mkF m 45 #[.val (.ref a), .val (.ref ca), .val (.int (0 : Int32)), .val (.int (3 : Int32)), .val .null, .val (.ref b_4)] [(.int (3 : Int32)), (.ref b_4), (.ref a)])) (fun tg kk => XS.iloadN X3.here hx rfl (hb hby own_d2_44) rfl kk) ?_
  obtain ⟨_, _, ⟨T19, L19, k19, n19⟩, -, X19, ⟨Lc19, hQ19, l19, y19, z19⟩, st19⟩ := Jvm.LawKit.callS X3 hx (y := (⟨"java/lang/StringUTF16", "coderFromArrayLen", "([BI)B"⟩ : MethodName)) hown (mvT hZ (hw _ (List.mem_of_getElem? (i := 30) rfl))) (mvT hZ (hw _ (List.mem_of_getElem? (i := 31) rfl))) (mvT hZ (hw _ (List.mem_of_getElem? (i := 25) rfl))) (mvT hZ (hw _ (List.mem_of_getElem? (i := 32) rfl))) (by decide) (backOf (W := 1) (own_cfl3 l Z a0 hw [] b_4 kb_5 x0 x1 x2 T3.heap n0 Z14 po7) hZ (hw _ (List.mem_of_getElem? (i := 32) rfl)) (hw _ (List.mem_of_getElem? (i := 25) rfl)) (by decide) (by decide)) (g := (mkF m 45 #[.val (.ref a), .val (.ref ca), .val (.int (0 : Int32)), .val (.int (3 : Int32)), .val .null, .val (.ref b_4)] [(.int (3 : Int32)), (.ref b_4), (.ref a)])) rfl (by rw [hml]; rfl) (argsL := [(.ref b_4), (.int (3 : Int32))]) (rest := [(.ref a)]) (lenOf own_pd3 rfl) rfl (by show 2 * 0 + _ ≤ _; exact Nat.le_of_eq rfl) (hb hby own_d2_45) (fun _ _ => ⟨rfl, rfl, (by decide : 1 + 0 ≤ _), (by decide : 3 + 0 ≤ _)⟩)
  dsimp only [Pt.U, Pt.locs, Pt.cells, Pt.slots] at X19 l19 y19 z19 st19 hQ19
  subst l19 y19 z19
  obtain ⟨rfl, N19q, e19⟩ := hQ19
  have N19 := Fr.app N3 N19q
  refine OwnGo.back (T19.setTop (mkF m 48 #[.val (.ref a), .val (.ref ca), .val (.int (0 : Int32)), .val (.int (3 : Int32)), .val .null, .val (.ref b_4)] [(.int (0 : Int32)), (.ref a)])) (fun tg kk => st19 _ kk) ?_
  obtain ⟨T20, h20, X20, e20, W20, st20⟩ := putF X19 hx hZ hown (host := "") (Or.inl (hw _ (List.mem_of_getElem? (i := 21) rfl))) Via.refl e19 f12 f10 (Or.inr ⟨(hw _ (List.mem_of_getElem? (i := 17) rfl)), rfl, hnm⟩) (hw _ (List.mem_of_getElem? (i := 2) rfl)) (ty := .byte) (by decide) rfl rfl (g := (mkF m 48 #[.val (.ref a), .val (.ref ca), .val (.int (0 : Int32)), .val (.int (3 : Int32)), .val .null, .val (.ref b_4)] [(.int (0 : Int32)), (.ref a)])) rfl rfl (hb hby own_d2_48)
  have f21 : Fld Z h20 a "java/lang/String" "coder" "B" (.int (0 : Int32)) := f12.same W20
  have f22 : Arv Z h20 ca kc .char (3 : Int32) [(.int x0), (.int x1), (.int x2)] (.int (0 : Int32)) := f8.other W20 (Ne.symm H4)
  have f23 : Old Z n0 h20 := f9.wr W20 H3
  have f24 : Exa Z h20 a "java/lang/String" := f10.wr W20
  have f25 : Fld Z h20 a "java/lang/String" "value" "[B" .null := f11.other W20 (Or.inr (slot_ne (Or.inr (hw _ (List.mem_of_getElem? (i := 16) rfl))) (Or.inr (hw _ (List.mem_of_getElem? (i := 17) rfl))) (by decide) (t := (.array .byte)) (t' := .byte) (by decide) (by decide)))
  have f26 : Arv Z h20 b_4 kb_5 .byte (3 : Int32) [(.int (nar .byte (x0.toInt8.toInt32))), (.int (nar .byte (x1.toInt8.toInt32))), (.int (nar .byte (x2.toInt8.toInt32)))] (.int (0 : Int32)) := po7.other W20 (Ne.symm n15)
  have K27 : Keep h0 h20 [a] := K13.wr W20 (Or.inl (List.mem_of_getElem? (i := 0) rfl))
  have Z28 : n0 ≤ h20.size := Nat.le_trans Z14 (Keep.of_wr W20).1
  have N29 := Fr.snoc X20 N19 H3
  refine OwnGo.back (T20.setTop (mkF m 51 #[.val (.ref a), .val (.ref ca), .val (.int (0 : Int32)), .val (.int (3 : Int32)), .val .null, .val (.ref b_4)] [])) (fun tg kk => st20 _ kk) ?_
  refine OwnGo.back (T20.setTop (mkF m 52 #[.val (.ref a), .val (.ref ca), .val (.int (0 : Int32)), .val (.int (3 : Int32)), .val .null, .val (.ref b_4)] [(.ref a)])) (fun tg kk => XS.aloadN X20.here hx rfl (hb hby own_d2_51) rfl rfl kk) ?_
  refine OwnGo.back (T20.setTop (mkF m 54 #[.val (.ref a), .val (.ref ca), .val (.int (0 : Int32)), .val (.int (3 : Int32)), .val .null, .val (.ref b_4)] [(.ref b_4), (.ref a)])) (fun tg kk => XS.aload X20.here hx rfl (hb hby own_d2_52) rfl rfl kk) ?_
  obtain ⟨T30, h30, X30, e30, W30, st30⟩ := putF X20 hx hZ hown (host := "") (Or.inl (hw _ (List.mem_of_getElem? (i := 20) rfl))) Via.refl e20 f25 f24 (Or.inr ⟨(hw _ (List.mem_of_getElem? (i := 16) rfl)), rfl, hnm⟩) (hw _ (List.mem_of_getElem? (i := 2) rfl)) (ty := (.array .byte)) (by decide) rfl rfl (g := (mkF m 54 #[.val (.ref a), .val (.ref ca), .val (.int (0 : Int32)), .val (.int (3 : Int32)), .val .null, .val (.ref b_4)] [(.ref b_4), (.ref a)])) rfl rfl (hb hby own_d2_54)
  have f31 : Fld Z h30 a "java/lang/String" "value" "[B" (.ref b_4) := f25.same W30
  have f32 : Arv Z h30 ca kc .char (3 : Int32) [(.int x0), (.int x1), (.int x2)] (.int (0 : Int32)) := f22.other W30 (Ne.symm H4)
  have f33 : Old Z n0 h30 := f23.wr W30 H3
  have f34 : Exa Z h30 a "java/lang/String" := f24.wr W30
  have f35 : Arv Z h30 b_4 kb_5 .byte (3 : Int32) [(.int (nar .byte (x0.toInt8.toInt32))), (.int (nar .byte (x1.toInt8.toInt32))), (.int (nar .byte (x2.toInt8.toInt32)))] (.int (0 : Int32)) := f26.other W30 (Ne.symm n15)
  have f36 : Fld Z h30 a "java/lang/String" "coder" "B" (.int (0 : Int32)) := f21.other W30 (Or.inr (slot_ne (Or.inr (hw _ (List.mem_of_getElem? (i := 17) rfl))) (Or.inr (hw _ (List.mem_of_getElem? (i := 16) rfl))) (by decide) (t := .byte) (t' := (.array .byte)) (by decide) (by decide)))
  have K37 : Keep h0 h30 [a] := K27.wr W30 (Or.inl (List.mem_of_getElem? (i := 0) rfl))
  have Z38 : n0 ≤ h30.size := Nat.le_trans Z28 (Keep.of_wr W30).1
  have N39 := Fr.snoc X30 N29 H3
  refine OwnGo.back (T30.setTop (mkF m 57 #[.val (.ref a), .val (.ref ca), .val (.int (0 : Int32)), .val (.int (3 : Int32)), .val .null, .val (.ref b_4)] [])) (fun tg kk => st30 _ kk) ?_
  obtain ⟨fs, hr, hrun, hended, hW, hsame⟩ := X30.leave (v := none) (fun _ => rfl)
  refine ⟨_, _, ?_, hrun, hended, _, _, rfl, ?_, ⟨_, rfl⟩, hW, hsame.mono (by decide) (by decide)⟩
  · exact X30.returnOut hx Bd.returns (hb hby own_d2_57) hr
  · show own_i4_3_Q Z a ca kc x0 x1 x2 cs h0 n0 _ T30.heap _
    rw [e30]
    exact ⟨b_4, kb_5, rfl, N39, K37, s18, f34, f31, f36, f35⟩
theorem own_i1_3_ef (m : MethodId) (x0 : Addr) (x1 : Addr) : entryFrame m #[(.ref x0), (.ref x1)] 2 = mkF m 0 #[.val (.ref x0), .val (.ref x1)] [] := by first | (simp [entryFrame, mkF, argsToLocals, Value.category]; done) | rfl
def own_i1_3_Q (Z : State) (a : Addr) (ca : Addr) (kc : ClassId) (x0 : Int32) (x1 : Int32) (x2 : Int32) (cs : Int32) (h0 : Heap) (n0 : Nat) (rv : Option Value) (hN : Heap) (LL : List Loc) : Prop := ∃ (b : Addr), ∃ (kb : ClassId), rv = none ∧ Fr n0 LL ∧ Keep h0 hN [a] ∧ h0.size ≤ b ∧ Exa Z hN a "java/lang/String" ∧ Fld Z hN a "java/lang/String" "value" "[B" (.ref b) ∧ Fld Z hN a "java/lang/String" "coder" "B" (.int (0 : Int32)) ∧ Arv Z hN b kb .byte (3 : Int32) [(.int (nar .byte (x0.toInt8.toInt32))), (.int (nar .byte (x1.toInt8.toInt32))), (.int (nar .byte (x2.toInt8.toInt32)))] (.int (0 : Int32))
set_option maxRecDepth 65536 in
set_option maxHeartbeats 40000000 in
theorem own_i1_3 (l : Launch) (Z : State) (a0 : Array Value) (hw : ∀ d ∈ tables_1, d.before a0 Z = true) (ws : List Jvm.Cond) (a : Addr) (ca : Addr) (kc : ClassId) (x0 : Int32) (x1 : Int32) (x2 : Int32) (cs : Int32) (h0 : Heap) (n0 : Nat) (Z0 : n0 ≤ h0.size) (A : Arv Z h0 ca kc .char (3 : Int32) [(.int x0), (.int x1), (.int x2)] (.int (0 : Int32))) (hl0 : ¬ x0 < (0 : Int32)) (hu0 : ¬ (255 : Int32) < x0) (hl1 : ¬ x1 < (0 : Int32)) (hu1 : ¬ (255 : Int32) < x1) (hl2 : ¬ x2 < (0 : Int32)) (hu2 : ¬ (255 : Int32) < x2) (S : Sta Z Z.heap "java/lang/String" "COMPACT_STRINGS" "Z" (.int cs)) (old : Old Z n0 h0) (hcs : ¬ cs = 0) (H0 : Exa Z h0 a "java/lang/String") (H1 : Fld Z h0 a "java/lang/String" "value" "[B" .null) (H2 : Fld Z h0 a "java/lang/String" "coder" "B" (.int (0 : Int32))) (H3 : n0 ≤ a) (H4 : a ≠ ca) :
    MetFree l (⟨"java/lang/String", "<init>", "([C)V"⟩ : MethodName) (head1 (Jvm.Cond.code (⟨"java/lang/String", "<init>", "([C)V"⟩ : MethodName) jdk_42_method_3_code 2 none :: ws) ({ frames := 3, cells := 1, slots := 3, locals := 52 } : Room)) (fun aa UU => aa = #[(.ref a), (.ref ca)] ∧ Z.Warmed39 UU.vm ∧ UU.heap = h0) (fun _ _ _ _ _ => True) (fun _ UU oo UU' => ∃ rv LL, oo = .returned rv ∧ own_i1_3_Q Z a ca kc x0 x1 x2 cs h0 n0 rv UU'.heap LL ∧ FrameEnd UU oo UU' LL ({ frames := 3, cells := 1, slots := 3, locals := 52 } : Room).cells ({ frames := 3, cells := 1, slots := 3, locals := 52 } : Room).slots) := by
  refine MetFree.of_bodySF (plainFor_of_name own_pn0) hisR ?_
  intro p e s m args below meth c s₁ Bd hml0 hP hK
  obtain ⟨rfl, hZ, hh⟩ := hP
  have hx := Bd.exec
  have hby := Bd.bytes
  have hml : c.maxLocals = 2 := hml0
  have hown : s.vm.findClass "java/lang/String" = some m.cls := findClass_of_methodNamed Bd.named
  have hnm := (name_of_methodNamed Bd.named Bd.method).1
  have X0 : Stand p l e ({ frames := 3, cells := 1, slots := 3, locals := 52 } : Room) s m #[(.ref a), (.ref ca)] below meth c s₁ [] 0 0 := Stand.of_body Bd
  have e0 : s₁.heap = h0 := by rw [← hh, Bd.state]; rfl
  have N0 := Fr.nil n0
  have K0 : Keep h0 h0 [a] := Keep.refl h0 _
  refine (?_ : OwnGo p.tables e below (fun UU' oo => ∃ rv LL, oo = .returned rv ∧ own_i1_3_Q Z a ca kc x0 x1 x2 cs h0 n0 rv UU'.heap LL ∧ FrameEnd s oo UU' LL ({ frames := 3, cells := 1, slots := 3, locals := 52 } : Room).cells ({ frames := 3, cells := 1, slots := 3, locals := 52 } : Room).slots) _)
  refine OwnGo.back (s₁.setTop (mkF m 0 #[.val (.ref a), .val (.ref ca)] [])) (fun tg kk => castTop (own_i1_3_ef m a ca) kk) ?_
  refine OwnGo.back (s₁.setTop (mkF m 1 #[.val (.ref a), .val (.ref ca)] [(.ref a)])) (fun tg kk => XS.aloadN X0.here hx rfl (hb hby own_d1_0) rfl rfl kk) ?_
  refine OwnGo.back (s₁.setTop (mkF m 2 #[.val (.ref a), .val (.ref ca)] [(.ref ca), (.ref a)])) (fun tg kk => XS.aloadN X0.here hx rfl (hb hby own_d1_1) rfl rfl kk) ?_
  refine OwnGo.back (s₁.setTop (mkF m 3 #[.val (.ref a), .val (.ref ca)] [(.int (0 : Int32)), (.ref ca), (.ref a)])) (fun tg kk => XS.iconst X0.here hx rfl (hb hby own_d1_2) kk) ?_
  refine OwnGo.back (s₁.setTop (mkF m 4 #[.val (.ref a), .val (.ref ca)] [(.ref ca), (.int (0 : Int32)), (.ref ca), (.ref a)])) (fun tg kk => XS.aloadN X0.here hx rfl (hb hby own_d1_3) rfl rfl kk) ?_
  obtain ⟨cl_1, Ar_1, -, Sz_1, Ng_1, -, -⟩ := id A
  refine OwnGo.back (s₁.setTop (mkF m 5 #[.val (.ref a), .val (.ref ca)] [(.int (3 : Int32)), (.int (0 : Int32)), (.ref ca), (.ref a)])) (fun tg kk => X0.arraylength hx (by rw [e0]; exact Ar_1.1) (State.isArrayOf_alike hZ.alike Ar_1.2.1) (g := (mkF m 4 #[.val (.ref a), .val (.ref ca)] [(.ref ca), (.int (0 : Int32)), (.ref ca), (.ref a)])) rfl rfl (hb hby own_d1_4) _ (by rw [len_of Sz_1 Ng_1]; exact kk)) ?_
  refine OwnGo.back (s₁.setTop (mkF m 6 #[.val (.ref a), .val (.ref ca)] [.null, (.int (3 : Int32)), (.int (0 : Int32)), (.ref ca), (.ref a)])) (fun tg kk => XS.aconstNull X0.here hx rfl (hb hby own_d1_5) kk) ?_
  obtain ⟨_, _, ⟨T2, L2, k2, n2⟩, -, X2, ⟨Lc2, hQ2, l2, y2, z2⟩, st2⟩ := X0.specialBack hx (y := (⟨"java/lang/String", "<init>", "([CIILjava/lang/Void;)V"⟩ : MethodName)) rfl hown (mvT hZ (hw _ (List.mem_of_getElem? (i := 7) rfl))) (mvT hZ (hw _ (List.mem_of_getElem? (i := 8) rfl))) (mvT hZ (hw _ (List.mem_of_getElem? (i := 10) rfl))) (by decide) (backOf (W := 0) (own_i4_3 l Z a0 hw [] a ca kc x0 x1 x2 cs h0 n0 Z0 A hl0 hu0 hl1 hu1 hl2 hu2 S old hcs H0 H1 H2 H3 H4) hZ (hw _ (List.mem_of_getElem? (i := 10) rfl)) (hw _ (List.mem_of_getElem? (i := 3) rfl)) (by decide) (by decide)) (g := (mkF m 6 #[.val (.ref a), .val (.ref ca)] [.null, (.int (3 : Int32)), (.int (0 : Int32)), (.ref ca), (.ref a)])) rfl (by rw [hml]; rfl) (Steps.refl _) (a := a) (argsL := [(.ref ca), (.int (0 : Int32)), (.int (3 : Int32)), .null]) (rest := []) (lenOf own_pd0 rfl) rfl (by show 2 * 0 + _ ≤ _; exact Nat.le_of_eq rfl) (hb hby own_d1_6) (fun _ _ => ⟨rfl, e0, (by decide : 0 + 1 ≤ _), (by decide : 0 + 3 ≤ _)⟩)
  dsimp only [Pt.U, Pt.locs, Pt.cells, Pt.slots] at X2 l2 y2 z2 st2 hQ2
  subst l2 y2 z2
  obtain ⟨b_3, kb_4, rfl, N2q, Kc2, po5, po6, po7, po8, po9⟩ := hQ2
  have N2 := Fr.app N0 N2q
  have f10 : Arv Z T2.heap ca kc .char (3 : Int32) [(.int x0), (.int x1), (.int x2)] (.int (0 : Int32)) := A.keep Kc2 (ninS (Ne.symm H4) nin0)
  have f11 : Old Z n0 T2.heap := old.keep Kc2 (allS H3 all0)
  have f12 : Exa Z T2.heap a "java/lang/String" := H0.keep Kc2
  have K13 : Keep h0 T2.heap [a] := K0.trans Kc2 (allS (Or.inl (List.mem_of_getElem? (i := 0) rfl)) all0)
  have Z14 : n0 ≤ T2.heap.size := Nat.le_trans Z0 Kc2.1
  have n15 : a ≠ b_3 := own_ne' H0.lt po5
  have n16 : ca ≠ b_3 := own_ne' A.lt po5
  have g17 : n0 ≤ b_3 := Nat.le_trans Z0 po5
  have s18 : h0.size ≤ b_3 := Nat.le_trans K0.1 po5
  refine OwnGo.back (T2.setTop (mkF m 9 #[.val (.ref a), .val (.ref ca)] [])) (fun tg kk => st2.trans kk) ?_
  obtain ⟨fs, hr, hrun, hended, hW, hsame⟩ := X2.leave (v := none) (fun _ => rfl)
  refine ⟨_, _, ?_, hrun, hended, _, _, rfl, ?_, ⟨_, rfl⟩, hW, hsame.mono (by decide) (by decide)⟩
  · exact X2.returnOut hx Bd.returns (hb hby own_d1_9) hr
  · show own_i1_3_Q Z a ca kc x0 x1 x2 cs h0 n0 _ T2.heap _
    exact ⟨b_3, kb_4, rfl, N2, K13, s18, po6, po7, po8, po9⟩
theorem own_wsp_ef (m : MethodId) (x0 : Int32) : entryFrame m #[(.int x0)] 1 = mkF m 0 #[.val (.int x0)] [] := by first | (simp [entryFrame, mkF, argsToLocals, Value.category]; done) | rfl
def own_wsp_Q (Z : State) (x : Int32) (h0 : Heap) (n0 : Nat) (rv : Option Value) (hN : Heap) (LL : List Loc) : Prop := ∃ (r : Int32), rv = some (.int r) ∧ Fr n0 LL ∧ hN = h0 ∧ ((r = (1 : Int32) ∧ ((x = (32 : Int32)) ∨ (¬ x < (9 : Int32) ∧ ¬ (13 : Int32) < x) ∨ (¬ x < (28 : Int32) ∧ ¬ (31 : Int32) < x))) ∨ (r = (0 : Int32) ∧ ¬ ((x = (32 : Int32)) ∨ (¬ x < (9 : Int32) ∧ ¬ (13 : Int32) < x) ∨ (¬ x < (28 : Int32) ∧ ¬ (31 : Int32) < x))))
set_option maxRecDepth 65536 in
set_option maxHeartbeats 40000000 in
theorem own_wsp (l : Launch) (Z : State) (a0 : Array Value) (hw : ∀ d ∈ tables_1, d.before a0 Z = true) (ws : List Jvm.Cond) (x : Int32) (h0 : Heap) (n0 : Nat) (Z0 : n0 ≤ h0.size) :
    MetFree l (⟨"com/example/penelope/penelope/RollbackRulesCheckedNamePinLaw", "ws", "(I)Z"⟩ : MethodName) (head1 (Jvm.Cond.code (⟨"com/example/penelope/penelope/RollbackRulesCheckedNamePinLaw", "ws", "(I)Z"⟩ : MethodName) method_2_code 1 (some .boolean) :: ws) ({ frames := 0, cells := 0, slots := 0, locals := 0 } : Room)) (fun aa UU => aa = #[(.int x)] ∧ Z.Warmed39 UU.vm ∧ UU.heap = h0) (fun _ _ _ _ _ => True) (fun _ UU oo UU' => ∃ rv LL, oo = .returned rv ∧ own_wsp_Q Z x h0 n0 rv UU'.heap LL ∧ FrameEnd UU oo UU' LL ({ frames := 0, cells := 0, slots := 0, locals := 0 } : Room).cells ({ frames := 0, cells := 0, slots := 0, locals := 0 } : Room).slots) := by
  refine MetFree.of_bodySF (plainFor_of_name own_pn2) hisR ?_
  intro p e s m args below meth c s₁ Bd hml0 hP hK
  obtain ⟨rfl, hZ, hh⟩ := hP
  have hx := Bd.exec
  have hby := Bd.bytes
  have hml : c.maxLocals = 1 := hml0
  have hown : s.vm.findClass "com/example/penelope/penelope/RollbackRulesCheckedNamePinLaw" = some m.cls := findClass_of_methodNamed Bd.named
  have hnm := (name_of_methodNamed Bd.named Bd.method).1
  have X0 : Stand p l e ({ frames := 0, cells := 0, slots := 0, locals := 0 } : Room) s m #[(.int x)] below meth c s₁ [] 0 0 := Stand.of_body Bd
  have e0 : s₁.heap = h0 := by rw [← hh, Bd.state]; rfl
  have N0 := Fr.nil n0
  have K0 : Keep h0 h0 [] := Keep.refl h0 _
  refine (?_ : OwnGo p.tables e below (fun UU' oo => ∃ rv LL, oo = .returned rv ∧ own_wsp_Q Z x h0 n0 rv UU'.heap LL ∧ FrameEnd s oo UU' LL ({ frames := 0, cells := 0, slots := 0, locals := 0 } : Room).cells ({ frames := 0, cells := 0, slots := 0, locals := 0 } : Room).slots) _)
  refine OwnGo.back (s₁.setTop (mkF m 0 #[.val (.int x)] [])) (fun tg kk => castTop (own_wsp_ef m x) kk) ?_
  refine OwnGo.back (s₁.setTop (mkF m 1 #[.val (.int x)] [(.int x)])) (fun tg kk => XS.iloadN X0.here hx rfl (hb hby own_d7_0) rfl kk) ?_
  refine OwnGo.back (s₁.setTop (mkF m 3 #[.val (.int x)] [(.int (32 : Int32)), (.int x)])) (fun tg kk => XS.bipush X0.here hx rfl (hb hby own_d7_1) kk) ?_
  by_cases hc1 : x = (32 : Int32)
  ·
    refine OwnGo.back (s₁.setTop (mkF m 30 #[.val (.int x)] [])) (fun tg kk => XS.icmpYes X0.here hx rfl (pc0 := 3) (pc' := 30) rfl (hb hby own_d7_3) rfl (teq hc1).1 (by decide) (by decide) kk) ?_
    refine OwnGo.back (s₁.setTop (mkF m 31 #[.val (.int x)] [(.int (1 : Int32))])) (fun tg kk => XS.iconst X0.here hx rfl (hb hby own_d7_30) kk) ?_
    refine OwnGo.back (s₁.setTop (mkF m 35 #[.val (.int x)] [(.int (1 : Int32))])) (fun tg kk => XS.goto X0.here hx rfl (pc0 := 31) (pc' := 35) rfl (hb hby own_d7_31) (by decide) (by decide) kk) ?_
    obtain ⟨fs, hr, hrun, hended, hW, hsame⟩ := X0.leave (v := some (.int (1 : Int32))) (fun h => by rw [Bd.returns] at h; cases h)
    refine ⟨_, _, ?_, hrun, hended, _, _, rfl, ?_, ⟨_, rfl⟩, hW, hsame.mono (by decide) (by decide)⟩
    · exact retN X0 hx (t := .boolean) Bd.returns (by simp) (hb hby own_d7_35) hr
    · show own_wsp_Q Z x h0 n0 _ s₁.heap _
      rw [e0]
      exact ⟨(1 : Int32), rfl, N0, rfl, (by (simp only [true_and, and_true, false_and, and_false, or_false, false_or, or_true, true_or, not_true_eq_false, not_false_eq_true, eq_self, Int32.lt_iff_toInt_lt, Int32.le_iff_toInt_le, ← Int32.toInt_inj, Int32.reduceToInt, Int64.lt_iff_toInt_lt, Int64.le_iff_toInt_le, ← Int64.toInt_inj, Int64.reduceToInt] at hc1 ⊢) <;> omega)⟩
  ·
    refine OwnGo.back (s₁.setTop (mkF m 6 #[.val (.int x)] [])) (fun tg kk => XS.icmpNo X0.here hx rfl (hb hby own_d7_3) rfl (feq hc1).1 kk) ?_
    refine OwnGo.back (s₁.setTop (mkF m 7 #[.val (.int x)] [(.int x)])) (fun tg kk => XS.iloadN X0.here hx rfl (hb hby own_d7_6) rfl kk) ?_
    refine OwnGo.back (s₁.setTop (mkF m 9 #[.val (.int x)] [(.int (9 : Int32)), (.int x)])) (fun tg kk => XS.bipush X0.here hx rfl (hb hby own_d7_7) kk) ?_
    by_cases hc2 : x < (9 : Int32)
    ·
      refine OwnGo.back (s₁.setTop (mkF m 18 #[.val (.int x)] [])) (fun tg kk => XS.icmpYes X0.here hx rfl (pc0 := 9) (pc' := 18) rfl (hb hby own_d7_9) rfl (tlt hc2).1 (by decide) (by decide) kk) ?_
      refine OwnGo.back (s₁.setTop (mkF m 19 #[.val (.int x)] [(.int x)])) (fun tg kk => XS.iloadN X0.here hx rfl (hb hby own_d7_18) rfl kk) ?_
      refine OwnGo.back (s₁.setTop (mkF m 21 #[.val (.int x)] [(.int (28 : Int32)), (.int x)])) (fun tg kk => XS.bipush X0.here hx rfl (hb hby own_d7_19) kk) ?_
      by_cases hc3 : x < (28 : Int32)
      ·
        refine OwnGo.back (s₁.setTop (mkF m 34 #[.val (.int x)] [])) (fun tg kk => XS.icmpYes X0.here hx rfl (pc0 := 21) (pc' := 34) rfl (hb hby own_d7_21) rfl (tlt hc3).1 (by decide) (by decide) kk) ?_
        refine OwnGo.back (s₁.setTop (mkF m 35 #[.val (.int x)] [(.int (0 : Int32))])) (fun tg kk => XS.iconst X0.here hx rfl (hb hby own_d7_34) kk) ?_
        obtain ⟨fs, hr, hrun, hended, hW, hsame⟩ := X0.leave (v := some (.int (0 : Int32))) (fun h => by rw [Bd.returns] at h; cases h)
        refine ⟨_, _, ?_, hrun, hended, _, _, rfl, ?_, ⟨_, rfl⟩, hW, hsame.mono (by decide) (by decide)⟩
        · exact retN X0 hx (t := .boolean) Bd.returns (by simp) (hb hby own_d7_35) hr
        · show own_wsp_Q Z x h0 n0 _ s₁.heap _
          rw [e0]
          exact ⟨(0 : Int32), rfl, N0, rfl, (by (simp only [true_and, and_true, false_and, and_false, or_false, false_or, or_true, true_or, not_true_eq_false, not_false_eq_true, eq_self, Int32.lt_iff_toInt_lt, Int32.le_iff_toInt_le, ← Int32.toInt_inj, Int32.reduceToInt, Int64.lt_iff_toInt_lt, Int64.le_iff_toInt_le, ← Int64.toInt_inj, Int64.reduceToInt] at hc1 hc2 hc3 ⊢) <;> omega)⟩
      ·
        refine OwnGo.back (s₁.setTop (mkF m 24 #[.val (.int x)] [])) (fun tg kk => XS.icmpNo X0.here hx rfl (hb hby own_d7_21) rfl (flt hc3).1 kk) ?_
        refine OwnGo.back (s₁.setTop (mkF m 25 #[.val (.int x)] [(.int x)])) (fun tg kk => XS.iloadN X0.here hx rfl (hb hby own_d7_24) rfl kk) ?_
        refine OwnGo.back (s₁.setTop (mkF m 27 #[.val (.int x)] [(.int (31 : Int32)), (.int x)])) (fun tg kk => XS.bipush X0.here hx rfl (hb hby own_d7_25) kk) ?_
        by_cases hc4 : (31 : Int32) < x
        ·
          refine OwnGo.back (s₁.setTop (mkF m 34 #[.val (.int x)] [])) (fun tg kk => XS.icmpYes X0.here hx rfl (pc0 := 27) (pc' := 34) rfl (hb hby own_d7_27) rfl (tlt hc4).2.2.1 (by decide) (by decide) kk) ?_
          refine OwnGo.back (s₁.setTop (mkF m 35 #[.val (.int x)] [(.int (0 : Int32))])) (fun tg kk => XS.iconst X0.here hx rfl (hb hby own_d7_34) kk) ?_
          obtain ⟨fs, hr, hrun, hended, hW, hsame⟩ := X0.leave (v := some (.int (0 : Int32))) (fun h => by rw [Bd.returns] at h; cases h)
          refine ⟨_, _, ?_, hrun, hended, _, _, rfl, ?_, ⟨_, rfl⟩, hW, hsame.mono (by decide) (by decide)⟩
          · exact retN X0 hx (t := .boolean) Bd.returns (by simp) (hb hby own_d7_35) hr
          · show own_wsp_Q Z x h0 n0 _ s₁.heap _
            rw [e0]
            exact ⟨(0 : Int32), rfl, N0, rfl, (by (simp only [true_and, and_true, false_and, and_false, or_false, false_or, or_true, true_or, not_true_eq_false, not_false_eq_true, eq_self, Int32.lt_iff_toInt_lt, Int32.le_iff_toInt_le, ← Int32.toInt_inj, Int32.reduceToInt, Int64.lt_iff_toInt_lt, Int64.le_iff_toInt_le, ← Int64.toInt_inj, Int64.reduceToInt] at hc1 hc2 hc3 hc4 ⊢) <;> omega)⟩
        ·
          refine OwnGo.back (s₁.setTop (mkF m 30 #[.val (.int x)] [])) (fun tg kk => XS.icmpNo X0.here hx rfl (hb hby own_d7_27) rfl (flt hc4).2.2.1 kk) ?_
          refine OwnGo.back (s₁.setTop (mkF m 31 #[.val (.int x)] [(.int (1 : Int32))])) (fun tg kk => XS.iconst X0.here hx rfl (hb hby own_d7_30) kk) ?_
          refine OwnGo.back (s₁.setTop (mkF m 35 #[.val (.int x)] [(.int (1 : Int32))])) (fun tg kk => XS.goto X0.here hx rfl (pc0 := 31) (pc' := 35) rfl (hb hby own_d7_31) (by decide) (by decide) kk) ?_
          obtain ⟨fs, hr, hrun, hended, hW, hsame⟩ := X0.leave (v := some (.int (1 : Int32))) (fun h => by rw [Bd.returns] at h; cases h)
          refine ⟨_, _, ?_, hrun, hended, _, _, rfl, ?_, ⟨_, rfl⟩, hW, hsame.mono (by decide) (by decide)⟩
          · exact retN X0 hx (t := .boolean) Bd.returns (by simp) (hb hby own_d7_35) hr
          · show own_wsp_Q Z x h0 n0 _ s₁.heap _
            rw [e0]
            exact ⟨(1 : Int32), rfl, N0, rfl, (by (simp only [true_and, and_true, false_and, and_false, or_false, false_or, or_true, true_or, not_true_eq_false, not_false_eq_true, eq_self, Int32.lt_iff_toInt_lt, Int32.le_iff_toInt_le, ← Int32.toInt_inj, Int32.reduceToInt, Int64.lt_iff_toInt_lt, Int64.le_iff_toInt_le, ← Int64.toInt_inj, Int64.reduceToInt] at hc1 hc2 hc3 hc4 ⊢) <;> omega)⟩
    ·
      refine OwnGo.back (s₁.setTop (mkF m 12 #[.val (.int x)] [])) (fun tg kk => XS.icmpNo X0.here hx rfl (hb hby own_d7_9) rfl (flt hc2).1 kk) ?_
      refine OwnGo.back (s₁.setTop (mkF m 13 #[.val (.int x)] [(.int x)])) (fun tg kk => XS.iloadN X0.here hx rfl (hb hby own_d7_12) rfl kk) ?_
      refine OwnGo.back (s₁.setTop (mkF m 15 #[.val (.int x)] [(.int (13 : Int32)), (.int x)])) (fun tg kk => XS.bipush X0.here hx rfl (hb hby own_d7_13) kk) ?_
      by_cases hc5 : (13 : Int32) < x
      ·
        refine OwnGo.back (s₁.setTop (mkF m 18 #[.val (.int x)] [])) (fun tg kk => XS.icmpNo X0.here hx rfl (hb hby own_d7_15) rfl (tlt hc5).2.2.2 kk) ?_
        refine OwnGo.back (s₁.setTop (mkF m 19 #[.val (.int x)] [(.int x)])) (fun tg kk => XS.iloadN X0.here hx rfl (hb hby own_d7_18) rfl kk) ?_
        refine OwnGo.back (s₁.setTop (mkF m 21 #[.val (.int x)] [(.int (28 : Int32)), (.int x)])) (fun tg kk => XS.bipush X0.here hx rfl (hb hby own_d7_19) kk) ?_
        by_cases hc6 : x < (28 : Int32)
        ·
          refine OwnGo.back (s₁.setTop (mkF m 34 #[.val (.int x)] [])) (fun tg kk => XS.icmpYes X0.here hx rfl (pc0 := 21) (pc' := 34) rfl (hb hby own_d7_21) rfl (tlt hc6).1 (by decide) (by decide) kk) ?_
          refine OwnGo.back (s₁.setTop (mkF m 35 #[.val (.int x)] [(.int (0 : Int32))])) (fun tg kk => XS.iconst X0.here hx rfl (hb hby own_d7_34) kk) ?_
          obtain ⟨fs, hr, hrun, hended, hW, hsame⟩ := X0.leave (v := some (.int (0 : Int32))) (fun h => by rw [Bd.returns] at h; cases h)
          refine ⟨_, _, ?_, hrun, hended, _, _, rfl, ?_, ⟨_, rfl⟩, hW, hsame.mono (by decide) (by decide)⟩
          · exact retN X0 hx (t := .boolean) Bd.returns (by simp) (hb hby own_d7_35) hr
          · show own_wsp_Q Z x h0 n0 _ s₁.heap _
            rw [e0]
            exact ⟨(0 : Int32), rfl, N0, rfl, (by (simp only [true_and, and_true, false_and, and_false, or_false, false_or, or_true, true_or, not_true_eq_false, not_false_eq_true, eq_self, Int32.lt_iff_toInt_lt, Int32.le_iff_toInt_le, ← Int32.toInt_inj, Int32.reduceToInt, Int64.lt_iff_toInt_lt, Int64.le_iff_toInt_le, ← Int64.toInt_inj, Int64.reduceToInt] at hc1 hc2 hc5 hc6 ⊢) <;> omega)⟩
        ·
          refine OwnGo.back (s₁.setTop (mkF m 24 #[.val (.int x)] [])) (fun tg kk => XS.icmpNo X0.here hx rfl (hb hby own_d7_21) rfl (flt hc6).1 kk) ?_
          refine OwnGo.back (s₁.setTop (mkF m 25 #[.val (.int x)] [(.int x)])) (fun tg kk => XS.iloadN X0.here hx rfl (hb hby own_d7_24) rfl kk) ?_
          refine OwnGo.back (s₁.setTop (mkF m 27 #[.val (.int x)] [(.int (31 : Int32)), (.int x)])) (fun tg kk => XS.bipush X0.here hx rfl (hb hby own_d7_25) kk) ?_
          by_cases hc7 : (31 : Int32) < x
          ·
            refine OwnGo.back (s₁.setTop (mkF m 34 #[.val (.int x)] [])) (fun tg kk => XS.icmpYes X0.here hx rfl (pc0 := 27) (pc' := 34) rfl (hb hby own_d7_27) rfl (tlt hc7).2.2.1 (by decide) (by decide) kk) ?_
            refine OwnGo.back (s₁.setTop (mkF m 35 #[.val (.int x)] [(.int (0 : Int32))])) (fun tg kk => XS.iconst X0.here hx rfl (hb hby own_d7_34) kk) ?_
            obtain ⟨fs, hr, hrun, hended, hW, hsame⟩ := X0.leave (v := some (.int (0 : Int32))) (fun h => by rw [Bd.returns] at h; cases h)
            refine ⟨_, _, ?_, hrun, hended, _, _, rfl, ?_, ⟨_, rfl⟩, hW, hsame.mono (by decide) (by decide)⟩
            · exact retN X0 hx (t := .boolean) Bd.returns (by simp) (hb hby own_d7_35) hr
            · show own_wsp_Q Z x h0 n0 _ s₁.heap _
              rw [e0]
              exact ⟨(0 : Int32), rfl, N0, rfl, (by (simp only [true_and, and_true, false_and, and_false, or_false, false_or, or_true, true_or, not_true_eq_false, not_false_eq_true, eq_self, Int32.lt_iff_toInt_lt, Int32.le_iff_toInt_le, ← Int32.toInt_inj, Int32.reduceToInt, Int64.lt_iff_toInt_lt, Int64.le_iff_toInt_le, ← Int64.toInt_inj, Int64.reduceToInt] at hc1 hc2 hc5 hc6 hc7 ⊢) <;> omega)⟩
          ·
            refine OwnGo.back (s₁.setTop (mkF m 30 #[.val (.int x)] [])) (fun tg kk => XS.icmpNo X0.here hx rfl (hb hby own_d7_27) rfl (flt hc7).2.2.1 kk) ?_
            refine OwnGo.back (s₁.setTop (mkF m 31 #[.val (.int x)] [(.int (1 : Int32))])) (fun tg kk => XS.iconst X0.here hx rfl (hb hby own_d7_30) kk) ?_
            refine OwnGo.back (s₁.setTop (mkF m 35 #[.val (.int x)] [(.int (1 : Int32))])) (fun tg kk => XS.goto X0.here hx rfl (pc0 := 31) (pc' := 35) rfl (hb hby own_d7_31) (by decide) (by decide) kk) ?_
            obtain ⟨fs, hr, hrun, hended, hW, hsame⟩ := X0.leave (v := some (.int (1 : Int32))) (fun h => by rw [Bd.returns] at h; cases h)
            refine ⟨_, _, ?_, hrun, hended, _, _, rfl, ?_, ⟨_, rfl⟩, hW, hsame.mono (by decide) (by decide)⟩
            · exact retN X0 hx (t := .boolean) Bd.returns (by simp) (hb hby own_d7_35) hr
            · show own_wsp_Q Z x h0 n0 _ s₁.heap _
              rw [e0]
              exact ⟨(1 : Int32), rfl, N0, rfl, (by (simp only [true_and, and_true, false_and, and_false, or_false, false_or, or_true, true_or, not_true_eq_false, not_false_eq_true, eq_self, Int32.lt_iff_toInt_lt, Int32.le_iff_toInt_le, ← Int32.toInt_inj, Int32.reduceToInt, Int64.lt_iff_toInt_lt, Int64.le_iff_toInt_le, ← Int64.toInt_inj, Int64.reduceToInt] at hc1 hc2 hc5 hc6 hc7 ⊢) <;> omega)⟩
      ·
        refine OwnGo.back (s₁.setTop (mkF m 30 #[.val (.int x)] [])) (fun tg kk => XS.icmpYes X0.here hx rfl (pc0 := 15) (pc' := 30) rfl (hb hby own_d7_15) rfl (flt hc5).2.2.2 (by decide) (by decide) kk) ?_
        refine OwnGo.back (s₁.setTop (mkF m 31 #[.val (.int x)] [(.int (1 : Int32))])) (fun tg kk => XS.iconst X0.here hx rfl (hb hby own_d7_30) kk) ?_
        refine OwnGo.back (s₁.setTop (mkF m 35 #[.val (.int x)] [(.int (1 : Int32))])) (fun tg kk => XS.goto X0.here hx rfl (pc0 := 31) (pc' := 35) rfl (hb hby own_d7_31) (by decide) (by decide) kk) ?_
        obtain ⟨fs, hr, hrun, hended, hW, hsame⟩ := X0.leave (v := some (.int (1 : Int32))) (fun h => by rw [Bd.returns] at h; cases h)
        refine ⟨_, _, ?_, hrun, hended, _, _, rfl, ?_, ⟨_, rfl⟩, hW, hsame.mono (by decide) (by decide)⟩
        · exact retN X0 hx (t := .boolean) Bd.returns (by simp) (hb hby own_d7_35) hr
        · show own_wsp_Q Z x h0 n0 _ s₁.heap _
          rw [e0]
          exact ⟨(1 : Int32), rfl, N0, rfl, (by (simp only [true_and, and_true, false_and, and_false, or_false, false_or, or_true, true_or, not_true_eq_false, not_false_eq_true, eq_self, Int32.lt_iff_toInt_lt, Int32.le_iff_toInt_le, ← Int32.toInt_inj, Int32.reduceToInt, Int64.lt_iff_toInt_lt, Int64.le_iff_toInt_le, ← Int64.toInt_inj, Int64.reduceToInt] at hc1 hc2 hc5 ⊢) <;> omega)⟩
theorem own_gp_ef (m : MethodId) (x0 : Addr) (x1 : Int32) : entryFrame m #[(.ref x0), (.int x1)] 4 = mkF m 0 #[.val (.ref x0), .val (.int x1), .unset, .unset] [] := by first | (simp [entryFrame, mkF, argsToLocals, Value.category]; done) | rfl
def own_gp_Q (Z : State) (o : Addr) (x : Int32) (aA : Addr) (h0 : Heap) (n0 : Nat) (rv : Option Value) (hN : Heap) (LL : List Loc) : Prop := ∃ (y : Int32), rv = some (.int y) ∧ Fr n0 LL ∧ hN = h0 ∧ own_P x y
set_option maxRecDepth 65536 in
set_option maxHeartbeats 40000000 in
theorem own_gp (l : Launch) (Z : State) (a0 : Array Value) (hw : ∀ d ∈ tables_1, d.before a0 Z = true) (ws : List Jvm.Cond) (o : Addr) (x : Int32) (aA : Addr) (h0 : Heap) (n0 : Nat) (Z0 : n0 ≤ h0.size) (SA : Sta Z Z.heap "java/lang/CharacterDataLatin1" "A" "[I" (.ref aA)) (old : Old Z n0 h0) (hA : own_A Z aA) (hl : ¬ x < (0 : Int32)) (hu : ¬ (255 : Int32) < x) :
    MetFree l (⟨"java/lang/CharacterDataLatin1", "getProperties", "(I)I"⟩ : MethodName) (head1 (Jvm.Cond.code (⟨"java/lang/CharacterDataLatin1", "getProperties", "(I)I"⟩ : MethodName) jdk_116_method_1_code 4 (some .int) :: ws) ({ frames := 0, cells := 0, slots := 0, locals := 0 } : Room)) (fun aa UU => aa = #[(.ref o), (.int x)] ∧ Z.Warmed39 UU.vm ∧ UU.heap = h0) (fun _ _ _ _ _ => True) (fun _ UU oo UU' => ∃ rv LL, oo = .returned rv ∧ own_gp_Q Z o x aA h0 n0 rv UU'.heap LL ∧ FrameEnd UU oo UU' LL ({ frames := 0, cells := 0, slots := 0, locals := 0 } : Room).cells ({ frames := 0, cells := 0, slots := 0, locals := 0 } : Room).slots) := by
  refine MetFree.of_bodySF (plainFor_of_name own_pn3) hisR ?_
  intro p e s m args below meth c s₁ Bd hml0 hP hK
  obtain ⟨rfl, hZ, hh⟩ := hP
  have hx := Bd.exec
  have hby := Bd.bytes
  have hml : c.maxLocals = 4 := hml0
  have hown : s.vm.findClass "java/lang/CharacterDataLatin1" = some m.cls := findClass_of_methodNamed Bd.named
  have hnm := (name_of_methodNamed Bd.named Bd.method).1
  have X0 : Stand p l e ({ frames := 0, cells := 0, slots := 0, locals := 0 } : Room) s m #[(.ref o), (.int x)] below meth c s₁ [] 0 0 := Stand.of_body Bd
  have e0 : s₁.heap = h0 := by rw [← hh, Bd.state]; rfl
  have N0 := Fr.nil n0
  have K0 : Keep h0 h0 [] := Keep.refl h0 _
  refine (?_ : OwnGo p.tables e below (fun UU' oo => ∃ rv LL, oo = .returned rv ∧ own_gp_Q Z o x aA h0 n0 rv UU'.heap LL ∧ FrameEnd s oo UU' LL ({ frames := 0, cells := 0, slots := 0, locals := 0 } : Room).cells ({ frames := 0, cells := 0, slots := 0, locals := 0 } : Room).slots) _)
  refine OwnGo.back (s₁.setTop (mkF m 0 #[.val (.ref o), .val (.int x), .unset, .unset] [])) (fun tg kk => castTop (own_gp_ef m o x) kk) ?_
  refine OwnGo.back (s₁.setTop (mkF m 1 #[.val (.ref o), .val (.int x), .unset, .unset] [(.int x)])) (fun tg kk => XS.iloadN X0.here hx rfl (hb hby own_d15_0) rfl kk) ?_
  refine OwnGo.back (s₁.setTop (mkF m 2 #[.val (.ref o), .val (.int x), .unset, .unset] [(.int (x.toUInt32.toUInt16.toUInt32.toInt32))])) (fun tg kk => XS.i2c X0.here hx rfl (hb hby own_d15_1) rfl kk) ?_
  rw [own_nrx hl hu]
  refine OwnGo.back (s₁.setTop (mkF m 3 #[.val (.ref o), .val (.int x), .val (.int x), .unset] [])) (fun tg kk => XS.istoreN X0.here hx rfl (hb hby own_d15_2) rfl (l' := #[.val (.ref o), .val (.int x), .val (.int x), .unset]) rfl kk) ?_
  obtain ⟨T1, X1, e1, st1⟩ := getS2 X0 hx hZ hown (host := "") (Or.inl (hw _ (List.mem_of_getElem? (i := 75) rfl))) Via.refl e0 (SA.ext old.2) (g := (mkF m 3 #[.val (.ref o), .val (.int x), .val (.int x), .unset] [])) rfl (hb hby own_d15_3)
  refine OwnGo.back (T1.setTop (mkF m 6 #[.val (.ref o), .val (.int x), .val (.int x), .unset] [(.ref aA)])) (fun tg kk => st1 _ kk) ?_
  refine OwnGo.back (T1.setTop (mkF m 7 #[.val (.ref o), .val (.int x), .val (.int x), .unset] [(.int x), (.ref aA)])) (fun tg kk => XS.iloadN X1.here hx rfl (hb hby own_d15_6) rfl kk) ?_
  obtain ⟨cl2, Ar2, sz2, el2⟩ := id hA
  have hin2 : ¬ (x < 0 ∨ cl2.slots.size ≤ x.toNatClampNeg) := by rw [sz2]; exact own_in256 hl hu
  obtain ⟨y2, hat2, hp2⟩ := el2 x (own_b1 hl hu).1 (own_b1 hl hu).2
  have Ah2 := Ar2.ext old.2
  refine OwnGo.back (T1.setTop (mkF m 8 #[.val (.ref o), .val (.int x), .val (.int x), .unset] [(.int y2)])) (fun tg kk => X1.iaload hx (j := x) (v := (.int y2)) (by rw [e1]; exact Ah2.1) (State.isArrayOf_alike hZ.alike Ah2.2.1) Ah2.2.2 hin2 hat2 (g := (mkF m 7 #[.val (.ref o), .val (.int x), .val (.int x), .unset] [(.int x), (.ref aA)])) rfl rfl (hb hby own_d15_7) _ kk) ?_
  refine OwnGo.back (T1.setTop (mkF m 9 #[.val (.ref o), .val (.int x), .val (.int x), .val (.int y2)] [])) (fun tg kk => XS.istoreN X1.here hx rfl (hb hby own_d15_8) rfl (l' := #[.val (.ref o), .val (.int x), .val (.int x), .val (.int y2)]) rfl kk) ?_
  refine OwnGo.back (T1.setTop (mkF m 10 #[.val (.ref o), .val (.int x), .val (.int x), .val (.int y2)] [(.int y2)])) (fun tg kk => XS.iloadN X1.here hx rfl (hb hby own_d15_9) rfl kk) ?_
  obtain ⟨fs, hr, hrun, hended, hW, hsame⟩ := X1.leave (v := some (.int y2)) (fun h => by rw [Bd.returns] at h; cases h)
  refine ⟨_, _, ?_, hrun, hended, _, _, rfl, ?_, ⟨_, rfl⟩, hW, hsame.mono (by decide) (by decide)⟩
  · exact own_retI X1 hx Bd.returns (hb hby own_d15_10) hr
  · show own_gp_Q Z o x aA h0 n0 _ T1.heap _
    rw [e1]
    exact ⟨y2, rfl, N0, rfl, hp2⟩
theorem own_isw_ef (m : MethodId) (x0 : Addr) (x1 : Int32) : entryFrame m #[(.ref x0), (.int x1)] 3 = mkF m 0 #[.val (.ref x0), .val (.int x1), .unset] [] := by first | (simp [entryFrame, mkF, argsToLocals, Value.category]; done) | rfl
def own_isw_Q (Z : State) (o : Addr) (x : Int32) (aA : Addr) (h0 : Heap) (n0 : Nat) (rv : Option Value) (hN : Heap) (LL : List Loc) : Prop := ∃ (r : Int32), rv = some (.int r) ∧ Fr n0 LL ∧ hN = h0 ∧ ((r = (1 : Int32) ∧ ((x = (32 : Int32)) ∨ (¬ x < (9 : Int32) ∧ ¬ (13 : Int32) < x) ∨ (¬ x < (28 : Int32) ∧ ¬ (31 : Int32) < x))) ∨ (r = (0 : Int32) ∧ ¬ ((x = (32 : Int32)) ∨ (¬ x < (9 : Int32) ∧ ¬ (13 : Int32) < x) ∨ (¬ x < (28 : Int32) ∧ ¬ (31 : Int32) < x))))
set_option maxRecDepth 65536 in
set_option maxHeartbeats 40000000 in
theorem own_isw (l : Launch) (Z : State) (a0 : Array Value) (hw : ∀ d ∈ tables_1, d.before a0 Z = true) (ws : List Jvm.Cond) (o : Addr) (x : Int32) (aA : Addr) (h0 : Heap) (n0 : Nat) (Z0 : n0 ≤ h0.size) (Xo : Exa Z h0 o "java/lang/CharacterDataLatin1") (SA : Sta Z Z.heap "java/lang/CharacterDataLatin1" "A" "[I" (.ref aA)) (old : Old Z n0 h0) (hA : own_A Z aA) (hl : ¬ x < (0 : Int32)) (hu : ¬ (255 : Int32) < x) :
    MetFree l (⟨"java/lang/CharacterDataLatin1", "isWhitespace", "(I)Z"⟩ : MethodName) (head1 (Jvm.Cond.code (⟨"java/lang/CharacterDataLatin1", "isWhitespace", "(I)Z"⟩ : MethodName) jdk_116_method_26_code 3 (some .boolean) :: ws) ({ frames := 1, cells := 0, slots := 0, locals := 15 } : Room)) (fun aa UU => aa = #[(.ref o), (.int x)] ∧ Z.Warmed39 UU.vm ∧ UU.heap = h0) (fun _ _ _ _ _ => True) (fun _ UU oo UU' => ∃ rv LL, oo = .returned rv ∧ own_isw_Q Z o x aA h0 n0 rv UU'.heap LL ∧ FrameEnd UU oo UU' LL ({ frames := 1, cells := 0, slots := 0, locals := 15 } : Room).cells ({ frames := 1, cells := 0, slots := 0, locals := 15 } : Room).slots) := by
  refine MetFree.of_bodySF (plainFor_of_name own_pn3) hisR ?_
  intro p e s m args below meth c s₁ Bd hml0 hP hK
  obtain ⟨rfl, hZ, hh⟩ := hP
  have hx := Bd.exec
  have hby := Bd.bytes
  have hml : c.maxLocals = 3 := hml0
  have hown : s.vm.findClass "java/lang/CharacterDataLatin1" = some m.cls := findClass_of_methodNamed Bd.named
  have hnm := (name_of_methodNamed Bd.named Bd.method).1
  have X0 : Stand p l e ({ frames := 1, cells := 0, slots := 0, locals := 15 } : Room) s m #[(.ref o), (.int x)] below meth c s₁ [] 0 0 := Stand.of_body Bd
  have e0 : s₁.heap = h0 := by rw [← hh, Bd.state]; rfl
  have N0 := Fr.nil n0
  have K0 : Keep h0 h0 [] := Keep.refl h0 _
  refine (?_ : OwnGo p.tables e below (fun UU' oo => ∃ rv LL, oo = .returned rv ∧ own_isw_Q Z o x aA h0 n0 rv UU'.heap LL ∧ FrameEnd s oo UU' LL ({ frames := 1, cells := 0, slots := 0, locals := 15 } : Room).cells ({ frames := 1, cells := 0, slots := 0, locals := 15 } : Room).slots) _)
  refine OwnGo.back (s₁.setTop (mkF m 0 #[.val (.ref o), .val (.int x), .unset] [])) (fun tg kk => castTop (own_isw_ef m o x) kk) ?_
  refine OwnGo.back (s₁.setTop (mkF m 1 #[.val (.ref o), .val (.int x), .unset] [(.ref o)])) (fun tg kk => XS.aloadN X0.here hx rfl (hb hby own_d14_0) rfl rfl kk) ?_
  refine OwnGo.back (s₁.setTop (mkF m 2 #[.val (.ref o), .val (.int x), .unset] [(.int x), (.ref o)])) (fun tg kk => XS.iloadN X0.here hx rfl (hb hby own_d14_1) rfl kk) ?_
  obtain ⟨cq1, kq1, q1a, q1b, q1c⟩ := isOf hZ e0 Xo
  obtain ⟨_, _, ⟨T1, L1, k1, n1⟩, -, X1, ⟨Lc1, hQ1, l1, y1, z1⟩, st1⟩ := X0.virtualBack hx (y := (⟨"java/lang/CharacterDataLatin1", "getProperties", "(I)I"⟩ : MethodName)) (z := (⟨"java/lang/CharacterDataLatin1", "getProperties", "(I)I"⟩ : MethodName)) hown (mvT hZ (hw _ (List.mem_of_getElem? (i := 70) rfl))) (mvT hZ (hw _ (List.mem_of_getElem? (i := 71) rfl))) (notFace_of_selects (args := #[]) (mvT hZ (hw _ (List.mem_of_getElem? (i := 73) rfl)))) (mvT hZ (hw _ (List.mem_of_getElem? (i := 73) rfl))) (mvT hZ (hw _ (List.mem_of_getElem? (i := 72) rfl))) (by decide) (backOf (W := 0) (own_gp l Z a0 hw [] o x aA h0 n0 Z0 SA old hA hl hu) hZ (hw _ (List.mem_of_getElem? (i := 74) rfl)) (hw _ (List.mem_of_getElem? (i := 64) rfl)) (by decide) (by decide)) q1a q1c (g := (mkF m 2 #[.val (.ref o), .val (.int x), .unset] [(.int x), (.ref o)])) rfl (by rw [hml]; rfl) (Steps.refl _) (argsL := [(.int x)]) (rest := []) (lenOf own_pd4 rfl) rfl (by show 2 * 0 + _ ≤ _; exact Nat.le_of_eq rfl) (hb hby own_d14_2) (fun _ _ => ⟨rfl, e0, (by decide : 0 + 0 ≤ _), (by decide : 0 + 0 ≤ _)⟩)
  dsimp only [Pt.U, Pt.locs, Pt.cells, Pt.slots] at X1 l1 y1 z1 st1 hQ1
  subst l1 y1 z1
  obtain ⟨y_2, rfl, N1q, e1, po3⟩ := hQ1
  have N1 := Fr.app N0 N1q
  have po4 : (((y_2 &&& (28672 : Int32)) = (16384 : Int32)) ∧ ((x = (32 : Int32)) ∨ (¬ x < (9 : Int32) ∧ ¬ (13 : Int32) < x) ∨ (¬ x < (28 : Int32) ∧ ¬ (31 : Int32) < x))) ∨ (¬ ((y_2 &&& (28672 : Int32)) = (16384 : Int32)) ∧ ¬ ((x = (32 : Int32)) ∨ (¬ x < (9 : Int32) ∧ ¬ (13 : Int32) < x) ∨ (¬ x < (28 : Int32) ∧ ¬ (31 : Int32) < x))) := po3
  refine OwnGo.back (T1.setTop (mkF m 5 #[.val (.ref o), .val (.int x), .unset] [(.int y_2)])) (fun tg kk => st1.trans kk) ?_
  refine OwnGo.back (T1.setTop (mkF m 6 #[.val (.ref o), .val (.int x), .val (.int y_2)] [])) (fun tg kk => XS.istoreN X1.here hx rfl (hb hby own_d14_5) rfl (l' := #[.val (.ref o), .val (.int x), .val (.int y_2)]) rfl kk) ?_
  refine OwnGo.back (T1.setTop (mkF m 7 #[.val (.ref o), .val (.int x), .val (.int y_2)] [(.int y_2)])) (fun tg kk => XS.iloadN X1.here hx rfl (hb hby own_d14_6) rfl kk) ?_
  refine OwnGo.back (T1.setTop (mkF m 10 #[.val (.ref o), .val (.int x), .val (.int y_2)] [(.int (28672 : Int32)), (.int y_2)])) (fun tg kk => XS.sipush X1.here hx rfl (hb hby own_d14_7) kk) ?_
  refine OwnGo.back (T1.setTop (mkF m 11 #[.val (.ref o), .val (.int x), .val (.int y_2)] [(.int (y_2 &&& (28672 : Int32)))])) (fun tg kk => XS.iand X1.here hx rfl (hb hby own_d14_10) rfl kk) ?_
  refine OwnGo.back (T1.setTop (mkF m 14 #[.val (.ref o), .val (.int x), .val (.int y_2)] [(.int (16384 : Int32)), (.int (y_2 &&& (28672 : Int32)))])) (fun tg kk => XS.sipush X1.here hx rfl (hb hby own_d14_11) kk) ?_
  by_cases hc5 : (y_2 &&& (28672 : Int32)) = (16384 : Int32)
  ·
    refine OwnGo.back (T1.setTop (mkF m 17 #[.val (.ref o), .val (.int x), .val (.int y_2)] [])) (fun tg kk => XS.icmpNo X1.here hx rfl (hb hby own_d14_14) rfl (teq hc5).2 kk) ?_
    refine OwnGo.back (T1.setTop (mkF m 18 #[.val (.ref o), .val (.int x), .val (.int y_2)] [(.int (1 : Int32))])) (fun tg kk => XS.iconst X1.here hx rfl (hb hby own_d14_17) kk) ?_
    refine OwnGo.back (T1.setTop (mkF m 22 #[.val (.ref o), .val (.int x), .val (.int y_2)] [(.int (1 : Int32))])) (fun tg kk => XS.goto X1.here hx rfl (pc0 := 18) (pc' := 22) rfl (hb hby own_d14_18) (by decide) (by decide) kk) ?_
    obtain ⟨fs, hr, hrun, hended, hW, hsame⟩ := X1.leave (v := some (.int (1 : Int32))) (fun h => by rw [Bd.returns] at h; cases h)
    refine ⟨_, _, ?_, hrun, hended, _, _, rfl, ?_, ⟨_, rfl⟩, hW, hsame.mono (by decide) (by decide)⟩
    · exact retN X1 hx (t := .boolean) Bd.returns (by simp) (hb hby own_d14_22) hr
    · show own_isw_Q Z o x aA h0 n0 _ T1.heap _
      rw [e1]
      exact ⟨(1 : Int32), rfl, N1, rfl, (by (simp only [true_and, and_true, false_and, and_false, or_false, false_or, or_true, true_or, not_true_eq_false, not_false_eq_true, eq_self, Int32.lt_iff_toInt_lt, Int32.le_iff_toInt_le, ← Int32.toInt_inj, Int32.reduceToInt, Int64.lt_iff_toInt_lt, Int64.le_iff_toInt_le, ← Int64.toInt_inj, Int64.reduceToInt] at hc5 hl hu po4 ⊢) <;> omega)⟩
  ·
    refine OwnGo.back (T1.setTop (mkF m 21 #[.val (.ref o), .val (.int x), .val (.int y_2)] [])) (fun tg kk => XS.icmpYes X1.here hx rfl (pc0 := 14) (pc' := 21) rfl (hb hby own_d14_14) rfl (feq hc5).2 (by decide) (by decide) kk) ?_
    refine OwnGo.back (T1.setTop (mkF m 22 #[.val (.ref o), .val (.int x), .val (.int y_2)] [(.int (0 : Int32))])) (fun tg kk => XS.iconst X1.here hx rfl (hb hby own_d14_21) kk) ?_
    obtain ⟨fs, hr, hrun, hended, hW, hsame⟩ := X1.leave (v := some (.int (0 : Int32))) (fun h => by rw [Bd.returns] at h; cases h)
    refine ⟨_, _, ?_, hrun, hended, _, _, rfl, ?_, ⟨_, rfl⟩, hW, hsame.mono (by decide) (by decide)⟩
    · exact retN X1 hx (t := .boolean) Bd.returns (by simp) (hb hby own_d14_22) hr
    · show own_isw_Q Z o x aA h0 n0 _ T1.heap _
      rw [e1]
      exact ⟨(0 : Int32), rfl, N1, rfl, (by (simp only [true_and, and_true, false_and, and_false, or_false, false_or, or_true, true_or, not_true_eq_false, not_false_eq_true, eq_self, Int32.lt_iff_toInt_lt, Int32.le_iff_toInt_le, ← Int32.toInt_inj, Int32.reduceToInt, Int64.lt_iff_toInt_lt, Int64.le_iff_toInt_le, ← Int64.toInt_inj, Int64.reduceToInt] at hc5 hl hu po4 ⊢) <;> omega)⟩
theorem own_lat_ef (m : MethodId) (x0 : Addr) : entryFrame m #[(.ref x0)] 1 = mkF m 0 #[.val (.ref x0)] [] := by first | (simp [entryFrame, mkF, argsToLocals, Value.category]; done) | rfl
def own_lat_Q (Z : State) (a : Addr) (b : Addr) (cs : Int32) (h0 : Heap) (n0 : Nat) (rv : Option Value) (hN : Heap) (LL : List Loc) : Prop := rv = some (.int (1 : Int32)) ∧ Fr n0 LL ∧ hN = h0
set_option maxRecDepth 65536 in
set_option maxHeartbeats 40000000 in
theorem own_lat (l : Launch) (Z : State) (a0 : Array Value) (hw : ∀ d ∈ tables_1, d.before a0 Z = true) (ws : List Jvm.Cond) (a : Addr) (b : Addr) (cs : Int32) (h0 : Heap) (n0 : Nat) (Z0 : n0 ≤ h0.size) (S : Sta Z Z.heap "java/lang/String" "COMPACT_STRINGS" "Z" (.int cs)) (old : Old Z n0 h0) (hcs : ¬ cs = 0) (H0 : Exa Z h0 a "java/lang/String") (H1 : Fld Z h0 a "java/lang/String" "value" "[B" (.ref b)) (H2 : Fld Z h0 a "java/lang/String" "coder" "B" (.int (0 : Int32))) :
    MetFree l (⟨"java/lang/String", "isLatin1", "()Z"⟩ : MethodName) (head1 (Jvm.Cond.code (⟨"java/lang/String", "isLatin1", "()Z"⟩ : MethodName) jdk_42_method_154_code 1 (some .boolean) :: ws) ({ frames := 0, cells := 0, slots := 0, locals := 0 } : Room)) (fun aa UU => aa = #[(.ref a)] ∧ Z.Warmed39 UU.vm ∧ UU.heap = h0) (fun _ _ _ _ _ => True) (fun _ UU oo UU' => ∃ rv LL, oo = .returned rv ∧ own_lat_Q Z a b cs h0 n0 rv UU'.heap LL ∧ FrameEnd UU oo UU' LL ({ frames := 0, cells := 0, slots := 0, locals := 0 } : Room).cells ({ frames := 0, cells := 0, slots := 0, locals := 0 } : Room).slots) := by
  refine MetFree.of_bodySF (plainFor_of_name own_pn0) hisR ?_
  intro p e s m args below meth c s₁ Bd hml0 hP hK
  obtain ⟨rfl, hZ, hh⟩ := hP
  have hx := Bd.exec
  have hby := Bd.bytes
  have hml : c.maxLocals = 1 := hml0
  have hown : s.vm.findClass "java/lang/String" = some m.cls := findClass_of_methodNamed Bd.named
  have hnm := (name_of_methodNamed Bd.named Bd.method).1
  have X0 : Stand p l e ({ frames := 0, cells := 0, slots := 0, locals := 0 } : Room) s m #[(.ref a)] below meth c s₁ [] 0 0 := Stand.of_body Bd
  have e0 : s₁.heap = h0 := by rw [← hh, Bd.state]; rfl
  have N0 := Fr.nil n0
  have K0 : Keep h0 h0 [] := Keep.refl h0 _
  refine (?_ : OwnGo p.tables e below (fun UU' oo => ∃ rv LL, oo = .returned rv ∧ own_lat_Q Z a b cs h0 n0 rv UU'.heap LL ∧ FrameEnd s oo UU' LL ({ frames := 0, cells := 0, slots := 0, locals := 0 } : Room).cells ({ frames := 0, cells := 0, slots := 0, locals := 0 } : Room).slots) _)
  refine OwnGo.back (s₁.setTop (mkF m 0 #[.val (.ref a)] [])) (fun tg kk => castTop (own_lat_ef m a) kk) ?_
  obtain ⟨T1, X1, e1, st1⟩ := getS2 X0 hx hZ hown (host := "") (Or.inl (hw _ (List.mem_of_getElem? (i := 22) rfl))) Via.refl e0 (S.ext old.2) (g := (mkF m 0 #[.val (.ref a)] [])) rfl (hb hby own_d11_0)
  refine OwnGo.back (T1.setTop (mkF m 3 #[.val (.ref a)] [(.int cs)])) (fun tg kk => st1 _ kk) ?_
  refine OwnGo.back (T1.setTop (mkF m 6 #[.val (.ref a)] [])) (fun tg kk => XS.ifNo X1.here hx rfl (hb hby own_d11_3) rfl ((if0 _ _).trans (feq (hcs : ¬ (cs = (0 : Int32)))).1) kk) ?_
  refine OwnGo.back (T1.setTop (mkF m 7 #[.val (.ref a)] [(.ref a)])) (fun tg kk => XS.aloadN X1.here hx rfl (hb hby own_d11_6) rfl rfl kk) ?_
  obtain ⟨T2, X2, e2, st2⟩ := getF X1 hx hZ hown (host := "") (Or.inl (hw _ (List.mem_of_getElem? (i := 21) rfl))) Via.refl e1 H2 (g := (mkF m 7 #[.val (.ref a)] [(.ref a)])) rfl rfl (hb hby own_d11_7)
  refine OwnGo.back (T2.setTop (mkF m 10 #[.val (.ref a)] [(.int (0 : Int32))])) (fun tg kk => st2 _ kk) ?_
  refine OwnGo.back (T2.setTop (mkF m 13 #[.val (.ref a)] [])) (fun tg kk => XS.ifNo X2.here hx rfl (hb hby own_d11_10) rfl ((if0 _ _).trans (teq (by decide : (0 : Int32) = (0 : Int32))).2) kk) ?_
  refine OwnGo.back (T2.setTop (mkF m 14 #[.val (.ref a)] [(.int (1 : Int32))])) (fun tg kk => XS.iconst X2.here hx rfl (hb hby own_d11_13) kk) ?_
  refine OwnGo.back (T2.setTop (mkF m 18 #[.val (.ref a)] [(.int (1 : Int32))])) (fun tg kk => XS.goto X2.here hx rfl (pc0 := 14) (pc' := 18) rfl (hb hby own_d11_14) (by decide) (by decide) kk) ?_
  obtain ⟨fs, hr, hrun, hended, hW, hsame⟩ := X2.leave (v := some (.int (1 : Int32))) (fun h => by rw [Bd.returns] at h; cases h)
  refine ⟨_, _, ?_, hrun, hended, _, _, rfl, ?_, ⟨_, rfl⟩, hW, hsame.mono (by decide) (by decide)⟩
  · exact retN X2 hx (t := .boolean) Bd.returns (by simp) (hb hby own_d11_18) hr
  · show own_lat_Q Z a b cs h0 n0 _ T2.heap _
    rw [e2]
    exact ⟨rfl, N0, rfl⟩
theorem own_cod_ef (m : MethodId) (x0 : Addr) : entryFrame m #[(.ref x0)] 1 = mkF m 0 #[.val (.ref x0)] [] := by first | (simp [entryFrame, mkF, argsToLocals, Value.category]; done) | rfl
def own_cod_Q (Z : State) (a : Addr) (b : Addr) (cs : Int32) (h0 : Heap) (n0 : Nat) (rv : Option Value) (hN : Heap) (LL : List Loc) : Prop := rv = some (.int (0 : Int32)) ∧ Fr n0 LL ∧ hN = h0
set_option maxRecDepth 65536 in
set_option maxHeartbeats 40000000 in
theorem own_cod (l : Launch) (Z : State) (a0 : Array Value) (hw : ∀ d ∈ tables_1, d.before a0 Z = true) (ws : List Jvm.Cond) (a : Addr) (b : Addr) (cs : Int32) (h0 : Heap) (n0 : Nat) (Z0 : n0 ≤ h0.size) (S : Sta Z Z.heap "java/lang/String" "COMPACT_STRINGS" "Z" (.int cs)) (old : Old Z n0 h0) (hcs : ¬ cs = 0) (H0 : Exa Z h0 a "java/lang/String") (H1 : Fld Z h0 a "java/lang/String" "value" "[B" (.ref b)) (H2 : Fld Z h0 a "java/lang/String" "coder" "B" (.int (0 : Int32))) :
    MetFree l (⟨"java/lang/String", "coder", "()B"⟩ : MethodName) (head1 (Jvm.Cond.code (⟨"java/lang/String", "coder", "()B"⟩ : MethodName) jdk_42_method_152_code 1 (some .byte) :: ws) ({ frames := 0, cells := 0, slots := 0, locals := 0 } : Room)) (fun aa UU => aa = #[(.ref a)] ∧ Z.Warmed39 UU.vm ∧ UU.heap = h0) (fun _ _ _ _ _ => True) (fun _ UU oo UU' => ∃ rv LL, oo = .returned rv ∧ own_cod_Q Z a b cs h0 n0 rv UU'.heap LL ∧ FrameEnd UU oo UU' LL ({ frames := 0, cells := 0, slots := 0, locals := 0 } : Room).cells ({ frames := 0, cells := 0, slots := 0, locals := 0 } : Room).slots) := by
  refine MetFree.of_bodySF (plainFor_of_name own_pn0) hisR ?_
  intro p e s m args below meth c s₁ Bd hml0 hP hK
  obtain ⟨rfl, hZ, hh⟩ := hP
  have hx := Bd.exec
  have hby := Bd.bytes
  have hml : c.maxLocals = 1 := hml0
  have hown : s.vm.findClass "java/lang/String" = some m.cls := findClass_of_methodNamed Bd.named
  have hnm := (name_of_methodNamed Bd.named Bd.method).1
  have X0 : Stand p l e ({ frames := 0, cells := 0, slots := 0, locals := 0 } : Room) s m #[(.ref a)] below meth c s₁ [] 0 0 := Stand.of_body Bd
  have e0 : s₁.heap = h0 := by rw [← hh, Bd.state]; rfl
  have N0 := Fr.nil n0
  have K0 : Keep h0 h0 [] := Keep.refl h0 _
  refine (?_ : OwnGo p.tables e below (fun UU' oo => ∃ rv LL, oo = .returned rv ∧ own_cod_Q Z a b cs h0 n0 rv UU'.heap LL ∧ FrameEnd s oo UU' LL ({ frames := 0, cells := 0, slots := 0, locals := 0 } : Room).cells ({ frames := 0, cells := 0, slots := 0, locals := 0 } : Room).slots) _)
  refine OwnGo.back (s₁.setTop (mkF m 0 #[.val (.ref a)] [])) (fun tg kk => castTop (own_cod_ef m a) kk) ?_
  obtain ⟨T1, X1, e1, st1⟩ := getS2 X0 hx hZ hown (host := "") (Or.inl (hw _ (List.mem_of_getElem? (i := 22) rfl))) Via.refl e0 (S.ext old.2) (g := (mkF m 0 #[.val (.ref a)] [])) rfl (hb hby own_d17_0)
  refine OwnGo.back (T1.setTop (mkF m 3 #[.val (.ref a)] [(.int cs)])) (fun tg kk => st1 _ kk) ?_
  refine OwnGo.back (T1.setTop (mkF m 6 #[.val (.ref a)] [])) (fun tg kk => XS.ifNo X1.here hx rfl (hb hby own_d17_3) rfl ((if0 _ _).trans (feq (hcs : ¬ (cs = (0 : Int32)))).1) kk) ?_
  refine OwnGo.back (T1.setTop (mkF m 7 #[.val (.ref a)] [(.ref a)])) (fun tg kk => XS.aloadN X1.here hx rfl (hb hby own_d17_6) rfl rfl kk) ?_
  obtain ⟨T2, X2, e2, st2⟩ := getF X1 hx hZ hown (host := "") (Or.inl (hw _ (List.mem_of_getElem? (i := 21) rfl))) Via.refl e1 H2 (g := (mkF m 7 #[.val (.ref a)] [(.ref a)])) rfl rfl (hb hby own_d17_7)
  refine OwnGo.back (T2.setTop (mkF m 10 #[.val (.ref a)] [(.int (0 : Int32))])) (fun tg kk => st2 _ kk) ?_
  refine OwnGo.back (T2.setTop (mkF m 14 #[.val (.ref a)] [(.int (0 : Int32))])) (fun tg kk => XS.goto X2.here hx rfl (pc0 := 10) (pc' := 14) rfl (hb hby own_d17_10) (by decide) (by decide) kk) ?_
  obtain ⟨fs, hr, hrun, hended, hW, hsame⟩ := X2.leave (v := some (.int (0 : Int32))) (fun h => by rw [Bd.returns] at h; cases h)
  refine ⟨_, _, ?_, hrun, hended, _, _, rfl, ?_, ⟨_, rfl⟩, hW, hsame.mono (by decide) (by decide)⟩
  · exact retN X2 hx (t := .byte) Bd.returns (by simp) (hb hby own_d17_14) hr
  · show own_cod_Q Z a b cs h0 n0 _ T2.heap _
    rw [e2]
    exact ⟨rfl, N0, rfl⟩
theorem own_eq_ef (m : MethodId) (x0 : Addr) (x1 : Addr) : entryFrame m #[(.ref x0), (.ref x1)] 3 = mkF m 0 #[.val (.ref x0), .val (.ref x1), .unset] [] := by first | (simp [entryFrame, mkF, argsToLocals, Value.category]; done) | rfl
def own_eq_Q (Z : State) (a : Addr) (h0 : Heap) (n0 : Nat) (rv : Option Value) (hN : Heap) (LL : List Loc) : Prop := rv = some (.int (1 : Int32)) ∧ Fr n0 LL ∧ hN = h0
set_option maxRecDepth 65536 in
set_option maxHeartbeats 40000000 in
theorem own_eq (l : Launch) (Z : State) (a0 : Array Value) (hw : ∀ d ∈ tables_1, d.before a0 Z = true) (ws : List Jvm.Cond) (a : Addr) (h0 : Heap) (n0 : Nat) (Z0 : n0 ≤ h0.size) :
    MetFree l (⟨"java/lang/String", "equals", "(Ljava/lang/Object;)Z"⟩ : MethodName) (head1 (Jvm.Cond.code (⟨"java/lang/String", "equals", "(Ljava/lang/Object;)Z"⟩ : MethodName) jdk_42_method_66_code 3 (some .boolean) :: ws) ({ frames := 0, cells := 0, slots := 0, locals := 0 } : Room)) (fun aa UU => aa = #[(.ref a), (.ref a)] ∧ Z.Warmed39 UU.vm ∧ UU.heap = h0) (fun _ _ _ _ _ => True) (fun _ UU oo UU' => ∃ rv LL, oo = .returned rv ∧ own_eq_Q Z a h0 n0 rv UU'.heap LL ∧ FrameEnd UU oo UU' LL ({ frames := 0, cells := 0, slots := 0, locals := 0 } : Room).cells ({ frames := 0, cells := 0, slots := 0, locals := 0 } : Room).slots) := by
  refine MetFree.of_bodySF (plainFor_of_name own_pn0) hisR ?_
  intro p e s m args below meth c s₁ Bd hml0 hP hK
  obtain ⟨rfl, hZ, hh⟩ := hP
  have hx := Bd.exec
  have hby := Bd.bytes
  have hml : c.maxLocals = 3 := hml0
  have hown : s.vm.findClass "java/lang/String" = some m.cls := findClass_of_methodNamed Bd.named
  have hnm := (name_of_methodNamed Bd.named Bd.method).1
  have X0 : Stand p l e ({ frames := 0, cells := 0, slots := 0, locals := 0 } : Room) s m #[(.ref a), (.ref a)] below meth c s₁ [] 0 0 := Stand.of_body Bd
  have e0 : s₁.heap = h0 := by rw [← hh, Bd.state]; rfl
  have N0 := Fr.nil n0
  have K0 : Keep h0 h0 [] := Keep.refl h0 _
  refine (?_ : OwnGo p.tables e below (fun UU' oo => ∃ rv LL, oo = .returned rv ∧ own_eq_Q Z a h0 n0 rv UU'.heap LL ∧ FrameEnd s oo UU' LL ({ frames := 0, cells := 0, slots := 0, locals := 0 } : Room).cells ({ frames := 0, cells := 0, slots := 0, locals := 0 } : Room).slots) _)
  refine OwnGo.back (s₁.setTop (mkF m 0 #[.val (.ref a), .val (.ref a), .unset] [])) (fun tg kk => castTop (own_eq_ef m a a) kk) ?_
  refine OwnGo.back (s₁.setTop (mkF m 1 #[.val (.ref a), .val (.ref a), .unset] [(.ref a)])) (fun tg kk => XS.aloadN X0.here hx rfl (hb hby own_d18_0) rfl rfl kk) ?_
  refine OwnGo.back (s₁.setTop (mkF m 2 #[.val (.ref a), .val (.ref a), .unset] [(.ref a), (.ref a)])) (fun tg kk => XS.aloadN X0.here hx rfl (hb hby own_d18_1) rfl rfl kk) ?_
  refine OwnGo.back (s₁.setTop (mkF m 5 #[.val (.ref a), .val (.ref a), .unset] [])) (fun tg kk => Jvm.RoadKit.acmp (g := (mkF m 2 #[.val (.ref a), .val (.ref a), .unset] [(.ref a), (.ref a)])) X0 hx rfl rfl rfl (pc0 := 2) (pc' := 5) (same := true) rfl (hb hby own_d18_2) rfl (decide_eq_true rfl) (by decide) (by decide) kk) ?_
  refine OwnGo.back (s₁.setTop (mkF m 6 #[.val (.ref a), .val (.ref a), .unset] [(.int (1 : Int32))])) (fun tg kk => XS.iconst X0.here hx rfl (hb hby own_d18_5) kk) ?_
  obtain ⟨fs, hr, hrun, hended, hW, hsame⟩ := X0.leave (v := some (.int (1 : Int32))) (fun h => by rw [Bd.returns] at h; cases h)
  refine ⟨_, _, ?_, hrun, hended, _, _, rfl, ?_, ⟨_, rfl⟩, hW, hsame.mono (by decide) (by decide)⟩
  · exact retN X0 hx (t := .boolean) Bd.returns (by simp) (hb hby own_d18_6) hr
  · show own_eq_Q Z a h0 n0 _ s₁.heap _
    rw [e0]
    exact ⟨rfl, N0, rfl⟩
theorem own_gc10_ef (m : MethodId) (x0 : Addr) (x1 : Int32) : entryFrame m #[(.ref x0), (.int x1)] 2 = mkF m 0 #[.val (.ref x0), .val (.int x1)] [] := by first | (simp [entryFrame, mkF, argsToLocals, Value.category]; done) | rfl
def own_gc10_Q (Z : State) (b : Addr) (kb : ClassId) (x0 : Int32) (h0 : Heap) (n0 : Nat) (rv : Option Value) (hN : Heap) (LL : List Loc) : Prop := rv = some (.int x0) ∧ Fr n0 LL ∧ hN = h0
set_option maxRecDepth 65536 in
set_option maxHeartbeats 40000000 in
theorem own_gc10 (l : Launch) (Z : State) (a0 : Array Value) (hw : ∀ d ∈ tables_1, d.before a0 Z = true) (ws : List Jvm.Cond) (b : Addr) (kb : ClassId) (x0 : Int32) (h0 : Heap) (n0 : Nat) (Z0 : n0 ≤ h0.size) (B : Arv Z h0 b kb .byte (1 : Int32) [(.int (nar .byte (x0.toInt8.toInt32)))] (.int (0 : Int32))) (hl0 : ¬ x0 < (0 : Int32)) (hu0 : ¬ (255 : Int32) < x0) :
    MetFree l (⟨"java/lang/StringLatin1", "getChar", "([BI)C"⟩ : MethodName) (head1 (Jvm.Cond.code (⟨"java/lang/StringLatin1", "getChar", "([BI)C"⟩ : MethodName) jdk_43_method_44_code 2 (some .char) :: ws) ({ frames := 0, cells := 0, slots := 0, locals := 0 } : Room)) (fun aa UU => aa = #[(.ref b), (.int (0 : Int32))] ∧ Z.Warmed39 UU.vm ∧ UU.heap = h0) (fun _ _ _ _ _ => True) (fun _ UU oo UU' => ∃ rv LL, oo = .returned rv ∧ own_gc10_Q Z b kb x0 h0 n0 rv UU'.heap LL ∧ FrameEnd UU oo UU' LL ({ frames := 0, cells := 0, slots := 0, locals := 0 } : Room).cells ({ frames := 0, cells := 0, slots := 0, locals := 0 } : Room).slots) := by
  refine MetFree.of_bodySF (plainFor_of_name own_pn4) hisR ?_
  intro p e s m args below meth c s₁ Bd hml0 hP hK
  obtain ⟨rfl, hZ, hh⟩ := hP
  have hx := Bd.exec
  have hby := Bd.bytes
  have hml : c.maxLocals = 2 := hml0
  have hown : s.vm.findClass "java/lang/StringLatin1" = some m.cls := findClass_of_methodNamed Bd.named
  have hnm := (name_of_methodNamed Bd.named Bd.method).1
  have X0 : Stand p l e ({ frames := 0, cells := 0, slots := 0, locals := 0 } : Room) s m #[(.ref b), (.int (0 : Int32))] below meth c s₁ [] 0 0 := Stand.of_body Bd
  have e0 : s₁.heap = h0 := by rw [← hh, Bd.state]; rfl
  have N0 := Fr.nil n0
  have K0 : Keep h0 h0 [] := Keep.refl h0 _
  refine (?_ : OwnGo p.tables e below (fun UU' oo => ∃ rv LL, oo = .returned rv ∧ own_gc10_Q Z b kb x0 h0 n0 rv UU'.heap LL ∧ FrameEnd s oo UU' LL ({ frames := 0, cells := 0, slots := 0, locals := 0 } : Room).cells ({ frames := 0, cells := 0, slots := 0, locals := 0 } : Room).slots) _)
  refine OwnGo.back (s₁.setTop (mkF m 0 #[.val (.ref b), .val (.int (0 : Int32))] [])) (fun tg kk => castTop (own_gc10_ef m b (0 : Int32)) kk) ?_
  refine OwnGo.back (s₁.setTop (mkF m 1 #[.val (.ref b), .val (.int (0 : Int32))] [(.ref b)])) (fun tg kk => XS.aloadN X0.here hx rfl (hb hby own_d13_0) rfl rfl kk) ?_
  refine OwnGo.back (s₁.setTop (mkF m 2 #[.val (.ref b), .val (.int (0 : Int32))] [(.int (0 : Int32)), (.ref b)])) (fun tg kk => XS.iloadN X0.here hx rfl (hb hby own_d13_1) rfl kk) ?_
  obtain ⟨cl_1, Ar_1, qq_1, Sz_1, Ng_1, Hs_1, Gf_1⟩ := id B
  have hin_1 : ¬ ((0 : Int32) < 0 ∨ cl_1.slots.size ≤ ((0 : Int32)).toNatClampNeg) := inb_of Sz_1 ⟨by decide, by decide⟩
  have hat_1 : cl_1.slots[((0 : Int32)).toNatClampNeg]? = some (.int (nar .byte (x0.toInt8.toInt32))) := Has.at Hs_1 hin_1 rfl
  refine OwnGo.back (s₁.setTop (mkF m 3 #[.val (.ref b), .val (.int (0 : Int32))] [(.int (nar .byte (x0.toInt8.toInt32)))])) (fun tg kk => X0.baloadBytes hx (j := (0 : Int32)) (v := (.int (nar .byte (x0.toInt8.toInt32)))) (by rw [e0]; exact Ar_1.1) (State.isArrayOf_alike hZ.alike Ar_1.2.1) Ar_1.2.2 hin_1 hat_1 (g := (mkF m 2 #[.val (.ref b), .val (.int (0 : Int32))] [(.int (0 : Int32)), (.ref b)])) rfl rfl (hb hby own_d13_2) _ kk) ?_
  refine OwnGo.back (s₁.setTop (mkF m 6 #[.val (.ref b), .val (.int (0 : Int32))] [(.int (255 : Int32)), (.int (nar .byte (x0.toInt8.toInt32)))])) (fun tg kk => XS.sipush X0.here hx rfl (hb hby own_d13_3) kk) ?_
  refine OwnGo.back (s₁.setTop (mkF m 7 #[.val (.ref b), .val (.int (0 : Int32))] [(.int ((nar .byte (x0.toInt8.toInt32)) &&& (255 : Int32)))])) (fun tg kk => XS.iand X0.here hx rfl (hb hby own_d13_6) rfl kk) ?_
  refine OwnGo.back (s₁.setTop (mkF m 8 #[.val (.ref b), .val (.int (0 : Int32))] [(.int (((nar .byte (x0.toInt8.toInt32)) &&& (255 : Int32)).toUInt32.toUInt16.toUInt32.toInt32))])) (fun tg kk => XS.i2c X0.here hx rfl (hb hby own_d13_7) rfl kk) ?_
  obtain ⟨fs, hr, hrun, hended, hW, hsame⟩ := X0.leave (v := some (.int (((nar .byte (x0.toInt8.toInt32)) &&& (255 : Int32)).toUInt32.toUInt16.toUInt32.toInt32))) (fun h => by rw [Bd.returns] at h; cases h)
  refine ⟨_, _, ?_, hrun, hended, _, _, rfl, ?_, ⟨_, rfl⟩, hW, hsame.mono (by decide) (by decide)⟩
  · exact retOut X0 hx Bd.returns (own_nrv _) (Or.inl ⟨rfl, by simp, _, rfl⟩) (hb hby own_d13_8) hr
  · show own_gc10_Q Z b kb x0 h0 n0 _ s₁.heap _
    rw [e0]
    exact ⟨(congrArg (fun z => some (Value.int z)) (own_gch hl0 hu0)), N0, rfl⟩
theorem own_lw1_ef (m : MethodId) (x0 : Addr) : entryFrame m #[(.ref x0)] 4 = mkF m 0 #[.val (.ref x0), .unset, .unset, .unset] [] := by first | (simp [entryFrame, mkF, argsToLocals, Value.category]; done) | rfl
def own_lw1_Q (Z : State) (b : Addr) (kb : ClassId) (x0 : Int32) (aA : Addr) (oi : Addr) (h0 : Heap) (n0 : Nat) (rv : Option Value) (hN : Heap) (LL : List Loc) : Prop := ∃ (r : Int32), rv = some (.int r) ∧ Fr n0 LL ∧ hN = h0 ∧ ¬ r = (1 : Int32)
set_option maxRecDepth 65536 in
set_option maxHeartbeats 40000000 in
theorem own_lw1 (l : Launch) (Z : State) (a0 : Array Value) (hw : ∀ d ∈ tables_1, d.before a0 Z = true) (ws : List Jvm.Cond) (b : Addr) (kb : ClassId) (x0 : Int32) (aA : Addr) (oi : Addr) (h0 : Heap) (n0 : Nat) (Z0 : n0 ≤ h0.size) (B : Arv Z h0 b kb .byte (1 : Int32) [(.int (nar .byte (x0.toInt8.toInt32)))] (.int (0 : Int32))) (hl0 : ¬ x0 < (0 : Int32)) (hu0 : ¬ (255 : Int32) < x0) (SA : Sta Z Z.heap "java/lang/CharacterDataLatin1" "A" "[I" (.ref aA)) (old : Old Z n0 h0) (hA : own_A Z aA) (SN : Sta Z Z.heap "java/lang/CharacterDataLatin1" "instance" "Ljava/lang/CharacterDataLatin1;" (.ref oi)) (Xi : Exa Z h0 oi "java/lang/CharacterDataLatin1") (nw : ¬ (((x0 = (32 : Int32)) ∨ (¬ x0 < (9 : Int32) ∧ ¬ (13 : Int32) < x0) ∨ (¬ x0 < (28 : Int32) ∧ ¬ (31 : Int32) < x0)))) :
    MetFree l (⟨"java/lang/StringLatin1", "indexOfNonWhitespace", "([B)I"⟩ : MethodName) (head1 (Jvm.Cond.code (⟨"java/lang/StringLatin1", "indexOfNonWhitespace", "([B)I"⟩ : MethodName) jdk_43_method_37_code 4 (some .int) :: ws) ({ frames := 2, cells := 0, slots := 0, locals := 29 } : Room)) (fun aa UU => aa = #[(.ref b)] ∧ Z.Warmed39 UU.vm ∧ UU.heap = h0) (fun _ _ _ _ _ => True) (fun _ UU oo UU' => ∃ rv LL, oo = .returned rv ∧ own_lw1_Q Z b kb x0 aA oi h0 n0 rv UU'.heap LL ∧ FrameEnd UU oo UU' LL ({ frames := 2, cells := 0, slots := 0, locals := 29 } : Room).cells ({ frames := 2, cells := 0, slots := 0, locals := 29 } : Room).slots) := by
  refine MetFree.of_bodySF (plainFor_of_name own_pn4) hisR ?_
  intro p e s m args below meth c s₁ Bd hml0 hP hK
  obtain ⟨rfl, hZ, hh⟩ := hP
  have hx := Bd.exec
  have hby := Bd.bytes
  have hml : c.maxLocals = 4 := hml0
  have hown : s.vm.findClass "java/lang/StringLatin1" = some m.cls := findClass_of_methodNamed Bd.named
  have hnm := (name_of_methodNamed Bd.named Bd.method).1
  have X0 : Stand p l e ({ frames := 2, cells := 0, slots := 0, locals := 29 } : Room) s m #[(.ref b)] below meth c s₁ [] 0 0 := Stand.of_body Bd
  have e0 : s₁.heap = h0 := by rw [← hh, Bd.state]; rfl
  have N0 := Fr.nil n0
  have K0 : Keep h0 h0 [] := Keep.refl h0 _
  refine (?_ : OwnGo p.tables e below (fun UU' oo => ∃ rv LL, oo = .returned rv ∧ own_lw1_Q Z b kb x0 aA oi h0 n0 rv UU'.heap LL ∧ FrameEnd s oo UU' LL ({ frames := 2, cells := 0, slots := 0, locals := 29 } : Room).cells ({ frames := 2, cells := 0, slots := 0, locals := 29 } : Room).slots) _)
  refine OwnGo.back (s₁.setTop (mkF m 0 #[.val (.ref b), .unset, .unset, .unset] [])) (fun tg kk => castTop (own_lw1_ef m b) kk) ?_
  refine OwnGo.back (s₁.setTop (mkF m 1 #[.val (.ref b), .unset, .unset, .unset] [(.ref b)])) (fun tg kk => XS.aloadN X0.here hx rfl (hb hby own_d12_0) rfl rfl kk) ?_
  obtain ⟨cl_1, Ar_1, -, Sz_1, Ng_1, -, -⟩ := id B
  refine OwnGo.back (s₁.setTop (mkF m 2 #[.val (.ref b), .unset, .unset, .unset] [(.int (1 : Int32))])) (fun tg kk => X0.arraylength hx (by rw [e0]; exact Ar_1.1) (State.isArrayOf_alike hZ.alike Ar_1.2.1) (g := (mkF m 1 #[.val (.ref b), .unset, .unset, .unset] [(.ref b)])) rfl rfl (hb hby own_d12_1) _ (by rw [len_of Sz_1 Ng_1]; exact kk)) ?_
  refine OwnGo.back (s₁.setTop (mkF m 3 #[.val (.ref b), .val (.int (1 : Int32)), .unset, .unset] [])) (fun tg kk => XS.istoreN X0.here hx rfl (hb hby own_d12_2) rfl (l' := #[.val (.ref b), .val (.int (1 : Int32)), .unset, .unset]) rfl kk) ?_
  refine OwnGo.back (s₁.setTop (mkF m 4 #[.val (.ref b), .val (.int (1 : Int32)), .unset, .unset] [(.int (0 : Int32))])) (fun tg kk => XS.iconst X0.here hx rfl (hb hby own_d12_3) kk) ?_
  refine OwnGo.back (s₁.setTop (mkF m 5 #[.val (.ref b), .val (.int (1 : Int32)), .val (.int (0 : Int32)), .unset] [])) (fun tg kk => XS.istoreN X0.here hx rfl (hb hby own_d12_4) rfl (l' := #[.val (.ref b), .val (.int (1 : Int32)), .val (.int (0 : Int32)), .unset]) rfl kk) ?_
  refine OwnGo.back (s₁.setTop (mkF m 6 #[.val (.ref b), .val (.int (1 : Int32)), .val (.int (0 : Int32)), .unset] [(.int (0 : Int32))])) (fun tg kk => XS.iloadN X0.here hx rfl (hb hby own_d12_5) rfl kk) ?_
  refine OwnGo.back (s₁.setTop (mkF m 7 #[.val (.ref b), .val (.int (1 : Int32)), .val (.int (0 : Int32)), .unset] [(.int (1 : Int32)), (.int (0 : Int32))])) (fun tg kk => XS.iloadN X0.here hx rfl (hb hby own_d12_6) rfl kk) ?_
  refine OwnGo.back (s₁.setTop (mkF m 10 #[.val (.ref b), .val (.int (1 : Int32)), .val (.int (0 : Int32)), .unset] [])) (fun tg kk => XS.icmpNo X0.here hx rfl (hb hby own_d12_7) rfl (tlt (by decide : (0 : Int32) < (1 : Int32))).2.1 kk) ?_
  refine OwnGo.back (s₁.setTop (mkF m 11 #[.val (.ref b), .val (.int (1 : Int32)), .val (.int (0 : Int32)), .unset] [(.ref b)])) (fun tg kk => XS.aloadN X0.here hx rfl (hb hby own_d12_10) rfl rfl kk) ?_
  refine OwnGo.back (s₁.setTop (mkF m 12 #[.val (.ref b), .val (.int (1 : Int32)), .val (.int (0 : Int32)), .unset] [(.int (0 : Int32)), (.ref b)])) (fun tg kk => XS.iloadN X0.here hx rfl (hb hby own_d12_11) rfl kk) ?_
  obtain ⟨_, _, ⟨T2, L2, k2, n2⟩, -, X2, ⟨Lc2, hQ2, l2, y2, z2⟩, st2⟩ := Jvm.LawKit.callS X0 hx (y := (⟨"java/lang/StringLatin1", "getChar", "([BI)C"⟩ : MethodName)) hown (mvT hZ (hw _ (List.mem_of_getElem? (i := 60) rfl))) (mvT hZ (hw _ (List.mem_of_getElem? (i := 61) rfl))) (mvT hZ (hw _ (List.mem_of_getElem? (i := 58) rfl))) (mvT hZ (hw _ (List.mem_of_getElem? (i := 62) rfl))) (by decide) (backOf (W := 0) (own_gc10 l Z a0 hw [] b kb x0 h0 n0 Z0 B hl0 hu0) hZ (hw _ (List.mem_of_getElem? (i := 62) rfl)) (hw _ (List.mem_of_getElem? (i := 58) rfl)) (by decide) (by decide)) (g := (mkF m 12 #[.val (.ref b), .val (.int (1 : Int32)), .val (.int (0 : Int32)), .unset] [(.int (0 : Int32)), (.ref b)])) rfl (by rw [hml]; rfl) (argsL := [(.ref b), (.int (0 : Int32))]) (rest := []) (lenOf own_pd5 rfl) rfl (by show 2 * 0 + _ ≤ _; exact Nat.le_of_eq rfl) (hb hby own_d12_12) (fun _ _ => ⟨rfl, e0, (by decide : 0 + 0 ≤ _), (by decide : 0 + 0 ≤ _)⟩)
  dsimp only [Pt.U, Pt.locs, Pt.cells, Pt.slots] at X2 l2 y2 z2 st2 hQ2
  subst l2 y2 z2
  obtain ⟨rfl, N2q, e2⟩ := hQ2
  have N2 := Fr.app N0 N2q
  refine OwnGo.back (T2.setTop (mkF m 15 #[.val (.ref b), .val (.int (1 : Int32)), .val (.int (0 : Int32)), .unset] [(.int x0)])) (fun tg kk => st2 _ kk) ?_
  refine OwnGo.back (T2.setTop (mkF m 16 #[.val (.ref b), .val (.int (1 : Int32)), .val (.int (0 : Int32)), .val (.int x0)] [])) (fun tg kk => XS.istoreN X2.here hx rfl (hb hby own_d12_15) rfl (l' := #[.val (.ref b), .val (.int (1 : Int32)), .val (.int (0 : Int32)), .val (.int x0)]) rfl kk) ?_
  refine OwnGo.back (T2.setTop (mkF m 17 #[.val (.ref b), .val (.int (1 : Int32)), .val (.int (0 : Int32)), .val (.int x0)] [(.int x0)])) (fun tg kk => XS.iloadN X2.here hx rfl (hb hby own_d12_16) rfl kk) ?_
  refine OwnGo.back (T2.setTop (mkF m 19 #[.val (.ref b), .val (.int (1 : Int32)), .val (.int (0 : Int32)), .val (.int x0)] [(.int (32 : Int32)), (.int x0)])) (fun tg kk => XS.bipush X2.here hx rfl (hb hby own_d12_17) kk) ?_
  by_cases hc3 : x0 = (32 : Int32)
  ·
    refine OwnGo.back (T2.setTop (mkF m 41 #[.val (.ref b), .val (.int (1 : Int32)), .val (.int (0 : Int32)), .val (.int x0)] [])) (fun tg kk => XS.icmpYes X2.here hx rfl (pc0 := 19) (pc' := 41) rfl (hb hby own_d12_19) rfl (teq hc3).1 (by decide) (by decide) kk) ?_
    refine OwnGo.back (T2.setTop (mkF m 44 #[.val (.ref b), .val (.int (1 : Int32)), .val (.int (1 : Int32)), .val (.int x0)] [])) (fun tg kk => XS.iinc X2.here hx rfl (hb hby own_d12_41) rfl (l' := #[.val (.ref b), .val (.int (1 : Int32)), .val (.int (1 : Int32)), .val (.int x0)]) rfl kk) ?_
    refine OwnGo.back (T2.setTop (mkF m 5 #[.val (.ref b), .val (.int (1 : Int32)), .val (.int (1 : Int32)), .val (.int x0)] [])) (fun tg kk => XS.goto X2.here hx rfl (pc0 := 44) (pc' := 5) rfl (hb hby own_d12_44) (by decide) (by decide) kk) ?_
    refine OwnGo.back (T2.setTop (mkF m 6 #[.val (.ref b), .val (.int (1 : Int32)), .val (.int (1 : Int32)), .val (.int x0)] [(.int (1 : Int32))])) (fun tg kk => XS.iloadN X2.here hx rfl (hb hby own_d12_5) rfl kk) ?_
    refine OwnGo.back (T2.setTop (mkF m 7 #[.val (.ref b), .val (.int (1 : Int32)), .val (.int (1 : Int32)), .val (.int x0)] [(.int (1 : Int32)), (.int (1 : Int32))])) (fun tg kk => XS.iloadN X2.here hx rfl (hb hby own_d12_6) rfl kk) ?_
    refine OwnGo.back (T2.setTop (mkF m 47 #[.val (.ref b), .val (.int (1 : Int32)), .val (.int (1 : Int32)), .val (.int x0)] [])) (fun tg kk => XS.icmpYes X2.here hx rfl (pc0 := 7) (pc' := 47) rfl (hb hby own_d12_7) rfl (flt (by decide : ¬ ((1 : Int32) < (1 : Int32)))).2.1 (by decide) (by decide) kk) ?_
    refine OwnGo.back (T2.setTop (mkF m 48 #[.val (.ref b), .val (.int (1 : Int32)), .val (.int (1 : Int32)), .val (.int x0)] [(.int (1 : Int32))])) (fun tg kk => XS.iloadN X2.here hx rfl (hb hby own_d12_47) rfl kk) ?_
    obtain ⟨fs, hr, hrun, hended, hW, hsame⟩ := X2.leave (v := some (.int (1 : Int32))) (fun h => by rw [Bd.returns] at h; cases h)
    refine ⟨_, _, ?_, hrun, hended, _, _, rfl, ?_, ⟨_, rfl⟩, hW, hsame.mono (by decide) (by decide)⟩
    · exact own_retI X2 hx Bd.returns (hb hby own_d12_48) hr
    · show own_lw1_Q Z b kb x0 aA oi h0 n0 _ T2.heap _
      rw [e2]
      exact ⟨(1 : Int32), rfl, N2, rfl, (by (simp only [true_and, and_true, false_and, and_false, or_false, false_or, or_true, true_or, not_true_eq_false, not_false_eq_true, eq_self, Int32.lt_iff_toInt_lt, Int32.le_iff_toInt_le, ← Int32.toInt_inj, Int32.reduceToInt, Int64.lt_iff_toInt_lt, Int64.le_iff_toInt_le, ← Int64.toInt_inj, Int64.reduceToInt] at hc3 hl0 hu0 nw ⊢) <;> omega)⟩
  ·
    refine OwnGo.back (T2.setTop (mkF m 22 #[.val (.ref b), .val (.int (1 : Int32)), .val (.int (0 : Int32)), .val (.int x0)] [])) (fun tg kk => XS.icmpNo X2.here hx rfl (hb hby own_d12_19) rfl (feq hc3).1 kk) ?_
    refine OwnGo.back (T2.setTop (mkF m 23 #[.val (.ref b), .val (.int (1 : Int32)), .val (.int (0 : Int32)), .val (.int x0)] [(.int x0)])) (fun tg kk => XS.iloadN X2.here hx rfl (hb hby own_d12_22) rfl kk) ?_
    refine OwnGo.back (T2.setTop (mkF m 25 #[.val (.ref b), .val (.int (1 : Int32)), .val (.int (0 : Int32)), .val (.int x0)] [(.int (9 : Int32)), (.int x0)])) (fun tg kk => XS.bipush X2.here hx rfl (hb hby own_d12_23) kk) ?_
    by_cases hc4 : x0 = (9 : Int32)
    ·
      refine OwnGo.back (T2.setTop (mkF m 41 #[.val (.ref b), .val (.int (1 : Int32)), .val (.int (0 : Int32)), .val (.int x0)] [])) (fun tg kk => XS.icmpYes X2.here hx rfl (pc0 := 25) (pc' := 41) rfl (hb hby own_d12_25) rfl (teq hc4).1 (by decide) (by decide) kk) ?_
      refine OwnGo.back (T2.setTop (mkF m 44 #[.val (.ref b), .val (.int (1 : Int32)), .val (.int (1 : Int32)), .val (.int x0)] [])) (fun tg kk => XS.iinc X2.here hx rfl (hb hby own_d12_41) rfl (l' := #[.val (.ref b), .val (.int (1 : Int32)), .val (.int (1 : Int32)), .val (.int x0)]) rfl kk) ?_
      refine OwnGo.back (T2.setTop (mkF m 5 #[.val (.ref b), .val (.int (1 : Int32)), .val (.int (1 : Int32)), .val (.int x0)] [])) (fun tg kk => XS.goto X2.here hx rfl (pc0 := 44) (pc' := 5) rfl (hb hby own_d12_44) (by decide) (by decide) kk) ?_
      refine OwnGo.back (T2.setTop (mkF m 6 #[.val (.ref b), .val (.int (1 : Int32)), .val (.int (1 : Int32)), .val (.int x0)] [(.int (1 : Int32))])) (fun tg kk => XS.iloadN X2.here hx rfl (hb hby own_d12_5) rfl kk) ?_
      refine OwnGo.back (T2.setTop (mkF m 7 #[.val (.ref b), .val (.int (1 : Int32)), .val (.int (1 : Int32)), .val (.int x0)] [(.int (1 : Int32)), (.int (1 : Int32))])) (fun tg kk => XS.iloadN X2.here hx rfl (hb hby own_d12_6) rfl kk) ?_
      refine OwnGo.back (T2.setTop (mkF m 47 #[.val (.ref b), .val (.int (1 : Int32)), .val (.int (1 : Int32)), .val (.int x0)] [])) (fun tg kk => XS.icmpYes X2.here hx rfl (pc0 := 7) (pc' := 47) rfl (hb hby own_d12_7) rfl (flt (by decide : ¬ ((1 : Int32) < (1 : Int32)))).2.1 (by decide) (by decide) kk) ?_
      refine OwnGo.back (T2.setTop (mkF m 48 #[.val (.ref b), .val (.int (1 : Int32)), .val (.int (1 : Int32)), .val (.int x0)] [(.int (1 : Int32))])) (fun tg kk => XS.iloadN X2.here hx rfl (hb hby own_d12_47) rfl kk) ?_
      obtain ⟨fs, hr, hrun, hended, hW, hsame⟩ := X2.leave (v := some (.int (1 : Int32))) (fun h => by rw [Bd.returns] at h; cases h)
      refine ⟨_, _, ?_, hrun, hended, _, _, rfl, ?_, ⟨_, rfl⟩, hW, hsame.mono (by decide) (by decide)⟩
      · exact own_retI X2 hx Bd.returns (hb hby own_d12_48) hr
      · show own_lw1_Q Z b kb x0 aA oi h0 n0 _ T2.heap _
        rw [e2]
        exact ⟨(1 : Int32), rfl, N2, rfl, (by (simp only [true_and, and_true, false_and, and_false, or_false, false_or, or_true, true_or, not_true_eq_false, not_false_eq_true, eq_self, Int32.lt_iff_toInt_lt, Int32.le_iff_toInt_le, ← Int32.toInt_inj, Int32.reduceToInt, Int64.lt_iff_toInt_lt, Int64.le_iff_toInt_le, ← Int64.toInt_inj, Int64.reduceToInt] at hc3 hc4 hl0 hu0 nw ⊢) <;> omega)⟩
    ·
      refine OwnGo.back (T2.setTop (mkF m 28 #[.val (.ref b), .val (.int (1 : Int32)), .val (.int (0 : Int32)), .val (.int x0)] [])) (fun tg kk => XS.icmpNo X2.here hx rfl (hb hby own_d12_25) rfl (feq hc4).1 kk) ?_
      obtain ⟨T5, X5, e5, st5⟩ := getS2 X2 hx hZ hown (host := "") (Or.inl (hw _ (List.mem_of_getElem? (i := 63) rfl))) Via.refl e2 (SN.ext old.2) (g := (mkF m 28 #[.val (.ref b), .val (.int (1 : Int32)), .val (.int (0 : Int32)), .val (.int x0)] [])) rfl (hb hby own_d12_28)
      refine OwnGo.back (T5.setTop (mkF m 31 #[.val (.ref b), .val (.int (1 : Int32)), .val (.int (0 : Int32)), .val (.int x0)] [(.ref oi)])) (fun tg kk => st5 _ kk) ?_
      refine OwnGo.back (T5.setTop (mkF m 32 #[.val (.ref b), .val (.int (1 : Int32)), .val (.int (0 : Int32)), .val (.int x0)] [(.int x0), (.ref oi)])) (fun tg kk => XS.iloadN X5.here hx rfl (hb hby own_d12_31) rfl kk) ?_
      obtain ⟨cq6, kq6, q6a, q6b, q6c⟩ := isOf hZ e5 Xi
      obtain ⟨_, _, ⟨T6, L6, k6, n6⟩, -, X6, ⟨Lc6, hQ6, l6, y6, z6⟩, st6⟩ := X5.virtualBack hx (y := (⟨"java/lang/CharacterDataLatin1", "isWhitespace", "(I)Z"⟩ : MethodName)) (z := (⟨"java/lang/CharacterDataLatin1", "isWhitespace", "(I)Z"⟩ : MethodName)) hown (mvT hZ (hw _ (List.mem_of_getElem? (i := 65) rfl))) (mvT hZ (hw _ (List.mem_of_getElem? (i := 66) rfl))) (notFace_of_selects (args := #[]) (mvT hZ (hw _ (List.mem_of_getElem? (i := 68) rfl)))) (mvT hZ (hw _ (List.mem_of_getElem? (i := 68) rfl))) (mvT hZ (hw _ (List.mem_of_getElem? (i := 67) rfl))) (by decide) (backOf (W := 0) (own_isw l Z a0 hw [] oi x0 aA h0 n0 Z0 Xi SA old hA hl0 hu0) hZ (hw _ (List.mem_of_getElem? (i := 69) rfl)) (hw _ (List.mem_of_getElem? (i := 64) rfl)) (by decide) (by decide)) q6a q6c (g := (mkF m 32 #[.val (.ref b), .val (.int (1 : Int32)), .val (.int (0 : Int32)), .val (.int x0)] [(.int x0), (.ref oi)])) rfl (by rw [hml]; rfl) (Steps.refl _) (argsL := [(.int x0)]) (rest := []) (lenOf own_pd6 rfl) rfl (by show 2 * 0 + _ ≤ _; exact Nat.le_of_eq rfl) (hb hby own_d12_32) (fun _ _ => ⟨rfl, e5, (by decide : 0 + 0 ≤ _), (by decide : 0 + 0 ≤ _)⟩)
      dsimp only [Pt.U, Pt.locs, Pt.cells, Pt.slots] at X6 l6 y6 z6 st6 hQ6
      subst l6 y6 z6
      obtain ⟨r_7, rfl, N6q, e6, po8⟩ := hQ6
      have N6 := Fr.app N2 N6q
      refine OwnGo.back (T6.setTop (mkF m 35 #[.val (.ref b), .val (.int (1 : Int32)), .val (.int (0 : Int32)), .val (.int x0)] [(.int r_7)])) (fun tg kk => st6.trans kk) ?_
      by_cases hc9 : r_7 = (0 : Int32)
      ·
        refine OwnGo.back (T6.setTop (mkF m 38 #[.val (.ref b), .val (.int (1 : Int32)), .val (.int (0 : Int32)), .val (.int x0)] [])) (fun tg kk => XS.ifNo X6.here hx rfl (hb hby own_d12_35) rfl ((if0 _ _).trans (teq hc9).2) kk) ?_
        refine OwnGo.back (T6.setTop (mkF m 47 #[.val (.ref b), .val (.int (1 : Int32)), .val (.int (0 : Int32)), .val (.int x0)] [])) (fun tg kk => XS.goto X6.here hx rfl (pc0 := 38) (pc' := 47) rfl (hb hby own_d12_38) (by decide) (by decide) kk) ?_
        refine OwnGo.back (T6.setTop (mkF m 48 #[.val (.ref b), .val (.int (1 : Int32)), .val (.int (0 : Int32)), .val (.int x0)] [(.int (0 : Int32))])) (fun tg kk => XS.iloadN X6.here hx rfl (hb hby own_d12_47) rfl kk) ?_
        obtain ⟨fs, hr, hrun, hended, hW, hsame⟩ := X6.leave (v := some (.int (0 : Int32))) (fun h => by rw [Bd.returns] at h; cases h)
        refine ⟨_, _, ?_, hrun, hended, _, _, rfl, ?_, ⟨_, rfl⟩, hW, hsame.mono (by decide) (by decide)⟩
        · exact own_retI X6 hx Bd.returns (hb hby own_d12_48) hr
        · show own_lw1_Q Z b kb x0 aA oi h0 n0 _ T6.heap _
          rw [e6]
          exact ⟨(0 : Int32), rfl, N6, rfl, (by (simp only [true_and, and_true, false_and, and_false, or_false, false_or, or_true, true_or, not_true_eq_false, not_false_eq_true, eq_self, Int32.lt_iff_toInt_lt, Int32.le_iff_toInt_le, ← Int32.toInt_inj, Int32.reduceToInt, Int64.lt_iff_toInt_lt, Int64.le_iff_toInt_le, ← Int64.toInt_inj, Int64.reduceToInt] at hc3 hc4 hc9 hl0 hu0 nw po8 ⊢) <;> omega)⟩
      ·
        refine OwnGo.back (T6.setTop (mkF m 41 #[.val (.ref b), .val (.int (1 : Int32)), .val (.int (0 : Int32)), .val (.int x0)] [])) (fun tg kk => XS.ifYes X6.here hx rfl (pc0 := 35) (pc' := 41) rfl (hb hby own_d12_35) rfl ((if0 _ _).trans (feq hc9).2) (by decide) (by decide) kk) ?_
        refine OwnGo.back (T6.setTop (mkF m 44 #[.val (.ref b), .val (.int (1 : Int32)), .val (.int (1 : Int32)), .val (.int x0)] [])) (fun tg kk => XS.iinc X6.here hx rfl (hb hby own_d12_41) rfl (l' := #[.val (.ref b), .val (.int (1 : Int32)), .val (.int (1 : Int32)), .val (.int x0)]) rfl kk) ?_
        refine OwnGo.back (T6.setTop (mkF m 5 #[.val (.ref b), .val (.int (1 : Int32)), .val (.int (1 : Int32)), .val (.int x0)] [])) (fun tg kk => XS.goto X6.here hx rfl (pc0 := 44) (pc' := 5) rfl (hb hby own_d12_44) (by decide) (by decide) kk) ?_
        refine OwnGo.back (T6.setTop (mkF m 6 #[.val (.ref b), .val (.int (1 : Int32)), .val (.int (1 : Int32)), .val (.int x0)] [(.int (1 : Int32))])) (fun tg kk => XS.iloadN X6.here hx rfl (hb hby own_d12_5) rfl kk) ?_
        refine OwnGo.back (T6.setTop (mkF m 7 #[.val (.ref b), .val (.int (1 : Int32)), .val (.int (1 : Int32)), .val (.int x0)] [(.int (1 : Int32)), (.int (1 : Int32))])) (fun tg kk => XS.iloadN X6.here hx rfl (hb hby own_d12_6) rfl kk) ?_
        refine OwnGo.back (T6.setTop (mkF m 47 #[.val (.ref b), .val (.int (1 : Int32)), .val (.int (1 : Int32)), .val (.int x0)] [])) (fun tg kk => XS.icmpYes X6.here hx rfl (pc0 := 7) (pc' := 47) rfl (hb hby own_d12_7) rfl (flt (by decide : ¬ ((1 : Int32) < (1 : Int32)))).2.1 (by decide) (by decide) kk) ?_
        refine OwnGo.back (T6.setTop (mkF m 48 #[.val (.ref b), .val (.int (1 : Int32)), .val (.int (1 : Int32)), .val (.int x0)] [(.int (1 : Int32))])) (fun tg kk => XS.iloadN X6.here hx rfl (hb hby own_d12_47) rfl kk) ?_
        obtain ⟨fs, hr, hrun, hended, hW, hsame⟩ := X6.leave (v := some (.int (1 : Int32))) (fun h => by rw [Bd.returns] at h; cases h)
        refine ⟨_, _, ?_, hrun, hended, _, _, rfl, ?_, ⟨_, rfl⟩, hW, hsame.mono (by decide) (by decide)⟩
        · exact own_retI X6 hx Bd.returns (hb hby own_d12_48) hr
        · show own_lw1_Q Z b kb x0 aA oi h0 n0 _ T6.heap _
          rw [e6]
          exact ⟨(1 : Int32), rfl, N6, rfl, (by (simp only [true_and, and_true, false_and, and_false, or_false, false_or, or_true, true_or, not_true_eq_false, not_false_eq_true, eq_self, Int32.lt_iff_toInt_lt, Int32.le_iff_toInt_le, ← Int32.toInt_inj, Int32.reduceToInt, Int64.lt_iff_toInt_lt, Int64.le_iff_toInt_le, ← Int64.toInt_inj, Int64.reduceToInt] at hc3 hc4 hc9 hl0 hu0 nw po8 ⊢) <;> omega)⟩
theorem own_sw1_ef (m : MethodId) (x0 : Addr) : entryFrame m #[(.ref x0)] 1 = mkF m 0 #[.val (.ref x0)] [] := by first | (simp [entryFrame, mkF, argsToLocals, Value.category]; done) | rfl
def own_sw1_Q (Z : State) (a : Addr) (b : Addr) (kb : ClassId) (x0 : Int32) (aA : Addr) (oi : Addr) (cs : Int32) (h0 : Heap) (n0 : Nat) (rv : Option Value) (hN : Heap) (LL : List Loc) : Prop := ∃ (r : Int32), rv = some (.int r) ∧ Fr n0 LL ∧ hN = h0 ∧ ¬ r = (1 : Int32)
set_option maxRecDepth 65536 in
set_option maxHeartbeats 40000000 in
theorem own_sw1 (l : Launch) (Z : State) (a0 : Array Value) (hw : ∀ d ∈ tables_1, d.before a0 Z = true) (ws : List Jvm.Cond) (a : Addr) (b : Addr) (kb : ClassId) (x0 : Int32) (aA : Addr) (oi : Addr) (cs : Int32) (h0 : Heap) (n0 : Nat) (Z0 : n0 ≤ h0.size) (hl0 : ¬ x0 < (0 : Int32)) (hu0 : ¬ (255 : Int32) < x0) (SA : Sta Z Z.heap "java/lang/CharacterDataLatin1" "A" "[I" (.ref aA)) (old : Old Z n0 h0) (hA : own_A Z aA) (SN : Sta Z Z.heap "java/lang/CharacterDataLatin1" "instance" "Ljava/lang/CharacterDataLatin1;" (.ref oi)) (Xi : Exa Z h0 oi "java/lang/CharacterDataLatin1") (nw : ¬ (((x0 = (32 : Int32)) ∨ (¬ x0 < (9 : Int32) ∧ ¬ (13 : Int32) < x0) ∨ (¬ x0 < (28 : Int32) ∧ ¬ (31 : Int32) < x0)))) (S : Sta Z Z.heap "java/lang/String" "COMPACT_STRINGS" "Z" (.int cs)) (hcs : ¬ cs = 0) (H0 : Exa Z h0 a "java/lang/String") (H1 : Fld Z h0 a "java/lang/String" "value" "[B" (.ref b)) (H2 : Fld Z h0 a "java/lang/String" "coder" "B" (.int (0 : Int32))) (B : Arv Z h0 b kb .byte (1 : Int32) [(.int (nar .byte (x0.toInt8.toInt32)))] (.int (0 : Int32))) :
    MetFree l (⟨"java/lang/String", "indexOfNonWhitespace", "()I"⟩ : MethodName) (head1 (Jvm.Cond.code (⟨"java/lang/String", "indexOfNonWhitespace", "()I"⟩ : MethodName) jdk_42_method_120_code 1 (some .int) :: ws) ({ frames := 3, cells := 0, slots := 0, locals := 44 } : Room)) (fun aa UU => aa = #[(.ref a)] ∧ Z.Warmed39 UU.vm ∧ UU.heap = h0) (fun _ _ _ _ _ => True) (fun _ UU oo UU' => ∃ rv LL, oo = .returned rv ∧ own_sw1_Q Z a b kb x0 aA oi cs h0 n0 rv UU'.heap LL ∧ FrameEnd UU oo UU' LL ({ frames := 3, cells := 0, slots := 0, locals := 44 } : Room).cells ({ frames := 3, cells := 0, slots := 0, locals := 44 } : Room).slots) := by
  refine MetFree.of_bodySF (plainFor_of_name own_pn0) hisR ?_
  intro p e s m args below meth c s₁ Bd hml0 hP hK
  obtain ⟨rfl, hZ, hh⟩ := hP
  have hx := Bd.exec
  have hby := Bd.bytes
  have hml : c.maxLocals = 1 := hml0
  have hown : s.vm.findClass "java/lang/String" = some m.cls := findClass_of_methodNamed Bd.named
  have hnm := (name_of_methodNamed Bd.named Bd.method).1
  have X0 : Stand p l e ({ frames := 3, cells := 0, slots := 0, locals := 44 } : Room) s m #[(.ref a)] below meth c s₁ [] 0 0 := Stand.of_body Bd
  have e0 : s₁.heap = h0 := by rw [← hh, Bd.state]; rfl
  have N0 := Fr.nil n0
  have K0 : Keep h0 h0 [] := Keep.refl h0 _
  refine (?_ : OwnGo p.tables e below (fun UU' oo => ∃ rv LL, oo = .returned rv ∧ own_sw1_Q Z a b kb x0 aA oi cs h0 n0 rv UU'.heap LL ∧ FrameEnd s oo UU' LL ({ frames := 3, cells := 0, slots := 0, locals := 44 } : Room).cells ({ frames := 3, cells := 0, slots := 0, locals := 44 } : Room).slots) _)
  refine OwnGo.back (s₁.setTop (mkF m 0 #[.val (.ref a)] [])) (fun tg kk => castTop (own_sw1_ef m a) kk) ?_
  refine OwnGo.back (s₁.setTop (mkF m 1 #[.val (.ref a)] [(.ref a)])) (fun tg kk => XS.aloadN X0.here hx rfl (hb hby own_d10_0) rfl rfl kk) ?_
  obtain ⟨cq1, kq1, q1a, q1b, q1c⟩ := isOf hZ e0 H0
  obtain ⟨_, _, ⟨T1, L1, k1, n1⟩, -, X1, ⟨Lc1, hQ1, l1, y1, z1⟩, st1⟩ := X0.virtualBack hx (y := (⟨"java/lang/String", "isLatin1", "()Z"⟩ : MethodName)) (z := (⟨"java/lang/String", "isLatin1", "()Z"⟩ : MethodName)) hown (mvT hZ (hw _ (List.mem_of_getElem? (i := 51) rfl))) (mvT hZ (hw _ (List.mem_of_getElem? (i := 52) rfl))) (notFace_of_selects (args := #[]) (mvT hZ (hw _ (List.mem_of_getElem? (i := 54) rfl)))) (mvT hZ (hw _ (List.mem_of_getElem? (i := 54) rfl))) (mvT hZ (hw _ (List.mem_of_getElem? (i := 53) rfl))) (by decide) (backOf (W := 0) (own_lat l Z a0 hw [] a b cs h0 n0 Z0 S old hcs H0 H1 H2) hZ (hw _ (List.mem_of_getElem? (i := 55) rfl)) (hw _ (List.mem_of_getElem? (i := 3) rfl)) (by decide) (by decide)) q1a q1c (g := (mkF m 1 #[.val (.ref a)] [(.ref a)])) rfl (by rw [hml]; rfl) (Steps.refl _) (argsL := []) (rest := []) (lenOf own_pd7 rfl) rfl (by show 2 * 0 + _ ≤ _; exact Nat.le_of_eq rfl) (hb hby own_d10_1) (fun _ _ => ⟨rfl, e0, (by decide : 0 + 0 ≤ _), (by decide : 0 + 0 ≤ _)⟩)
  dsimp only [Pt.U, Pt.locs, Pt.cells, Pt.slots] at X1 l1 y1 z1 st1 hQ1
  subst l1 y1 z1
  obtain ⟨rfl, N1q, e1⟩ := hQ1
  have N1 := Fr.app N0 N1q
  refine OwnGo.back (T1.setTop (mkF m 4 #[.val (.ref a)] [(.int (1 : Int32))])) (fun tg kk => st1.trans kk) ?_
  refine OwnGo.back (T1.setTop (mkF m 7 #[.val (.ref a)] [])) (fun tg kk => XS.ifNo X1.here hx rfl (hb hby own_d10_4) rfl ((if0 _ _).trans (feq (by decide : ¬ ((1 : Int32) = (0 : Int32)))).1) kk) ?_
  refine OwnGo.back (T1.setTop (mkF m 8 #[.val (.ref a)] [(.ref a)])) (fun tg kk => XS.aloadN X1.here hx rfl (hb hby own_d10_7) rfl rfl kk) ?_
  obtain ⟨T2, X2, e2, st2⟩ := getF X1 hx hZ hown (host := "") (Or.inl (hw _ (List.mem_of_getElem? (i := 20) rfl))) Via.refl e1 H1 (g := (mkF m 8 #[.val (.ref a)] [(.ref a)])) rfl rfl (hb hby own_d10_8)
  refine OwnGo.back (T2.setTop (mkF m 11 #[.val (.ref a)] [(.ref b)])) (fun tg kk => st2 _ kk) ?_
  obtain ⟨_, _, ⟨T3, L3, k3, n3⟩, -, X3, ⟨Lc3, hQ3, l3, y3, z3⟩, st3⟩ := Jvm.LawKit.callS X2 hx (y := (⟨"java/lang/StringLatin1", "indexOfNonWhitespace", "([B)I"⟩ : MethodName)) hown (mvT hZ (hw _ (List.mem_of_getElem? (i := 56) rfl))) (mvT hZ (hw _ (List.mem_of_getElem? (i := 57) rfl))) (mvT hZ (hw _ (List.mem_of_getElem? (i := 58) rfl))) (mvT hZ (hw _ (List.mem_of_getElem? (i := 59) rfl))) (by decide) (backOf (W := 0) (own_lw1 l Z a0 hw [] b kb x0 aA oi h0 n0 Z0 B hl0 hu0 SA old hA SN Xi nw) hZ (hw _ (List.mem_of_getElem? (i := 59) rfl)) (hw _ (List.mem_of_getElem? (i := 58) rfl)) (by decide) (by decide)) (g := (mkF m 11 #[.val (.ref a)] [(.ref b)])) rfl (by rw [hml]; rfl) (argsL := [(.ref b)]) (rest := []) (lenOf own_pd8 rfl) rfl (by show 2 * 0 + _ ≤ _; exact Nat.le_of_eq rfl) (hb hby own_d10_11) (fun _ _ => ⟨rfl, e2, (by decide : 0 + 0 ≤ _), (by decide : 0 + 0 ≤ _)⟩)
  dsimp only [Pt.U, Pt.locs, Pt.cells, Pt.slots] at X3 l3 y3 z3 st3 hQ3
  subst l3 y3 z3
  obtain ⟨r_4, rfl, N3q, e3, po5⟩ := hQ3
  have N3 := Fr.app N1 N3q
  refine OwnGo.back (T3.setTop (mkF m 14 #[.val (.ref a)] [(.int r_4)])) (fun tg kk => st3 _ kk) ?_
  refine OwnGo.back (T3.setTop (mkF m 24 #[.val (.ref a)] [(.int r_4)])) (fun tg kk => XS.goto X3.here hx rfl (pc0 := 14) (pc' := 24) rfl (hb hby own_d10_14) (by decide) (by decide) kk) ?_
  obtain ⟨fs, hr, hrun, hended, hW, hsame⟩ := X3.leave (v := some (.int r_4)) (fun h => by rw [Bd.returns] at h; cases h)
  refine ⟨_, _, ?_, hrun, hended, _, _, rfl, ?_, ⟨_, rfl⟩, hW, hsame.mono (by decide) (by decide)⟩
  · exact own_retI X3 hx Bd.returns (hb hby own_d10_24) hr
  · show own_sw1_Q Z a b kb x0 aA oi cs h0 n0 _ T3.heap _
    rw [e3]
    exact ⟨r_4, rfl, N3, rfl, po5⟩
theorem own_len1_ef (m : MethodId) (x0 : Addr) : entryFrame m #[(.ref x0)] 1 = mkF m 0 #[.val (.ref x0)] [] := by first | (simp [entryFrame, mkF, argsToLocals, Value.category]; done) | rfl
def own_len1_Q (Z : State) (a : Addr) (b : Addr) (kb : ClassId) (x0 : Int32) (cs : Int32) (h0 : Heap) (n0 : Nat) (rv : Option Value) (hN : Heap) (LL : List Loc) : Prop := rv = some (.int (1 : Int32)) ∧ Fr n0 LL ∧ hN = h0
set_option maxRecDepth 65536 in
set_option maxHeartbeats 40000000 in
theorem own_len1 (l : Launch) (Z : State) (a0 : Array Value) (hw : ∀ d ∈ tables_1, d.before a0 Z = true) (ws : List Jvm.Cond) (a : Addr) (b : Addr) (kb : ClassId) (x0 : Int32) (cs : Int32) (h0 : Heap) (n0 : Nat) (Z0 : n0 ≤ h0.size) (S : Sta Z Z.heap "java/lang/String" "COMPACT_STRINGS" "Z" (.int cs)) (old : Old Z n0 h0) (hcs : ¬ cs = 0) (H0 : Exa Z h0 a "java/lang/String") (H1 : Fld Z h0 a "java/lang/String" "value" "[B" (.ref b)) (H2 : Fld Z h0 a "java/lang/String" "coder" "B" (.int (0 : Int32))) (B : Arv Z h0 b kb .byte (1 : Int32) [(.int (nar .byte (x0.toInt8.toInt32)))] (.int (0 : Int32))) :
    MetFree l (⟨"java/lang/String", "length", "()I"⟩ : MethodName) (head1 (Jvm.Cond.code (⟨"java/lang/String", "length", "()I"⟩ : MethodName) jdk_42_method_54_code 1 (some .int) :: ws) ({ frames := 1, cells := 0, slots := 0, locals := 13 } : Room)) (fun aa UU => aa = #[(.ref a)] ∧ Z.Warmed39 UU.vm ∧ UU.heap = h0) (fun _ _ _ _ _ => True) (fun _ UU oo UU' => ∃ rv LL, oo = .returned rv ∧ own_len1_Q Z a b kb x0 cs h0 n0 rv UU'.heap LL ∧ FrameEnd UU oo UU' LL ({ frames := 1, cells := 0, slots := 0, locals := 13 } : Room).cells ({ frames := 1, cells := 0, slots := 0, locals := 13 } : Room).slots) := by
  refine MetFree.of_bodySF (plainFor_of_name own_pn0) hisR ?_
  intro p e s m args below meth c s₁ Bd hml0 hP hK
  obtain ⟨rfl, hZ, hh⟩ := hP
  have hx := Bd.exec
  have hby := Bd.bytes
  have hml : c.maxLocals = 1 := hml0
  have hown : s.vm.findClass "java/lang/String" = some m.cls := findClass_of_methodNamed Bd.named
  have hnm := (name_of_methodNamed Bd.named Bd.method).1
  have X0 : Stand p l e ({ frames := 1, cells := 0, slots := 0, locals := 13 } : Room) s m #[(.ref a)] below meth c s₁ [] 0 0 := Stand.of_body Bd
  have e0 : s₁.heap = h0 := by rw [← hh, Bd.state]; rfl
  have N0 := Fr.nil n0
  have K0 : Keep h0 h0 [] := Keep.refl h0 _
  refine (?_ : OwnGo p.tables e below (fun UU' oo => ∃ rv LL, oo = .returned rv ∧ own_len1_Q Z a b kb x0 cs h0 n0 rv UU'.heap LL ∧ FrameEnd s oo UU' LL ({ frames := 1, cells := 0, slots := 0, locals := 13 } : Room).cells ({ frames := 1, cells := 0, slots := 0, locals := 13 } : Room).slots) _)
  refine OwnGo.back (s₁.setTop (mkF m 0 #[.val (.ref a)] [])) (fun tg kk => castTop (own_len1_ef m a) kk) ?_
  refine OwnGo.back (s₁.setTop (mkF m 1 #[.val (.ref a)] [(.ref a)])) (fun tg kk => XS.aloadN X0.here hx rfl (hb hby own_d16_0) rfl rfl kk) ?_
  obtain ⟨T1, X1, e1, st1⟩ := getF X0 hx hZ hown (host := "") (Or.inl (hw _ (List.mem_of_getElem? (i := 20) rfl))) Via.refl e0 H1 (g := (mkF m 1 #[.val (.ref a)] [(.ref a)])) rfl rfl (hb hby own_d16_1)
  refine OwnGo.back (T1.setTop (mkF m 4 #[.val (.ref a)] [(.ref b)])) (fun tg kk => st1 _ kk) ?_
  obtain ⟨cl_2, Ar_2, -, Sz_2, Ng_2, -, -⟩ := id B
  refine OwnGo.back (T1.setTop (mkF m 5 #[.val (.ref a)] [(.int (1 : Int32))])) (fun tg kk => X1.arraylength hx (by rw [e1]; exact Ar_2.1) (State.isArrayOf_alike hZ.alike Ar_2.2.1) (g := (mkF m 4 #[.val (.ref a)] [(.ref b)])) rfl rfl (hb hby own_d16_4) _ (by rw [len_of Sz_2 Ng_2]; exact kk)) ?_
  refine OwnGo.back (T1.setTop (mkF m 6 #[.val (.ref a)] [(.ref a), (.int (1 : Int32))])) (fun tg kk => XS.aloadN X1.here hx rfl (hb hby own_d16_5) rfl rfl kk) ?_
  obtain ⟨cq3, kq3, q3a, q3b, q3c⟩ := isOf hZ e1 H0
  obtain ⟨_, _, ⟨T3, L3, k3, n3⟩, -, X3, ⟨Lc3, hQ3, l3, y3, z3⟩, st3⟩ := X1.virtualBack hx (y := (⟨"java/lang/String", "coder", "()B"⟩ : MethodName)) (z := (⟨"java/lang/String", "coder", "()B"⟩ : MethodName)) hown (mvT hZ (hw _ (List.mem_of_getElem? (i := 81) rfl))) (mvT hZ (hw _ (List.mem_of_getElem? (i := 82) rfl))) (notFace_of_selects (args := #[]) (mvT hZ (hw _ (List.mem_of_getElem? (i := 84) rfl)))) (mvT hZ (hw _ (List.mem_of_getElem? (i := 84) rfl))) (mvT hZ (hw _ (List.mem_of_getElem? (i := 83) rfl))) (by decide) (backOf (W := 1) (own_cod l Z a0 hw [] a b cs h0 n0 Z0 S old hcs H0 H1 H2) hZ (hw _ (List.mem_of_getElem? (i := 85) rfl)) (hw _ (List.mem_of_getElem? (i := 3) rfl)) (by decide) (by decide)) q3a q3c (g := (mkF m 6 #[.val (.ref a)] [(.ref a), (.int (1 : Int32))])) rfl (by rw [hml]; rfl) (Steps.refl _) (argsL := []) (rest := [(.int (1 : Int32))]) (lenOf own_pd9 rfl) rfl (by show 2 * 0 + _ ≤ _; exact Nat.le_of_eq rfl) (hb hby own_d16_6) (fun _ _ => ⟨rfl, e1, (by decide : 0 + 0 ≤ _), (by decide : 0 + 0 ≤ _)⟩)
  dsimp only [Pt.U, Pt.locs, Pt.cells, Pt.slots] at X3 l3 y3 z3 st3 hQ3
  subst l3 y3 z3
  obtain ⟨rfl, N3q, e3⟩ := hQ3
  have N3 := Fr.app N0 N3q
  refine OwnGo.back (T3.setTop (mkF m 9 #[.val (.ref a)] [(.int (0 : Int32)), (.int (1 : Int32))])) (fun tg kk => st3.trans kk) ?_
  refine OwnGo.back (T3.setTop (mkF m 10 #[.val (.ref a)] [(.int (1 : Int32))])) (fun tg kk => XS.ishr X3.here hx rfl (hb hby own_d16_9) rfl kk) ?_
  obtain ⟨fs, hr, hrun, hended, hW, hsame⟩ := X3.leave (v := some (.int (1 : Int32))) (fun h => by rw [Bd.returns] at h; cases h)
  refine ⟨_, _, ?_, hrun, hended, _, _, rfl, ?_, ⟨_, rfl⟩, hW, hsame.mono (by decide) (by decide)⟩
  · exact own_retI X3 hx Bd.returns (hb hby own_d16_10) hr
  · show own_len1_Q Z a b kb x0 cs h0 n0 _ T3.heap _
    rw [e3]
    exact ⟨rfl, N3, rfl⟩
theorem own_bl1_ef (m : MethodId) (x0 : Addr) : entryFrame m #[(.ref x0)] 1 = mkF m 0 #[.val (.ref x0)] [] := by first | (simp [entryFrame, mkF, argsToLocals, Value.category]; done) | rfl
def own_bl1_Q (Z : State) (a : Addr) (b : Addr) (kb : ClassId) (x0 : Int32) (aA : Addr) (oi : Addr) (cs : Int32) (h0 : Heap) (n0 : Nat) (rv : Option Value) (hN : Heap) (LL : List Loc) : Prop := rv = some (.int (0 : Int32)) ∧ Fr n0 LL ∧ hN = h0
set_option maxRecDepth 65536 in
set_option maxHeartbeats 40000000 in
theorem own_bl1 (l : Launch) (Z : State) (a0 : Array Value) (hw : ∀ d ∈ tables_1, d.before a0 Z = true) (ws : List Jvm.Cond) (a : Addr) (b : Addr) (kb : ClassId) (x0 : Int32) (aA : Addr) (oi : Addr) (cs : Int32) (h0 : Heap) (n0 : Nat) (Z0 : n0 ≤ h0.size) (hl0 : ¬ x0 < (0 : Int32)) (hu0 : ¬ (255 : Int32) < x0) (SA : Sta Z Z.heap "java/lang/CharacterDataLatin1" "A" "[I" (.ref aA)) (old : Old Z n0 h0) (hA : own_A Z aA) (SN : Sta Z Z.heap "java/lang/CharacterDataLatin1" "instance" "Ljava/lang/CharacterDataLatin1;" (.ref oi)) (Xi : Exa Z h0 oi "java/lang/CharacterDataLatin1") (nw : ¬ (((x0 = (32 : Int32)) ∨ (¬ x0 < (9 : Int32) ∧ ¬ (13 : Int32) < x0) ∨ (¬ x0 < (28 : Int32) ∧ ¬ (31 : Int32) < x0)))) (S : Sta Z Z.heap "java/lang/String" "COMPACT_STRINGS" "Z" (.int cs)) (hcs : ¬ cs = 0) (H0 : Exa Z h0 a "java/lang/String") (H1 : Fld Z h0 a "java/lang/String" "value" "[B" (.ref b)) (H2 : Fld Z h0 a "java/lang/String" "coder" "B" (.int (0 : Int32))) (B : Arv Z h0 b kb .byte (1 : Int32) [(.int (nar .byte (x0.toInt8.toInt32)))] (.int (0 : Int32))) :
    MetFree l (⟨"java/lang/String", "isBlank", "()Z"⟩ : MethodName) (head1 (Jvm.Cond.code (⟨"java/lang/String", "isBlank", "()Z"⟩ : MethodName) jdk_42_method_117_code 1 (some .boolean) :: ws) ({ frames := 4, cells := 0, slots := 0, locals := 56 } : Room)) (fun aa UU => aa = #[(.ref a)] ∧ Z.Warmed39 UU.vm ∧ UU.heap = h0) (fun _ _ _ _ _ => True) (fun _ UU oo UU' => ∃ rv LL, oo = .returned rv ∧ own_bl1_Q Z a b kb x0 aA oi cs h0 n0 rv UU'.heap LL ∧ FrameEnd UU oo UU' LL ({ frames := 4, cells := 0, slots := 0, locals := 56 } : Room).cells ({ frames := 4, cells := 0, slots := 0, locals := 56 } : Room).slots) := by
  refine MetFree.of_bodySF (plainFor_of_name own_pn0) hisR ?_
  intro p e s m args below meth c s₁ Bd hml0 hP hK
  obtain ⟨rfl, hZ, hh⟩ := hP
  have hx := Bd.exec
  have hby := Bd.bytes
  have hml : c.maxLocals = 1 := hml0
  have hown : s.vm.findClass "java/lang/String" = some m.cls := findClass_of_methodNamed Bd.named
  have hnm := (name_of_methodNamed Bd.named Bd.method).1
  have X0 : Stand p l e ({ frames := 4, cells := 0, slots := 0, locals := 56 } : Room) s m #[(.ref a)] below meth c s₁ [] 0 0 := Stand.of_body Bd
  have e0 : s₁.heap = h0 := by rw [← hh, Bd.state]; rfl
  have N0 := Fr.nil n0
  have K0 : Keep h0 h0 [] := Keep.refl h0 _
  refine (?_ : OwnGo p.tables e below (fun UU' oo => ∃ rv LL, oo = .returned rv ∧ own_bl1_Q Z a b kb x0 aA oi cs h0 n0 rv UU'.heap LL ∧ FrameEnd s oo UU' LL ({ frames := 4, cells := 0, slots := 0, locals := 56 } : Room).cells ({ frames := 4, cells := 0, slots := 0, locals := 56 } : Room).slots) _)
  refine OwnGo.back (s₁.setTop (mkF m 0 #[.val (.ref a)] [])) (fun tg kk => castTop (own_bl1_ef m a) kk) ?_
  refine OwnGo.back (s₁.setTop (mkF m 1 #[.val (.ref a)] [(.ref a)])) (fun tg kk => XS.aloadN X0.here hx rfl (hb hby own_d9_0) rfl rfl kk) ?_
  obtain ⟨cq1, q1, q1'⟩ := H0.cell
  obtain ⟨_, _, ⟨T1, L1, k1, n1⟩, -, X1, ⟨Lc1, hQ1, l1, y1, z1⟩, st1⟩ := X0.privateBack hx (y := (⟨"java/lang/String", "indexOfNonWhitespace", "()I"⟩ : MethodName)) hown (mvT hZ (hw _ (List.mem_of_getElem? (i := 46) rfl))) (mvT hZ (hw _ (List.mem_of_getElem? (i := 47) rfl))) (mvT hZ (hw _ (List.mem_of_getElem? (i := 49) rfl))) (Cond.privateMethod_at (mvP hZ (hw _ (List.mem_of_getElem? (i := 48) rfl)) (args := #[]))) (mvT hZ (hw _ (List.mem_of_getElem? (i := 50) rfl))) (by decide) (backOf (W := 0) (own_sw1 l Z a0 hw [] a b kb x0 aA oi cs h0 n0 Z0 hl0 hu0 SA old hA SN Xi nw S hcs H0 H1 H2 B) hZ (hw _ (List.mem_of_getElem? (i := 50) rfl)) (hw _ (List.mem_of_getElem? (i := 3) rfl)) (by decide) (by decide)) (g := (mkF m 1 #[.val (.ref a)] [(.ref a)])) rfl (by rw [hml]; rfl) (Steps.refl _) (a := a) (by rw [e0]; exact q1) q1' (argsL := []) (rest := []) (lenOf own_pd10 rfl) rfl (by show 2 * 0 + _ ≤ _; exact Nat.le_of_eq rfl) (hb hby own_d9_1) (fun _ _ => ⟨rfl, e0, (by decide : 0 + 0 ≤ _), (by decide : 0 + 0 ≤ _)⟩)
  dsimp only [Pt.U, Pt.locs, Pt.cells, Pt.slots] at X1 l1 y1 z1 st1 hQ1
  subst l1 y1 z1
  obtain ⟨r_2, rfl, N1q, e1, po3⟩ := hQ1
  have N1 := Fr.app N0 N1q
  refine OwnGo.back (T1.setTop (mkF m 4 #[.val (.ref a)] [(.int r_2)])) (fun tg kk => st1.trans kk) ?_
  refine OwnGo.back (T1.setTop (mkF m 5 #[.val (.ref a)] [(.ref a), (.int r_2)])) (fun tg kk => XS.aloadN X1.here hx rfl (hb hby own_d9_4) rfl rfl kk) ?_
  obtain ⟨cq4, kq4, q4a, q4b, q4c⟩ := isOf hZ e1 H0
  obtain ⟨_, _, ⟨T4, L4, k4, n4⟩, -, X4, ⟨Lc4, hQ4, l4, y4, z4⟩, st4⟩ := X1.virtualBack hx (y := (⟨"java/lang/String", "length", "()I"⟩ : MethodName)) (z := (⟨"java/lang/String", "length", "()I"⟩ : MethodName)) hown (mvT hZ (hw _ (List.mem_of_getElem? (i := 76) rfl))) (mvT hZ (hw _ (List.mem_of_getElem? (i := 77) rfl))) (notFace_of_selects (args := #[]) (mvT hZ (hw _ (List.mem_of_getElem? (i := 79) rfl)))) (mvT hZ (hw _ (List.mem_of_getElem? (i := 79) rfl))) (mvT hZ (hw _ (List.mem_of_getElem? (i := 78) rfl))) (by decide) (backOf (W := 1) (own_len1 l Z a0 hw [] a b kb x0 cs h0 n0 Z0 S old hcs H0 H1 H2 B) hZ (hw _ (List.mem_of_getElem? (i := 80) rfl)) (hw _ (List.mem_of_getElem? (i := 3) rfl)) (by decide) (by decide)) q4a q4c (g := (mkF m 5 #[.val (.ref a)] [(.ref a), (.int r_2)])) rfl (by rw [hml]; rfl) (Steps.refl _) (argsL := []) (rest := [(.int r_2)]) (lenOf own_pd10 rfl) rfl (by show 2 * 0 + _ ≤ _; exact Nat.le_of_eq rfl) (hb hby own_d9_5) (fun _ _ => ⟨rfl, e1, (by decide : 0 + 0 ≤ _), (by decide : 0 + 0 ≤ _)⟩)
  dsimp only [Pt.U, Pt.locs, Pt.cells, Pt.slots] at X4 l4 y4 z4 st4 hQ4
  subst l4 y4 z4
  obtain ⟨rfl, N4q, e4⟩ := hQ4
  have N4 := Fr.app N1 N4q
  refine OwnGo.back (T4.setTop (mkF m 8 #[.val (.ref a)] [(.int (1 : Int32)), (.int r_2)])) (fun tg kk => st4.trans kk) ?_
  refine OwnGo.back (T4.setTop (mkF m 15 #[.val (.ref a)] [])) (fun tg kk => XS.icmpYes X4.here hx rfl (pc0 := 8) (pc' := 15) rfl (hb hby own_d9_8) rfl (feq (by (simp only [true_and, and_true, false_and, and_false, or_false, false_or, or_true, true_or, not_true_eq_false, not_false_eq_true, eq_self, Int32.lt_iff_toInt_lt, Int32.le_iff_toInt_le, ← Int32.toInt_inj, Int32.reduceToInt, Int64.lt_iff_toInt_lt, Int64.le_iff_toInt_le, ← Int64.toInt_inj, Int64.reduceToInt] at hl0 hu0 nw hcs po3 ⊢) <;> omega : ¬ (r_2 = (1 : Int32)))).2 (by decide) (by decide) kk) ?_
  refine OwnGo.back (T4.setTop (mkF m 16 #[.val (.ref a)] [(.int (0 : Int32))])) (fun tg kk => XS.iconst X4.here hx rfl (hb hby own_d9_15) kk) ?_
  obtain ⟨fs, hr, hrun, hended, hW, hsame⟩ := X4.leave (v := some (.int (0 : Int32))) (fun h => by rw [Bd.returns] at h; cases h)
  refine ⟨_, _, ?_, hrun, hended, _, _, rfl, ?_, ⟨_, rfl⟩, hW, hsame.mono (by decide) (by decide)⟩
  · exact retN X4 hx (t := .boolean) Bd.returns (by simp) (hb hby own_d9_16) hr
  · show own_bl1_Q Z a b kb x0 aA oi cs h0 n0 _ T4.heap _
    rw [e4]
    exact ⟨rfl, N4, rfl⟩
theorem own_cn1_ef (m : MethodId) (x0 : Addr) : entryFrame m #[(.ref x0)] 1 = mkF m 0 #[.val (.ref x0)] [] := by first | (simp [entryFrame, mkF, argsToLocals, Value.category]; done) | rfl
def own_cn1_Q (Z : State) (a : Addr) (b : Addr) (kb : ClassId) (x0 : Int32) (aA : Addr) (oi : Addr) (cs : Int32) (h0 : Heap) (n0 : Nat) (rv : Option Value) (hN : Heap) (LL : List Loc) : Prop := rv = some (.ref a) ∧ Fr n0 LL ∧ hN = h0
set_option maxRecDepth 65536 in
set_option maxHeartbeats 40000000 in
theorem own_cn1 (l : Launch) (Z : State) (a0 : Array Value) (hw : ∀ d ∈ tables_1, d.before a0 Z = true) (ws : List Jvm.Cond) (a : Addr) (b : Addr) (kb : ClassId) (x0 : Int32) (aA : Addr) (oi : Addr) (cs : Int32) (h0 : Heap) (n0 : Nat) (Z0 : n0 ≤ h0.size) (hl0 : ¬ x0 < (0 : Int32)) (hu0 : ¬ (255 : Int32) < x0) (SA : Sta Z Z.heap "java/lang/CharacterDataLatin1" "A" "[I" (.ref aA)) (old : Old Z n0 h0) (hA : own_A Z aA) (SN : Sta Z Z.heap "java/lang/CharacterDataLatin1" "instance" "Ljava/lang/CharacterDataLatin1;" (.ref oi)) (Xi : Exa Z h0 oi "java/lang/CharacterDataLatin1") (nw : ¬ (((x0 = (32 : Int32)) ∨ (¬ x0 < (9 : Int32) ∧ ¬ (13 : Int32) < x0) ∨ (¬ x0 < (28 : Int32) ∧ ¬ (31 : Int32) < x0)))) (S : Sta Z Z.heap "java/lang/String" "COMPACT_STRINGS" "Z" (.int cs)) (hcs : ¬ cs = 0) (H0 : Exa Z h0 a "java/lang/String") (H1 : Fld Z h0 a "java/lang/String" "value" "[B" (.ref b)) (H2 : Fld Z h0 a "java/lang/String" "coder" "B" (.int (0 : Int32))) (B : Arv Z h0 b kb .byte (1 : Int32) [(.int (nar .byte (x0.toInt8.toInt32)))] (.int (0 : Int32))) :
    MetFree l (⟨"com/example/penelope/penelope/RollbackRules", "checkedName", "(Ljava/lang/String;)Ljava/lang/String;"⟩ : MethodName) (head1 (Jvm.Cond.code (⟨"com/example/penelope/penelope/RollbackRules", "checkedName", "(Ljava/lang/String;)Ljava/lang/String;"⟩ : MethodName) prog_16_method_3_code 1 (some (.object "java/lang/String")) :: ws) ({ frames := 5, cells := 0, slots := 0, locals := 68 } : Room)) (fun aa UU => aa = #[(.ref a)] ∧ Z.Warmed39 UU.vm ∧ UU.heap = h0) (fun _ _ _ _ _ => True) (fun _ UU oo UU' => ∃ rv LL, oo = .returned rv ∧ own_cn1_Q Z a b kb x0 aA oi cs h0 n0 rv UU'.heap LL ∧ FrameEnd UU oo UU' LL ({ frames := 5, cells := 0, slots := 0, locals := 68 } : Room).cells ({ frames := 5, cells := 0, slots := 0, locals := 68 } : Room).slots) := by
  refine MetFree.of_bodySF (plainFor_of_name own_pn5) hisR ?_
  intro p e s m args below meth c s₁ Bd hml0 hP hK
  obtain ⟨rfl, hZ, hh⟩ := hP
  have hx := Bd.exec
  have hby := Bd.bytes
  have hml : c.maxLocals = 1 := hml0
  have hown : s.vm.findClass "com/example/penelope/penelope/RollbackRules" = some m.cls := findClass_of_methodNamed Bd.named
  have hnm := (name_of_methodNamed Bd.named Bd.method).1
  have X0 : Stand p l e ({ frames := 5, cells := 0, slots := 0, locals := 68 } : Room) s m #[(.ref a)] below meth c s₁ [] 0 0 := Stand.of_body Bd
  have e0 : s₁.heap = h0 := by rw [← hh, Bd.state]; rfl
  have N0 := Fr.nil n0
  have K0 : Keep h0 h0 [] := Keep.refl h0 _
  refine (?_ : OwnGo p.tables e below (fun UU' oo => ∃ rv LL, oo = .returned rv ∧ own_cn1_Q Z a b kb x0 aA oi cs h0 n0 rv UU'.heap LL ∧ FrameEnd s oo UU' LL ({ frames := 5, cells := 0, slots := 0, locals := 68 } : Room).cells ({ frames := 5, cells := 0, slots := 0, locals := 68 } : Room).slots) _)
  refine OwnGo.back (s₁.setTop (mkF m 0 #[.val (.ref a)] [])) (fun tg kk => castTop (own_cn1_ef m a) kk) ?_
  refine OwnGo.back (s₁.setTop (mkF m 1 #[.val (.ref a)] [(.ref a)])) (fun tg kk => XS.aloadN X0.here hx rfl (hb hby own_d8_0) rfl rfl kk) ?_
  obtain ⟨cq1, kq1, q1a, q1b, q1c⟩ := isOf hZ e0 H0
  obtain ⟨_, _, ⟨T1, L1, k1, n1⟩, -, X1, ⟨Lc1, hQ1, l1, y1, z1⟩, st1⟩ := X0.virtualBack hx (y := (⟨"java/lang/String", "isBlank", "()Z"⟩ : MethodName)) (z := (⟨"java/lang/String", "isBlank", "()Z"⟩ : MethodName)) hown (mvT hZ (hw _ (List.mem_of_getElem? (i := 41) rfl))) (mvT hZ (hw _ (List.mem_of_getElem? (i := 42) rfl))) (notFace_of_selects (args := #[]) (mvT hZ (hw _ (List.mem_of_getElem? (i := 44) rfl)))) (mvT hZ (hw _ (List.mem_of_getElem? (i := 44) rfl))) (mvT hZ (hw _ (List.mem_of_getElem? (i := 43) rfl))) (by decide) (backOf (W := 0) (own_bl1 l Z a0 hw [] a b kb x0 aA oi cs h0 n0 Z0 hl0 hu0 SA old hA SN Xi nw S hcs H0 H1 H2 B) hZ (hw _ (List.mem_of_getElem? (i := 45) rfl)) (hw _ (List.mem_of_getElem? (i := 3) rfl)) (by decide) (by decide)) q1a q1c (g := (mkF m 1 #[.val (.ref a)] [(.ref a)])) rfl (by rw [hml]; rfl) (Steps.refl _) (argsL := []) (rest := []) (lenOf own_pd7 rfl) rfl (by show 2 * 0 + _ ≤ _; exact Nat.le_of_eq rfl) (hb hby own_d8_1) (fun _ _ => ⟨rfl, e0, (by decide : 0 + 0 ≤ _), (by decide : 0 + 0 ≤ _)⟩)
  dsimp only [Pt.U, Pt.locs, Pt.cells, Pt.slots] at X1 l1 y1 z1 st1 hQ1
  subst l1 y1 z1
  obtain ⟨rfl, N1q, e1⟩ := hQ1
  have N1 := Fr.app N0 N1q
  refine OwnGo.back (T1.setTop (mkF m 4 #[.val (.ref a)] [(.int (0 : Int32))])) (fun tg kk => st1.trans kk) ?_
  refine OwnGo.back (T1.setTop (mkF m 17 #[.val (.ref a)] [])) (fun tg kk => XS.ifYes X1.here hx rfl (pc0 := 4) (pc' := 17) rfl (hb hby own_d8_4) rfl ((if0 _ _).trans (teq (by decide : (0 : Int32) = (0 : Int32))).1) (by decide) (by decide) kk) ?_
  refine OwnGo.back (T1.setTop (mkF m 18 #[.val (.ref a)] [(.ref a)])) (fun tg kk => XS.aloadN X1.here hx rfl (hb hby own_d8_17) rfl rfl kk) ?_
  obtain ⟨fs, hr, hrun, hended, hW, hsame⟩ := X1.leave (v := some (.ref a)) (fun h => by rw [Bd.returns] at h; cases h)
  refine ⟨_, _, ?_, hrun, hended, _, _, rfl, ?_, ⟨_, rfl⟩, hW, hsame.mono (by decide) (by decide)⟩
  · exact own_retA X1 hx Bd.returns rfl rfl rfl (hb hby own_d8_18) hr
  · show own_cn1_Q Z a b kb x0 aA oi cs h0 n0 _ T1.heap _
    rw [e1]
    exact ⟨rfl, N1, rfl⟩
theorem own_gc20_ef (m : MethodId) (x0 : Addr) (x1 : Int32) : entryFrame m #[(.ref x0), (.int x1)] 2 = mkF m 0 #[.val (.ref x0), .val (.int x1)] [] := by first | (simp [entryFrame, mkF, argsToLocals, Value.category]; done) | rfl
def own_gc20_Q (Z : State) (b : Addr) (kb : ClassId) (x0 : Int32) (x1 : Int32) (h0 : Heap) (n0 : Nat) (rv : Option Value) (hN : Heap) (LL : List Loc) : Prop := rv = some (.int x0) ∧ Fr n0 LL ∧ hN = h0
set_option maxRecDepth 65536 in
set_option maxHeartbeats 40000000 in
theorem own_gc20 (l : Launch) (Z : State) (a0 : Array Value) (hw : ∀ d ∈ tables_1, d.before a0 Z = true) (ws : List Jvm.Cond) (b : Addr) (kb : ClassId) (x0 : Int32) (x1 : Int32) (h0 : Heap) (n0 : Nat) (Z0 : n0 ≤ h0.size) (B : Arv Z h0 b kb .byte (2 : Int32) [(.int (nar .byte (x0.toInt8.toInt32))), (.int (nar .byte (x1.toInt8.toInt32)))] (.int (0 : Int32))) (hl0 : ¬ x0 < (0 : Int32)) (hu0 : ¬ (255 : Int32) < x0) (hl1 : ¬ x1 < (0 : Int32)) (hu1 : ¬ (255 : Int32) < x1) :
    MetFree l (⟨"java/lang/StringLatin1", "getChar", "([BI)C"⟩ : MethodName) (head1 (Jvm.Cond.code (⟨"java/lang/StringLatin1", "getChar", "([BI)C"⟩ : MethodName) jdk_43_method_44_code 2 (some .char) :: ws) ({ frames := 0, cells := 0, slots := 0, locals := 0 } : Room)) (fun aa UU => aa = #[(.ref b), (.int (0 : Int32))] ∧ Z.Warmed39 UU.vm ∧ UU.heap = h0) (fun _ _ _ _ _ => True) (fun _ UU oo UU' => ∃ rv LL, oo = .returned rv ∧ own_gc20_Q Z b kb x0 x1 h0 n0 rv UU'.heap LL ∧ FrameEnd UU oo UU' LL ({ frames := 0, cells := 0, slots := 0, locals := 0 } : Room).cells ({ frames := 0, cells := 0, slots := 0, locals := 0 } : Room).slots) := by
  refine MetFree.of_bodySF (plainFor_of_name own_pn4) hisR ?_
  intro p e s m args below meth c s₁ Bd hml0 hP hK
  obtain ⟨rfl, hZ, hh⟩ := hP
  have hx := Bd.exec
  have hby := Bd.bytes
  have hml : c.maxLocals = 2 := hml0
  have hown : s.vm.findClass "java/lang/StringLatin1" = some m.cls := findClass_of_methodNamed Bd.named
  have hnm := (name_of_methodNamed Bd.named Bd.method).1
  have X0 : Stand p l e ({ frames := 0, cells := 0, slots := 0, locals := 0 } : Room) s m #[(.ref b), (.int (0 : Int32))] below meth c s₁ [] 0 0 := Stand.of_body Bd
  have e0 : s₁.heap = h0 := by rw [← hh, Bd.state]; rfl
  have N0 := Fr.nil n0
  have K0 : Keep h0 h0 [] := Keep.refl h0 _
  refine (?_ : OwnGo p.tables e below (fun UU' oo => ∃ rv LL, oo = .returned rv ∧ own_gc20_Q Z b kb x0 x1 h0 n0 rv UU'.heap LL ∧ FrameEnd s oo UU' LL ({ frames := 0, cells := 0, slots := 0, locals := 0 } : Room).cells ({ frames := 0, cells := 0, slots := 0, locals := 0 } : Room).slots) _)
  refine OwnGo.back (s₁.setTop (mkF m 0 #[.val (.ref b), .val (.int (0 : Int32))] [])) (fun tg kk => castTop (own_gc20_ef m b (0 : Int32)) kk) ?_
  refine OwnGo.back (s₁.setTop (mkF m 1 #[.val (.ref b), .val (.int (0 : Int32))] [(.ref b)])) (fun tg kk => XS.aloadN X0.here hx rfl (hb hby own_d13_0) rfl rfl kk) ?_
  refine OwnGo.back (s₁.setTop (mkF m 2 #[.val (.ref b), .val (.int (0 : Int32))] [(.int (0 : Int32)), (.ref b)])) (fun tg kk => XS.iloadN X0.here hx rfl (hb hby own_d13_1) rfl kk) ?_
  obtain ⟨cl_1, Ar_1, qq_1, Sz_1, Ng_1, Hs_1, Gf_1⟩ := id B
  have hin_1 : ¬ ((0 : Int32) < 0 ∨ cl_1.slots.size ≤ ((0 : Int32)).toNatClampNeg) := inb_of Sz_1 ⟨by decide, by decide⟩
  have hat_1 : cl_1.slots[((0 : Int32)).toNatClampNeg]? = some (.int (nar .byte (x0.toInt8.toInt32))) := Has.at Hs_1 hin_1 rfl
  refine OwnGo.back (s₁.setTop (mkF m 3 #[.val (.ref b), .val (.int (0 : Int32))] [(.int (nar .byte (x0.toInt8.toInt32)))])) (fun tg kk => X0.baloadBytes hx (j := (0 : Int32)) (v := (.int (nar .byte (x0.toInt8.toInt32)))) (by rw [e0]; exact Ar_1.1) (State.isArrayOf_alike hZ.alike Ar_1.2.1) Ar_1.2.2 hin_1 hat_1 (g := (mkF m 2 #[.val (.ref b), .val (.int (0 : Int32))] [(.int (0 : Int32)), (.ref b)])) rfl rfl (hb hby own_d13_2) _ kk) ?_
  refine OwnGo.back (s₁.setTop (mkF m 6 #[.val (.ref b), .val (.int (0 : Int32))] [(.int (255 : Int32)), (.int (nar .byte (x0.toInt8.toInt32)))])) (fun tg kk => XS.sipush X0.here hx rfl (hb hby own_d13_3) kk) ?_
  refine OwnGo.back (s₁.setTop (mkF m 7 #[.val (.ref b), .val (.int (0 : Int32))] [(.int ((nar .byte (x0.toInt8.toInt32)) &&& (255 : Int32)))])) (fun tg kk => XS.iand X0.here hx rfl (hb hby own_d13_6) rfl kk) ?_
  refine OwnGo.back (s₁.setTop (mkF m 8 #[.val (.ref b), .val (.int (0 : Int32))] [(.int (((nar .byte (x0.toInt8.toInt32)) &&& (255 : Int32)).toUInt32.toUInt16.toUInt32.toInt32))])) (fun tg kk => XS.i2c X0.here hx rfl (hb hby own_d13_7) rfl kk) ?_
  obtain ⟨fs, hr, hrun, hended, hW, hsame⟩ := X0.leave (v := some (.int (((nar .byte (x0.toInt8.toInt32)) &&& (255 : Int32)).toUInt32.toUInt16.toUInt32.toInt32))) (fun h => by rw [Bd.returns] at h; cases h)
  refine ⟨_, _, ?_, hrun, hended, _, _, rfl, ?_, ⟨_, rfl⟩, hW, hsame.mono (by decide) (by decide)⟩
  · exact retOut X0 hx Bd.returns (own_nrv _) (Or.inl ⟨rfl, by simp, _, rfl⟩) (hb hby own_d13_8) hr
  · show own_gc20_Q Z b kb x0 x1 h0 n0 _ s₁.heap _
    rw [e0]
    exact ⟨(congrArg (fun z => some (Value.int z)) (own_gch hl0 hu0)), N0, rfl⟩
theorem own_gc21_ef (m : MethodId) (x0 : Addr) (x1 : Int32) : entryFrame m #[(.ref x0), (.int x1)] 2 = mkF m 0 #[.val (.ref x0), .val (.int x1)] [] := by first | (simp [entryFrame, mkF, argsToLocals, Value.category]; done) | rfl
def own_gc21_Q (Z : State) (b : Addr) (kb : ClassId) (x0 : Int32) (x1 : Int32) (h0 : Heap) (n0 : Nat) (rv : Option Value) (hN : Heap) (LL : List Loc) : Prop := rv = some (.int x1) ∧ Fr n0 LL ∧ hN = h0
set_option maxRecDepth 65536 in
set_option maxHeartbeats 40000000 in
theorem own_gc21 (l : Launch) (Z : State) (a0 : Array Value) (hw : ∀ d ∈ tables_1, d.before a0 Z = true) (ws : List Jvm.Cond) (b : Addr) (kb : ClassId) (x0 : Int32) (x1 : Int32) (h0 : Heap) (n0 : Nat) (Z0 : n0 ≤ h0.size) (B : Arv Z h0 b kb .byte (2 : Int32) [(.int (nar .byte (x0.toInt8.toInt32))), (.int (nar .byte (x1.toInt8.toInt32)))] (.int (0 : Int32))) (hl0 : ¬ x0 < (0 : Int32)) (hu0 : ¬ (255 : Int32) < x0) (hl1 : ¬ x1 < (0 : Int32)) (hu1 : ¬ (255 : Int32) < x1) :
    MetFree l (⟨"java/lang/StringLatin1", "getChar", "([BI)C"⟩ : MethodName) (head1 (Jvm.Cond.code (⟨"java/lang/StringLatin1", "getChar", "([BI)C"⟩ : MethodName) jdk_43_method_44_code 2 (some .char) :: ws) ({ frames := 0, cells := 0, slots := 0, locals := 0 } : Room)) (fun aa UU => aa = #[(.ref b), (.int (1 : Int32))] ∧ Z.Warmed39 UU.vm ∧ UU.heap = h0) (fun _ _ _ _ _ => True) (fun _ UU oo UU' => ∃ rv LL, oo = .returned rv ∧ own_gc21_Q Z b kb x0 x1 h0 n0 rv UU'.heap LL ∧ FrameEnd UU oo UU' LL ({ frames := 0, cells := 0, slots := 0, locals := 0 } : Room).cells ({ frames := 0, cells := 0, slots := 0, locals := 0 } : Room).slots) := by
  refine MetFree.of_bodySF (plainFor_of_name own_pn4) hisR ?_
  intro p e s m args below meth c s₁ Bd hml0 hP hK
  obtain ⟨rfl, hZ, hh⟩ := hP
  have hx := Bd.exec
  have hby := Bd.bytes
  have hml : c.maxLocals = 2 := hml0
  have hown : s.vm.findClass "java/lang/StringLatin1" = some m.cls := findClass_of_methodNamed Bd.named
  have hnm := (name_of_methodNamed Bd.named Bd.method).1
  have X0 : Stand p l e ({ frames := 0, cells := 0, slots := 0, locals := 0 } : Room) s m #[(.ref b), (.int (1 : Int32))] below meth c s₁ [] 0 0 := Stand.of_body Bd
  have e0 : s₁.heap = h0 := by rw [← hh, Bd.state]; rfl
  have N0 := Fr.nil n0
  have K0 : Keep h0 h0 [] := Keep.refl h0 _
  refine (?_ : OwnGo p.tables e below (fun UU' oo => ∃ rv LL, oo = .returned rv ∧ own_gc21_Q Z b kb x0 x1 h0 n0 rv UU'.heap LL ∧ FrameEnd s oo UU' LL ({ frames := 0, cells := 0, slots := 0, locals := 0 } : Room).cells ({ frames := 0, cells := 0, slots := 0, locals := 0 } : Room).slots) _)
  refine OwnGo.back (s₁.setTop (mkF m 0 #[.val (.ref b), .val (.int (1 : Int32))] [])) (fun tg kk => castTop (own_gc21_ef m b (1 : Int32)) kk) ?_
  refine OwnGo.back (s₁.setTop (mkF m 1 #[.val (.ref b), .val (.int (1 : Int32))] [(.ref b)])) (fun tg kk => XS.aloadN X0.here hx rfl (hb hby own_d13_0) rfl rfl kk) ?_
  refine OwnGo.back (s₁.setTop (mkF m 2 #[.val (.ref b), .val (.int (1 : Int32))] [(.int (1 : Int32)), (.ref b)])) (fun tg kk => XS.iloadN X0.here hx rfl (hb hby own_d13_1) rfl kk) ?_
  obtain ⟨cl_1, Ar_1, qq_1, Sz_1, Ng_1, Hs_1, Gf_1⟩ := id B
  have hin_1 : ¬ ((1 : Int32) < 0 ∨ cl_1.slots.size ≤ ((1 : Int32)).toNatClampNeg) := inb_of Sz_1 ⟨by decide, by decide⟩
  have hat_1 : cl_1.slots[((1 : Int32)).toNatClampNeg]? = some (.int (nar .byte (x1.toInt8.toInt32))) := Has.at Hs_1 hin_1 rfl
  refine OwnGo.back (s₁.setTop (mkF m 3 #[.val (.ref b), .val (.int (1 : Int32))] [(.int (nar .byte (x1.toInt8.toInt32)))])) (fun tg kk => X0.baloadBytes hx (j := (1 : Int32)) (v := (.int (nar .byte (x1.toInt8.toInt32)))) (by rw [e0]; exact Ar_1.1) (State.isArrayOf_alike hZ.alike Ar_1.2.1) Ar_1.2.2 hin_1 hat_1 (g := (mkF m 2 #[.val (.ref b), .val (.int (1 : Int32))] [(.int (1 : Int32)), (.ref b)])) rfl rfl (hb hby own_d13_2) _ kk) ?_
  refine OwnGo.back (s₁.setTop (mkF m 6 #[.val (.ref b), .val (.int (1 : Int32))] [(.int (255 : Int32)), (.int (nar .byte (x1.toInt8.toInt32)))])) (fun tg kk => XS.sipush X0.here hx rfl (hb hby own_d13_3) kk) ?_
  refine OwnGo.back (s₁.setTop (mkF m 7 #[.val (.ref b), .val (.int (1 : Int32))] [(.int ((nar .byte (x1.toInt8.toInt32)) &&& (255 : Int32)))])) (fun tg kk => XS.iand X0.here hx rfl (hb hby own_d13_6) rfl kk) ?_
  refine OwnGo.back (s₁.setTop (mkF m 8 #[.val (.ref b), .val (.int (1 : Int32))] [(.int (((nar .byte (x1.toInt8.toInt32)) &&& (255 : Int32)).toUInt32.toUInt16.toUInt32.toInt32))])) (fun tg kk => XS.i2c X0.here hx rfl (hb hby own_d13_7) rfl kk) ?_
  obtain ⟨fs, hr, hrun, hended, hW, hsame⟩ := X0.leave (v := some (.int (((nar .byte (x1.toInt8.toInt32)) &&& (255 : Int32)).toUInt32.toUInt16.toUInt32.toInt32))) (fun h => by rw [Bd.returns] at h; cases h)
  refine ⟨_, _, ?_, hrun, hended, _, _, rfl, ?_, ⟨_, rfl⟩, hW, hsame.mono (by decide) (by decide)⟩
  · exact retOut X0 hx Bd.returns (own_nrv _) (Or.inl ⟨rfl, by simp, _, rfl⟩) (hb hby own_d13_8) hr
  · show own_gc21_Q Z b kb x0 x1 h0 n0 _ s₁.heap _
    rw [e0]
    exact ⟨(congrArg (fun z => some (Value.int z)) (own_gch hl1 hu1)), N0, rfl⟩
theorem own_lw2_ef (m : MethodId) (x0 : Addr) : entryFrame m #[(.ref x0)] 4 = mkF m 0 #[.val (.ref x0), .unset, .unset, .unset] [] := by first | (simp [entryFrame, mkF, argsToLocals, Value.category]; done) | rfl
def own_lw2_Q (Z : State) (b : Addr) (kb : ClassId) (x0 : Int32) (x1 : Int32) (aA : Addr) (oi : Addr) (h0 : Heap) (n0 : Nat) (rv : Option Value) (hN : Heap) (LL : List Loc) : Prop := ∃ (r : Int32), rv = some (.int r) ∧ Fr n0 LL ∧ hN = h0 ∧ ¬ r = (2 : Int32)
set_option maxRecDepth 65536 in
set_option maxHeartbeats 40000000 in
theorem own_lw2 (l : Launch) (Z : State) (a0 : Array Value) (hw : ∀ d ∈ tables_1, d.before a0 Z = true) (ws : List Jvm.Cond) (b : Addr) (kb : ClassId) (x0 : Int32) (x1 : Int32) (aA : Addr) (oi : Addr) (h0 : Heap) (n0 : Nat) (Z0 : n0 ≤ h0.size) (B : Arv Z h0 b kb .byte (2 : Int32) [(.int (nar .byte (x0.toInt8.toInt32))), (.int (nar .byte (x1.toInt8.toInt32)))] (.int (0 : Int32))) (hl0 : ¬ x0 < (0 : Int32)) (hu0 : ¬ (255 : Int32) < x0) (hl1 : ¬ x1 < (0 : Int32)) (hu1 : ¬ (255 : Int32) < x1) (SA : Sta Z Z.heap "java/lang/CharacterDataLatin1" "A" "[I" (.ref aA)) (old : Old Z n0 h0) (hA : own_A Z aA) (SN : Sta Z Z.heap "java/lang/CharacterDataLatin1" "instance" "Ljava/lang/CharacterDataLatin1;" (.ref oi)) (Xi : Exa Z h0 oi "java/lang/CharacterDataLatin1") (nw : ¬ (((x0 = (32 : Int32)) ∨ (¬ x0 < (9 : Int32) ∧ ¬ (13 : Int32) < x0) ∨ (¬ x0 < (28 : Int32) ∧ ¬ (31 : Int32) < x0)) ∧ ((x1 = (32 : Int32)) ∨ (¬ x1 < (9 : Int32) ∧ ¬ (13 : Int32) < x1) ∨ (¬ x1 < (28 : Int32) ∧ ¬ (31 : Int32) < x1)))) :
    MetFree l (⟨"java/lang/StringLatin1", "indexOfNonWhitespace", "([B)I"⟩ : MethodName) (head1 (Jvm.Cond.code (⟨"java/lang/StringLatin1", "indexOfNonWhitespace", "([B)I"⟩ : MethodName) jdk_43_method_37_code 4 (some .int) :: ws) ({ frames := 2, cells := 0, slots := 0, locals := 29 } : Room)) (fun aa UU => aa = #[(.ref b)] ∧ Z.Warmed39 UU.vm ∧ UU.heap = h0) (fun _ _ _ _ _ => True) (fun _ UU oo UU' => ∃ rv LL, oo = .returned rv ∧ own_lw2_Q Z b kb x0 x1 aA oi h0 n0 rv UU'.heap LL ∧ FrameEnd UU oo UU' LL ({ frames := 2, cells := 0, slots := 0, locals := 29 } : Room).cells ({ frames := 2, cells := 0, slots := 0, locals := 29 } : Room).slots) := by
  refine MetFree.of_bodySF (plainFor_of_name own_pn4) hisR ?_
  intro p e s m args below meth c s₁ Bd hml0 hP hK
  obtain ⟨rfl, hZ, hh⟩ := hP
  have hx := Bd.exec
  have hby := Bd.bytes
  have hml : c.maxLocals = 4 := hml0
  have hown : s.vm.findClass "java/lang/StringLatin1" = some m.cls := findClass_of_methodNamed Bd.named
  have hnm := (name_of_methodNamed Bd.named Bd.method).1
  have X0 : Stand p l e ({ frames := 2, cells := 0, slots := 0, locals := 29 } : Room) s m #[(.ref b)] below meth c s₁ [] 0 0 := Stand.of_body Bd
  have e0 : s₁.heap = h0 := by rw [← hh, Bd.state]; rfl
  have N0 := Fr.nil n0
  have K0 : Keep h0 h0 [] := Keep.refl h0 _
  refine (?_ : OwnGo p.tables e below (fun UU' oo => ∃ rv LL, oo = .returned rv ∧ own_lw2_Q Z b kb x0 x1 aA oi h0 n0 rv UU'.heap LL ∧ FrameEnd s oo UU' LL ({ frames := 2, cells := 0, slots := 0, locals := 29 } : Room).cells ({ frames := 2, cells := 0, slots := 0, locals := 29 } : Room).slots) _)
  refine OwnGo.back (s₁.setTop (mkF m 0 #[.val (.ref b), .unset, .unset, .unset] [])) (fun tg kk => castTop (own_lw2_ef m b) kk) ?_
  refine OwnGo.back (s₁.setTop (mkF m 1 #[.val (.ref b), .unset, .unset, .unset] [(.ref b)])) (fun tg kk => XS.aloadN X0.here hx rfl (hb hby own_d12_0) rfl rfl kk) ?_
  obtain ⟨cl_1, Ar_1, -, Sz_1, Ng_1, -, -⟩ := id B
  refine OwnGo.back (s₁.setTop (mkF m 2 #[.val (.ref b), .unset, .unset, .unset] [(.int (2 : Int32))])) (fun tg kk => X0.arraylength hx (by rw [e0]; exact Ar_1.1) (State.isArrayOf_alike hZ.alike Ar_1.2.1) (g := (mkF m 1 #[.val (.ref b), .unset, .unset, .unset] [(.ref b)])) rfl rfl (hb hby own_d12_1) _ (by rw [len_of Sz_1 Ng_1]; exact kk)) ?_
  refine OwnGo.back (s₁.setTop (mkF m 3 #[.val (.ref b), .val (.int (2 : Int32)), .unset, .unset] [])) (fun tg kk => XS.istoreN X0.here hx rfl (hb hby own_d12_2) rfl (l' := #[.val (.ref b), .val (.int (2 : Int32)), .unset, .unset]) rfl kk) ?_
  refine OwnGo.back (s₁.setTop (mkF m 4 #[.val (.ref b), .val (.int (2 : Int32)), .unset, .unset] [(.int (0 : Int32))])) (fun tg kk => XS.iconst X0.here hx rfl (hb hby own_d12_3) kk) ?_
  refine OwnGo.back (s₁.setTop (mkF m 5 #[.val (.ref b), .val (.int (2 : Int32)), .val (.int (0 : Int32)), .unset] [])) (fun tg kk => XS.istoreN X0.here hx rfl (hb hby own_d12_4) rfl (l' := #[.val (.ref b), .val (.int (2 : Int32)), .val (.int (0 : Int32)), .unset]) rfl kk) ?_
  refine OwnGo.back (s₁.setTop (mkF m 6 #[.val (.ref b), .val (.int (2 : Int32)), .val (.int (0 : Int32)), .unset] [(.int (0 : Int32))])) (fun tg kk => XS.iloadN X0.here hx rfl (hb hby own_d12_5) rfl kk) ?_
  refine OwnGo.back (s₁.setTop (mkF m 7 #[.val (.ref b), .val (.int (2 : Int32)), .val (.int (0 : Int32)), .unset] [(.int (2 : Int32)), (.int (0 : Int32))])) (fun tg kk => XS.iloadN X0.here hx rfl (hb hby own_d12_6) rfl kk) ?_
  refine OwnGo.back (s₁.setTop (mkF m 10 #[.val (.ref b), .val (.int (2 : Int32)), .val (.int (0 : Int32)), .unset] [])) (fun tg kk => XS.icmpNo X0.here hx rfl (hb hby own_d12_7) rfl (tlt (by decide : (0 : Int32) < (2 : Int32))).2.1 kk) ?_
  refine OwnGo.back (s₁.setTop (mkF m 11 #[.val (.ref b), .val (.int (2 : Int32)), .val (.int (0 : Int32)), .unset] [(.ref b)])) (fun tg kk => XS.aloadN X0.here hx rfl (hb hby own_d12_10) rfl rfl kk) ?_
  refine OwnGo.back (s₁.setTop (mkF m 12 #[.val (.ref b), .val (.int (2 : Int32)), .val (.int (0 : Int32)), .unset] [(.int (0 : Int32)), (.ref b)])) (fun tg kk => XS.iloadN X0.here hx rfl (hb hby own_d12_11) rfl kk) ?_
  obtain ⟨_, _, ⟨T2, L2, k2, n2⟩, -, X2, ⟨Lc2, hQ2, l2, y2, z2⟩, st2⟩ := Jvm.LawKit.callS X0 hx (y := (⟨"java/lang/StringLatin1", "getChar", "([BI)C"⟩ : MethodName)) hown (mvT hZ (hw _ (List.mem_of_getElem? (i := 60) rfl))) (mvT hZ (hw _ (List.mem_of_getElem? (i := 61) rfl))) (mvT hZ (hw _ (List.mem_of_getElem? (i := 58) rfl))) (mvT hZ (hw _ (List.mem_of_getElem? (i := 62) rfl))) (by decide) (backOf (W := 0) (own_gc20 l Z a0 hw [] b kb x0 x1 h0 n0 Z0 B hl0 hu0 hl1 hu1) hZ (hw _ (List.mem_of_getElem? (i := 62) rfl)) (hw _ (List.mem_of_getElem? (i := 58) rfl)) (by decide) (by decide)) (g := (mkF m 12 #[.val (.ref b), .val (.int (2 : Int32)), .val (.int (0 : Int32)), .unset] [(.int (0 : Int32)), (.ref b)])) rfl (by rw [hml]; rfl) (argsL := [(.ref b), (.int (0 : Int32))]) (rest := []) (lenOf own_pd5 rfl) rfl (by show 2 * 0 + _ ≤ _; exact Nat.le_of_eq rfl) (hb hby own_d12_12) (fun _ _ => ⟨rfl, e0, (by decide : 0 + 0 ≤ _), (by decide : 0 + 0 ≤ _)⟩)
  dsimp only [Pt.U, Pt.locs, Pt.cells, Pt.slots] at X2 l2 y2 z2 st2 hQ2
  subst l2 y2 z2
  obtain ⟨rfl, N2q, e2⟩ := hQ2
  have N2 := Fr.app N0 N2q
  refine OwnGo.back (T2.setTop (mkF m 15 #[.val (.ref b), .val (.int (2 : Int32)), .val (.int (0 : Int32)), .unset] [(.int x0)])) (fun tg kk => st2 _ kk) ?_
  refine OwnGo.back (T2.setTop (mkF m 16 #[.val (.ref b), .val (.int (2 : Int32)), .val (.int (0 : Int32)), .val (.int x0)] [])) (fun tg kk => XS.istoreN X2.here hx rfl (hb hby own_d12_15) rfl (l' := #[.val (.ref b), .val (.int (2 : Int32)), .val (.int (0 : Int32)), .val (.int x0)]) rfl kk) ?_
  refine OwnGo.back (T2.setTop (mkF m 17 #[.val (.ref b), .val (.int (2 : Int32)), .val (.int (0 : Int32)), .val (.int x0)] [(.int x0)])) (fun tg kk => XS.iloadN X2.here hx rfl (hb hby own_d12_16) rfl kk) ?_
  refine OwnGo.back (T2.setTop (mkF m 19 #[.val (.ref b), .val (.int (2 : Int32)), .val (.int (0 : Int32)), .val (.int x0)] [(.int (32 : Int32)), (.int x0)])) (fun tg kk => XS.bipush X2.here hx rfl (hb hby own_d12_17) kk) ?_
  by_cases hc3 : x0 = (32 : Int32)
  ·
    refine OwnGo.back (T2.setTop (mkF m 41 #[.val (.ref b), .val (.int (2 : Int32)), .val (.int (0 : Int32)), .val (.int x0)] [])) (fun tg kk => XS.icmpYes X2.here hx rfl (pc0 := 19) (pc' := 41) rfl (hb hby own_d12_19) rfl (teq hc3).1 (by decide) (by decide) kk) ?_
    refine OwnGo.back (T2.setTop (mkF m 44 #[.val (.ref b), .val (.int (2 : Int32)), .val (.int (1 : Int32)), .val (.int x0)] [])) (fun tg kk => XS.iinc X2.here hx rfl (hb hby own_d12_41) rfl (l' := #[.val (.ref b), .val (.int (2 : Int32)), .val (.int (1 : Int32)), .val (.int x0)]) rfl kk) ?_
    refine OwnGo.back (T2.setTop (mkF m 5 #[.val (.ref b), .val (.int (2 : Int32)), .val (.int (1 : Int32)), .val (.int x0)] [])) (fun tg kk => XS.goto X2.here hx rfl (pc0 := 44) (pc' := 5) rfl (hb hby own_d12_44) (by decide) (by decide) kk) ?_
    refine OwnGo.back (T2.setTop (mkF m 6 #[.val (.ref b), .val (.int (2 : Int32)), .val (.int (1 : Int32)), .val (.int x0)] [(.int (1 : Int32))])) (fun tg kk => XS.iloadN X2.here hx rfl (hb hby own_d12_5) rfl kk) ?_
    refine OwnGo.back (T2.setTop (mkF m 7 #[.val (.ref b), .val (.int (2 : Int32)), .val (.int (1 : Int32)), .val (.int x0)] [(.int (2 : Int32)), (.int (1 : Int32))])) (fun tg kk => XS.iloadN X2.here hx rfl (hb hby own_d12_6) rfl kk) ?_
    refine OwnGo.back (T2.setTop (mkF m 10 #[.val (.ref b), .val (.int (2 : Int32)), .val (.int (1 : Int32)), .val (.int x0)] [])) (fun tg kk => XS.icmpNo X2.here hx rfl (hb hby own_d12_7) rfl (tlt (by decide : (1 : Int32) < (2 : Int32))).2.1 kk) ?_
    refine OwnGo.back (T2.setTop (mkF m 11 #[.val (.ref b), .val (.int (2 : Int32)), .val (.int (1 : Int32)), .val (.int x0)] [(.ref b)])) (fun tg kk => XS.aloadN X2.here hx rfl (hb hby own_d12_10) rfl rfl kk) ?_
    refine OwnGo.back (T2.setTop (mkF m 12 #[.val (.ref b), .val (.int (2 : Int32)), .val (.int (1 : Int32)), .val (.int x0)] [(.int (1 : Int32)), (.ref b)])) (fun tg kk => XS.iloadN X2.here hx rfl (hb hby own_d12_11) rfl kk) ?_
    obtain ⟨_, _, ⟨T4, L4, k4, n4⟩, -, X4, ⟨Lc4, hQ4, l4, y4, z4⟩, st4⟩ := Jvm.LawKit.callS X2 hx (y := (⟨"java/lang/StringLatin1", "getChar", "([BI)C"⟩ : MethodName)) hown (mvT hZ (hw _ (List.mem_of_getElem? (i := 60) rfl))) (mvT hZ (hw _ (List.mem_of_getElem? (i := 61) rfl))) (mvT hZ (hw _ (List.mem_of_getElem? (i := 58) rfl))) (mvT hZ (hw _ (List.mem_of_getElem? (i := 62) rfl))) (by decide) (backOf (W := 0) (own_gc21 l Z a0 hw [] b kb x0 x1 h0 n0 Z0 B hl0 hu0 hl1 hu1) hZ (hw _ (List.mem_of_getElem? (i := 62) rfl)) (hw _ (List.mem_of_getElem? (i := 58) rfl)) (by decide) (by decide)) (g := (mkF m 12 #[.val (.ref b), .val (.int (2 : Int32)), .val (.int (1 : Int32)), .val (.int x0)] [(.int (1 : Int32)), (.ref b)])) rfl (by rw [hml]; rfl) (argsL := [(.ref b), (.int (1 : Int32))]) (rest := []) (lenOf own_pd5 rfl) rfl (by show 2 * 0 + _ ≤ _; exact Nat.le_of_eq rfl) (hb hby own_d12_12) (fun _ _ => ⟨rfl, e2, (by decide : 0 + 0 ≤ _), (by decide : 0 + 0 ≤ _)⟩)
    dsimp only [Pt.U, Pt.locs, Pt.cells, Pt.slots] at X4 l4 y4 z4 st4 hQ4
    subst l4 y4 z4
    obtain ⟨rfl, N4q, e4⟩ := hQ4
    have N4 := Fr.app N2 N4q
    refine OwnGo.back (T4.setTop (mkF m 15 #[.val (.ref b), .val (.int (2 : Int32)), .val (.int (1 : Int32)), .val (.int x0)] [(.int x1)])) (fun tg kk => st4 _ kk) ?_
    refine OwnGo.back (T4.setTop (mkF m 16 #[.val (.ref b), .val (.int (2 : Int32)), .val (.int (1 : Int32)), .val (.int x1)] [])) (fun tg kk => XS.istoreN X4.here hx rfl (hb hby own_d12_15) rfl (l' := #[.val (.ref b), .val (.int (2 : Int32)), .val (.int (1 : Int32)), .val (.int x1)]) rfl kk) ?_
    refine OwnGo.back (T4.setTop (mkF m 17 #[.val (.ref b), .val (.int (2 : Int32)), .val (.int (1 : Int32)), .val (.int x1)] [(.int x1)])) (fun tg kk => XS.iloadN X4.here hx rfl (hb hby own_d12_16) rfl kk) ?_
    refine OwnGo.back (T4.setTop (mkF m 19 #[.val (.ref b), .val (.int (2 : Int32)), .val (.int (1 : Int32)), .val (.int x1)] [(.int (32 : Int32)), (.int x1)])) (fun tg kk => XS.bipush X4.here hx rfl (hb hby own_d12_17) kk) ?_
    by_cases hc5 : x1 = (32 : Int32)
    ·
      refine OwnGo.back (T4.setTop (mkF m 41 #[.val (.ref b), .val (.int (2 : Int32)), .val (.int (1 : Int32)), .val (.int x1)] [])) (fun tg kk => XS.icmpYes X4.here hx rfl (pc0 := 19) (pc' := 41) rfl (hb hby own_d12_19) rfl (teq hc5).1 (by decide) (by decide) kk) ?_
      refine OwnGo.back (T4.setTop (mkF m 44 #[.val (.ref b), .val (.int (2 : Int32)), .val (.int (2 : Int32)), .val (.int x1)] [])) (fun tg kk => XS.iinc X4.here hx rfl (hb hby own_d12_41) rfl (l' := #[.val (.ref b), .val (.int (2 : Int32)), .val (.int (2 : Int32)), .val (.int x1)]) rfl kk) ?_
      refine OwnGo.back (T4.setTop (mkF m 5 #[.val (.ref b), .val (.int (2 : Int32)), .val (.int (2 : Int32)), .val (.int x1)] [])) (fun tg kk => XS.goto X4.here hx rfl (pc0 := 44) (pc' := 5) rfl (hb hby own_d12_44) (by decide) (by decide) kk) ?_
      refine OwnGo.back (T4.setTop (mkF m 6 #[.val (.ref b), .val (.int (2 : Int32)), .val (.int (2 : Int32)), .val (.int x1)] [(.int (2 : Int32))])) (fun tg kk => XS.iloadN X4.here hx rfl (hb hby own_d12_5) rfl kk) ?_
      refine OwnGo.back (T4.setTop (mkF m 7 #[.val (.ref b), .val (.int (2 : Int32)), .val (.int (2 : Int32)), .val (.int x1)] [(.int (2 : Int32)), (.int (2 : Int32))])) (fun tg kk => XS.iloadN X4.here hx rfl (hb hby own_d12_6) rfl kk) ?_
      refine OwnGo.back (T4.setTop (mkF m 47 #[.val (.ref b), .val (.int (2 : Int32)), .val (.int (2 : Int32)), .val (.int x1)] [])) (fun tg kk => XS.icmpYes X4.here hx rfl (pc0 := 7) (pc' := 47) rfl (hb hby own_d12_7) rfl (flt (by decide : ¬ ((2 : Int32) < (2 : Int32)))).2.1 (by decide) (by decide) kk) ?_
      refine OwnGo.back (T4.setTop (mkF m 48 #[.val (.ref b), .val (.int (2 : Int32)), .val (.int (2 : Int32)), .val (.int x1)] [(.int (2 : Int32))])) (fun tg kk => XS.iloadN X4.here hx rfl (hb hby own_d12_47) rfl kk) ?_
      obtain ⟨fs, hr, hrun, hended, hW, hsame⟩ := X4.leave (v := some (.int (2 : Int32))) (fun h => by rw [Bd.returns] at h; cases h)
      refine ⟨_, _, ?_, hrun, hended, _, _, rfl, ?_, ⟨_, rfl⟩, hW, hsame.mono (by decide) (by decide)⟩
      · exact own_retI X4 hx Bd.returns (hb hby own_d12_48) hr
      · show own_lw2_Q Z b kb x0 x1 aA oi h0 n0 _ T4.heap _
        rw [e4]
        exact ⟨(2 : Int32), rfl, N4, rfl, (by (simp only [true_and, and_true, false_and, and_false, or_false, false_or, or_true, true_or, not_true_eq_false, not_false_eq_true, eq_self, Int32.lt_iff_toInt_lt, Int32.le_iff_toInt_le, ← Int32.toInt_inj, Int32.reduceToInt, Int64.lt_iff_toInt_lt, Int64.le_iff_toInt_le, ← Int64.toInt_inj, Int64.reduceToInt] at hc3 hc5 hl0 hu0 hl1 hu1 nw ⊢) <;> omega)⟩
    ·
      refine OwnGo.back (T4.setTop (mkF m 22 #[.val (.ref b), .val (.int (2 : Int32)), .val (.int (1 : Int32)), .val (.int x1)] [])) (fun tg kk => XS.icmpNo X4.here hx rfl (hb hby own_d12_19) rfl (feq hc5).1 kk) ?_
      refine OwnGo.back (T4.setTop (mkF m 23 #[.val (.ref b), .val (.int (2 : Int32)), .val (.int (1 : Int32)), .val (.int x1)] [(.int x1)])) (fun tg kk => XS.iloadN X4.here hx rfl (hb hby own_d12_22) rfl kk) ?_
      refine OwnGo.back (T4.setTop (mkF m 25 #[.val (.ref b), .val (.int (2 : Int32)), .val (.int (1 : Int32)), .val (.int x1)] [(.int (9 : Int32)), (.int x1)])) (fun tg kk => XS.bipush X4.here hx rfl (hb hby own_d12_23) kk) ?_
      by_cases hc6 : x1 = (9 : Int32)
      ·
        refine OwnGo.back (T4.setTop (mkF m 41 #[.val (.ref b), .val (.int (2 : Int32)), .val (.int (1 : Int32)), .val (.int x1)] [])) (fun tg kk => XS.icmpYes X4.here hx rfl (pc0 := 25) (pc' := 41) rfl (hb hby own_d12_25) rfl (teq hc6).1 (by decide) (by decide) kk) ?_
        refine OwnGo.back (T4.setTop (mkF m 44 #[.val (.ref b), .val (.int (2 : Int32)), .val (.int (2 : Int32)), .val (.int x1)] [])) (fun tg kk => XS.iinc X4.here hx rfl (hb hby own_d12_41) rfl (l' := #[.val (.ref b), .val (.int (2 : Int32)), .val (.int (2 : Int32)), .val (.int x1)]) rfl kk) ?_
        refine OwnGo.back (T4.setTop (mkF m 5 #[.val (.ref b), .val (.int (2 : Int32)), .val (.int (2 : Int32)), .val (.int x1)] [])) (fun tg kk => XS.goto X4.here hx rfl (pc0 := 44) (pc' := 5) rfl (hb hby own_d12_44) (by decide) (by decide) kk) ?_
        refine OwnGo.back (T4.setTop (mkF m 6 #[.val (.ref b), .val (.int (2 : Int32)), .val (.int (2 : Int32)), .val (.int x1)] [(.int (2 : Int32))])) (fun tg kk => XS.iloadN X4.here hx rfl (hb hby own_d12_5) rfl kk) ?_
        refine OwnGo.back (T4.setTop (mkF m 7 #[.val (.ref b), .val (.int (2 : Int32)), .val (.int (2 : Int32)), .val (.int x1)] [(.int (2 : Int32)), (.int (2 : Int32))])) (fun tg kk => XS.iloadN X4.here hx rfl (hb hby own_d12_6) rfl kk) ?_
        refine OwnGo.back (T4.setTop (mkF m 47 #[.val (.ref b), .val (.int (2 : Int32)), .val (.int (2 : Int32)), .val (.int x1)] [])) (fun tg kk => XS.icmpYes X4.here hx rfl (pc0 := 7) (pc' := 47) rfl (hb hby own_d12_7) rfl (flt (by decide : ¬ ((2 : Int32) < (2 : Int32)))).2.1 (by decide) (by decide) kk) ?_
        refine OwnGo.back (T4.setTop (mkF m 48 #[.val (.ref b), .val (.int (2 : Int32)), .val (.int (2 : Int32)), .val (.int x1)] [(.int (2 : Int32))])) (fun tg kk => XS.iloadN X4.here hx rfl (hb hby own_d12_47) rfl kk) ?_
        obtain ⟨fs, hr, hrun, hended, hW, hsame⟩ := X4.leave (v := some (.int (2 : Int32))) (fun h => by rw [Bd.returns] at h; cases h)
        refine ⟨_, _, ?_, hrun, hended, _, _, rfl, ?_, ⟨_, rfl⟩, hW, hsame.mono (by decide) (by decide)⟩
        · exact own_retI X4 hx Bd.returns (hb hby own_d12_48) hr
        · show own_lw2_Q Z b kb x0 x1 aA oi h0 n0 _ T4.heap _
          rw [e4]
          exact ⟨(2 : Int32), rfl, N4, rfl, (by (simp only [true_and, and_true, false_and, and_false, or_false, false_or, or_true, true_or, not_true_eq_false, not_false_eq_true, eq_self, Int32.lt_iff_toInt_lt, Int32.le_iff_toInt_le, ← Int32.toInt_inj, Int32.reduceToInt, Int64.lt_iff_toInt_lt, Int64.le_iff_toInt_le, ← Int64.toInt_inj, Int64.reduceToInt] at hc3 hc5 hc6 hl0 hu0 hl1 hu1 nw ⊢) <;> omega)⟩
      ·
        refine OwnGo.back (T4.setTop (mkF m 28 #[.val (.ref b), .val (.int (2 : Int32)), .val (.int (1 : Int32)), .val (.int x1)] [])) (fun tg kk => XS.icmpNo X4.here hx rfl (hb hby own_d12_25) rfl (feq hc6).1 kk) ?_
        obtain ⟨T7, X7, e7, st7⟩ := getS2 X4 hx hZ hown (host := "") (Or.inl (hw _ (List.mem_of_getElem? (i := 63) rfl))) Via.refl e4 (SN.ext old.2) (g := (mkF m 28 #[.val (.ref b), .val (.int (2 : Int32)), .val (.int (1 : Int32)), .val (.int x1)] [])) rfl (hb hby own_d12_28)
        refine OwnGo.back (T7.setTop (mkF m 31 #[.val (.ref b), .val (.int (2 : Int32)), .val (.int (1 : Int32)), .val (.int x1)] [(.ref oi)])) (fun tg kk => st7 _ kk) ?_
        refine OwnGo.back (T7.setTop (mkF m 32 #[.val (.ref b), .val (.int (2 : Int32)), .val (.int (1 : Int32)), .val (.int x1)] [(.int x1), (.ref oi)])) (fun tg kk => XS.iloadN X7.here hx rfl (hb hby own_d12_31) rfl kk) ?_
        obtain ⟨cq8, kq8, q8a, q8b, q8c⟩ := isOf hZ e7 Xi
        obtain ⟨_, _, ⟨T8, L8, k8, n8⟩, -, X8, ⟨Lc8, hQ8, l8, y8, z8⟩, st8⟩ := X7.virtualBack hx (y := (⟨"java/lang/CharacterDataLatin1", "isWhitespace", "(I)Z"⟩ : MethodName)) (z := (⟨"java/lang/CharacterDataLatin1", "isWhitespace", "(I)Z"⟩ : MethodName)) hown (mvT hZ (hw _ (List.mem_of_getElem? (i := 65) rfl))) (mvT hZ (hw _ (List.mem_of_getElem? (i := 66) rfl))) (notFace_of_selects (args := #[]) (mvT hZ (hw _ (List.mem_of_getElem? (i := 68) rfl)))) (mvT hZ (hw _ (List.mem_of_getElem? (i := 68) rfl))) (mvT hZ (hw _ (List.mem_of_getElem? (i := 67) rfl))) (by decide) (backOf (W := 0) (own_isw l Z a0 hw [] oi x1 aA h0 n0 Z0 Xi SA old hA hl1 hu1) hZ (hw _ (List.mem_of_getElem? (i := 69) rfl)) (hw _ (List.mem_of_getElem? (i := 64) rfl)) (by decide) (by decide)) q8a q8c (g := (mkF m 32 #[.val (.ref b), .val (.int (2 : Int32)), .val (.int (1 : Int32)), .val (.int x1)] [(.int x1), (.ref oi)])) rfl (by rw [hml]; rfl) (Steps.refl _) (argsL := [(.int x1)]) (rest := []) (lenOf own_pd6 rfl) rfl (by show 2 * 0 + _ ≤ _; exact Nat.le_of_eq rfl) (hb hby own_d12_32) (fun _ _ => ⟨rfl, e7, (by decide : 0 + 0 ≤ _), (by decide : 0 + 0 ≤ _)⟩)
        dsimp only [Pt.U, Pt.locs, Pt.cells, Pt.slots] at X8 l8 y8 z8 st8 hQ8
        subst l8 y8 z8
        obtain ⟨r_9, rfl, N8q, e8, po10⟩ := hQ8
        have N8 := Fr.app N4 N8q
        refine OwnGo.back (T8.setTop (mkF m 35 #[.val (.ref b), .val (.int (2 : Int32)), .val (.int (1 : Int32)), .val (.int x1)] [(.int r_9)])) (fun tg kk => st8.trans kk) ?_
        by_cases hc11 : r_9 = (0 : Int32)
        ·
          refine OwnGo.back (T8.setTop (mkF m 38 #[.val (.ref b), .val (.int (2 : Int32)), .val (.int (1 : Int32)), .val (.int x1)] [])) (fun tg kk => XS.ifNo X8.here hx rfl (hb hby own_d12_35) rfl ((if0 _ _).trans (teq hc11).2) kk) ?_
          refine OwnGo.back (T8.setTop (mkF m 47 #[.val (.ref b), .val (.int (2 : Int32)), .val (.int (1 : Int32)), .val (.int x1)] [])) (fun tg kk => XS.goto X8.here hx rfl (pc0 := 38) (pc' := 47) rfl (hb hby own_d12_38) (by decide) (by decide) kk) ?_
          refine OwnGo.back (T8.setTop (mkF m 48 #[.val (.ref b), .val (.int (2 : Int32)), .val (.int (1 : Int32)), .val (.int x1)] [(.int (1 : Int32))])) (fun tg kk => XS.iloadN X8.here hx rfl (hb hby own_d12_47) rfl kk) ?_
          obtain ⟨fs, hr, hrun, hended, hW, hsame⟩ := X8.leave (v := some (.int (1 : Int32))) (fun h => by rw [Bd.returns] at h; cases h)
          refine ⟨_, _, ?_, hrun, hended, _, _, rfl, ?_, ⟨_, rfl⟩, hW, hsame.mono (by decide) (by decide)⟩
          · exact own_retI X8 hx Bd.returns (hb hby own_d12_48) hr
          · show own_lw2_Q Z b kb x0 x1 aA oi h0 n0 _ T8.heap _
            rw [e8]
            exact ⟨(1 : Int32), rfl, N8, rfl, (by (simp only [true_and, and_true, false_and, and_false, or_false, false_or, or_true, true_or, not_true_eq_false, not_false_eq_true, eq_self, Int32.lt_iff_toInt_lt, Int32.le_iff_toInt_le, ← Int32.toInt_inj, Int32.reduceToInt, Int64.lt_iff_toInt_lt, Int64.le_iff_toInt_le, ← Int64.toInt_inj, Int64.reduceToInt] at hc3 hc5 hc6 hc11 hl0 hu0 hl1 hu1 nw po10 ⊢) <;> omega)⟩
        ·
          refine OwnGo.back (T8.setTop (mkF m 41 #[.val (.ref b), .val (.int (2 : Int32)), .val (.int (1 : Int32)), .val (.int x1)] [])) (fun tg kk => XS.ifYes X8.here hx rfl (pc0 := 35) (pc' := 41) rfl (hb hby own_d12_35) rfl ((if0 _ _).trans (feq hc11).2) (by decide) (by decide) kk) ?_
          refine OwnGo.back (T8.setTop (mkF m 44 #[.val (.ref b), .val (.int (2 : Int32)), .val (.int (2 : Int32)), .val (.int x1)] [])) (fun tg kk => XS.iinc X8.here hx rfl (hb hby own_d12_41) rfl (l' := #[.val (.ref b), .val (.int (2 : Int32)), .val (.int (2 : Int32)), .val (.int x1)]) rfl kk) ?_
          refine OwnGo.back (T8.setTop (mkF m 5 #[.val (.ref b), .val (.int (2 : Int32)), .val (.int (2 : Int32)), .val (.int x1)] [])) (fun tg kk => XS.goto X8.here hx rfl (pc0 := 44) (pc' := 5) rfl (hb hby own_d12_44) (by decide) (by decide) kk) ?_
          refine OwnGo.back (T8.setTop (mkF m 6 #[.val (.ref b), .val (.int (2 : Int32)), .val (.int (2 : Int32)), .val (.int x1)] [(.int (2 : Int32))])) (fun tg kk => XS.iloadN X8.here hx rfl (hb hby own_d12_5) rfl kk) ?_
          refine OwnGo.back (T8.setTop (mkF m 7 #[.val (.ref b), .val (.int (2 : Int32)), .val (.int (2 : Int32)), .val (.int x1)] [(.int (2 : Int32)), (.int (2 : Int32))])) (fun tg kk => XS.iloadN X8.here hx rfl (hb hby own_d12_6) rfl kk) ?_
          refine OwnGo.back (T8.setTop (mkF m 47 #[.val (.ref b), .val (.int (2 : Int32)), .val (.int (2 : Int32)), .val (.int x1)] [])) (fun tg kk => XS.icmpYes X8.here hx rfl (pc0 := 7) (pc' := 47) rfl (hb hby own_d12_7) rfl (flt (by decide : ¬ ((2 : Int32) < (2 : Int32)))).2.1 (by decide) (by decide) kk) ?_
          refine OwnGo.back (T8.setTop (mkF m 48 #[.val (.ref b), .val (.int (2 : Int32)), .val (.int (2 : Int32)), .val (.int x1)] [(.int (2 : Int32))])) (fun tg kk => XS.iloadN X8.here hx rfl (hb hby own_d12_47) rfl kk) ?_
          obtain ⟨fs, hr, hrun, hended, hW, hsame⟩ := X8.leave (v := some (.int (2 : Int32))) (fun h => by rw [Bd.returns] at h; cases h)
          refine ⟨_, _, ?_, hrun, hended, _, _, rfl, ?_, ⟨_, rfl⟩, hW, hsame.mono (by decide) (by decide)⟩
          · exact own_retI X8 hx Bd.returns (hb hby own_d12_48) hr
          · show own_lw2_Q Z b kb x0 x1 aA oi h0 n0 _ T8.heap _
            rw [e8]
            exact ⟨(2 : Int32), rfl, N8, rfl, (by (simp only [true_and, and_true, false_and, and_false, or_false, false_or, or_true, true_or, not_true_eq_false, not_false_eq_true, eq_self, Int32.lt_iff_toInt_lt, Int32.le_iff_toInt_le, ← Int32.toInt_inj, Int32.reduceToInt, Int64.lt_iff_toInt_lt, Int64.le_iff_toInt_le, ← Int64.toInt_inj, Int64.reduceToInt] at hc3 hc5 hc6 hc11 hl0 hu0 hl1 hu1 nw po10 ⊢) <;> omega)⟩
  ·
    refine OwnGo.back (T2.setTop (mkF m 22 #[.val (.ref b), .val (.int (2 : Int32)), .val (.int (0 : Int32)), .val (.int x0)] [])) (fun tg kk => XS.icmpNo X2.here hx rfl (hb hby own_d12_19) rfl (feq hc3).1 kk) ?_
    refine OwnGo.back (T2.setTop (mkF m 23 #[.val (.ref b), .val (.int (2 : Int32)), .val (.int (0 : Int32)), .val (.int x0)] [(.int x0)])) (fun tg kk => XS.iloadN X2.here hx rfl (hb hby own_d12_22) rfl kk) ?_
    refine OwnGo.back (T2.setTop (mkF m 25 #[.val (.ref b), .val (.int (2 : Int32)), .val (.int (0 : Int32)), .val (.int x0)] [(.int (9 : Int32)), (.int x0)])) (fun tg kk => XS.bipush X2.here hx rfl (hb hby own_d12_23) kk) ?_
    by_cases hc12 : x0 = (9 : Int32)
    ·
      refine OwnGo.back (T2.setTop (mkF m 41 #[.val (.ref b), .val (.int (2 : Int32)), .val (.int (0 : Int32)), .val (.int x0)] [])) (fun tg kk => XS.icmpYes X2.here hx rfl (pc0 := 25) (pc' := 41) rfl (hb hby own_d12_25) rfl (teq hc12).1 (by decide) (by decide) kk) ?_
      refine OwnGo.back (T2.setTop (mkF m 44 #[.val (.ref b), .val (.int (2 : Int32)), .val (.int (1 : Int32)), .val (.int x0)] [])) (fun tg kk => XS.iinc X2.here hx rfl (hb hby own_d12_41) rfl (l' := #[.val (.ref b), .val (.int (2 : Int32)), .val (.int (1 : Int32)), .val (.int x0)]) rfl kk) ?_
      refine OwnGo.back (T2.setTop (mkF m 5 #[.val (.ref b), .val (.int (2 : Int32)), .val (.int (1 : Int32)), .val (.int x0)] [])) (fun tg kk => XS.goto X2.here hx rfl (pc0 := 44) (pc' := 5) rfl (hb hby own_d12_44) (by decide) (by decide) kk) ?_
      refine OwnGo.back (T2.setTop (mkF m 6 #[.val (.ref b), .val (.int (2 : Int32)), .val (.int (1 : Int32)), .val (.int x0)] [(.int (1 : Int32))])) (fun tg kk => XS.iloadN X2.here hx rfl (hb hby own_d12_5) rfl kk) ?_
      refine OwnGo.back (T2.setTop (mkF m 7 #[.val (.ref b), .val (.int (2 : Int32)), .val (.int (1 : Int32)), .val (.int x0)] [(.int (2 : Int32)), (.int (1 : Int32))])) (fun tg kk => XS.iloadN X2.here hx rfl (hb hby own_d12_6) rfl kk) ?_
      refine OwnGo.back (T2.setTop (mkF m 10 #[.val (.ref b), .val (.int (2 : Int32)), .val (.int (1 : Int32)), .val (.int x0)] [])) (fun tg kk => XS.icmpNo X2.here hx rfl (hb hby own_d12_7) rfl (tlt (by decide : (1 : Int32) < (2 : Int32))).2.1 kk) ?_
      refine OwnGo.back (T2.setTop (mkF m 11 #[.val (.ref b), .val (.int (2 : Int32)), .val (.int (1 : Int32)), .val (.int x0)] [(.ref b)])) (fun tg kk => XS.aloadN X2.here hx rfl (hb hby own_d12_10) rfl rfl kk) ?_
      refine OwnGo.back (T2.setTop (mkF m 12 #[.val (.ref b), .val (.int (2 : Int32)), .val (.int (1 : Int32)), .val (.int x0)] [(.int (1 : Int32)), (.ref b)])) (fun tg kk => XS.iloadN X2.here hx rfl (hb hby own_d12_11) rfl kk) ?_
      obtain ⟨_, _, ⟨T13, L13, k13, n13⟩, -, X13, ⟨Lc13, hQ13, l13, y13, z13⟩, st13⟩ := Jvm.LawKit.callS X2 hx (y := (⟨"java/lang/StringLatin1", "getChar", "([BI)C"⟩ : MethodName)) hown (mvT hZ (hw _ (List.mem_of_getElem? (i := 60) rfl))) (mvT hZ (hw _ (List.mem_of_getElem? (i := 61) rfl))) (mvT hZ (hw _ (List.mem_of_getElem? (i := 58) rfl))) (mvT hZ (hw _ (List.mem_of_getElem? (i := 62) rfl))) (by decide) (backOf (W := 0) (own_gc21 l Z a0 hw [] b kb x0 x1 h0 n0 Z0 B hl0 hu0 hl1 hu1) hZ (hw _ (List.mem_of_getElem? (i := 62) rfl)) (hw _ (List.mem_of_getElem? (i := 58) rfl)) (by decide) (by decide)) (g := (mkF m 12 #[.val (.ref b), .val (.int (2 : Int32)), .val (.int (1 : Int32)), .val (.int x0)] [(.int (1 : Int32)), (.ref b)])) rfl (by rw [hml]; rfl) (argsL := [(.ref b), (.int (1 : Int32))]) (rest := []) (lenOf own_pd5 rfl) rfl (by show 2 * 0 + _ ≤ _; exact Nat.le_of_eq rfl) (hb hby own_d12_12) (fun _ _ => ⟨rfl, e2, (by decide : 0 + 0 ≤ _), (by decide : 0 + 0 ≤ _)⟩)
      dsimp only [Pt.U, Pt.locs, Pt.cells, Pt.slots] at X13 l13 y13 z13 st13 hQ13
      subst l13 y13 z13
      obtain ⟨rfl, N13q, e13⟩ := hQ13
      have N13 := Fr.app N2 N13q
      refine OwnGo.back (T13.setTop (mkF m 15 #[.val (.ref b), .val (.int (2 : Int32)), .val (.int (1 : Int32)), .val (.int x0)] [(.int x1)])) (fun tg kk => st13 _ kk) ?_
      refine OwnGo.back (T13.setTop (mkF m 16 #[.val (.ref b), .val (.int (2 : Int32)), .val (.int (1 : Int32)), .val (.int x1)] [])) (fun tg kk => XS.istoreN X13.here hx rfl (hb hby own_d12_15) rfl (l' := #[.val (.ref b), .val (.int (2 : Int32)), .val (.int (1 : Int32)), .val (.int x1)]) rfl kk) ?_
      refine OwnGo.back (T13.setTop (mkF m 17 #[.val (.ref b), .val (.int (2 : Int32)), .val (.int (1 : Int32)), .val (.int x1)] [(.int x1)])) (fun tg kk => XS.iloadN X13.here hx rfl (hb hby own_d12_16) rfl kk) ?_
      refine OwnGo.back (T13.setTop (mkF m 19 #[.val (.ref b), .val (.int (2 : Int32)), .val (.int (1 : Int32)), .val (.int x1)] [(.int (32 : Int32)), (.int x1)])) (fun tg kk => XS.bipush X13.here hx rfl (hb hby own_d12_17) kk) ?_
      by_cases hc14 : x1 = (32 : Int32)
      ·
        refine OwnGo.back (T13.setTop (mkF m 41 #[.val (.ref b), .val (.int (2 : Int32)), .val (.int (1 : Int32)), .val (.int x1)] [])) (fun tg kk => XS.icmpYes X13.here hx rfl (pc0 := 19) (pc' := 41) rfl (hb hby own_d12_19) rfl (teq hc14).1 (by decide) (by decide) kk) ?_
        refine OwnGo.back (T13.setTop (mkF m 44 #[.val (.ref b), .val (.int (2 : Int32)), .val (.int (2 : Int32)), .val (.int x1)] [])) (fun tg kk => XS.iinc X13.here hx rfl (hb hby own_d12_41) rfl (l' := #[.val (.ref b), .val (.int (2 : Int32)), .val (.int (2 : Int32)), .val (.int x1)]) rfl kk) ?_
        refine OwnGo.back (T13.setTop (mkF m 5 #[.val (.ref b), .val (.int (2 : Int32)), .val (.int (2 : Int32)), .val (.int x1)] [])) (fun tg kk => XS.goto X13.here hx rfl (pc0 := 44) (pc' := 5) rfl (hb hby own_d12_44) (by decide) (by decide) kk) ?_
        refine OwnGo.back (T13.setTop (mkF m 6 #[.val (.ref b), .val (.int (2 : Int32)), .val (.int (2 : Int32)), .val (.int x1)] [(.int (2 : Int32))])) (fun tg kk => XS.iloadN X13.here hx rfl (hb hby own_d12_5) rfl kk) ?_
        refine OwnGo.back (T13.setTop (mkF m 7 #[.val (.ref b), .val (.int (2 : Int32)), .val (.int (2 : Int32)), .val (.int x1)] [(.int (2 : Int32)), (.int (2 : Int32))])) (fun tg kk => XS.iloadN X13.here hx rfl (hb hby own_d12_6) rfl kk) ?_
        refine OwnGo.back (T13.setTop (mkF m 47 #[.val (.ref b), .val (.int (2 : Int32)), .val (.int (2 : Int32)), .val (.int x1)] [])) (fun tg kk => XS.icmpYes X13.here hx rfl (pc0 := 7) (pc' := 47) rfl (hb hby own_d12_7) rfl (flt (by decide : ¬ ((2 : Int32) < (2 : Int32)))).2.1 (by decide) (by decide) kk) ?_
        refine OwnGo.back (T13.setTop (mkF m 48 #[.val (.ref b), .val (.int (2 : Int32)), .val (.int (2 : Int32)), .val (.int x1)] [(.int (2 : Int32))])) (fun tg kk => XS.iloadN X13.here hx rfl (hb hby own_d12_47) rfl kk) ?_
        obtain ⟨fs, hr, hrun, hended, hW, hsame⟩ := X13.leave (v := some (.int (2 : Int32))) (fun h => by rw [Bd.returns] at h; cases h)
        refine ⟨_, _, ?_, hrun, hended, _, _, rfl, ?_, ⟨_, rfl⟩, hW, hsame.mono (by decide) (by decide)⟩
        · exact own_retI X13 hx Bd.returns (hb hby own_d12_48) hr
        · show own_lw2_Q Z b kb x0 x1 aA oi h0 n0 _ T13.heap _
          rw [e13]
          exact ⟨(2 : Int32), rfl, N13, rfl, (by (simp only [true_and, and_true, false_and, and_false, or_false, false_or, or_true, true_or, not_true_eq_false, not_false_eq_true, eq_self, Int32.lt_iff_toInt_lt, Int32.le_iff_toInt_le, ← Int32.toInt_inj, Int32.reduceToInt, Int64.lt_iff_toInt_lt, Int64.le_iff_toInt_le, ← Int64.toInt_inj, Int64.reduceToInt] at hc3 hc12 hc14 hl0 hu0 hl1 hu1 nw ⊢) <;> omega)⟩
      ·
        refine OwnGo.back (T13.setTop (mkF m 22 #[.val (.ref b), .val (.int (2 : Int32)), .val (.int (1 : Int32)), .val (.int x1)] [])) (fun tg kk => XS.icmpNo X13.here hx rfl (hb hby own_d12_19) rfl (feq hc14).1 kk) ?_
        refine OwnGo.back (T13.setTop (mkF m 23 #[.val (.ref b), .val (.int (2 : Int32)), .val (.int (1 : Int32)), .val (.int x1)] [(.int x1)])) (fun tg kk => XS.iloadN X13.here hx rfl (hb hby own_d12_22) rfl kk) ?_
        refine OwnGo.back (T13.setTop (mkF m 25 #[.val (.ref b), .val (.int (2 : Int32)), .val (.int (1 : Int32)), .val (.int x1)] [(.int (9 : Int32)), (.int x1)])) (fun tg kk => XS.bipush X13.here hx rfl (hb hby own_d12_23) kk) ?_
        by_cases hc15 : x1 = (9 : Int32)
        ·
          refine OwnGo.back (T13.setTop (mkF m 41 #[.val (.ref b), .val (.int (2 : Int32)), .val (.int (1 : Int32)), .val (.int x1)] [])) (fun tg kk => XS.icmpYes X13.here hx rfl (pc0 := 25) (pc' := 41) rfl (hb hby own_d12_25) rfl (teq hc15).1 (by decide) (by decide) kk) ?_
          refine OwnGo.back (T13.setTop (mkF m 44 #[.val (.ref b), .val (.int (2 : Int32)), .val (.int (2 : Int32)), .val (.int x1)] [])) (fun tg kk => XS.iinc X13.here hx rfl (hb hby own_d12_41) rfl (l' := #[.val (.ref b), .val (.int (2 : Int32)), .val (.int (2 : Int32)), .val (.int x1)]) rfl kk) ?_
          refine OwnGo.back (T13.setTop (mkF m 5 #[.val (.ref b), .val (.int (2 : Int32)), .val (.int (2 : Int32)), .val (.int x1)] [])) (fun tg kk => XS.goto X13.here hx rfl (pc0 := 44) (pc' := 5) rfl (hb hby own_d12_44) (by decide) (by decide) kk) ?_
          refine OwnGo.back (T13.setTop (mkF m 6 #[.val (.ref b), .val (.int (2 : Int32)), .val (.int (2 : Int32)), .val (.int x1)] [(.int (2 : Int32))])) (fun tg kk => XS.iloadN X13.here hx rfl (hb hby own_d12_5) rfl kk) ?_
          refine OwnGo.back (T13.setTop (mkF m 7 #[.val (.ref b), .val (.int (2 : Int32)), .val (.int (2 : Int32)), .val (.int x1)] [(.int (2 : Int32)), (.int (2 : Int32))])) (fun tg kk => XS.iloadN X13.here hx rfl (hb hby own_d12_6) rfl kk) ?_
          refine OwnGo.back (T13.setTop (mkF m 47 #[.val (.ref b), .val (.int (2 : Int32)), .val (.int (2 : Int32)), .val (.int x1)] [])) (fun tg kk => XS.icmpYes X13.here hx rfl (pc0 := 7) (pc' := 47) rfl (hb hby own_d12_7) rfl (flt (by decide : ¬ ((2 : Int32) < (2 : Int32)))).2.1 (by decide) (by decide) kk) ?_
          refine OwnGo.back (T13.setTop (mkF m 48 #[.val (.ref b), .val (.int (2 : Int32)), .val (.int (2 : Int32)), .val (.int x1)] [(.int (2 : Int32))])) (fun tg kk => XS.iloadN X13.here hx rfl (hb hby own_d12_47) rfl kk) ?_
          obtain ⟨fs, hr, hrun, hended, hW, hsame⟩ := X13.leave (v := some (.int (2 : Int32))) (fun h => by rw [Bd.returns] at h; cases h)
          refine ⟨_, _, ?_, hrun, hended, _, _, rfl, ?_, ⟨_, rfl⟩, hW, hsame.mono (by decide) (by decide)⟩
          · exact own_retI X13 hx Bd.returns (hb hby own_d12_48) hr
          · show own_lw2_Q Z b kb x0 x1 aA oi h0 n0 _ T13.heap _
            rw [e13]
            exact ⟨(2 : Int32), rfl, N13, rfl, (by (simp only [true_and, and_true, false_and, and_false, or_false, false_or, or_true, true_or, not_true_eq_false, not_false_eq_true, eq_self, Int32.lt_iff_toInt_lt, Int32.le_iff_toInt_le, ← Int32.toInt_inj, Int32.reduceToInt, Int64.lt_iff_toInt_lt, Int64.le_iff_toInt_le, ← Int64.toInt_inj, Int64.reduceToInt] at hc3 hc12 hc14 hc15 hl0 hu0 hl1 hu1 nw ⊢) <;> omega)⟩
        ·
          refine OwnGo.back (T13.setTop (mkF m 28 #[.val (.ref b), .val (.int (2 : Int32)), .val (.int (1 : Int32)), .val (.int x1)] [])) (fun tg kk => XS.icmpNo X13.here hx rfl (hb hby own_d12_25) rfl (feq hc15).1 kk) ?_
          obtain ⟨T16, X16, e16, st16⟩ := getS2 X13 hx hZ hown (host := "") (Or.inl (hw _ (List.mem_of_getElem? (i := 63) rfl))) Via.refl e13 (SN.ext old.2) (g := (mkF m 28 #[.val (.ref b), .val (.int (2 : Int32)), .val (.int (1 : Int32)), .val (.int x1)] [])) rfl (hb hby own_d12_28)
          refine OwnGo.back (T16.setTop (mkF m 31 #[.val (.ref b), .val (.int (2 : Int32)), .val (.int (1 : Int32)), .val (.int x1)] [(.ref oi)])) (fun tg kk => st16 _ kk) ?_
          refine OwnGo.back (T16.setTop (mkF m 32 #[.val (.ref b), .val (.int (2 : Int32)), .val (.int (1 : Int32)), .val (.int x1)] [(.int x1), (.ref oi)])) (fun tg kk => XS.iloadN X16.here hx rfl (hb hby own_d12_31) rfl kk) ?_
          obtain ⟨cq17, kq17, q17a, q17b, q17c⟩ := isOf hZ e16 Xi
          obtain ⟨_, _, ⟨T17, L17, k17, n17⟩, -, X17, ⟨Lc17, hQ17, l17, y17, z17⟩, st17⟩ := X16.virtualBack hx (y := (⟨"java/lang/CharacterDataLatin1", "isWhitespace", "(I)Z"⟩ : MethodName)) (z := (⟨"java/lang/CharacterDataLatin1", "isWhitespace", "(I)Z"⟩ : MethodName)) hown (mvT hZ (hw _ (List.mem_of_getElem? (i := 65) rfl))) (mvT hZ (hw _ (List.mem_of_getElem? (i := 66) rfl))) (notFace_of_selects (args := #[]) (mvT hZ (hw _ (List.mem_of_getElem? (i := 68) rfl)))) (mvT hZ (hw _ (List.mem_of_getElem? (i := 68) rfl))) (mvT hZ (hw _ (List.mem_of_getElem? (i := 67) rfl))) (by decide) (backOf (W := 0) (own_isw l Z a0 hw [] oi x1 aA h0 n0 Z0 Xi SA old hA hl1 hu1) hZ (hw _ (List.mem_of_getElem? (i := 69) rfl)) (hw _ (List.mem_of_getElem? (i := 64) rfl)) (by decide) (by decide)) q17a q17c (g := (mkF m 32 #[.val (.ref b), .val (.int (2 : Int32)), .val (.int (1 : Int32)), .val (.int x1)] [(.int x1), (.ref oi)])) rfl (by rw [hml]; rfl) (Steps.refl _) (argsL := [(.int x1)]) (rest := []) (lenOf own_pd6 rfl) rfl (by show 2 * 0 + _ ≤ _; exact Nat.le_of_eq rfl) (hb hby own_d12_32) (fun _ _ => ⟨rfl, e16, (by decide : 0 + 0 ≤ _), (by decide : 0 + 0 ≤ _)⟩)
          dsimp only [Pt.U, Pt.locs, Pt.cells, Pt.slots] at X17 l17 y17 z17 st17 hQ17
          subst l17 y17 z17
          obtain ⟨r_18, rfl, N17q, e17, po19⟩ := hQ17
          have N17 := Fr.app N13 N17q
          refine OwnGo.back (T17.setTop (mkF m 35 #[.val (.ref b), .val (.int (2 : Int32)), .val (.int (1 : Int32)), .val (.int x1)] [(.int r_18)])) (fun tg kk => st17.trans kk) ?_
          by_cases hc20 : r_18 = (0 : Int32)
          ·
            refine OwnGo.back (T17.setTop (mkF m 38 #[.val (.ref b), .val (.int (2 : Int32)), .val (.int (1 : Int32)), .val (.int x1)] [])) (fun tg kk => XS.ifNo X17.here hx rfl (hb hby own_d12_35) rfl ((if0 _ _).trans (teq hc20).2) kk) ?_
            refine OwnGo.back (T17.setTop (mkF m 47 #[.val (.ref b), .val (.int (2 : Int32)), .val (.int (1 : Int32)), .val (.int x1)] [])) (fun tg kk => XS.goto X17.here hx rfl (pc0 := 38) (pc' := 47) rfl (hb hby own_d12_38) (by decide) (by decide) kk) ?_
            refine OwnGo.back (T17.setTop (mkF m 48 #[.val (.ref b), .val (.int (2 : Int32)), .val (.int (1 : Int32)), .val (.int x1)] [(.int (1 : Int32))])) (fun tg kk => XS.iloadN X17.here hx rfl (hb hby own_d12_47) rfl kk) ?_
            obtain ⟨fs, hr, hrun, hended, hW, hsame⟩ := X17.leave (v := some (.int (1 : Int32))) (fun h => by rw [Bd.returns] at h; cases h)
            refine ⟨_, _, ?_, hrun, hended, _, _, rfl, ?_, ⟨_, rfl⟩, hW, hsame.mono (by decide) (by decide)⟩
            · exact own_retI X17 hx Bd.returns (hb hby own_d12_48) hr
            · show own_lw2_Q Z b kb x0 x1 aA oi h0 n0 _ T17.heap _
              rw [e17]
              exact ⟨(1 : Int32), rfl, N17, rfl, (by (simp only [true_and, and_true, false_and, and_false, or_false, false_or, or_true, true_or, not_true_eq_false, not_false_eq_true, eq_self, Int32.lt_iff_toInt_lt, Int32.le_iff_toInt_le, ← Int32.toInt_inj, Int32.reduceToInt, Int64.lt_iff_toInt_lt, Int64.le_iff_toInt_le, ← Int64.toInt_inj, Int64.reduceToInt] at hc3 hc12 hc14 hc15 hc20 hl0 hu0 hl1 hu1 nw po19 ⊢) <;> omega)⟩
          ·
            refine OwnGo.back (T17.setTop (mkF m 41 #[.val (.ref b), .val (.int (2 : Int32)), .val (.int (1 : Int32)), .val (.int x1)] [])) (fun tg kk => XS.ifYes X17.here hx rfl (pc0 := 35) (pc' := 41) rfl (hb hby own_d12_35) rfl ((if0 _ _).trans (feq hc20).2) (by decide) (by decide) kk) ?_
            refine OwnGo.back (T17.setTop (mkF m 44 #[.val (.ref b), .val (.int (2 : Int32)), .val (.int (2 : Int32)), .val (.int x1)] [])) (fun tg kk => XS.iinc X17.here hx rfl (hb hby own_d12_41) rfl (l' := #[.val (.ref b), .val (.int (2 : Int32)), .val (.int (2 : Int32)), .val (.int x1)]) rfl kk) ?_
            refine OwnGo.back (T17.setTop (mkF m 5 #[.val (.ref b), .val (.int (2 : Int32)), .val (.int (2 : Int32)), .val (.int x1)] [])) (fun tg kk => XS.goto X17.here hx rfl (pc0 := 44) (pc' := 5) rfl (hb hby own_d12_44) (by decide) (by decide) kk) ?_
            refine OwnGo.back (T17.setTop (mkF m 6 #[.val (.ref b), .val (.int (2 : Int32)), .val (.int (2 : Int32)), .val (.int x1)] [(.int (2 : Int32))])) (fun tg kk => XS.iloadN X17.here hx rfl (hb hby own_d12_5) rfl kk) ?_
            refine OwnGo.back (T17.setTop (mkF m 7 #[.val (.ref b), .val (.int (2 : Int32)), .val (.int (2 : Int32)), .val (.int x1)] [(.int (2 : Int32)), (.int (2 : Int32))])) (fun tg kk => XS.iloadN X17.here hx rfl (hb hby own_d12_6) rfl kk) ?_
            refine OwnGo.back (T17.setTop (mkF m 47 #[.val (.ref b), .val (.int (2 : Int32)), .val (.int (2 : Int32)), .val (.int x1)] [])) (fun tg kk => XS.icmpYes X17.here hx rfl (pc0 := 7) (pc' := 47) rfl (hb hby own_d12_7) rfl (flt (by decide : ¬ ((2 : Int32) < (2 : Int32)))).2.1 (by decide) (by decide) kk) ?_
            refine OwnGo.back (T17.setTop (mkF m 48 #[.val (.ref b), .val (.int (2 : Int32)), .val (.int (2 : Int32)), .val (.int x1)] [(.int (2 : Int32))])) (fun tg kk => XS.iloadN X17.here hx rfl (hb hby own_d12_47) rfl kk) ?_
            obtain ⟨fs, hr, hrun, hended, hW, hsame⟩ := X17.leave (v := some (.int (2 : Int32))) (fun h => by rw [Bd.returns] at h; cases h)
            refine ⟨_, _, ?_, hrun, hended, _, _, rfl, ?_, ⟨_, rfl⟩, hW, hsame.mono (by decide) (by decide)⟩
            · exact own_retI X17 hx Bd.returns (hb hby own_d12_48) hr
            · show own_lw2_Q Z b kb x0 x1 aA oi h0 n0 _ T17.heap _
              rw [e17]
              exact ⟨(2 : Int32), rfl, N17, rfl, (by (simp only [true_and, and_true, false_and, and_false, or_false, false_or, or_true, true_or, not_true_eq_false, not_false_eq_true, eq_self, Int32.lt_iff_toInt_lt, Int32.le_iff_toInt_le, ← Int32.toInt_inj, Int32.reduceToInt, Int64.lt_iff_toInt_lt, Int64.le_iff_toInt_le, ← Int64.toInt_inj, Int64.reduceToInt] at hc3 hc12 hc14 hc15 hc20 hl0 hu0 hl1 hu1 nw po19 ⊢) <;> omega)⟩
    ·
      refine OwnGo.back (T2.setTop (mkF m 28 #[.val (.ref b), .val (.int (2 : Int32)), .val (.int (0 : Int32)), .val (.int x0)] [])) (fun tg kk => XS.icmpNo X2.here hx rfl (hb hby own_d12_25) rfl (feq hc12).1 kk) ?_
      obtain ⟨T21, X21, e21, st21⟩ := getS2 X2 hx hZ hown (host := "") (Or.inl (hw _ (List.mem_of_getElem? (i := 63) rfl))) Via.refl e2 (SN.ext old.2) (g := (mkF m 28 #[.val (.ref b), .val (.int (2 : Int32)), .val (.int (0 : Int32)), .val (.int x0)] [])) rfl (hb hby own_d12_28)
      refine OwnGo.back (T21.setTop (mkF m 31 #[.val (.ref b), .val (.int (2 : Int32)), .val (.int (0 : Int32)), .val (.int x0)] [(.ref oi)])) (fun tg kk => st21 _ kk) ?_
      refine OwnGo.back (T21.setTop (mkF m 32 #[.val (.ref b), .val (.int (2 : Int32)), .val (.int (0 : Int32)), .val (.int x0)] [(.int x0), (.ref oi)])) (fun tg kk => XS.iloadN X21.here hx rfl (hb hby own_d12_31) rfl kk) ?_
      obtain ⟨cq22, kq22, q22a, q22b, q22c⟩ := isOf hZ e21 Xi
      obtain ⟨_, _, ⟨T22, L22, k22, n22⟩, -, X22, ⟨Lc22, hQ22, l22, y22, z22⟩, st22⟩ := X21.virtualBack hx (y := (⟨"java/lang/CharacterDataLatin1", "isWhitespace", "(I)Z"⟩ : MethodName)) (z := (⟨"java/lang/CharacterDataLatin1", "isWhitespace", "(I)Z"⟩ : MethodName)) hown (mvT hZ (hw _ (List.mem_of_getElem? (i := 65) rfl))) (mvT hZ (hw _ (List.mem_of_getElem? (i := 66) rfl))) (notFace_of_selects (args := #[]) (mvT hZ (hw _ (List.mem_of_getElem? (i := 68) rfl)))) (mvT hZ (hw _ (List.mem_of_getElem? (i := 68) rfl))) (mvT hZ (hw _ (List.mem_of_getElem? (i := 67) rfl))) (by decide) (backOf (W := 0) (own_isw l Z a0 hw [] oi x0 aA h0 n0 Z0 Xi SA old hA hl0 hu0) hZ (hw _ (List.mem_of_getElem? (i := 69) rfl)) (hw _ (List.mem_of_getElem? (i := 64) rfl)) (by decide) (by decide)) q22a q22c (g := (mkF m 32 #[.val (.ref b), .val (.int (2 : Int32)), .val (.int (0 : Int32)), .val (.int x0)] [(.int x0), (.ref oi)])) rfl (by rw [hml]; rfl) (Steps.refl _) (argsL := [(.int x0)]) (rest := []) (lenOf own_pd6 rfl) rfl (by show 2 * 0 + _ ≤ _; exact Nat.le_of_eq rfl) (hb hby own_d12_32) (fun _ _ => ⟨rfl, e21, (by decide : 0 + 0 ≤ _), (by decide : 0 + 0 ≤ _)⟩)
      dsimp only [Pt.U, Pt.locs, Pt.cells, Pt.slots] at X22 l22 y22 z22 st22 hQ22
      subst l22 y22 z22
      obtain ⟨r_23, rfl, N22q, e22, po24⟩ := hQ22
      have N22 := Fr.app N2 N22q
      refine OwnGo.back (T22.setTop (mkF m 35 #[.val (.ref b), .val (.int (2 : Int32)), .val (.int (0 : Int32)), .val (.int x0)] [(.int r_23)])) (fun tg kk => st22.trans kk) ?_
      by_cases hc25 : r_23 = (0 : Int32)
      ·
        refine OwnGo.back (T22.setTop (mkF m 38 #[.val (.ref b), .val (.int (2 : Int32)), .val (.int (0 : Int32)), .val (.int x0)] [])) (fun tg kk => XS.ifNo X22.here hx rfl (hb hby own_d12_35) rfl ((if0 _ _).trans (teq hc25).2) kk) ?_
        refine OwnGo.back (T22.setTop (mkF m 47 #[.val (.ref b), .val (.int (2 : Int32)), .val (.int (0 : Int32)), .val (.int x0)] [])) (fun tg kk => XS.goto X22.here hx rfl (pc0 := 38) (pc' := 47) rfl (hb hby own_d12_38) (by decide) (by decide) kk) ?_
        refine OwnGo.back (T22.setTop (mkF m 48 #[.val (.ref b), .val (.int (2 : Int32)), .val (.int (0 : Int32)), .val (.int x0)] [(.int (0 : Int32))])) (fun tg kk => XS.iloadN X22.here hx rfl (hb hby own_d12_47) rfl kk) ?_
        obtain ⟨fs, hr, hrun, hended, hW, hsame⟩ := X22.leave (v := some (.int (0 : Int32))) (fun h => by rw [Bd.returns] at h; cases h)
        refine ⟨_, _, ?_, hrun, hended, _, _, rfl, ?_, ⟨_, rfl⟩, hW, hsame.mono (by decide) (by decide)⟩
        · exact own_retI X22 hx Bd.returns (hb hby own_d12_48) hr
        · show own_lw2_Q Z b kb x0 x1 aA oi h0 n0 _ T22.heap _
          rw [e22]
          exact ⟨(0 : Int32), rfl, N22, rfl, (by (simp only [true_and, and_true, false_and, and_false, or_false, false_or, or_true, true_or, not_true_eq_false, not_false_eq_true, eq_self, Int32.lt_iff_toInt_lt, Int32.le_iff_toInt_le, ← Int32.toInt_inj, Int32.reduceToInt, Int64.lt_iff_toInt_lt, Int64.le_iff_toInt_le, ← Int64.toInt_inj, Int64.reduceToInt] at hc3 hc12 hc25 hl0 hu0 hl1 hu1 nw po24 ⊢) <;> omega)⟩
      ·
        refine OwnGo.back (T22.setTop (mkF m 41 #[.val (.ref b), .val (.int (2 : Int32)), .val (.int (0 : Int32)), .val (.int x0)] [])) (fun tg kk => XS.ifYes X22.here hx rfl (pc0 := 35) (pc' := 41) rfl (hb hby own_d12_35) rfl ((if0 _ _).trans (feq hc25).2) (by decide) (by decide) kk) ?_
        refine OwnGo.back (T22.setTop (mkF m 44 #[.val (.ref b), .val (.int (2 : Int32)), .val (.int (1 : Int32)), .val (.int x0)] [])) (fun tg kk => XS.iinc X22.here hx rfl (hb hby own_d12_41) rfl (l' := #[.val (.ref b), .val (.int (2 : Int32)), .val (.int (1 : Int32)), .val (.int x0)]) rfl kk) ?_
        refine OwnGo.back (T22.setTop (mkF m 5 #[.val (.ref b), .val (.int (2 : Int32)), .val (.int (1 : Int32)), .val (.int x0)] [])) (fun tg kk => XS.goto X22.here hx rfl (pc0 := 44) (pc' := 5) rfl (hb hby own_d12_44) (by decide) (by decide) kk) ?_
        refine OwnGo.back (T22.setTop (mkF m 6 #[.val (.ref b), .val (.int (2 : Int32)), .val (.int (1 : Int32)), .val (.int x0)] [(.int (1 : Int32))])) (fun tg kk => XS.iloadN X22.here hx rfl (hb hby own_d12_5) rfl kk) ?_
        refine OwnGo.back (T22.setTop (mkF m 7 #[.val (.ref b), .val (.int (2 : Int32)), .val (.int (1 : Int32)), .val (.int x0)] [(.int (2 : Int32)), (.int (1 : Int32))])) (fun tg kk => XS.iloadN X22.here hx rfl (hb hby own_d12_6) rfl kk) ?_
        refine OwnGo.back (T22.setTop (mkF m 10 #[.val (.ref b), .val (.int (2 : Int32)), .val (.int (1 : Int32)), .val (.int x0)] [])) (fun tg kk => XS.icmpNo X22.here hx rfl (hb hby own_d12_7) rfl (tlt (by decide : (1 : Int32) < (2 : Int32))).2.1 kk) ?_
        refine OwnGo.back (T22.setTop (mkF m 11 #[.val (.ref b), .val (.int (2 : Int32)), .val (.int (1 : Int32)), .val (.int x0)] [(.ref b)])) (fun tg kk => XS.aloadN X22.here hx rfl (hb hby own_d12_10) rfl rfl kk) ?_
        refine OwnGo.back (T22.setTop (mkF m 12 #[.val (.ref b), .val (.int (2 : Int32)), .val (.int (1 : Int32)), .val (.int x0)] [(.int (1 : Int32)), (.ref b)])) (fun tg kk => XS.iloadN X22.here hx rfl (hb hby own_d12_11) rfl kk) ?_
        obtain ⟨_, _, ⟨T26, L26, k26, n26⟩, -, X26, ⟨Lc26, hQ26, l26, y26, z26⟩, st26⟩ := Jvm.LawKit.callS X22 hx (y := (⟨"java/lang/StringLatin1", "getChar", "([BI)C"⟩ : MethodName)) hown (mvT hZ (hw _ (List.mem_of_getElem? (i := 60) rfl))) (mvT hZ (hw _ (List.mem_of_getElem? (i := 61) rfl))) (mvT hZ (hw _ (List.mem_of_getElem? (i := 58) rfl))) (mvT hZ (hw _ (List.mem_of_getElem? (i := 62) rfl))) (by decide) (backOf (W := 0) (own_gc21 l Z a0 hw [] b kb x0 x1 h0 n0 Z0 B hl0 hu0 hl1 hu1) hZ (hw _ (List.mem_of_getElem? (i := 62) rfl)) (hw _ (List.mem_of_getElem? (i := 58) rfl)) (by decide) (by decide)) (g := (mkF m 12 #[.val (.ref b), .val (.int (2 : Int32)), .val (.int (1 : Int32)), .val (.int x0)] [(.int (1 : Int32)), (.ref b)])) rfl (by rw [hml]; rfl) (argsL := [(.ref b), (.int (1 : Int32))]) (rest := []) (lenOf own_pd5 rfl) rfl (by show 2 * 0 + _ ≤ _; exact Nat.le_of_eq rfl) (hb hby own_d12_12) (fun _ _ => ⟨rfl, e22, (by decide : 0 + 0 ≤ _), (by decide : 0 + 0 ≤ _)⟩)
        dsimp only [Pt.U, Pt.locs, Pt.cells, Pt.slots] at X26 l26 y26 z26 st26 hQ26
        subst l26 y26 z26
        obtain ⟨rfl, N26q, e26⟩ := hQ26
        have N26 := Fr.app N22 N26q
        refine OwnGo.back (T26.setTop (mkF m 15 #[.val (.ref b), .val (.int (2 : Int32)), .val (.int (1 : Int32)), .val (.int x0)] [(.int x1)])) (fun tg kk => st26 _ kk) ?_
        refine OwnGo.back (T26.setTop (mkF m 16 #[.val (.ref b), .val (.int (2 : Int32)), .val (.int (1 : Int32)), .val (.int x1)] [])) (fun tg kk => XS.istoreN X26.here hx rfl (hb hby own_d12_15) rfl (l' := #[.val (.ref b), .val (.int (2 : Int32)), .val (.int (1 : Int32)), .val (.int x1)]) rfl kk) ?_
        refine OwnGo.back (T26.setTop (mkF m 17 #[.val (.ref b), .val (.int (2 : Int32)), .val (.int (1 : Int32)), .val (.int x1)] [(.int x1)])) (fun tg kk => XS.iloadN X26.here hx rfl (hb hby own_d12_16) rfl kk) ?_
        refine OwnGo.back (T26.setTop (mkF m 19 #[.val (.ref b), .val (.int (2 : Int32)), .val (.int (1 : Int32)), .val (.int x1)] [(.int (32 : Int32)), (.int x1)])) (fun tg kk => XS.bipush X26.here hx rfl (hb hby own_d12_17) kk) ?_
        by_cases hc27 : x1 = (32 : Int32)
        ·
          refine OwnGo.back (T26.setTop (mkF m 41 #[.val (.ref b), .val (.int (2 : Int32)), .val (.int (1 : Int32)), .val (.int x1)] [])) (fun tg kk => XS.icmpYes X26.here hx rfl (pc0 := 19) (pc' := 41) rfl (hb hby own_d12_19) rfl (teq hc27).1 (by decide) (by decide) kk) ?_
          refine OwnGo.back (T26.setTop (mkF m 44 #[.val (.ref b), .val (.int (2 : Int32)), .val (.int (2 : Int32)), .val (.int x1)] [])) (fun tg kk => XS.iinc X26.here hx rfl (hb hby own_d12_41) rfl (l' := #[.val (.ref b), .val (.int (2 : Int32)), .val (.int (2 : Int32)), .val (.int x1)]) rfl kk) ?_
          refine OwnGo.back (T26.setTop (mkF m 5 #[.val (.ref b), .val (.int (2 : Int32)), .val (.int (2 : Int32)), .val (.int x1)] [])) (fun tg kk => XS.goto X26.here hx rfl (pc0 := 44) (pc' := 5) rfl (hb hby own_d12_44) (by decide) (by decide) kk) ?_
          refine OwnGo.back (T26.setTop (mkF m 6 #[.val (.ref b), .val (.int (2 : Int32)), .val (.int (2 : Int32)), .val (.int x1)] [(.int (2 : Int32))])) (fun tg kk => XS.iloadN X26.here hx rfl (hb hby own_d12_5) rfl kk) ?_
          refine OwnGo.back (T26.setTop (mkF m 7 #[.val (.ref b), .val (.int (2 : Int32)), .val (.int (2 : Int32)), .val (.int x1)] [(.int (2 : Int32)), (.int (2 : Int32))])) (fun tg kk => XS.iloadN X26.here hx rfl (hb hby own_d12_6) rfl kk) ?_
          refine OwnGo.back (T26.setTop (mkF m 47 #[.val (.ref b), .val (.int (2 : Int32)), .val (.int (2 : Int32)), .val (.int x1)] [])) (fun tg kk => XS.icmpYes X26.here hx rfl (pc0 := 7) (pc' := 47) rfl (hb hby own_d12_7) rfl (flt (by decide : ¬ ((2 : Int32) < (2 : Int32)))).2.1 (by decide) (by decide) kk) ?_
          refine OwnGo.back (T26.setTop (mkF m 48 #[.val (.ref b), .val (.int (2 : Int32)), .val (.int (2 : Int32)), .val (.int x1)] [(.int (2 : Int32))])) (fun tg kk => XS.iloadN X26.here hx rfl (hb hby own_d12_47) rfl kk) ?_
          obtain ⟨fs, hr, hrun, hended, hW, hsame⟩ := X26.leave (v := some (.int (2 : Int32))) (fun h => by rw [Bd.returns] at h; cases h)
          refine ⟨_, _, ?_, hrun, hended, _, _, rfl, ?_, ⟨_, rfl⟩, hW, hsame.mono (by decide) (by decide)⟩
          · exact own_retI X26 hx Bd.returns (hb hby own_d12_48) hr
          · show own_lw2_Q Z b kb x0 x1 aA oi h0 n0 _ T26.heap _
            rw [e26]
            exact ⟨(2 : Int32), rfl, N26, rfl, (by (simp only [true_and, and_true, false_and, and_false, or_false, false_or, or_true, true_or, not_true_eq_false, not_false_eq_true, eq_self, Int32.lt_iff_toInt_lt, Int32.le_iff_toInt_le, ← Int32.toInt_inj, Int32.reduceToInt, Int64.lt_iff_toInt_lt, Int64.le_iff_toInt_le, ← Int64.toInt_inj, Int64.reduceToInt] at hc3 hc12 hc25 hc27 hl0 hu0 hl1 hu1 nw po24 ⊢) <;> omega)⟩
        ·
          refine OwnGo.back (T26.setTop (mkF m 22 #[.val (.ref b), .val (.int (2 : Int32)), .val (.int (1 : Int32)), .val (.int x1)] [])) (fun tg kk => XS.icmpNo X26.here hx rfl (hb hby own_d12_19) rfl (feq hc27).1 kk) ?_
          refine OwnGo.back (T26.setTop (mkF m 23 #[.val (.ref b), .val (.int (2 : Int32)), .val (.int (1 : Int32)), .val (.int x1)] [(.int x1)])) (fun tg kk => XS.iloadN X26.here hx rfl (hb hby own_d12_22) rfl kk) ?_
          refine OwnGo.back (T26.setTop (mkF m 25 #[.val (.ref b), .val (.int (2 : Int32)), .val (.int (1 : Int32)), .val (.int x1)] [(.int (9 : Int32)), (.int x1)])) (fun tg kk => XS.bipush X26.here hx rfl (hb hby own_d12_23) kk) ?_
          by_cases hc28 : x1 = (9 : Int32)
          ·
            refine OwnGo.back (T26.setTop (mkF m 41 #[.val (.ref b), .val (.int (2 : Int32)), .val (.int (1 : Int32)), .val (.int x1)] [])) (fun tg kk => XS.icmpYes X26.here hx rfl (pc0 := 25) (pc' := 41) rfl (hb hby own_d12_25) rfl (teq hc28).1 (by decide) (by decide) kk) ?_
            refine OwnGo.back (T26.setTop (mkF m 44 #[.val (.ref b), .val (.int (2 : Int32)), .val (.int (2 : Int32)), .val (.int x1)] [])) (fun tg kk => XS.iinc X26.here hx rfl (hb hby own_d12_41) rfl (l' := #[.val (.ref b), .val (.int (2 : Int32)), .val (.int (2 : Int32)), .val (.int x1)]) rfl kk) ?_
            refine OwnGo.back (T26.setTop (mkF m 5 #[.val (.ref b), .val (.int (2 : Int32)), .val (.int (2 : Int32)), .val (.int x1)] [])) (fun tg kk => XS.goto X26.here hx rfl (pc0 := 44) (pc' := 5) rfl (hb hby own_d12_44) (by decide) (by decide) kk) ?_
            refine OwnGo.back (T26.setTop (mkF m 6 #[.val (.ref b), .val (.int (2 : Int32)), .val (.int (2 : Int32)), .val (.int x1)] [(.int (2 : Int32))])) (fun tg kk => XS.iloadN X26.here hx rfl (hb hby own_d12_5) rfl kk) ?_
            refine OwnGo.back (T26.setTop (mkF m 7 #[.val (.ref b), .val (.int (2 : Int32)), .val (.int (2 : Int32)), .val (.int x1)] [(.int (2 : Int32)), (.int (2 : Int32))])) (fun tg kk => XS.iloadN X26.here hx rfl (hb hby own_d12_6) rfl kk) ?_
            refine OwnGo.back (T26.setTop (mkF m 47 #[.val (.ref b), .val (.int (2 : Int32)), .val (.int (2 : Int32)), .val (.int x1)] [])) (fun tg kk => XS.icmpYes X26.here hx rfl (pc0 := 7) (pc' := 47) rfl (hb hby own_d12_7) rfl (flt (by decide : ¬ ((2 : Int32) < (2 : Int32)))).2.1 (by decide) (by decide) kk) ?_
            refine OwnGo.back (T26.setTop (mkF m 48 #[.val (.ref b), .val (.int (2 : Int32)), .val (.int (2 : Int32)), .val (.int x1)] [(.int (2 : Int32))])) (fun tg kk => XS.iloadN X26.here hx rfl (hb hby own_d12_47) rfl kk) ?_
            obtain ⟨fs, hr, hrun, hended, hW, hsame⟩ := X26.leave (v := some (.int (2 : Int32))) (fun h => by rw [Bd.returns] at h; cases h)
            refine ⟨_, _, ?_, hrun, hended, _, _, rfl, ?_, ⟨_, rfl⟩, hW, hsame.mono (by decide) (by decide)⟩
            · exact own_retI X26 hx Bd.returns (hb hby own_d12_48) hr
            · show own_lw2_Q Z b kb x0 x1 aA oi h0 n0 _ T26.heap _
              rw [e26]
              exact ⟨(2 : Int32), rfl, N26, rfl, (by (simp only [true_and, and_true, false_and, and_false, or_false, false_or, or_true, true_or, not_true_eq_false, not_false_eq_true, eq_self, Int32.lt_iff_toInt_lt, Int32.le_iff_toInt_le, ← Int32.toInt_inj, Int32.reduceToInt, Int64.lt_iff_toInt_lt, Int64.le_iff_toInt_le, ← Int64.toInt_inj, Int64.reduceToInt] at hc3 hc12 hc25 hc27 hc28 hl0 hu0 hl1 hu1 nw po24 ⊢) <;> omega)⟩
          ·
            refine OwnGo.back (T26.setTop (mkF m 28 #[.val (.ref b), .val (.int (2 : Int32)), .val (.int (1 : Int32)), .val (.int x1)] [])) (fun tg kk => XS.icmpNo X26.here hx rfl (hb hby own_d12_25) rfl (feq hc28).1 kk) ?_
            obtain ⟨T29, X29, e29, st29⟩ := getS2 X26 hx hZ hown (host := "") (Or.inl (hw _ (List.mem_of_getElem? (i := 63) rfl))) Via.refl e26 (SN.ext old.2) (g := (mkF m 28 #[.val (.ref b), .val (.int (2 : Int32)), .val (.int (1 : Int32)), .val (.int x1)] [])) rfl (hb hby own_d12_28)
            refine OwnGo.back (T29.setTop (mkF m 31 #[.val (.ref b), .val (.int (2 : Int32)), .val (.int (1 : Int32)), .val (.int x1)] [(.ref oi)])) (fun tg kk => st29 _ kk) ?_
            refine OwnGo.back (T29.setTop (mkF m 32 #[.val (.ref b), .val (.int (2 : Int32)), .val (.int (1 : Int32)), .val (.int x1)] [(.int x1), (.ref oi)])) (fun tg kk => XS.iloadN X29.here hx rfl (hb hby own_d12_31) rfl kk) ?_
            obtain ⟨cq30, kq30, q30a, q30b, q30c⟩ := isOf hZ e29 Xi
            obtain ⟨_, _, ⟨T30, L30, k30, n30⟩, -, X30, ⟨Lc30, hQ30, l30, y30, z30⟩, st30⟩ := X29.virtualBack hx (y := (⟨"java/lang/CharacterDataLatin1", "isWhitespace", "(I)Z"⟩ : MethodName)) (z := (⟨"java/lang/CharacterDataLatin1", "isWhitespace", "(I)Z"⟩ : MethodName)) hown (mvT hZ (hw _ (List.mem_of_getElem? (i := 65) rfl))) (mvT hZ (hw _ (List.mem_of_getElem? (i := 66) rfl))) (notFace_of_selects (args := #[]) (mvT hZ (hw _ (List.mem_of_getElem? (i := 68) rfl)))) (mvT hZ (hw _ (List.mem_of_getElem? (i := 68) rfl))) (mvT hZ (hw _ (List.mem_of_getElem? (i := 67) rfl))) (by decide) (backOf (W := 0) (own_isw l Z a0 hw [] oi x1 aA h0 n0 Z0 Xi SA old hA hl1 hu1) hZ (hw _ (List.mem_of_getElem? (i := 69) rfl)) (hw _ (List.mem_of_getElem? (i := 64) rfl)) (by decide) (by decide)) q30a q30c (g := (mkF m 32 #[.val (.ref b), .val (.int (2 : Int32)), .val (.int (1 : Int32)), .val (.int x1)] [(.int x1), (.ref oi)])) rfl (by rw [hml]; rfl) (Steps.refl _) (argsL := [(.int x1)]) (rest := []) (lenOf own_pd6 rfl) rfl (by show 2 * 0 + _ ≤ _; exact Nat.le_of_eq rfl) (hb hby own_d12_32) (fun _ _ => ⟨rfl, e29, (by decide : 0 + 0 ≤ _), (by decide : 0 + 0 ≤ _)⟩)
            dsimp only [Pt.U, Pt.locs, Pt.cells, Pt.slots] at X30 l30 y30 z30 st30 hQ30
            subst l30 y30 z30
            obtain ⟨r_31, rfl, N30q, e30, po32⟩ := hQ30
            have N30 := Fr.app N26 N30q
            refine OwnGo.back (T30.setTop (mkF m 35 #[.val (.ref b), .val (.int (2 : Int32)), .val (.int (1 : Int32)), .val (.int x1)] [(.int r_31)])) (fun tg kk => st30.trans kk) ?_
            by_cases hc33 : r_31 = (0 : Int32)
            ·
              refine OwnGo.back (T30.setTop (mkF m 38 #[.val (.ref b), .val (.int (2 : Int32)), .val (.int (1 : Int32)), .val (.int x1)] [])) (fun tg kk => XS.ifNo X30.here hx rfl (hb hby own_d12_35) rfl ((if0 _ _).trans (teq hc33).2) kk) ?_
              refine OwnGo.back (T30.setTop (mkF m 47 #[.val (.ref b), .val (.int (2 : Int32)), .val (.int (1 : Int32)), .val (.int x1)] [])) (fun tg kk => XS.goto X30.here hx rfl (pc0 := 38) (pc' := 47) rfl (hb hby own_d12_38) (by decide) (by decide) kk) ?_
              refine OwnGo.back (T30.setTop (mkF m 48 #[.val (.ref b), .val (.int (2 : Int32)), .val (.int (1 : Int32)), .val (.int x1)] [(.int (1 : Int32))])) (fun tg kk => XS.iloadN X30.here hx rfl (hb hby own_d12_47) rfl kk) ?_
              obtain ⟨fs, hr, hrun, hended, hW, hsame⟩ := X30.leave (v := some (.int (1 : Int32))) (fun h => by rw [Bd.returns] at h; cases h)
              refine ⟨_, _, ?_, hrun, hended, _, _, rfl, ?_, ⟨_, rfl⟩, hW, hsame.mono (by decide) (by decide)⟩
              · exact own_retI X30 hx Bd.returns (hb hby own_d12_48) hr
              · show own_lw2_Q Z b kb x0 x1 aA oi h0 n0 _ T30.heap _
                rw [e30]
                exact ⟨(1 : Int32), rfl, N30, rfl, (by (simp only [true_and, and_true, false_and, and_false, or_false, false_or, or_true, true_or, not_true_eq_false, not_false_eq_true, eq_self, Int32.lt_iff_toInt_lt, Int32.le_iff_toInt_le, ← Int32.toInt_inj, Int32.reduceToInt, Int64.lt_iff_toInt_lt, Int64.le_iff_toInt_le, ← Int64.toInt_inj, Int64.reduceToInt] at hc3 hc12 hc25 hc27 hc28 hc33 hl0 hu0 hl1 hu1 nw po24 po32 ⊢) <;> omega)⟩
            ·
              refine OwnGo.back (T30.setTop (mkF m 41 #[.val (.ref b), .val (.int (2 : Int32)), .val (.int (1 : Int32)), .val (.int x1)] [])) (fun tg kk => XS.ifYes X30.here hx rfl (pc0 := 35) (pc' := 41) rfl (hb hby own_d12_35) rfl ((if0 _ _).trans (feq hc33).2) (by decide) (by decide) kk) ?_
              refine OwnGo.back (T30.setTop (mkF m 44 #[.val (.ref b), .val (.int (2 : Int32)), .val (.int (2 : Int32)), .val (.int x1)] [])) (fun tg kk => XS.iinc X30.here hx rfl (hb hby own_d12_41) rfl (l' := #[.val (.ref b), .val (.int (2 : Int32)), .val (.int (2 : Int32)), .val (.int x1)]) rfl kk) ?_
              refine OwnGo.back (T30.setTop (mkF m 5 #[.val (.ref b), .val (.int (2 : Int32)), .val (.int (2 : Int32)), .val (.int x1)] [])) (fun tg kk => XS.goto X30.here hx rfl (pc0 := 44) (pc' := 5) rfl (hb hby own_d12_44) (by decide) (by decide) kk) ?_
              refine OwnGo.back (T30.setTop (mkF m 6 #[.val (.ref b), .val (.int (2 : Int32)), .val (.int (2 : Int32)), .val (.int x1)] [(.int (2 : Int32))])) (fun tg kk => XS.iloadN X30.here hx rfl (hb hby own_d12_5) rfl kk) ?_
              refine OwnGo.back (T30.setTop (mkF m 7 #[.val (.ref b), .val (.int (2 : Int32)), .val (.int (2 : Int32)), .val (.int x1)] [(.int (2 : Int32)), (.int (2 : Int32))])) (fun tg kk => XS.iloadN X30.here hx rfl (hb hby own_d12_6) rfl kk) ?_
              refine OwnGo.back (T30.setTop (mkF m 47 #[.val (.ref b), .val (.int (2 : Int32)), .val (.int (2 : Int32)), .val (.int x1)] [])) (fun tg kk => XS.icmpYes X30.here hx rfl (pc0 := 7) (pc' := 47) rfl (hb hby own_d12_7) rfl (flt (by decide : ¬ ((2 : Int32) < (2 : Int32)))).2.1 (by decide) (by decide) kk) ?_
              refine OwnGo.back (T30.setTop (mkF m 48 #[.val (.ref b), .val (.int (2 : Int32)), .val (.int (2 : Int32)), .val (.int x1)] [(.int (2 : Int32))])) (fun tg kk => XS.iloadN X30.here hx rfl (hb hby own_d12_47) rfl kk) ?_
              obtain ⟨fs, hr, hrun, hended, hW, hsame⟩ := X30.leave (v := some (.int (2 : Int32))) (fun h => by rw [Bd.returns] at h; cases h)
              refine ⟨_, _, ?_, hrun, hended, _, _, rfl, ?_, ⟨_, rfl⟩, hW, hsame.mono (by decide) (by decide)⟩
              · exact own_retI X30 hx Bd.returns (hb hby own_d12_48) hr
              · show own_lw2_Q Z b kb x0 x1 aA oi h0 n0 _ T30.heap _
                rw [e30]
                exact ⟨(2 : Int32), rfl, N30, rfl, (by (simp only [true_and, and_true, false_and, and_false, or_false, false_or, or_true, true_or, not_true_eq_false, not_false_eq_true, eq_self, Int32.lt_iff_toInt_lt, Int32.le_iff_toInt_le, ← Int32.toInt_inj, Int32.reduceToInt, Int64.lt_iff_toInt_lt, Int64.le_iff_toInt_le, ← Int64.toInt_inj, Int64.reduceToInt] at hc3 hc12 hc25 hc27 hc28 hc33 hl0 hu0 hl1 hu1 nw po24 po32 ⊢) <;> omega)⟩
theorem own_sw2_ef (m : MethodId) (x0 : Addr) : entryFrame m #[(.ref x0)] 1 = mkF m 0 #[.val (.ref x0)] [] := by first | (simp [entryFrame, mkF, argsToLocals, Value.category]; done) | rfl
def own_sw2_Q (Z : State) (a : Addr) (b : Addr) (kb : ClassId) (x0 : Int32) (x1 : Int32) (aA : Addr) (oi : Addr) (cs : Int32) (h0 : Heap) (n0 : Nat) (rv : Option Value) (hN : Heap) (LL : List Loc) : Prop := ∃ (r : Int32), rv = some (.int r) ∧ Fr n0 LL ∧ hN = h0 ∧ ¬ r = (2 : Int32)
set_option maxRecDepth 65536 in
set_option maxHeartbeats 40000000 in
theorem own_sw2 (l : Launch) (Z : State) (a0 : Array Value) (hw : ∀ d ∈ tables_1, d.before a0 Z = true) (ws : List Jvm.Cond) (a : Addr) (b : Addr) (kb : ClassId) (x0 : Int32) (x1 : Int32) (aA : Addr) (oi : Addr) (cs : Int32) (h0 : Heap) (n0 : Nat) (Z0 : n0 ≤ h0.size) (hl0 : ¬ x0 < (0 : Int32)) (hu0 : ¬ (255 : Int32) < x0) (hl1 : ¬ x1 < (0 : Int32)) (hu1 : ¬ (255 : Int32) < x1) (SA : Sta Z Z.heap "java/lang/CharacterDataLatin1" "A" "[I" (.ref aA)) (old : Old Z n0 h0) (hA : own_A Z aA) (SN : Sta Z Z.heap "java/lang/CharacterDataLatin1" "instance" "Ljava/lang/CharacterDataLatin1;" (.ref oi)) (Xi : Exa Z h0 oi "java/lang/CharacterDataLatin1") (nw : ¬ (((x0 = (32 : Int32)) ∨ (¬ x0 < (9 : Int32) ∧ ¬ (13 : Int32) < x0) ∨ (¬ x0 < (28 : Int32) ∧ ¬ (31 : Int32) < x0)) ∧ ((x1 = (32 : Int32)) ∨ (¬ x1 < (9 : Int32) ∧ ¬ (13 : Int32) < x1) ∨ (¬ x1 < (28 : Int32) ∧ ¬ (31 : Int32) < x1)))) (S : Sta Z Z.heap "java/lang/String" "COMPACT_STRINGS" "Z" (.int cs)) (hcs : ¬ cs = 0) (H0 : Exa Z h0 a "java/lang/String") (H1 : Fld Z h0 a "java/lang/String" "value" "[B" (.ref b)) (H2 : Fld Z h0 a "java/lang/String" "coder" "B" (.int (0 : Int32))) (B : Arv Z h0 b kb .byte (2 : Int32) [(.int (nar .byte (x0.toInt8.toInt32))), (.int (nar .byte (x1.toInt8.toInt32)))] (.int (0 : Int32))) :
    MetFree l (⟨"java/lang/String", "indexOfNonWhitespace", "()I"⟩ : MethodName) (head1 (Jvm.Cond.code (⟨"java/lang/String", "indexOfNonWhitespace", "()I"⟩ : MethodName) jdk_42_method_120_code 1 (some .int) :: ws) ({ frames := 3, cells := 0, slots := 0, locals := 44 } : Room)) (fun aa UU => aa = #[(.ref a)] ∧ Z.Warmed39 UU.vm ∧ UU.heap = h0) (fun _ _ _ _ _ => True) (fun _ UU oo UU' => ∃ rv LL, oo = .returned rv ∧ own_sw2_Q Z a b kb x0 x1 aA oi cs h0 n0 rv UU'.heap LL ∧ FrameEnd UU oo UU' LL ({ frames := 3, cells := 0, slots := 0, locals := 44 } : Room).cells ({ frames := 3, cells := 0, slots := 0, locals := 44 } : Room).slots) := by
  refine MetFree.of_bodySF (plainFor_of_name own_pn0) hisR ?_
  intro p e s m args below meth c s₁ Bd hml0 hP hK
  obtain ⟨rfl, hZ, hh⟩ := hP
  have hx := Bd.exec
  have hby := Bd.bytes
  have hml : c.maxLocals = 1 := hml0
  have hown : s.vm.findClass "java/lang/String" = some m.cls := findClass_of_methodNamed Bd.named
  have hnm := (name_of_methodNamed Bd.named Bd.method).1
  have X0 : Stand p l e ({ frames := 3, cells := 0, slots := 0, locals := 44 } : Room) s m #[(.ref a)] below meth c s₁ [] 0 0 := Stand.of_body Bd
  have e0 : s₁.heap = h0 := by rw [← hh, Bd.state]; rfl
  have N0 := Fr.nil n0
  have K0 : Keep h0 h0 [] := Keep.refl h0 _
  refine (?_ : OwnGo p.tables e below (fun UU' oo => ∃ rv LL, oo = .returned rv ∧ own_sw2_Q Z a b kb x0 x1 aA oi cs h0 n0 rv UU'.heap LL ∧ FrameEnd s oo UU' LL ({ frames := 3, cells := 0, slots := 0, locals := 44 } : Room).cells ({ frames := 3, cells := 0, slots := 0, locals := 44 } : Room).slots) _)
  refine OwnGo.back (s₁.setTop (mkF m 0 #[.val (.ref a)] [])) (fun tg kk => castTop (own_sw2_ef m a) kk) ?_
  refine OwnGo.back (s₁.setTop (mkF m 1 #[.val (.ref a)] [(.ref a)])) (fun tg kk => XS.aloadN X0.here hx rfl (hb hby own_d10_0) rfl rfl kk) ?_
  obtain ⟨cq1, kq1, q1a, q1b, q1c⟩ := isOf hZ e0 H0
  obtain ⟨_, _, ⟨T1, L1, k1, n1⟩, -, X1, ⟨Lc1, hQ1, l1, y1, z1⟩, st1⟩ := X0.virtualBack hx (y := (⟨"java/lang/String", "isLatin1", "()Z"⟩ : MethodName)) (z := (⟨"java/lang/String", "isLatin1", "()Z"⟩ : MethodName)) hown (mvT hZ (hw _ (List.mem_of_getElem? (i := 51) rfl))) (mvT hZ (hw _ (List.mem_of_getElem? (i := 52) rfl))) (notFace_of_selects (args := #[]) (mvT hZ (hw _ (List.mem_of_getElem? (i := 54) rfl)))) (mvT hZ (hw _ (List.mem_of_getElem? (i := 54) rfl))) (mvT hZ (hw _ (List.mem_of_getElem? (i := 53) rfl))) (by decide) (backOf (W := 0) (own_lat l Z a0 hw [] a b cs h0 n0 Z0 S old hcs H0 H1 H2) hZ (hw _ (List.mem_of_getElem? (i := 55) rfl)) (hw _ (List.mem_of_getElem? (i := 3) rfl)) (by decide) (by decide)) q1a q1c (g := (mkF m 1 #[.val (.ref a)] [(.ref a)])) rfl (by rw [hml]; rfl) (Steps.refl _) (argsL := []) (rest := []) (lenOf own_pd7 rfl) rfl (by show 2 * 0 + _ ≤ _; exact Nat.le_of_eq rfl) (hb hby own_d10_1) (fun _ _ => ⟨rfl, e0, (by decide : 0 + 0 ≤ _), (by decide : 0 + 0 ≤ _)⟩)
  dsimp only [Pt.U, Pt.locs, Pt.cells, Pt.slots] at X1 l1 y1 z1 st1 hQ1
  subst l1 y1 z1
  obtain ⟨rfl, N1q, e1⟩ := hQ1
  have N1 := Fr.app N0 N1q
  refine OwnGo.back (T1.setTop (mkF m 4 #[.val (.ref a)] [(.int (1 : Int32))])) (fun tg kk => st1.trans kk) ?_
  refine OwnGo.back (T1.setTop (mkF m 7 #[.val (.ref a)] [])) (fun tg kk => XS.ifNo X1.here hx rfl (hb hby own_d10_4) rfl ((if0 _ _).trans (feq (by decide : ¬ ((1 : Int32) = (0 : Int32)))).1) kk) ?_
  refine OwnGo.back (T1.setTop (mkF m 8 #[.val (.ref a)] [(.ref a)])) (fun tg kk => XS.aloadN X1.here hx rfl (hb hby own_d10_7) rfl rfl kk) ?_
  obtain ⟨T2, X2, e2, st2⟩ := getF X1 hx hZ hown (host := "") (Or.inl (hw _ (List.mem_of_getElem? (i := 20) rfl))) Via.refl e1 H1 (g := (mkF m 8 #[.val (.ref a)] [(.ref a)])) rfl rfl (hb hby own_d10_8)
  refine OwnGo.back (T2.setTop (mkF m 11 #[.val (.ref a)] [(.ref b)])) (fun tg kk => st2 _ kk) ?_
  obtain ⟨_, _, ⟨T3, L3, k3, n3⟩, -, X3, ⟨Lc3, hQ3, l3, y3, z3⟩, st3⟩ := Jvm.LawKit.callS X2 hx (y := (⟨"java/lang/StringLatin1", "indexOfNonWhitespace", "([B)I"⟩ : MethodName)) hown (mvT hZ (hw _ (List.mem_of_getElem? (i := 56) rfl))) (mvT hZ (hw _ (List.mem_of_getElem? (i := 57) rfl))) (mvT hZ (hw _ (List.mem_of_getElem? (i := 58) rfl))) (mvT hZ (hw _ (List.mem_of_getElem? (i := 59) rfl))) (by decide) (backOf (W := 0) (own_lw2 l Z a0 hw [] b kb x0 x1 aA oi h0 n0 Z0 B hl0 hu0 hl1 hu1 SA old hA SN Xi nw) hZ (hw _ (List.mem_of_getElem? (i := 59) rfl)) (hw _ (List.mem_of_getElem? (i := 58) rfl)) (by decide) (by decide)) (g := (mkF m 11 #[.val (.ref a)] [(.ref b)])) rfl (by rw [hml]; rfl) (argsL := [(.ref b)]) (rest := []) (lenOf own_pd8 rfl) rfl (by show 2 * 0 + _ ≤ _; exact Nat.le_of_eq rfl) (hb hby own_d10_11) (fun _ _ => ⟨rfl, e2, (by decide : 0 + 0 ≤ _), (by decide : 0 + 0 ≤ _)⟩)
  dsimp only [Pt.U, Pt.locs, Pt.cells, Pt.slots] at X3 l3 y3 z3 st3 hQ3
  subst l3 y3 z3
  obtain ⟨r_4, rfl, N3q, e3, po5⟩ := hQ3
  have N3 := Fr.app N1 N3q
  refine OwnGo.back (T3.setTop (mkF m 14 #[.val (.ref a)] [(.int r_4)])) (fun tg kk => st3 _ kk) ?_
  refine OwnGo.back (T3.setTop (mkF m 24 #[.val (.ref a)] [(.int r_4)])) (fun tg kk => XS.goto X3.here hx rfl (pc0 := 14) (pc' := 24) rfl (hb hby own_d10_14) (by decide) (by decide) kk) ?_
  obtain ⟨fs, hr, hrun, hended, hW, hsame⟩ := X3.leave (v := some (.int r_4)) (fun h => by rw [Bd.returns] at h; cases h)
  refine ⟨_, _, ?_, hrun, hended, _, _, rfl, ?_, ⟨_, rfl⟩, hW, hsame.mono (by decide) (by decide)⟩
  · exact own_retI X3 hx Bd.returns (hb hby own_d10_24) hr
  · show own_sw2_Q Z a b kb x0 x1 aA oi cs h0 n0 _ T3.heap _
    rw [e3]
    exact ⟨r_4, rfl, N3, rfl, po5⟩
theorem own_len2_ef (m : MethodId) (x0 : Addr) : entryFrame m #[(.ref x0)] 1 = mkF m 0 #[.val (.ref x0)] [] := by first | (simp [entryFrame, mkF, argsToLocals, Value.category]; done) | rfl
def own_len2_Q (Z : State) (a : Addr) (b : Addr) (kb : ClassId) (x0 : Int32) (x1 : Int32) (cs : Int32) (h0 : Heap) (n0 : Nat) (rv : Option Value) (hN : Heap) (LL : List Loc) : Prop := rv = some (.int (2 : Int32)) ∧ Fr n0 LL ∧ hN = h0
set_option maxRecDepth 65536 in
set_option maxHeartbeats 40000000 in
theorem own_len2 (l : Launch) (Z : State) (a0 : Array Value) (hw : ∀ d ∈ tables_1, d.before a0 Z = true) (ws : List Jvm.Cond) (a : Addr) (b : Addr) (kb : ClassId) (x0 : Int32) (x1 : Int32) (cs : Int32) (h0 : Heap) (n0 : Nat) (Z0 : n0 ≤ h0.size) (S : Sta Z Z.heap "java/lang/String" "COMPACT_STRINGS" "Z" (.int cs)) (old : Old Z n0 h0) (hcs : ¬ cs = 0) (H0 : Exa Z h0 a "java/lang/String") (H1 : Fld Z h0 a "java/lang/String" "value" "[B" (.ref b)) (H2 : Fld Z h0 a "java/lang/String" "coder" "B" (.int (0 : Int32))) (B : Arv Z h0 b kb .byte (2 : Int32) [(.int (nar .byte (x0.toInt8.toInt32))), (.int (nar .byte (x1.toInt8.toInt32)))] (.int (0 : Int32))) :
    MetFree l (⟨"java/lang/String", "length", "()I"⟩ : MethodName) (head1 (Jvm.Cond.code (⟨"java/lang/String", "length", "()I"⟩ : MethodName) jdk_42_method_54_code 1 (some .int) :: ws) ({ frames := 1, cells := 0, slots := 0, locals := 13 } : Room)) (fun aa UU => aa = #[(.ref a)] ∧ Z.Warmed39 UU.vm ∧ UU.heap = h0) (fun _ _ _ _ _ => True) (fun _ UU oo UU' => ∃ rv LL, oo = .returned rv ∧ own_len2_Q Z a b kb x0 x1 cs h0 n0 rv UU'.heap LL ∧ FrameEnd UU oo UU' LL ({ frames := 1, cells := 0, slots := 0, locals := 13 } : Room).cells ({ frames := 1, cells := 0, slots := 0, locals := 13 } : Room).slots) := by
  refine MetFree.of_bodySF (plainFor_of_name own_pn0) hisR ?_
  intro p e s m args below meth c s₁ Bd hml0 hP hK
  obtain ⟨rfl, hZ, hh⟩ := hP
  have hx := Bd.exec
  have hby := Bd.bytes
  have hml : c.maxLocals = 1 := hml0
  have hown : s.vm.findClass "java/lang/String" = some m.cls := findClass_of_methodNamed Bd.named
  have hnm := (name_of_methodNamed Bd.named Bd.method).1
  have X0 : Stand p l e ({ frames := 1, cells := 0, slots := 0, locals := 13 } : Room) s m #[(.ref a)] below meth c s₁ [] 0 0 := Stand.of_body Bd
  have e0 : s₁.heap = h0 := by rw [← hh, Bd.state]; rfl
  have N0 := Fr.nil n0
  have K0 : Keep h0 h0 [] := Keep.refl h0 _
  refine (?_ : OwnGo p.tables e below (fun UU' oo => ∃ rv LL, oo = .returned rv ∧ own_len2_Q Z a b kb x0 x1 cs h0 n0 rv UU'.heap LL ∧ FrameEnd s oo UU' LL ({ frames := 1, cells := 0, slots := 0, locals := 13 } : Room).cells ({ frames := 1, cells := 0, slots := 0, locals := 13 } : Room).slots) _)
  refine OwnGo.back (s₁.setTop (mkF m 0 #[.val (.ref a)] [])) (fun tg kk => castTop (own_len2_ef m a) kk) ?_
  refine OwnGo.back (s₁.setTop (mkF m 1 #[.val (.ref a)] [(.ref a)])) (fun tg kk => XS.aloadN X0.here hx rfl (hb hby own_d16_0) rfl rfl kk) ?_
  obtain ⟨T1, X1, e1, st1⟩ := getF X0 hx hZ hown (host := "") (Or.inl (hw _ (List.mem_of_getElem? (i := 20) rfl))) Via.refl e0 H1 (g := (mkF m 1 #[.val (.ref a)] [(.ref a)])) rfl rfl (hb hby own_d16_1)
  refine OwnGo.back (T1.setTop (mkF m 4 #[.val (.ref a)] [(.ref b)])) (fun tg kk => st1 _ kk) ?_
  obtain ⟨cl_2, Ar_2, -, Sz_2, Ng_2, -, -⟩ := id B
  refine OwnGo.back (T1.setTop (mkF m 5 #[.val (.ref a)] [(.int (2 : Int32))])) (fun tg kk => X1.arraylength hx (by rw [e1]; exact Ar_2.1) (State.isArrayOf_alike hZ.alike Ar_2.2.1) (g := (mkF m 4 #[.val (.ref a)] [(.ref b)])) rfl rfl (hb hby own_d16_4) _ (by rw [len_of Sz_2 Ng_2]; exact kk)) ?_
  refine OwnGo.back (T1.setTop (mkF m 6 #[.val (.ref a)] [(.ref a), (.int (2 : Int32))])) (fun tg kk => XS.aloadN X1.here hx rfl (hb hby own_d16_5) rfl rfl kk) ?_
  obtain ⟨cq3, kq3, q3a, q3b, q3c⟩ := isOf hZ e1 H0
  obtain ⟨_, _, ⟨T3, L3, k3, n3⟩, -, X3, ⟨Lc3, hQ3, l3, y3, z3⟩, st3⟩ := X1.virtualBack hx (y := (⟨"java/lang/String", "coder", "()B"⟩ : MethodName)) (z := (⟨"java/lang/String", "coder", "()B"⟩ : MethodName)) hown (mvT hZ (hw _ (List.mem_of_getElem? (i := 81) rfl))) (mvT hZ (hw _ (List.mem_of_getElem? (i := 82) rfl))) (notFace_of_selects (args := #[]) (mvT hZ (hw _ (List.mem_of_getElem? (i := 84) rfl)))) (mvT hZ (hw _ (List.mem_of_getElem? (i := 84) rfl))) (mvT hZ (hw _ (List.mem_of_getElem? (i := 83) rfl))) (by decide) (backOf (W := 1) (own_cod l Z a0 hw [] a b cs h0 n0 Z0 S old hcs H0 H1 H2) hZ (hw _ (List.mem_of_getElem? (i := 85) rfl)) (hw _ (List.mem_of_getElem? (i := 3) rfl)) (by decide) (by decide)) q3a q3c (g := (mkF m 6 #[.val (.ref a)] [(.ref a), (.int (2 : Int32))])) rfl (by rw [hml]; rfl) (Steps.refl _) (argsL := []) (rest := [(.int (2 : Int32))]) (lenOf own_pd9 rfl) rfl (by show 2 * 0 + _ ≤ _; exact Nat.le_of_eq rfl) (hb hby own_d16_6) (fun _ _ => ⟨rfl, e1, (by decide : 0 + 0 ≤ _), (by decide : 0 + 0 ≤ _)⟩)
  dsimp only [Pt.U, Pt.locs, Pt.cells, Pt.slots] at X3 l3 y3 z3 st3 hQ3
  subst l3 y3 z3
  obtain ⟨rfl, N3q, e3⟩ := hQ3
  have N3 := Fr.app N0 N3q
  refine OwnGo.back (T3.setTop (mkF m 9 #[.val (.ref a)] [(.int (0 : Int32)), (.int (2 : Int32))])) (fun tg kk => st3.trans kk) ?_
  refine OwnGo.back (T3.setTop (mkF m 10 #[.val (.ref a)] [(.int (2 : Int32))])) (fun tg kk => XS.ishr X3.here hx rfl (hb hby own_d16_9) rfl kk) ?_
  obtain ⟨fs, hr, hrun, hended, hW, hsame⟩ := X3.leave (v := some (.int (2 : Int32))) (fun h => by rw [Bd.returns] at h; cases h)
  refine ⟨_, _, ?_, hrun, hended, _, _, rfl, ?_, ⟨_, rfl⟩, hW, hsame.mono (by decide) (by decide)⟩
  · exact own_retI X3 hx Bd.returns (hb hby own_d16_10) hr
  · show own_len2_Q Z a b kb x0 x1 cs h0 n0 _ T3.heap _
    rw [e3]
    exact ⟨rfl, N3, rfl⟩
theorem own_bl2_ef (m : MethodId) (x0 : Addr) : entryFrame m #[(.ref x0)] 1 = mkF m 0 #[.val (.ref x0)] [] := by first | (simp [entryFrame, mkF, argsToLocals, Value.category]; done) | rfl
def own_bl2_Q (Z : State) (a : Addr) (b : Addr) (kb : ClassId) (x0 : Int32) (x1 : Int32) (aA : Addr) (oi : Addr) (cs : Int32) (h0 : Heap) (n0 : Nat) (rv : Option Value) (hN : Heap) (LL : List Loc) : Prop := rv = some (.int (0 : Int32)) ∧ Fr n0 LL ∧ hN = h0
set_option maxRecDepth 65536 in
set_option maxHeartbeats 40000000 in
theorem own_bl2 (l : Launch) (Z : State) (a0 : Array Value) (hw : ∀ d ∈ tables_1, d.before a0 Z = true) (ws : List Jvm.Cond) (a : Addr) (b : Addr) (kb : ClassId) (x0 : Int32) (x1 : Int32) (aA : Addr) (oi : Addr) (cs : Int32) (h0 : Heap) (n0 : Nat) (Z0 : n0 ≤ h0.size) (hl0 : ¬ x0 < (0 : Int32)) (hu0 : ¬ (255 : Int32) < x0) (hl1 : ¬ x1 < (0 : Int32)) (hu1 : ¬ (255 : Int32) < x1) (SA : Sta Z Z.heap "java/lang/CharacterDataLatin1" "A" "[I" (.ref aA)) (old : Old Z n0 h0) (hA : own_A Z aA) (SN : Sta Z Z.heap "java/lang/CharacterDataLatin1" "instance" "Ljava/lang/CharacterDataLatin1;" (.ref oi)) (Xi : Exa Z h0 oi "java/lang/CharacterDataLatin1") (nw : ¬ (((x0 = (32 : Int32)) ∨ (¬ x0 < (9 : Int32) ∧ ¬ (13 : Int32) < x0) ∨ (¬ x0 < (28 : Int32) ∧ ¬ (31 : Int32) < x0)) ∧ ((x1 = (32 : Int32)) ∨ (¬ x1 < (9 : Int32) ∧ ¬ (13 : Int32) < x1) ∨ (¬ x1 < (28 : Int32) ∧ ¬ (31 : Int32) < x1)))) (S : Sta Z Z.heap "java/lang/String" "COMPACT_STRINGS" "Z" (.int cs)) (hcs : ¬ cs = 0) (H0 : Exa Z h0 a "java/lang/String") (H1 : Fld Z h0 a "java/lang/String" "value" "[B" (.ref b)) (H2 : Fld Z h0 a "java/lang/String" "coder" "B" (.int (0 : Int32))) (B : Arv Z h0 b kb .byte (2 : Int32) [(.int (nar .byte (x0.toInt8.toInt32))), (.int (nar .byte (x1.toInt8.toInt32)))] (.int (0 : Int32))) :
    MetFree l (⟨"java/lang/String", "isBlank", "()Z"⟩ : MethodName) (head1 (Jvm.Cond.code (⟨"java/lang/String", "isBlank", "()Z"⟩ : MethodName) jdk_42_method_117_code 1 (some .boolean) :: ws) ({ frames := 4, cells := 0, slots := 0, locals := 56 } : Room)) (fun aa UU => aa = #[(.ref a)] ∧ Z.Warmed39 UU.vm ∧ UU.heap = h0) (fun _ _ _ _ _ => True) (fun _ UU oo UU' => ∃ rv LL, oo = .returned rv ∧ own_bl2_Q Z a b kb x0 x1 aA oi cs h0 n0 rv UU'.heap LL ∧ FrameEnd UU oo UU' LL ({ frames := 4, cells := 0, slots := 0, locals := 56 } : Room).cells ({ frames := 4, cells := 0, slots := 0, locals := 56 } : Room).slots) := by
  refine MetFree.of_bodySF (plainFor_of_name own_pn0) hisR ?_
  intro p e s m args below meth c s₁ Bd hml0 hP hK
  obtain ⟨rfl, hZ, hh⟩ := hP
  have hx := Bd.exec
  have hby := Bd.bytes
  have hml : c.maxLocals = 1 := hml0
  have hown : s.vm.findClass "java/lang/String" = some m.cls := findClass_of_methodNamed Bd.named
  have hnm := (name_of_methodNamed Bd.named Bd.method).1
  have X0 : Stand p l e ({ frames := 4, cells := 0, slots := 0, locals := 56 } : Room) s m #[(.ref a)] below meth c s₁ [] 0 0 := Stand.of_body Bd
  have e0 : s₁.heap = h0 := by rw [← hh, Bd.state]; rfl
  have N0 := Fr.nil n0
  have K0 : Keep h0 h0 [] := Keep.refl h0 _
  refine (?_ : OwnGo p.tables e below (fun UU' oo => ∃ rv LL, oo = .returned rv ∧ own_bl2_Q Z a b kb x0 x1 aA oi cs h0 n0 rv UU'.heap LL ∧ FrameEnd s oo UU' LL ({ frames := 4, cells := 0, slots := 0, locals := 56 } : Room).cells ({ frames := 4, cells := 0, slots := 0, locals := 56 } : Room).slots) _)
  refine OwnGo.back (s₁.setTop (mkF m 0 #[.val (.ref a)] [])) (fun tg kk => castTop (own_bl2_ef m a) kk) ?_
  refine OwnGo.back (s₁.setTop (mkF m 1 #[.val (.ref a)] [(.ref a)])) (fun tg kk => XS.aloadN X0.here hx rfl (hb hby own_d9_0) rfl rfl kk) ?_
  obtain ⟨cq1, q1, q1'⟩ := H0.cell
  obtain ⟨_, _, ⟨T1, L1, k1, n1⟩, -, X1, ⟨Lc1, hQ1, l1, y1, z1⟩, st1⟩ := X0.privateBack hx (y := (⟨"java/lang/String", "indexOfNonWhitespace", "()I"⟩ : MethodName)) hown (mvT hZ (hw _ (List.mem_of_getElem? (i := 46) rfl))) (mvT hZ (hw _ (List.mem_of_getElem? (i := 47) rfl))) (mvT hZ (hw _ (List.mem_of_getElem? (i := 49) rfl))) (Cond.privateMethod_at (mvP hZ (hw _ (List.mem_of_getElem? (i := 48) rfl)) (args := #[]))) (mvT hZ (hw _ (List.mem_of_getElem? (i := 50) rfl))) (by decide) (backOf (W := 0) (own_sw2 l Z a0 hw [] a b kb x0 x1 aA oi cs h0 n0 Z0 hl0 hu0 hl1 hu1 SA old hA SN Xi nw S hcs H0 H1 H2 B) hZ (hw _ (List.mem_of_getElem? (i := 50) rfl)) (hw _ (List.mem_of_getElem? (i := 3) rfl)) (by decide) (by decide)) (g := (mkF m 1 #[.val (.ref a)] [(.ref a)])) rfl (by rw [hml]; rfl) (Steps.refl _) (a := a) (by rw [e0]; exact q1) q1' (argsL := []) (rest := []) (lenOf own_pd10 rfl) rfl (by show 2 * 0 + _ ≤ _; exact Nat.le_of_eq rfl) (hb hby own_d9_1) (fun _ _ => ⟨rfl, e0, (by decide : 0 + 0 ≤ _), (by decide : 0 + 0 ≤ _)⟩)
  dsimp only [Pt.U, Pt.locs, Pt.cells, Pt.slots] at X1 l1 y1 z1 st1 hQ1
  subst l1 y1 z1
  obtain ⟨r_2, rfl, N1q, e1, po3⟩ := hQ1
  have N1 := Fr.app N0 N1q
  refine OwnGo.back (T1.setTop (mkF m 4 #[.val (.ref a)] [(.int r_2)])) (fun tg kk => st1.trans kk) ?_
  refine OwnGo.back (T1.setTop (mkF m 5 #[.val (.ref a)] [(.ref a), (.int r_2)])) (fun tg kk => XS.aloadN X1.here hx rfl (hb hby own_d9_4) rfl rfl kk) ?_
  obtain ⟨cq4, kq4, q4a, q4b, q4c⟩ := isOf hZ e1 H0
  obtain ⟨_, _, ⟨T4, L4, k4, n4⟩, -, X4, ⟨Lc4, hQ4, l4, y4, z4⟩, st4⟩ := X1.virtualBack hx (y := (⟨"java/lang/String", "length", "()I"⟩ : MethodName)) (z := (⟨"java/lang/String", "length", "()I"⟩ : MethodName)) hown (mvT hZ (hw _ (List.mem_of_getElem? (i := 76) rfl))) (mvT hZ (hw _ (List.mem_of_getElem? (i := 77) rfl))) (notFace_of_selects (args := #[]) (mvT hZ (hw _ (List.mem_of_getElem? (i := 79) rfl)))) (mvT hZ (hw _ (List.mem_of_getElem? (i := 79) rfl))) (mvT hZ (hw _ (List.mem_of_getElem? (i := 78) rfl))) (by decide) (backOf (W := 1) (own_len2 l Z a0 hw [] a b kb x0 x1 cs h0 n0 Z0 S old hcs H0 H1 H2 B) hZ (hw _ (List.mem_of_getElem? (i := 80) rfl)) (hw _ (List.mem_of_getElem? (i := 3) rfl)) (by decide) (by decide)) q4a q4c (g := (mkF m 5 #[.val (.ref a)] [(.ref a), (.int r_2)])) rfl (by rw [hml]; rfl) (Steps.refl _) (argsL := []) (rest := [(.int r_2)]) (lenOf own_pd10 rfl) rfl (by show 2 * 0 + _ ≤ _; exact Nat.le_of_eq rfl) (hb hby own_d9_5) (fun _ _ => ⟨rfl, e1, (by decide : 0 + 0 ≤ _), (by decide : 0 + 0 ≤ _)⟩)
  dsimp only [Pt.U, Pt.locs, Pt.cells, Pt.slots] at X4 l4 y4 z4 st4 hQ4
  subst l4 y4 z4
  obtain ⟨rfl, N4q, e4⟩ := hQ4
  have N4 := Fr.app N1 N4q
  refine OwnGo.back (T4.setTop (mkF m 8 #[.val (.ref a)] [(.int (2 : Int32)), (.int r_2)])) (fun tg kk => st4.trans kk) ?_
  refine OwnGo.back (T4.setTop (mkF m 15 #[.val (.ref a)] [])) (fun tg kk => XS.icmpYes X4.here hx rfl (pc0 := 8) (pc' := 15) rfl (hb hby own_d9_8) rfl (feq (by (simp only [true_and, and_true, false_and, and_false, or_false, false_or, or_true, true_or, not_true_eq_false, not_false_eq_true, eq_self, Int32.lt_iff_toInt_lt, Int32.le_iff_toInt_le, ← Int32.toInt_inj, Int32.reduceToInt, Int64.lt_iff_toInt_lt, Int64.le_iff_toInt_le, ← Int64.toInt_inj, Int64.reduceToInt] at hl0 hu0 hl1 hu1 nw hcs po3 ⊢) <;> omega : ¬ (r_2 = (2 : Int32)))).2 (by decide) (by decide) kk) ?_
  refine OwnGo.back (T4.setTop (mkF m 16 #[.val (.ref a)] [(.int (0 : Int32))])) (fun tg kk => XS.iconst X4.here hx rfl (hb hby own_d9_15) kk) ?_
  obtain ⟨fs, hr, hrun, hended, hW, hsame⟩ := X4.leave (v := some (.int (0 : Int32))) (fun h => by rw [Bd.returns] at h; cases h)
  refine ⟨_, _, ?_, hrun, hended, _, _, rfl, ?_, ⟨_, rfl⟩, hW, hsame.mono (by decide) (by decide)⟩
  · exact retN X4 hx (t := .boolean) Bd.returns (by simp) (hb hby own_d9_16) hr
  · show own_bl2_Q Z a b kb x0 x1 aA oi cs h0 n0 _ T4.heap _
    rw [e4]
    exact ⟨rfl, N4, rfl⟩
theorem own_cn2_ef (m : MethodId) (x0 : Addr) : entryFrame m #[(.ref x0)] 1 = mkF m 0 #[.val (.ref x0)] [] := by first | (simp [entryFrame, mkF, argsToLocals, Value.category]; done) | rfl
def own_cn2_Q (Z : State) (a : Addr) (b : Addr) (kb : ClassId) (x0 : Int32) (x1 : Int32) (aA : Addr) (oi : Addr) (cs : Int32) (h0 : Heap) (n0 : Nat) (rv : Option Value) (hN : Heap) (LL : List Loc) : Prop := rv = some (.ref a) ∧ Fr n0 LL ∧ hN = h0
set_option maxRecDepth 65536 in
set_option maxHeartbeats 40000000 in
theorem own_cn2 (l : Launch) (Z : State) (a0 : Array Value) (hw : ∀ d ∈ tables_1, d.before a0 Z = true) (ws : List Jvm.Cond) (a : Addr) (b : Addr) (kb : ClassId) (x0 : Int32) (x1 : Int32) (aA : Addr) (oi : Addr) (cs : Int32) (h0 : Heap) (n0 : Nat) (Z0 : n0 ≤ h0.size) (hl0 : ¬ x0 < (0 : Int32)) (hu0 : ¬ (255 : Int32) < x0) (hl1 : ¬ x1 < (0 : Int32)) (hu1 : ¬ (255 : Int32) < x1) (SA : Sta Z Z.heap "java/lang/CharacterDataLatin1" "A" "[I" (.ref aA)) (old : Old Z n0 h0) (hA : own_A Z aA) (SN : Sta Z Z.heap "java/lang/CharacterDataLatin1" "instance" "Ljava/lang/CharacterDataLatin1;" (.ref oi)) (Xi : Exa Z h0 oi "java/lang/CharacterDataLatin1") (nw : ¬ (((x0 = (32 : Int32)) ∨ (¬ x0 < (9 : Int32) ∧ ¬ (13 : Int32) < x0) ∨ (¬ x0 < (28 : Int32) ∧ ¬ (31 : Int32) < x0)) ∧ ((x1 = (32 : Int32)) ∨ (¬ x1 < (9 : Int32) ∧ ¬ (13 : Int32) < x1) ∨ (¬ x1 < (28 : Int32) ∧ ¬ (31 : Int32) < x1)))) (S : Sta Z Z.heap "java/lang/String" "COMPACT_STRINGS" "Z" (.int cs)) (hcs : ¬ cs = 0) (H0 : Exa Z h0 a "java/lang/String") (H1 : Fld Z h0 a "java/lang/String" "value" "[B" (.ref b)) (H2 : Fld Z h0 a "java/lang/String" "coder" "B" (.int (0 : Int32))) (B : Arv Z h0 b kb .byte (2 : Int32) [(.int (nar .byte (x0.toInt8.toInt32))), (.int (nar .byte (x1.toInt8.toInt32)))] (.int (0 : Int32))) :
    MetFree l (⟨"com/example/penelope/penelope/RollbackRules", "checkedName", "(Ljava/lang/String;)Ljava/lang/String;"⟩ : MethodName) (head1 (Jvm.Cond.code (⟨"com/example/penelope/penelope/RollbackRules", "checkedName", "(Ljava/lang/String;)Ljava/lang/String;"⟩ : MethodName) prog_16_method_3_code 1 (some (.object "java/lang/String")) :: ws) ({ frames := 5, cells := 0, slots := 0, locals := 68 } : Room)) (fun aa UU => aa = #[(.ref a)] ∧ Z.Warmed39 UU.vm ∧ UU.heap = h0) (fun _ _ _ _ _ => True) (fun _ UU oo UU' => ∃ rv LL, oo = .returned rv ∧ own_cn2_Q Z a b kb x0 x1 aA oi cs h0 n0 rv UU'.heap LL ∧ FrameEnd UU oo UU' LL ({ frames := 5, cells := 0, slots := 0, locals := 68 } : Room).cells ({ frames := 5, cells := 0, slots := 0, locals := 68 } : Room).slots) := by
  refine MetFree.of_bodySF (plainFor_of_name own_pn5) hisR ?_
  intro p e s m args below meth c s₁ Bd hml0 hP hK
  obtain ⟨rfl, hZ, hh⟩ := hP
  have hx := Bd.exec
  have hby := Bd.bytes
  have hml : c.maxLocals = 1 := hml0
  have hown : s.vm.findClass "com/example/penelope/penelope/RollbackRules" = some m.cls := findClass_of_methodNamed Bd.named
  have hnm := (name_of_methodNamed Bd.named Bd.method).1
  have X0 : Stand p l e ({ frames := 5, cells := 0, slots := 0, locals := 68 } : Room) s m #[(.ref a)] below meth c s₁ [] 0 0 := Stand.of_body Bd
  have e0 : s₁.heap = h0 := by rw [← hh, Bd.state]; rfl
  have N0 := Fr.nil n0
  have K0 : Keep h0 h0 [] := Keep.refl h0 _
  refine (?_ : OwnGo p.tables e below (fun UU' oo => ∃ rv LL, oo = .returned rv ∧ own_cn2_Q Z a b kb x0 x1 aA oi cs h0 n0 rv UU'.heap LL ∧ FrameEnd s oo UU' LL ({ frames := 5, cells := 0, slots := 0, locals := 68 } : Room).cells ({ frames := 5, cells := 0, slots := 0, locals := 68 } : Room).slots) _)
  refine OwnGo.back (s₁.setTop (mkF m 0 #[.val (.ref a)] [])) (fun tg kk => castTop (own_cn2_ef m a) kk) ?_
  refine OwnGo.back (s₁.setTop (mkF m 1 #[.val (.ref a)] [(.ref a)])) (fun tg kk => XS.aloadN X0.here hx rfl (hb hby own_d8_0) rfl rfl kk) ?_
  obtain ⟨cq1, kq1, q1a, q1b, q1c⟩ := isOf hZ e0 H0
  obtain ⟨_, _, ⟨T1, L1, k1, n1⟩, -, X1, ⟨Lc1, hQ1, l1, y1, z1⟩, st1⟩ := X0.virtualBack hx (y := (⟨"java/lang/String", "isBlank", "()Z"⟩ : MethodName)) (z := (⟨"java/lang/String", "isBlank", "()Z"⟩ : MethodName)) hown (mvT hZ (hw _ (List.mem_of_getElem? (i := 41) rfl))) (mvT hZ (hw _ (List.mem_of_getElem? (i := 42) rfl))) (notFace_of_selects (args := #[]) (mvT hZ (hw _ (List.mem_of_getElem? (i := 44) rfl)))) (mvT hZ (hw _ (List.mem_of_getElem? (i := 44) rfl))) (mvT hZ (hw _ (List.mem_of_getElem? (i := 43) rfl))) (by decide) (backOf (W := 0) (own_bl2 l Z a0 hw [] a b kb x0 x1 aA oi cs h0 n0 Z0 hl0 hu0 hl1 hu1 SA old hA SN Xi nw S hcs H0 H1 H2 B) hZ (hw _ (List.mem_of_getElem? (i := 45) rfl)) (hw _ (List.mem_of_getElem? (i := 3) rfl)) (by decide) (by decide)) q1a q1c (g := (mkF m 1 #[.val (.ref a)] [(.ref a)])) rfl (by rw [hml]; rfl) (Steps.refl _) (argsL := []) (rest := []) (lenOf own_pd7 rfl) rfl (by show 2 * 0 + _ ≤ _; exact Nat.le_of_eq rfl) (hb hby own_d8_1) (fun _ _ => ⟨rfl, e0, (by decide : 0 + 0 ≤ _), (by decide : 0 + 0 ≤ _)⟩)
  dsimp only [Pt.U, Pt.locs, Pt.cells, Pt.slots] at X1 l1 y1 z1 st1 hQ1
  subst l1 y1 z1
  obtain ⟨rfl, N1q, e1⟩ := hQ1
  have N1 := Fr.app N0 N1q
  refine OwnGo.back (T1.setTop (mkF m 4 #[.val (.ref a)] [(.int (0 : Int32))])) (fun tg kk => st1.trans kk) ?_
  refine OwnGo.back (T1.setTop (mkF m 17 #[.val (.ref a)] [])) (fun tg kk => XS.ifYes X1.here hx rfl (pc0 := 4) (pc' := 17) rfl (hb hby own_d8_4) rfl ((if0 _ _).trans (teq (by decide : (0 : Int32) = (0 : Int32))).1) (by decide) (by decide) kk) ?_
  refine OwnGo.back (T1.setTop (mkF m 18 #[.val (.ref a)] [(.ref a)])) (fun tg kk => XS.aloadN X1.here hx rfl (hb hby own_d8_17) rfl rfl kk) ?_
  obtain ⟨fs, hr, hrun, hended, hW, hsame⟩ := X1.leave (v := some (.ref a)) (fun h => by rw [Bd.returns] at h; cases h)
  refine ⟨_, _, ?_, hrun, hended, _, _, rfl, ?_, ⟨_, rfl⟩, hW, hsame.mono (by decide) (by decide)⟩
  · exact own_retA X1 hx Bd.returns rfl rfl rfl (hb hby own_d8_18) hr
  · show own_cn2_Q Z a b kb x0 x1 aA oi cs h0 n0 _ T1.heap _
    rw [e1]
    exact ⟨rfl, N1, rfl⟩
theorem own_gc30_ef (m : MethodId) (x0 : Addr) (x1 : Int32) : entryFrame m #[(.ref x0), (.int x1)] 2 = mkF m 0 #[.val (.ref x0), .val (.int x1)] [] := by first | (simp [entryFrame, mkF, argsToLocals, Value.category]; done) | rfl
def own_gc30_Q (Z : State) (b : Addr) (kb : ClassId) (x0 : Int32) (x1 : Int32) (x2 : Int32) (h0 : Heap) (n0 : Nat) (rv : Option Value) (hN : Heap) (LL : List Loc) : Prop := rv = some (.int x0) ∧ Fr n0 LL ∧ hN = h0
set_option maxRecDepth 65536 in
set_option maxHeartbeats 40000000 in
theorem own_gc30 (l : Launch) (Z : State) (a0 : Array Value) (hw : ∀ d ∈ tables_1, d.before a0 Z = true) (ws : List Jvm.Cond) (b : Addr) (kb : ClassId) (x0 : Int32) (x1 : Int32) (x2 : Int32) (h0 : Heap) (n0 : Nat) (Z0 : n0 ≤ h0.size) (B : Arv Z h0 b kb .byte (3 : Int32) [(.int (nar .byte (x0.toInt8.toInt32))), (.int (nar .byte (x1.toInt8.toInt32))), (.int (nar .byte (x2.toInt8.toInt32)))] (.int (0 : Int32))) (hl0 : ¬ x0 < (0 : Int32)) (hu0 : ¬ (255 : Int32) < x0) (hl1 : ¬ x1 < (0 : Int32)) (hu1 : ¬ (255 : Int32) < x1) (hl2 : ¬ x2 < (0 : Int32)) (hu2 : ¬ (255 : Int32) < x2) :
    MetFree l (⟨"java/lang/StringLatin1", "getChar", "([BI)C"⟩ : MethodName) (head1 (Jvm.Cond.code (⟨"java/lang/StringLatin1", "getChar", "([BI)C"⟩ : MethodName) jdk_43_method_44_code 2 (some .char) :: ws) ({ frames := 0, cells := 0, slots := 0, locals := 0 } : Room)) (fun aa UU => aa = #[(.ref b), (.int (0 : Int32))] ∧ Z.Warmed39 UU.vm ∧ UU.heap = h0) (fun _ _ _ _ _ => True) (fun _ UU oo UU' => ∃ rv LL, oo = .returned rv ∧ own_gc30_Q Z b kb x0 x1 x2 h0 n0 rv UU'.heap LL ∧ FrameEnd UU oo UU' LL ({ frames := 0, cells := 0, slots := 0, locals := 0 } : Room).cells ({ frames := 0, cells := 0, slots := 0, locals := 0 } : Room).slots) := by
  refine MetFree.of_bodySF (plainFor_of_name own_pn4) hisR ?_
  intro p e s m args below meth c s₁ Bd hml0 hP hK
  obtain ⟨rfl, hZ, hh⟩ := hP
  have hx := Bd.exec
  have hby := Bd.bytes
  have hml : c.maxLocals = 2 := hml0
  have hown : s.vm.findClass "java/lang/StringLatin1" = some m.cls := findClass_of_methodNamed Bd.named
  have hnm := (name_of_methodNamed Bd.named Bd.method).1
  have X0 : Stand p l e ({ frames := 0, cells := 0, slots := 0, locals := 0 } : Room) s m #[(.ref b), (.int (0 : Int32))] below meth c s₁ [] 0 0 := Stand.of_body Bd
  have e0 : s₁.heap = h0 := by rw [← hh, Bd.state]; rfl
  have N0 := Fr.nil n0
  have K0 : Keep h0 h0 [] := Keep.refl h0 _
  refine (?_ : OwnGo p.tables e below (fun UU' oo => ∃ rv LL, oo = .returned rv ∧ own_gc30_Q Z b kb x0 x1 x2 h0 n0 rv UU'.heap LL ∧ FrameEnd s oo UU' LL ({ frames := 0, cells := 0, slots := 0, locals := 0 } : Room).cells ({ frames := 0, cells := 0, slots := 0, locals := 0 } : Room).slots) _)
  refine OwnGo.back (s₁.setTop (mkF m 0 #[.val (.ref b), .val (.int (0 : Int32))] [])) (fun tg kk => castTop (own_gc30_ef m b (0 : Int32)) kk) ?_
  refine OwnGo.back (s₁.setTop (mkF m 1 #[.val (.ref b), .val (.int (0 : Int32))] [(.ref b)])) (fun tg kk => XS.aloadN X0.here hx rfl (hb hby own_d13_0) rfl rfl kk) ?_
  refine OwnGo.back (s₁.setTop (mkF m 2 #[.val (.ref b), .val (.int (0 : Int32))] [(.int (0 : Int32)), (.ref b)])) (fun tg kk => XS.iloadN X0.here hx rfl (hb hby own_d13_1) rfl kk) ?_
  obtain ⟨cl_1, Ar_1, qq_1, Sz_1, Ng_1, Hs_1, Gf_1⟩ := id B
  have hin_1 : ¬ ((0 : Int32) < 0 ∨ cl_1.slots.size ≤ ((0 : Int32)).toNatClampNeg) := inb_of Sz_1 ⟨by decide, by decide⟩
  have hat_1 : cl_1.slots[((0 : Int32)).toNatClampNeg]? = some (.int (nar .byte (x0.toInt8.toInt32))) := Has.at Hs_1 hin_1 rfl
  refine OwnGo.back (s₁.setTop (mkF m 3 #[.val (.ref b), .val (.int (0 : Int32))] [(.int (nar .byte (x0.toInt8.toInt32)))])) (fun tg kk => X0.baloadBytes hx (j := (0 : Int32)) (v := (.int (nar .byte (x0.toInt8.toInt32)))) (by rw [e0]; exact Ar_1.1) (State.isArrayOf_alike hZ.alike Ar_1.2.1) Ar_1.2.2 hin_1 hat_1 (g := (mkF m 2 #[.val (.ref b), .val (.int (0 : Int32))] [(.int (0 : Int32)), (.ref b)])) rfl rfl (hb hby own_d13_2) _ kk) ?_
  refine OwnGo.back (s₁.setTop (mkF m 6 #[.val (.ref b), .val (.int (0 : Int32))] [(.int (255 : Int32)), (.int (nar .byte (x0.toInt8.toInt32)))])) (fun tg kk => XS.sipush X0.here hx rfl (hb hby own_d13_3) kk) ?_
  refine OwnGo.back (s₁.setTop (mkF m 7 #[.val (.ref b), .val (.int (0 : Int32))] [(.int ((nar .byte (x0.toInt8.toInt32)) &&& (255 : Int32)))])) (fun tg kk => XS.iand X0.here hx rfl (hb hby own_d13_6) rfl kk) ?_
  refine OwnGo.back (s₁.setTop (mkF m 8 #[.val (.ref b), .val (.int (0 : Int32))] [(.int (((nar .byte (x0.toInt8.toInt32)) &&& (255 : Int32)).toUInt32.toUInt16.toUInt32.toInt32))])) (fun tg kk => XS.i2c X0.here hx rfl (hb hby own_d13_7) rfl kk) ?_
  obtain ⟨fs, hr, hrun, hended, hW, hsame⟩ := X0.leave (v := some (.int (((nar .byte (x0.toInt8.toInt32)) &&& (255 : Int32)).toUInt32.toUInt16.toUInt32.toInt32))) (fun h => by rw [Bd.returns] at h; cases h)
  refine ⟨_, _, ?_, hrun, hended, _, _, rfl, ?_, ⟨_, rfl⟩, hW, hsame.mono (by decide) (by decide)⟩
  · exact retOut X0 hx Bd.returns (own_nrv _) (Or.inl ⟨rfl, by simp, _, rfl⟩) (hb hby own_d13_8) hr
  · show own_gc30_Q Z b kb x0 x1 x2 h0 n0 _ s₁.heap _
    rw [e0]
    exact ⟨(congrArg (fun z => some (Value.int z)) (own_gch hl0 hu0)), N0, rfl⟩
theorem own_gc31_ef (m : MethodId) (x0 : Addr) (x1 : Int32) : entryFrame m #[(.ref x0), (.int x1)] 2 = mkF m 0 #[.val (.ref x0), .val (.int x1)] [] := by first | (simp [entryFrame, mkF, argsToLocals, Value.category]; done) | rfl
def own_gc31_Q (Z : State) (b : Addr) (kb : ClassId) (x0 : Int32) (x1 : Int32) (x2 : Int32) (h0 : Heap) (n0 : Nat) (rv : Option Value) (hN : Heap) (LL : List Loc) : Prop := rv = some (.int x1) ∧ Fr n0 LL ∧ hN = h0
set_option maxRecDepth 65536 in
set_option maxHeartbeats 40000000 in
theorem own_gc31 (l : Launch) (Z : State) (a0 : Array Value) (hw : ∀ d ∈ tables_1, d.before a0 Z = true) (ws : List Jvm.Cond) (b : Addr) (kb : ClassId) (x0 : Int32) (x1 : Int32) (x2 : Int32) (h0 : Heap) (n0 : Nat) (Z0 : n0 ≤ h0.size) (B : Arv Z h0 b kb .byte (3 : Int32) [(.int (nar .byte (x0.toInt8.toInt32))), (.int (nar .byte (x1.toInt8.toInt32))), (.int (nar .byte (x2.toInt8.toInt32)))] (.int (0 : Int32))) (hl0 : ¬ x0 < (0 : Int32)) (hu0 : ¬ (255 : Int32) < x0) (hl1 : ¬ x1 < (0 : Int32)) (hu1 : ¬ (255 : Int32) < x1) (hl2 : ¬ x2 < (0 : Int32)) (hu2 : ¬ (255 : Int32) < x2) :
    MetFree l (⟨"java/lang/StringLatin1", "getChar", "([BI)C"⟩ : MethodName) (head1 (Jvm.Cond.code (⟨"java/lang/StringLatin1", "getChar", "([BI)C"⟩ : MethodName) jdk_43_method_44_code 2 (some .char) :: ws) ({ frames := 0, cells := 0, slots := 0, locals := 0 } : Room)) (fun aa UU => aa = #[(.ref b), (.int (1 : Int32))] ∧ Z.Warmed39 UU.vm ∧ UU.heap = h0) (fun _ _ _ _ _ => True) (fun _ UU oo UU' => ∃ rv LL, oo = .returned rv ∧ own_gc31_Q Z b kb x0 x1 x2 h0 n0 rv UU'.heap LL ∧ FrameEnd UU oo UU' LL ({ frames := 0, cells := 0, slots := 0, locals := 0 } : Room).cells ({ frames := 0, cells := 0, slots := 0, locals := 0 } : Room).slots) := by
  refine MetFree.of_bodySF (plainFor_of_name own_pn4) hisR ?_
  intro p e s m args below meth c s₁ Bd hml0 hP hK
  obtain ⟨rfl, hZ, hh⟩ := hP
  have hx := Bd.exec
  have hby := Bd.bytes
  have hml : c.maxLocals = 2 := hml0
  have hown : s.vm.findClass "java/lang/StringLatin1" = some m.cls := findClass_of_methodNamed Bd.named
  have hnm := (name_of_methodNamed Bd.named Bd.method).1
  have X0 : Stand p l e ({ frames := 0, cells := 0, slots := 0, locals := 0 } : Room) s m #[(.ref b), (.int (1 : Int32))] below meth c s₁ [] 0 0 := Stand.of_body Bd
  have e0 : s₁.heap = h0 := by rw [← hh, Bd.state]; rfl
  have N0 := Fr.nil n0
  have K0 : Keep h0 h0 [] := Keep.refl h0 _
  refine (?_ : OwnGo p.tables e below (fun UU' oo => ∃ rv LL, oo = .returned rv ∧ own_gc31_Q Z b kb x0 x1 x2 h0 n0 rv UU'.heap LL ∧ FrameEnd s oo UU' LL ({ frames := 0, cells := 0, slots := 0, locals := 0 } : Room).cells ({ frames := 0, cells := 0, slots := 0, locals := 0 } : Room).slots) _)
  refine OwnGo.back (s₁.setTop (mkF m 0 #[.val (.ref b), .val (.int (1 : Int32))] [])) (fun tg kk => castTop (own_gc31_ef m b (1 : Int32)) kk) ?_
  refine OwnGo.back (s₁.setTop (mkF m 1 #[.val (.ref b), .val (.int (1 : Int32))] [(.ref b)])) (fun tg kk => XS.aloadN X0.here hx rfl (hb hby own_d13_0) rfl rfl kk) ?_
  refine OwnGo.back (s₁.setTop (mkF m 2 #[.val (.ref b), .val (.int (1 : Int32))] [(.int (1 : Int32)), (.ref b)])) (fun tg kk => XS.iloadN X0.here hx rfl (hb hby own_d13_1) rfl kk) ?_
  obtain ⟨cl_1, Ar_1, qq_1, Sz_1, Ng_1, Hs_1, Gf_1⟩ := id B
  have hin_1 : ¬ ((1 : Int32) < 0 ∨ cl_1.slots.size ≤ ((1 : Int32)).toNatClampNeg) := inb_of Sz_1 ⟨by decide, by decide⟩
  have hat_1 : cl_1.slots[((1 : Int32)).toNatClampNeg]? = some (.int (nar .byte (x1.toInt8.toInt32))) := Has.at Hs_1 hin_1 rfl
  refine OwnGo.back (s₁.setTop (mkF m 3 #[.val (.ref b), .val (.int (1 : Int32))] [(.int (nar .byte (x1.toInt8.toInt32)))])) (fun tg kk => X0.baloadBytes hx (j := (1 : Int32)) (v := (.int (nar .byte (x1.toInt8.toInt32)))) (by rw [e0]; exact Ar_1.1) (State.isArrayOf_alike hZ.alike Ar_1.2.1) Ar_1.2.2 hin_1 hat_1 (g := (mkF m 2 #[.val (.ref b), .val (.int (1 : Int32))] [(.int (1 : Int32)), (.ref b)])) rfl rfl (hb hby own_d13_2) _ kk) ?_
  refine OwnGo.back (s₁.setTop (mkF m 6 #[.val (.ref b), .val (.int (1 : Int32))] [(.int (255 : Int32)), (.int (nar .byte (x1.toInt8.toInt32)))])) (fun tg kk => XS.sipush X0.here hx rfl (hb hby own_d13_3) kk) ?_
  refine OwnGo.back (s₁.setTop (mkF m 7 #[.val (.ref b), .val (.int (1 : Int32))] [(.int ((nar .byte (x1.toInt8.toInt32)) &&& (255 : Int32)))])) (fun tg kk => XS.iand X0.here hx rfl (hb hby own_d13_6) rfl kk) ?_
  refine OwnGo.back (s₁.setTop (mkF m 8 #[.val (.ref b), .val (.int (1 : Int32))] [(.int (((nar .byte (x1.toInt8.toInt32)) &&& (255 : Int32)).toUInt32.toUInt16.toUInt32.toInt32))])) (fun tg kk => XS.i2c X0.here hx rfl (hb hby own_d13_7) rfl kk) ?_
  obtain ⟨fs, hr, hrun, hended, hW, hsame⟩ := X0.leave (v := some (.int (((nar .byte (x1.toInt8.toInt32)) &&& (255 : Int32)).toUInt32.toUInt16.toUInt32.toInt32))) (fun h => by rw [Bd.returns] at h; cases h)
  refine ⟨_, _, ?_, hrun, hended, _, _, rfl, ?_, ⟨_, rfl⟩, hW, hsame.mono (by decide) (by decide)⟩
  · exact retOut X0 hx Bd.returns (own_nrv _) (Or.inl ⟨rfl, by simp, _, rfl⟩) (hb hby own_d13_8) hr
  · show own_gc31_Q Z b kb x0 x1 x2 h0 n0 _ s₁.heap _
    rw [e0]
    exact ⟨(congrArg (fun z => some (Value.int z)) (own_gch hl1 hu1)), N0, rfl⟩
theorem own_gc32_ef (m : MethodId) (x0 : Addr) (x1 : Int32) : entryFrame m #[(.ref x0), (.int x1)] 2 = mkF m 0 #[.val (.ref x0), .val (.int x1)] [] := by first | (simp [entryFrame, mkF, argsToLocals, Value.category]; done) | rfl
def own_gc32_Q (Z : State) (b : Addr) (kb : ClassId) (x0 : Int32) (x1 : Int32) (x2 : Int32) (h0 : Heap) (n0 : Nat) (rv : Option Value) (hN : Heap) (LL : List Loc) : Prop := rv = some (.int x2) ∧ Fr n0 LL ∧ hN = h0
set_option maxRecDepth 65536 in
set_option maxHeartbeats 40000000 in
theorem own_gc32 (l : Launch) (Z : State) (a0 : Array Value) (hw : ∀ d ∈ tables_1, d.before a0 Z = true) (ws : List Jvm.Cond) (b : Addr) (kb : ClassId) (x0 : Int32) (x1 : Int32) (x2 : Int32) (h0 : Heap) (n0 : Nat) (Z0 : n0 ≤ h0.size) (B : Arv Z h0 b kb .byte (3 : Int32) [(.int (nar .byte (x0.toInt8.toInt32))), (.int (nar .byte (x1.toInt8.toInt32))), (.int (nar .byte (x2.toInt8.toInt32)))] (.int (0 : Int32))) (hl0 : ¬ x0 < (0 : Int32)) (hu0 : ¬ (255 : Int32) < x0) (hl1 : ¬ x1 < (0 : Int32)) (hu1 : ¬ (255 : Int32) < x1) (hl2 : ¬ x2 < (0 : Int32)) (hu2 : ¬ (255 : Int32) < x2) :
    MetFree l (⟨"java/lang/StringLatin1", "getChar", "([BI)C"⟩ : MethodName) (head1 (Jvm.Cond.code (⟨"java/lang/StringLatin1", "getChar", "([BI)C"⟩ : MethodName) jdk_43_method_44_code 2 (some .char) :: ws) ({ frames := 0, cells := 0, slots := 0, locals := 0 } : Room)) (fun aa UU => aa = #[(.ref b), (.int (2 : Int32))] ∧ Z.Warmed39 UU.vm ∧ UU.heap = h0) (fun _ _ _ _ _ => True) (fun _ UU oo UU' => ∃ rv LL, oo = .returned rv ∧ own_gc32_Q Z b kb x0 x1 x2 h0 n0 rv UU'.heap LL ∧ FrameEnd UU oo UU' LL ({ frames := 0, cells := 0, slots := 0, locals := 0 } : Room).cells ({ frames := 0, cells := 0, slots := 0, locals := 0 } : Room).slots) := by
  refine MetFree.of_bodySF (plainFor_of_name own_pn4) hisR ?_
  intro p e s m args below meth c s₁ Bd hml0 hP hK
  obtain ⟨rfl, hZ, hh⟩ := hP
  have hx := Bd.exec
  have hby := Bd.bytes
  have hml : c.maxLocals = 2 := hml0
  have hown : s.vm.findClass "java/lang/StringLatin1" = some m.cls := findClass_of_methodNamed Bd.named
  have hnm := (name_of_methodNamed Bd.named Bd.method).1
  have X0 : Stand p l e ({ frames := 0, cells := 0, slots := 0, locals := 0 } : Room) s m #[(.ref b), (.int (2 : Int32))] below meth c s₁ [] 0 0 := Stand.of_body Bd
  have e0 : s₁.heap = h0 := by rw [← hh, Bd.state]; rfl
  have N0 := Fr.nil n0
  have K0 : Keep h0 h0 [] := Keep.refl h0 _
  refine (?_ : OwnGo p.tables e below (fun UU' oo => ∃ rv LL, oo = .returned rv ∧ own_gc32_Q Z b kb x0 x1 x2 h0 n0 rv UU'.heap LL ∧ FrameEnd s oo UU' LL ({ frames := 0, cells := 0, slots := 0, locals := 0 } : Room).cells ({ frames := 0, cells := 0, slots := 0, locals := 0 } : Room).slots) _)
  refine OwnGo.back (s₁.setTop (mkF m 0 #[.val (.ref b), .val (.int (2 : Int32))] [])) (fun tg kk => castTop (own_gc32_ef m b (2 : Int32)) kk) ?_
  refine OwnGo.back (s₁.setTop (mkF m 1 #[.val (.ref b), .val (.int (2 : Int32))] [(.ref b)])) (fun tg kk => XS.aloadN X0.here hx rfl (hb hby own_d13_0) rfl rfl kk) ?_
  refine OwnGo.back (s₁.setTop (mkF m 2 #[.val (.ref b), .val (.int (2 : Int32))] [(.int (2 : Int32)), (.ref b)])) (fun tg kk => XS.iloadN X0.here hx rfl (hb hby own_d13_1) rfl kk) ?_
  obtain ⟨cl_1, Ar_1, qq_1, Sz_1, Ng_1, Hs_1, Gf_1⟩ := id B
  have hin_1 : ¬ ((2 : Int32) < 0 ∨ cl_1.slots.size ≤ ((2 : Int32)).toNatClampNeg) := inb_of Sz_1 ⟨by decide, by decide⟩
  have hat_1 : cl_1.slots[((2 : Int32)).toNatClampNeg]? = some (.int (nar .byte (x2.toInt8.toInt32))) := Has.at Hs_1 hin_1 rfl
  refine OwnGo.back (s₁.setTop (mkF m 3 #[.val (.ref b), .val (.int (2 : Int32))] [(.int (nar .byte (x2.toInt8.toInt32)))])) (fun tg kk => X0.baloadBytes hx (j := (2 : Int32)) (v := (.int (nar .byte (x2.toInt8.toInt32)))) (by rw [e0]; exact Ar_1.1) (State.isArrayOf_alike hZ.alike Ar_1.2.1) Ar_1.2.2 hin_1 hat_1 (g := (mkF m 2 #[.val (.ref b), .val (.int (2 : Int32))] [(.int (2 : Int32)), (.ref b)])) rfl rfl (hb hby own_d13_2) _ kk) ?_
  refine OwnGo.back (s₁.setTop (mkF m 6 #[.val (.ref b), .val (.int (2 : Int32))] [(.int (255 : Int32)), (.int (nar .byte (x2.toInt8.toInt32)))])) (fun tg kk => XS.sipush X0.here hx rfl (hb hby own_d13_3) kk) ?_
  refine OwnGo.back (s₁.setTop (mkF m 7 #[.val (.ref b), .val (.int (2 : Int32))] [(.int ((nar .byte (x2.toInt8.toInt32)) &&& (255 : Int32)))])) (fun tg kk => XS.iand X0.here hx rfl (hb hby own_d13_6) rfl kk) ?_
  refine OwnGo.back (s₁.setTop (mkF m 8 #[.val (.ref b), .val (.int (2 : Int32))] [(.int (((nar .byte (x2.toInt8.toInt32)) &&& (255 : Int32)).toUInt32.toUInt16.toUInt32.toInt32))])) (fun tg kk => XS.i2c X0.here hx rfl (hb hby own_d13_7) rfl kk) ?_
  obtain ⟨fs, hr, hrun, hended, hW, hsame⟩ := X0.leave (v := some (.int (((nar .byte (x2.toInt8.toInt32)) &&& (255 : Int32)).toUInt32.toUInt16.toUInt32.toInt32))) (fun h => by rw [Bd.returns] at h; cases h)
  refine ⟨_, _, ?_, hrun, hended, _, _, rfl, ?_, ⟨_, rfl⟩, hW, hsame.mono (by decide) (by decide)⟩
  · exact retOut X0 hx Bd.returns (own_nrv _) (Or.inl ⟨rfl, by simp, _, rfl⟩) (hb hby own_d13_8) hr
  · show own_gc32_Q Z b kb x0 x1 x2 h0 n0 _ s₁.heap _
    rw [e0]
    exact ⟨(congrArg (fun z => some (Value.int z)) (own_gch hl2 hu2)), N0, rfl⟩
theorem own_lw3_ef (m : MethodId) (x0 : Addr) : entryFrame m #[(.ref x0)] 4 = mkF m 0 #[.val (.ref x0), .unset, .unset, .unset] [] := by first | (simp [entryFrame, mkF, argsToLocals, Value.category]; done) | rfl
def own_lw3_Q (Z : State) (b : Addr) (kb : ClassId) (x0 : Int32) (x1 : Int32) (x2 : Int32) (aA : Addr) (oi : Addr) (h0 : Heap) (n0 : Nat) (rv : Option Value) (hN : Heap) (LL : List Loc) : Prop := ∃ (r : Int32), rv = some (.int r) ∧ Fr n0 LL ∧ hN = h0 ∧ ¬ r = (3 : Int32)
set_option maxRecDepth 65536 in
set_option maxHeartbeats 40000000 in
theorem own_lw3 (l : Launch) (Z : State) (a0 : Array Value) (hw : ∀ d ∈ tables_1, d.before a0 Z = true) (ws : List Jvm.Cond) (b : Addr) (kb : ClassId) (x0 : Int32) (x1 : Int32) (x2 : Int32) (aA : Addr) (oi : Addr) (h0 : Heap) (n0 : Nat) (Z0 : n0 ≤ h0.size) (B : Arv Z h0 b kb .byte (3 : Int32) [(.int (nar .byte (x0.toInt8.toInt32))), (.int (nar .byte (x1.toInt8.toInt32))), (.int (nar .byte (x2.toInt8.toInt32)))] (.int (0 : Int32))) (hl0 : ¬ x0 < (0 : Int32)) (hu0 : ¬ (255 : Int32) < x0) (hl1 : ¬ x1 < (0 : Int32)) (hu1 : ¬ (255 : Int32) < x1) (hl2 : ¬ x2 < (0 : Int32)) (hu2 : ¬ (255 : Int32) < x2) (SA : Sta Z Z.heap "java/lang/CharacterDataLatin1" "A" "[I" (.ref aA)) (old : Old Z n0 h0) (hA : own_A Z aA) (SN : Sta Z Z.heap "java/lang/CharacterDataLatin1" "instance" "Ljava/lang/CharacterDataLatin1;" (.ref oi)) (Xi : Exa Z h0 oi "java/lang/CharacterDataLatin1") (nw : ¬ (((x0 = (32 : Int32)) ∨ (¬ x0 < (9 : Int32) ∧ ¬ (13 : Int32) < x0) ∨ (¬ x0 < (28 : Int32) ∧ ¬ (31 : Int32) < x0)) ∧ ((x1 = (32 : Int32)) ∨ (¬ x1 < (9 : Int32) ∧ ¬ (13 : Int32) < x1) ∨ (¬ x1 < (28 : Int32) ∧ ¬ (31 : Int32) < x1)) ∧ ((x2 = (32 : Int32)) ∨ (¬ x2 < (9 : Int32) ∧ ¬ (13 : Int32) < x2) ∨ (¬ x2 < (28 : Int32) ∧ ¬ (31 : Int32) < x2)))) :
    MetFree l (⟨"java/lang/StringLatin1", "indexOfNonWhitespace", "([B)I"⟩ : MethodName) (head1 (Jvm.Cond.code (⟨"java/lang/StringLatin1", "indexOfNonWhitespace", "([B)I"⟩ : MethodName) jdk_43_method_37_code 4 (some .int) :: ws) ({ frames := 2, cells := 0, slots := 0, locals := 29 } : Room)) (fun aa UU => aa = #[(.ref b)] ∧ Z.Warmed39 UU.vm ∧ UU.heap = h0) (fun _ _ _ _ _ => True) (fun _ UU oo UU' => ∃ rv LL, oo = .returned rv ∧ own_lw3_Q Z b kb x0 x1 x2 aA oi h0 n0 rv UU'.heap LL ∧ FrameEnd UU oo UU' LL ({ frames := 2, cells := 0, slots := 0, locals := 29 } : Room).cells ({ frames := 2, cells := 0, slots := 0, locals := 29 } : Room).slots) := by
  refine MetFree.of_bodySF (plainFor_of_name own_pn4) hisR ?_
  intro p e s m args below meth c s₁ Bd hml0 hP hK
  obtain ⟨rfl, hZ, hh⟩ := hP
  have hx := Bd.exec
  have hby := Bd.bytes
  have hml : c.maxLocals = 4 := hml0
  have hown : s.vm.findClass "java/lang/StringLatin1" = some m.cls := findClass_of_methodNamed Bd.named
  have hnm := (name_of_methodNamed Bd.named Bd.method).1
  have X0 : Stand p l e ({ frames := 2, cells := 0, slots := 0, locals := 29 } : Room) s m #[(.ref b)] below meth c s₁ [] 0 0 := Stand.of_body Bd
  have e0 : s₁.heap = h0 := by rw [← hh, Bd.state]; rfl
  have N0 := Fr.nil n0
  have K0 : Keep h0 h0 [] := Keep.refl h0 _
  refine (?_ : OwnGo p.tables e below (fun UU' oo => ∃ rv LL, oo = .returned rv ∧ own_lw3_Q Z b kb x0 x1 x2 aA oi h0 n0 rv UU'.heap LL ∧ FrameEnd s oo UU' LL ({ frames := 2, cells := 0, slots := 0, locals := 29 } : Room).cells ({ frames := 2, cells := 0, slots := 0, locals := 29 } : Room).slots) _)
  refine OwnGo.back (s₁.setTop (mkF m 0 #[.val (.ref b), .unset, .unset, .unset] [])) (fun tg kk => castTop (own_lw3_ef m b) kk) ?_
  refine OwnGo.back (s₁.setTop (mkF m 1 #[.val (.ref b), .unset, .unset, .unset] [(.ref b)])) (fun tg kk => XS.aloadN X0.here hx rfl (hb hby own_d12_0) rfl rfl kk) ?_
  obtain ⟨cl_1, Ar_1, -, Sz_1, Ng_1, -, -⟩ := id B
  refine OwnGo.back (s₁.setTop (mkF m 2 #[.val (.ref b), .unset, .unset, .unset] [(.int (3 : Int32))])) (fun tg kk => X0.arraylength hx (by rw [e0]; exact Ar_1.1) (State.isArrayOf_alike hZ.alike Ar_1.2.1) (g := (mkF m 1 #[.val (.ref b), .unset, .unset, .unset] [(.ref b)])) rfl rfl (hb hby own_d12_1) _ (by rw [len_of Sz_1 Ng_1]; exact kk)) ?_
  refine OwnGo.back (s₁.setTop (mkF m 3 #[.val (.ref b), .val (.int (3 : Int32)), .unset, .unset] [])) (fun tg kk => XS.istoreN X0.here hx rfl (hb hby own_d12_2) rfl (l' := #[.val (.ref b), .val (.int (3 : Int32)), .unset, .unset]) rfl kk) ?_
  refine OwnGo.back (s₁.setTop (mkF m 4 #[.val (.ref b), .val (.int (3 : Int32)), .unset, .unset] [(.int (0 : Int32))])) (fun tg kk => XS.iconst X0.here hx rfl (hb hby own_d12_3) kk) ?_
  refine OwnGo.back (s₁.setTop (mkF m 5 #[.val (.ref b), .val (.int (3 : Int32)), .val (.int (0 : Int32)), .unset] [])) (fun tg kk => XS.istoreN X0.here hx rfl (hb hby own_d12_4) rfl (l' := #[.val (.ref b), .val (.int (3 : Int32)), .val (.int (0 : Int32)), .unset]) rfl kk) ?_
  refine OwnGo.back (s₁.setTop (mkF m 6 #[.val (.ref b), .val (.int (3 : Int32)), .val (.int (0 : Int32)), .unset] [(.int (0 : Int32))])) (fun tg kk => XS.iloadN X0.here hx rfl (hb hby own_d12_5) rfl kk) ?_
  refine OwnGo.back (s₁.setTop (mkF m 7 #[.val (.ref b), .val (.int (3 : Int32)), .val (.int (0 : Int32)), .unset] [(.int (3 : Int32)), (.int (0 : Int32))])) (fun tg kk => XS.iloadN X0.here hx rfl (hb hby own_d12_6) rfl kk) ?_
  refine OwnGo.back (s₁.setTop (mkF m 10 #[.val (.ref b), .val (.int (3 : Int32)), .val (.int (0 : Int32)), .unset] [])) (fun tg kk => XS.icmpNo X0.here hx rfl (hb hby own_d12_7) rfl (tlt (by decide : (0 : Int32) < (3 : Int32))).2.1 kk) ?_
  refine OwnGo.back (s₁.setTop (mkF m 11 #[.val (.ref b), .val (.int (3 : Int32)), .val (.int (0 : Int32)), .unset] [(.ref b)])) (fun tg kk => XS.aloadN X0.here hx rfl (hb hby own_d12_10) rfl rfl kk) ?_
  refine OwnGo.back (s₁.setTop (mkF m 12 #[.val (.ref b), .val (.int (3 : Int32)), .val (.int (0 : Int32)), .unset] [(.int (0 : Int32)), (.ref b)])) (fun tg kk => XS.iloadN X0.here hx rfl (hb hby own_d12_11) rfl kk) ?_
  obtain ⟨_, _, ⟨T2, L2, k2, n2⟩, -, X2, ⟨Lc2, hQ2, l2, y2, z2⟩, st2⟩ := Jvm.LawKit.callS X0 hx (y := (⟨"java/lang/StringLatin1", "getChar", "([BI)C"⟩ : MethodName)) hown (mvT hZ (hw _ (List.mem_of_getElem? (i := 60) rfl))) (mvT hZ (hw _ (List.mem_of_getElem? (i := 61) rfl))) (mvT hZ (hw _ (List.mem_of_getElem? (i := 58) rfl))) (mvT hZ (hw _ (List.mem_of_getElem? (i := 62) rfl))) (by decide) (backOf (W := 0) (own_gc30 l Z a0 hw [] b kb x0 x1 x2 h0 n0 Z0 B hl0 hu0 hl1 hu1 hl2 hu2) hZ (hw _ (List.mem_of_getElem? (i := 62) rfl)) (hw _ (List.mem_of_getElem? (i := 58) rfl)) (by decide) (by decide)) (g := (mkF m 12 #[.val (.ref b), .val (.int (3 : Int32)), .val (.int (0 : Int32)), .unset] [(.int (0 : Int32)), (.ref b)])) rfl (by rw [hml]; rfl) (argsL := [(.ref b), (.int (0 : Int32))]) (rest := []) (lenOf own_pd5 rfl) rfl (by show 2 * 0 + _ ≤ _; exact Nat.le_of_eq rfl) (hb hby own_d12_12) (fun _ _ => ⟨rfl, e0, (by decide : 0 + 0 ≤ _), (by decide : 0 + 0 ≤ _)⟩)
  dsimp only [Pt.U, Pt.locs, Pt.cells, Pt.slots] at X2 l2 y2 z2 st2 hQ2
  subst l2 y2 z2
  obtain ⟨rfl, N2q, e2⟩ := hQ2
  have N2 := Fr.app N0 N2q
  refine OwnGo.back (T2.setTop (mkF m 15 #[.val (.ref b), .val (.int (3 : Int32)), .val (.int (0 : Int32)), .unset] [(.int x0)])) (fun tg kk => st2 _ kk) ?_
  refine OwnGo.back (T2.setTop (mkF m 16 #[.val (.ref b), .val (.int (3 : Int32)), .val (.int (0 : Int32)), .val (.int x0)] [])) (fun tg kk => XS.istoreN X2.here hx rfl (hb hby own_d12_15) rfl (l' := #[.val (.ref b), .val (.int (3 : Int32)), .val (.int (0 : Int32)), .val (.int x0)]) rfl kk) ?_
  refine OwnGo.back (T2.setTop (mkF m 17 #[.val (.ref b), .val (.int (3 : Int32)), .val (.int (0 : Int32)), .val (.int x0)] [(.int x0)])) (fun tg kk => XS.iloadN X2.here hx rfl (hb hby own_d12_16) rfl kk) ?_
  refine OwnGo.back (T2.setTop (mkF m 19 #[.val (.ref b), .val (.int (3 : Int32)), .val (.int (0 : Int32)), .val (.int x0)] [(.int (32 : Int32)), (.int x0)])) (fun tg kk => XS.bipush X2.here hx rfl (hb hby own_d12_17) kk) ?_
  by_cases hc3 : x0 = (32 : Int32)
  ·
    refine OwnGo.back (T2.setTop (mkF m 41 #[.val (.ref b), .val (.int (3 : Int32)), .val (.int (0 : Int32)), .val (.int x0)] [])) (fun tg kk => XS.icmpYes X2.here hx rfl (pc0 := 19) (pc' := 41) rfl (hb hby own_d12_19) rfl (teq hc3).1 (by decide) (by decide) kk) ?_
    refine OwnGo.back (T2.setTop (mkF m 44 #[.val (.ref b), .val (.int (3 : Int32)), .val (.int (1 : Int32)), .val (.int x0)] [])) (fun tg kk => XS.iinc X2.here hx rfl (hb hby own_d12_41) rfl (l' := #[.val (.ref b), .val (.int (3 : Int32)), .val (.int (1 : Int32)), .val (.int x0)]) rfl kk) ?_
    refine OwnGo.back (T2.setTop (mkF m 5 #[.val (.ref b), .val (.int (3 : Int32)), .val (.int (1 : Int32)), .val (.int x0)] [])) (fun tg kk => XS.goto X2.here hx rfl (pc0 := 44) (pc' := 5) rfl (hb hby own_d12_44) (by decide) (by decide) kk) ?_
    refine OwnGo.back (T2.setTop (mkF m 6 #[.val (.ref b), .val (.int (3 : Int32)), .val (.int (1 : Int32)), .val (.int x0)] [(.int (1 : Int32))])) (fun tg kk => XS.iloadN X2.here hx rfl (hb hby own_d12_5) rfl kk) ?_
    refine OwnGo.back (T2.setTop (mkF m 7 #[.val (.ref b), .val (.int (3 : Int32)), .val (.int (1 : Int32)), .val (.int x0)] [(.int (3 : Int32)), (.int (1 : Int32))])) (fun tg kk => XS.iloadN X2.here hx rfl (hb hby own_d12_6) rfl kk) ?_
    refine OwnGo.back (T2.setTop (mkF m 10 #[.val (.ref b), .val (.int (3 : Int32)), .val (.int (1 : Int32)), .val (.int x0)] [])) (fun tg kk => XS.icmpNo X2.here hx rfl (hb hby own_d12_7) rfl (tlt (by decide : (1 : Int32) < (3 : Int32))).2.1 kk) ?_
    refine OwnGo.back (T2.setTop (mkF m 11 #[.val (.ref b), .val (.int (3 : Int32)), .val (.int (1 : Int32)), .val (.int x0)] [(.ref b)])) (fun tg kk => XS.aloadN X2.here hx rfl (hb hby own_d12_10) rfl rfl kk) ?_
    refine OwnGo.back (T2.setTop (mkF m 12 #[.val (.ref b), .val (.int (3 : Int32)), .val (.int (1 : Int32)), .val (.int x0)] [(.int (1 : Int32)), (.ref b)])) (fun tg kk => XS.iloadN X2.here hx rfl (hb hby own_d12_11) rfl kk) ?_
    obtain ⟨_, _, ⟨T4, L4, k4, n4⟩, -, X4, ⟨Lc4, hQ4, l4, y4, z4⟩, st4⟩ := Jvm.LawKit.callS X2 hx (y := (⟨"java/lang/StringLatin1", "getChar", "([BI)C"⟩ : MethodName)) hown (mvT hZ (hw _ (List.mem_of_getElem? (i := 60) rfl))) (mvT hZ (hw _ (List.mem_of_getElem? (i := 61) rfl))) (mvT hZ (hw _ (List.mem_of_getElem? (i := 58) rfl))) (mvT hZ (hw _ (List.mem_of_getElem? (i := 62) rfl))) (by decide) (backOf (W := 0) (own_gc31 l Z a0 hw [] b kb x0 x1 x2 h0 n0 Z0 B hl0 hu0 hl1 hu1 hl2 hu2) hZ (hw _ (List.mem_of_getElem? (i := 62) rfl)) (hw _ (List.mem_of_getElem? (i := 58) rfl)) (by decide) (by decide)) (g := (mkF m 12 #[.val (.ref b), .val (.int (3 : Int32)), .val (.int (1 : Int32)), .val (.int x0)] [(.int (1 : Int32)), (.ref b)])) rfl (by rw [hml]; rfl) (argsL := [(.ref b), (.int (1 : Int32))]) (rest := []) (lenOf own_pd5 rfl) rfl (by show 2 * 0 + _ ≤ _; exact Nat.le_of_eq rfl) (hb hby own_d12_12) (fun _ _ => ⟨rfl, e2, (by decide : 0 + 0 ≤ _), (by decide : 0 + 0 ≤ _)⟩)
    dsimp only [Pt.U, Pt.locs, Pt.cells, Pt.slots] at X4 l4 y4 z4 st4 hQ4
    subst l4 y4 z4
    obtain ⟨rfl, N4q, e4⟩ := hQ4
    have N4 := Fr.app N2 N4q
    refine OwnGo.back (T4.setTop (mkF m 15 #[.val (.ref b), .val (.int (3 : Int32)), .val (.int (1 : Int32)), .val (.int x0)] [(.int x1)])) (fun tg kk => st4 _ kk) ?_
    refine OwnGo.back (T4.setTop (mkF m 16 #[.val (.ref b), .val (.int (3 : Int32)), .val (.int (1 : Int32)), .val (.int x1)] [])) (fun tg kk => XS.istoreN X4.here hx rfl (hb hby own_d12_15) rfl (l' := #[.val (.ref b), .val (.int (3 : Int32)), .val (.int (1 : Int32)), .val (.int x1)]) rfl kk) ?_
    refine OwnGo.back (T4.setTop (mkF m 17 #[.val (.ref b), .val (.int (3 : Int32)), .val (.int (1 : Int32)), .val (.int x1)] [(.int x1)])) (fun tg kk => XS.iloadN X4.here hx rfl (hb hby own_d12_16) rfl kk) ?_
    refine OwnGo.back (T4.setTop (mkF m 19 #[.val (.ref b), .val (.int (3 : Int32)), .val (.int (1 : Int32)), .val (.int x1)] [(.int (32 : Int32)), (.int x1)])) (fun tg kk => XS.bipush X4.here hx rfl (hb hby own_d12_17) kk) ?_
    by_cases hc5 : x1 = (32 : Int32)
    ·
      refine OwnGo.back (T4.setTop (mkF m 41 #[.val (.ref b), .val (.int (3 : Int32)), .val (.int (1 : Int32)), .val (.int x1)] [])) (fun tg kk => XS.icmpYes X4.here hx rfl (pc0 := 19) (pc' := 41) rfl (hb hby own_d12_19) rfl (teq hc5).1 (by decide) (by decide) kk) ?_
      refine OwnGo.back (T4.setTop (mkF m 44 #[.val (.ref b), .val (.int (3 : Int32)), .val (.int (2 : Int32)), .val (.int x1)] [])) (fun tg kk => XS.iinc X4.here hx rfl (hb hby own_d12_41) rfl (l' := #[.val (.ref b), .val (.int (3 : Int32)), .val (.int (2 : Int32)), .val (.int x1)]) rfl kk) ?_
      refine OwnGo.back (T4.setTop (mkF m 5 #[.val (.ref b), .val (.int (3 : Int32)), .val (.int (2 : Int32)), .val (.int x1)] [])) (fun tg kk => XS.goto X4.here hx rfl (pc0 := 44) (pc' := 5) rfl (hb hby own_d12_44) (by decide) (by decide) kk) ?_
      refine OwnGo.back (T4.setTop (mkF m 6 #[.val (.ref b), .val (.int (3 : Int32)), .val (.int (2 : Int32)), .val (.int x1)] [(.int (2 : Int32))])) (fun tg kk => XS.iloadN X4.here hx rfl (hb hby own_d12_5) rfl kk) ?_
      refine OwnGo.back (T4.setTop (mkF m 7 #[.val (.ref b), .val (.int (3 : Int32)), .val (.int (2 : Int32)), .val (.int x1)] [(.int (3 : Int32)), (.int (2 : Int32))])) (fun tg kk => XS.iloadN X4.here hx rfl (hb hby own_d12_6) rfl kk) ?_
      refine OwnGo.back (T4.setTop (mkF m 10 #[.val (.ref b), .val (.int (3 : Int32)), .val (.int (2 : Int32)), .val (.int x1)] [])) (fun tg kk => XS.icmpNo X4.here hx rfl (hb hby own_d12_7) rfl (tlt (by decide : (2 : Int32) < (3 : Int32))).2.1 kk) ?_
      refine OwnGo.back (T4.setTop (mkF m 11 #[.val (.ref b), .val (.int (3 : Int32)), .val (.int (2 : Int32)), .val (.int x1)] [(.ref b)])) (fun tg kk => XS.aloadN X4.here hx rfl (hb hby own_d12_10) rfl rfl kk) ?_
      refine OwnGo.back (T4.setTop (mkF m 12 #[.val (.ref b), .val (.int (3 : Int32)), .val (.int (2 : Int32)), .val (.int x1)] [(.int (2 : Int32)), (.ref b)])) (fun tg kk => XS.iloadN X4.here hx rfl (hb hby own_d12_11) rfl kk) ?_
      obtain ⟨_, _, ⟨T6, L6, k6, n6⟩, -, X6, ⟨Lc6, hQ6, l6, y6, z6⟩, st6⟩ := Jvm.LawKit.callS X4 hx (y := (⟨"java/lang/StringLatin1", "getChar", "([BI)C"⟩ : MethodName)) hown (mvT hZ (hw _ (List.mem_of_getElem? (i := 60) rfl))) (mvT hZ (hw _ (List.mem_of_getElem? (i := 61) rfl))) (mvT hZ (hw _ (List.mem_of_getElem? (i := 58) rfl))) (mvT hZ (hw _ (List.mem_of_getElem? (i := 62) rfl))) (by decide) (backOf (W := 0) (own_gc32 l Z a0 hw [] b kb x0 x1 x2 h0 n0 Z0 B hl0 hu0 hl1 hu1 hl2 hu2) hZ (hw _ (List.mem_of_getElem? (i := 62) rfl)) (hw _ (List.mem_of_getElem? (i := 58) rfl)) (by decide) (by decide)) (g := (mkF m 12 #[.val (.ref b), .val (.int (3 : Int32)), .val (.int (2 : Int32)), .val (.int x1)] [(.int (2 : Int32)), (.ref b)])) rfl (by rw [hml]; rfl) (argsL := [(.ref b), (.int (2 : Int32))]) (rest := []) (lenOf own_pd5 rfl) rfl (by show 2 * 0 + _ ≤ _; exact Nat.le_of_eq rfl) (hb hby own_d12_12) (fun _ _ => ⟨rfl, e4, (by decide : 0 + 0 ≤ _), (by decide : 0 + 0 ≤ _)⟩)
      dsimp only [Pt.U, Pt.locs, Pt.cells, Pt.slots] at X6 l6 y6 z6 st6 hQ6
      subst l6 y6 z6
      obtain ⟨rfl, N6q, e6⟩ := hQ6
      have N6 := Fr.app N4 N6q
      refine OwnGo.back (T6.setTop (mkF m 15 #[.val (.ref b), .val (.int (3 : Int32)), .val (.int (2 : Int32)), .val (.int x1)] [(.int x2)])) (fun tg kk => st6 _ kk) ?_
      refine OwnGo.back (T6.setTop (mkF m 16 #[.val (.ref b), .val (.int (3 : Int32)), .val (.int (2 : Int32)), .val (.int x2)] [])) (fun tg kk => XS.istoreN X6.here hx rfl (hb hby own_d12_15) rfl (l' := #[.val (.ref b), .val (.int (3 : Int32)), .val (.int (2 : Int32)), .val (.int x2)]) rfl kk) ?_
      refine OwnGo.back (T6.setTop (mkF m 17 #[.val (.ref b), .val (.int (3 : Int32)), .val (.int (2 : Int32)), .val (.int x2)] [(.int x2)])) (fun tg kk => XS.iloadN X6.here hx rfl (hb hby own_d12_16) rfl kk) ?_
      refine OwnGo.back (T6.setTop (mkF m 19 #[.val (.ref b), .val (.int (3 : Int32)), .val (.int (2 : Int32)), .val (.int x2)] [(.int (32 : Int32)), (.int x2)])) (fun tg kk => XS.bipush X6.here hx rfl (hb hby own_d12_17) kk) ?_
      by_cases hc7 : x2 = (32 : Int32)
      ·
        refine OwnGo.back (T6.setTop (mkF m 41 #[.val (.ref b), .val (.int (3 : Int32)), .val (.int (2 : Int32)), .val (.int x2)] [])) (fun tg kk => XS.icmpYes X6.here hx rfl (pc0 := 19) (pc' := 41) rfl (hb hby own_d12_19) rfl (teq hc7).1 (by decide) (by decide) kk) ?_
        refine OwnGo.back (T6.setTop (mkF m 44 #[.val (.ref b), .val (.int (3 : Int32)), .val (.int (3 : Int32)), .val (.int x2)] [])) (fun tg kk => XS.iinc X6.here hx rfl (hb hby own_d12_41) rfl (l' := #[.val (.ref b), .val (.int (3 : Int32)), .val (.int (3 : Int32)), .val (.int x2)]) rfl kk) ?_
        refine OwnGo.back (T6.setTop (mkF m 5 #[.val (.ref b), .val (.int (3 : Int32)), .val (.int (3 : Int32)), .val (.int x2)] [])) (fun tg kk => XS.goto X6.here hx rfl (pc0 := 44) (pc' := 5) rfl (hb hby own_d12_44) (by decide) (by decide) kk) ?_
        refine OwnGo.back (T6.setTop (mkF m 6 #[.val (.ref b), .val (.int (3 : Int32)), .val (.int (3 : Int32)), .val (.int x2)] [(.int (3 : Int32))])) (fun tg kk => XS.iloadN X6.here hx rfl (hb hby own_d12_5) rfl kk) ?_
        refine OwnGo.back (T6.setTop (mkF m 7 #[.val (.ref b), .val (.int (3 : Int32)), .val (.int (3 : Int32)), .val (.int x2)] [(.int (3 : Int32)), (.int (3 : Int32))])) (fun tg kk => XS.iloadN X6.here hx rfl (hb hby own_d12_6) rfl kk) ?_
        refine OwnGo.back (T6.setTop (mkF m 47 #[.val (.ref b), .val (.int (3 : Int32)), .val (.int (3 : Int32)), .val (.int x2)] [])) (fun tg kk => XS.icmpYes X6.here hx rfl (pc0 := 7) (pc' := 47) rfl (hb hby own_d12_7) rfl (flt (by decide : ¬ ((3 : Int32) < (3 : Int32)))).2.1 (by decide) (by decide) kk) ?_
        refine OwnGo.back (T6.setTop (mkF m 48 #[.val (.ref b), .val (.int (3 : Int32)), .val (.int (3 : Int32)), .val (.int x2)] [(.int (3 : Int32))])) (fun tg kk => XS.iloadN X6.here hx rfl (hb hby own_d12_47) rfl kk) ?_
        obtain ⟨fs, hr, hrun, hended, hW, hsame⟩ := X6.leave (v := some (.int (3 : Int32))) (fun h => by rw [Bd.returns] at h; cases h)
        refine ⟨_, _, ?_, hrun, hended, _, _, rfl, ?_, ⟨_, rfl⟩, hW, hsame.mono (by decide) (by decide)⟩
        · exact own_retI X6 hx Bd.returns (hb hby own_d12_48) hr
        · show own_lw3_Q Z b kb x0 x1 x2 aA oi h0 n0 _ T6.heap _
          rw [e6]
          exact ⟨(3 : Int32), rfl, N6, rfl, (by (simp only [true_and, and_true, false_and, and_false, or_false, false_or, or_true, true_or, not_true_eq_false, not_false_eq_true, eq_self, Int32.lt_iff_toInt_lt, Int32.le_iff_toInt_le, ← Int32.toInt_inj, Int32.reduceToInt, Int64.lt_iff_toInt_lt, Int64.le_iff_toInt_le, ← Int64.toInt_inj, Int64.reduceToInt] at hc3 hc5 hc7 hl0 hu0 hl1 hu1 hl2 hu2 nw ⊢) <;> omega)⟩
      ·
        refine OwnGo.back (T6.setTop (mkF m 22 #[.val (.ref b), .val (.int (3 : Int32)), .val (.int (2 : Int32)), .val (.int x2)] [])) (fun tg kk => XS.icmpNo X6.here hx rfl (hb hby own_d12_19) rfl (feq hc7).1 kk) ?_
        refine OwnGo.back (T6.setTop (mkF m 23 #[.val (.ref b), .val (.int (3 : Int32)), .val (.int (2 : Int32)), .val (.int x2)] [(.int x2)])) (fun tg kk => XS.iloadN X6.here hx rfl (hb hby own_d12_22) rfl kk) ?_
        refine OwnGo.back (T6.setTop (mkF m 25 #[.val (.ref b), .val (.int (3 : Int32)), .val (.int (2 : Int32)), .val (.int x2)] [(.int (9 : Int32)), (.int x2)])) (fun tg kk => XS.bipush X6.here hx rfl (hb hby own_d12_23) kk) ?_
        by_cases hc8 : x2 = (9 : Int32)
        ·
          refine OwnGo.back (T6.setTop (mkF m 41 #[.val (.ref b), .val (.int (3 : Int32)), .val (.int (2 : Int32)), .val (.int x2)] [])) (fun tg kk => XS.icmpYes X6.here hx rfl (pc0 := 25) (pc' := 41) rfl (hb hby own_d12_25) rfl (teq hc8).1 (by decide) (by decide) kk) ?_
          refine OwnGo.back (T6.setTop (mkF m 44 #[.val (.ref b), .val (.int (3 : Int32)), .val (.int (3 : Int32)), .val (.int x2)] [])) (fun tg kk => XS.iinc X6.here hx rfl (hb hby own_d12_41) rfl (l' := #[.val (.ref b), .val (.int (3 : Int32)), .val (.int (3 : Int32)), .val (.int x2)]) rfl kk) ?_
          refine OwnGo.back (T6.setTop (mkF m 5 #[.val (.ref b), .val (.int (3 : Int32)), .val (.int (3 : Int32)), .val (.int x2)] [])) (fun tg kk => XS.goto X6.here hx rfl (pc0 := 44) (pc' := 5) rfl (hb hby own_d12_44) (by decide) (by decide) kk) ?_
          refine OwnGo.back (T6.setTop (mkF m 6 #[.val (.ref b), .val (.int (3 : Int32)), .val (.int (3 : Int32)), .val (.int x2)] [(.int (3 : Int32))])) (fun tg kk => XS.iloadN X6.here hx rfl (hb hby own_d12_5) rfl kk) ?_
          refine OwnGo.back (T6.setTop (mkF m 7 #[.val (.ref b), .val (.int (3 : Int32)), .val (.int (3 : Int32)), .val (.int x2)] [(.int (3 : Int32)), (.int (3 : Int32))])) (fun tg kk => XS.iloadN X6.here hx rfl (hb hby own_d12_6) rfl kk) ?_
          refine OwnGo.back (T6.setTop (mkF m 47 #[.val (.ref b), .val (.int (3 : Int32)), .val (.int (3 : Int32)), .val (.int x2)] [])) (fun tg kk => XS.icmpYes X6.here hx rfl (pc0 := 7) (pc' := 47) rfl (hb hby own_d12_7) rfl (flt (by decide : ¬ ((3 : Int32) < (3 : Int32)))).2.1 (by decide) (by decide) kk) ?_
          refine OwnGo.back (T6.setTop (mkF m 48 #[.val (.ref b), .val (.int (3 : Int32)), .val (.int (3 : Int32)), .val (.int x2)] [(.int (3 : Int32))])) (fun tg kk => XS.iloadN X6.here hx rfl (hb hby own_d12_47) rfl kk) ?_
          obtain ⟨fs, hr, hrun, hended, hW, hsame⟩ := X6.leave (v := some (.int (3 : Int32))) (fun h => by rw [Bd.returns] at h; cases h)
          refine ⟨_, _, ?_, hrun, hended, _, _, rfl, ?_, ⟨_, rfl⟩, hW, hsame.mono (by decide) (by decide)⟩
          · exact own_retI X6 hx Bd.returns (hb hby own_d12_48) hr
          · show own_lw3_Q Z b kb x0 x1 x2 aA oi h0 n0 _ T6.heap _
            rw [e6]
            exact ⟨(3 : Int32), rfl, N6, rfl, (by (simp only [true_and, and_true, false_and, and_false, or_false, false_or, or_true, true_or, not_true_eq_false, not_false_eq_true, eq_self, Int32.lt_iff_toInt_lt, Int32.le_iff_toInt_le, ← Int32.toInt_inj, Int32.reduceToInt, Int64.lt_iff_toInt_lt, Int64.le_iff_toInt_le, ← Int64.toInt_inj, Int64.reduceToInt] at hc3 hc5 hc7 hc8 hl0 hu0 hl1 hu1 hl2 hu2 nw ⊢) <;> omega)⟩
        ·
          refine OwnGo.back (T6.setTop (mkF m 28 #[.val (.ref b), .val (.int (3 : Int32)), .val (.int (2 : Int32)), .val (.int x2)] [])) (fun tg kk => XS.icmpNo X6.here hx rfl (hb hby own_d12_25) rfl (feq hc8).1 kk) ?_
          obtain ⟨T9, X9, e9, st9⟩ := getS2 X6 hx hZ hown (host := "") (Or.inl (hw _ (List.mem_of_getElem? (i := 63) rfl))) Via.refl e6 (SN.ext old.2) (g := (mkF m 28 #[.val (.ref b), .val (.int (3 : Int32)), .val (.int (2 : Int32)), .val (.int x2)] [])) rfl (hb hby own_d12_28)
          refine OwnGo.back (T9.setTop (mkF m 31 #[.val (.ref b), .val (.int (3 : Int32)), .val (.int (2 : Int32)), .val (.int x2)] [(.ref oi)])) (fun tg kk => st9 _ kk) ?_
          refine OwnGo.back (T9.setTop (mkF m 32 #[.val (.ref b), .val (.int (3 : Int32)), .val (.int (2 : Int32)), .val (.int x2)] [(.int x2), (.ref oi)])) (fun tg kk => XS.iloadN X9.here hx rfl (hb hby own_d12_31) rfl kk) ?_
          obtain ⟨cq10, kq10, q10a, q10b, q10c⟩ := isOf hZ e9 Xi
          obtain ⟨_, _, ⟨T10, L10, k10, n10⟩, -, X10, ⟨Lc10, hQ10, l10, y10, z10⟩, st10⟩ := X9.virtualBack hx (y := (⟨"java/lang/CharacterDataLatin1", "isWhitespace", "(I)Z"⟩ : MethodName)) (z := (⟨"java/lang/CharacterDataLatin1", "isWhitespace", "(I)Z"⟩ : MethodName)) hown (mvT hZ (hw _ (List.mem_of_getElem? (i := 65) rfl))) (mvT hZ (hw _ (List.mem_of_getElem? (i := 66) rfl))) (notFace_of_selects (args := #[]) (mvT hZ (hw _ (List.mem_of_getElem? (i := 68) rfl)))) (mvT hZ (hw _ (List.mem_of_getElem? (i := 68) rfl))) (mvT hZ (hw _ (List.mem_of_getElem? (i := 67) rfl))) (by decide) (backOf (W := 0) (own_isw l Z a0 hw [] oi x2 aA h0 n0 Z0 Xi SA old hA hl2 hu2) hZ (hw _ (List.mem_of_getElem? (i := 69) rfl)) (hw _ (List.mem_of_getElem? (i := 64) rfl)) (by decide) (by decide)) q10a q10c (g := (mkF m 32 #[.val (.ref b), .val (.int (3 : Int32)), .val (.int (2 : Int32)), .val (.int x2)] [(.int x2), (.ref oi)])) rfl (by rw [hml]; rfl) (Steps.refl _) (argsL := [(.int x2)]) (rest := []) (lenOf own_pd6 rfl) rfl (by show 2 * 0 + _ ≤ _; exact Nat.le_of_eq rfl) (hb hby own_d12_32) (fun _ _ => ⟨rfl, e9, (by decide : 0 + 0 ≤ _), (by decide : 0 + 0 ≤ _)⟩)
          dsimp only [Pt.U, Pt.locs, Pt.cells, Pt.slots] at X10 l10 y10 z10 st10 hQ10
          subst l10 y10 z10
          obtain ⟨r_11, rfl, N10q, e10, po12⟩ := hQ10
          have N10 := Fr.app N6 N10q
          refine OwnGo.back (T10.setTop (mkF m 35 #[.val (.ref b), .val (.int (3 : Int32)), .val (.int (2 : Int32)), .val (.int x2)] [(.int r_11)])) (fun tg kk => st10.trans kk) ?_
          by_cases hc13 : r_11 = (0 : Int32)
          ·
            refine OwnGo.back (T10.setTop (mkF m 38 #[.val (.ref b), .val (.int (3 : Int32)), .val (.int (2 : Int32)), .val (.int x2)] [])) (fun tg kk => XS.ifNo X10.here hx rfl (hb hby own_d12_35) rfl ((if0 _ _).trans (teq hc13).2) kk) ?_
            refine OwnGo.back (T10.setTop (mkF m 47 #[.val (.ref b), .val (.int (3 : Int32)), .val (.int (2 : Int32)), .val (.int x2)] [])) (fun tg kk => XS.goto X10.here hx rfl (pc0 := 38) (pc' := 47) rfl (hb hby own_d12_38) (by decide) (by decide) kk) ?_
            refine OwnGo.back (T10.setTop (mkF m 48 #[.val (.ref b), .val (.int (3 : Int32)), .val (.int (2 : Int32)), .val (.int x2)] [(.int (2 : Int32))])) (fun tg kk => XS.iloadN X10.here hx rfl (hb hby own_d12_47) rfl kk) ?_
            obtain ⟨fs, hr, hrun, hended, hW, hsame⟩ := X10.leave (v := some (.int (2 : Int32))) (fun h => by rw [Bd.returns] at h; cases h)
            refine ⟨_, _, ?_, hrun, hended, _, _, rfl, ?_, ⟨_, rfl⟩, hW, hsame.mono (by decide) (by decide)⟩
            · exact own_retI X10 hx Bd.returns (hb hby own_d12_48) hr
            · show own_lw3_Q Z b kb x0 x1 x2 aA oi h0 n0 _ T10.heap _
              rw [e10]
              exact ⟨(2 : Int32), rfl, N10, rfl, (by (simp only [true_and, and_true, false_and, and_false, or_false, false_or, or_true, true_or, not_true_eq_false, not_false_eq_true, eq_self, Int32.lt_iff_toInt_lt, Int32.le_iff_toInt_le, ← Int32.toInt_inj, Int32.reduceToInt, Int64.lt_iff_toInt_lt, Int64.le_iff_toInt_le, ← Int64.toInt_inj, Int64.reduceToInt] at hc3 hc5 hc7 hc8 hc13 hl0 hu0 hl1 hu1 hl2 hu2 nw po12 ⊢) <;> omega)⟩
          ·
            refine OwnGo.back (T10.setTop (mkF m 41 #[.val (.ref b), .val (.int (3 : Int32)), .val (.int (2 : Int32)), .val (.int x2)] [])) (fun tg kk => XS.ifYes X10.here hx rfl (pc0 := 35) (pc' := 41) rfl (hb hby own_d12_35) rfl ((if0 _ _).trans (feq hc13).2) (by decide) (by decide) kk) ?_
            refine OwnGo.back (T10.setTop (mkF m 44 #[.val (.ref b), .val (.int (3 : Int32)), .val (.int (3 : Int32)), .val (.int x2)] [])) (fun tg kk => XS.iinc X10.here hx rfl (hb hby own_d12_41) rfl (l' := #[.val (.ref b), .val (.int (3 : Int32)), .val (.int (3 : Int32)), .val (.int x2)]) rfl kk) ?_
            refine OwnGo.back (T10.setTop (mkF m 5 #[.val (.ref b), .val (.int (3 : Int32)), .val (.int (3 : Int32)), .val (.int x2)] [])) (fun tg kk => XS.goto X10.here hx rfl (pc0 := 44) (pc' := 5) rfl (hb hby own_d12_44) (by decide) (by decide) kk) ?_
            refine OwnGo.back (T10.setTop (mkF m 6 #[.val (.ref b), .val (.int (3 : Int32)), .val (.int (3 : Int32)), .val (.int x2)] [(.int (3 : Int32))])) (fun tg kk => XS.iloadN X10.here hx rfl (hb hby own_d12_5) rfl kk) ?_
            refine OwnGo.back (T10.setTop (mkF m 7 #[.val (.ref b), .val (.int (3 : Int32)), .val (.int (3 : Int32)), .val (.int x2)] [(.int (3 : Int32)), (.int (3 : Int32))])) (fun tg kk => XS.iloadN X10.here hx rfl (hb hby own_d12_6) rfl kk) ?_
            refine OwnGo.back (T10.setTop (mkF m 47 #[.val (.ref b), .val (.int (3 : Int32)), .val (.int (3 : Int32)), .val (.int x2)] [])) (fun tg kk => XS.icmpYes X10.here hx rfl (pc0 := 7) (pc' := 47) rfl (hb hby own_d12_7) rfl (flt (by decide : ¬ ((3 : Int32) < (3 : Int32)))).2.1 (by decide) (by decide) kk) ?_
            refine OwnGo.back (T10.setTop (mkF m 48 #[.val (.ref b), .val (.int (3 : Int32)), .val (.int (3 : Int32)), .val (.int x2)] [(.int (3 : Int32))])) (fun tg kk => XS.iloadN X10.here hx rfl (hb hby own_d12_47) rfl kk) ?_
            obtain ⟨fs, hr, hrun, hended, hW, hsame⟩ := X10.leave (v := some (.int (3 : Int32))) (fun h => by rw [Bd.returns] at h; cases h)
            refine ⟨_, _, ?_, hrun, hended, _, _, rfl, ?_, ⟨_, rfl⟩, hW, hsame.mono (by decide) (by decide)⟩
            · exact own_retI X10 hx Bd.returns (hb hby own_d12_48) hr
            · show own_lw3_Q Z b kb x0 x1 x2 aA oi h0 n0 _ T10.heap _
              rw [e10]
              exact ⟨(3 : Int32), rfl, N10, rfl, (by (simp only [true_and, and_true, false_and, and_false, or_false, false_or, or_true, true_or, not_true_eq_false, not_false_eq_true, eq_self, Int32.lt_iff_toInt_lt, Int32.le_iff_toInt_le, ← Int32.toInt_inj, Int32.reduceToInt, Int64.lt_iff_toInt_lt, Int64.le_iff_toInt_le, ← Int64.toInt_inj, Int64.reduceToInt] at hc3 hc5 hc7 hc8 hc13 hl0 hu0 hl1 hu1 hl2 hu2 nw po12 ⊢) <;> omega)⟩
    ·
      refine OwnGo.back (T4.setTop (mkF m 22 #[.val (.ref b), .val (.int (3 : Int32)), .val (.int (1 : Int32)), .val (.int x1)] [])) (fun tg kk => XS.icmpNo X4.here hx rfl (hb hby own_d12_19) rfl (feq hc5).1 kk) ?_
      refine OwnGo.back (T4.setTop (mkF m 23 #[.val (.ref b), .val (.int (3 : Int32)), .val (.int (1 : Int32)), .val (.int x1)] [(.int x1)])) (fun tg kk => XS.iloadN X4.here hx rfl (hb hby own_d12_22) rfl kk) ?_
      refine OwnGo.back (T4.setTop (mkF m 25 #[.val (.ref b), .val (.int (3 : Int32)), .val (.int (1 : Int32)), .val (.int x1)] [(.int (9 : Int32)), (.int x1)])) (fun tg kk => XS.bipush X4.here hx rfl (hb hby own_d12_23) kk) ?_
      by_cases hc14 : x1 = (9 : Int32)
      ·
        refine OwnGo.back (T4.setTop (mkF m 41 #[.val (.ref b), .val (.int (3 : Int32)), .val (.int (1 : Int32)), .val (.int x1)] [])) (fun tg kk => XS.icmpYes X4.here hx rfl (pc0 := 25) (pc' := 41) rfl (hb hby own_d12_25) rfl (teq hc14).1 (by decide) (by decide) kk) ?_
        refine OwnGo.back (T4.setTop (mkF m 44 #[.val (.ref b), .val (.int (3 : Int32)), .val (.int (2 : Int32)), .val (.int x1)] [])) (fun tg kk => XS.iinc X4.here hx rfl (hb hby own_d12_41) rfl (l' := #[.val (.ref b), .val (.int (3 : Int32)), .val (.int (2 : Int32)), .val (.int x1)]) rfl kk) ?_
        refine OwnGo.back (T4.setTop (mkF m 5 #[.val (.ref b), .val (.int (3 : Int32)), .val (.int (2 : Int32)), .val (.int x1)] [])) (fun tg kk => XS.goto X4.here hx rfl (pc0 := 44) (pc' := 5) rfl (hb hby own_d12_44) (by decide) (by decide) kk) ?_
        refine OwnGo.back (T4.setTop (mkF m 6 #[.val (.ref b), .val (.int (3 : Int32)), .val (.int (2 : Int32)), .val (.int x1)] [(.int (2 : Int32))])) (fun tg kk => XS.iloadN X4.here hx rfl (hb hby own_d12_5) rfl kk) ?_
        refine OwnGo.back (T4.setTop (mkF m 7 #[.val (.ref b), .val (.int (3 : Int32)), .val (.int (2 : Int32)), .val (.int x1)] [(.int (3 : Int32)), (.int (2 : Int32))])) (fun tg kk => XS.iloadN X4.here hx rfl (hb hby own_d12_6) rfl kk) ?_
        refine OwnGo.back (T4.setTop (mkF m 10 #[.val (.ref b), .val (.int (3 : Int32)), .val (.int (2 : Int32)), .val (.int x1)] [])) (fun tg kk => XS.icmpNo X4.here hx rfl (hb hby own_d12_7) rfl (tlt (by decide : (2 : Int32) < (3 : Int32))).2.1 kk) ?_
        refine OwnGo.back (T4.setTop (mkF m 11 #[.val (.ref b), .val (.int (3 : Int32)), .val (.int (2 : Int32)), .val (.int x1)] [(.ref b)])) (fun tg kk => XS.aloadN X4.here hx rfl (hb hby own_d12_10) rfl rfl kk) ?_
        refine OwnGo.back (T4.setTop (mkF m 12 #[.val (.ref b), .val (.int (3 : Int32)), .val (.int (2 : Int32)), .val (.int x1)] [(.int (2 : Int32)), (.ref b)])) (fun tg kk => XS.iloadN X4.here hx rfl (hb hby own_d12_11) rfl kk) ?_
        obtain ⟨_, _, ⟨T15, L15, k15, n15⟩, -, X15, ⟨Lc15, hQ15, l15, y15, z15⟩, st15⟩ := Jvm.LawKit.callS X4 hx (y := (⟨"java/lang/StringLatin1", "getChar", "([BI)C"⟩ : MethodName)) hown (mvT hZ (hw _ (List.mem_of_getElem? (i := 60) rfl))) (mvT hZ (hw _ (List.mem_of_getElem? (i := 61) rfl))) (mvT hZ (hw _ (List.mem_of_getElem? (i := 58) rfl))) (mvT hZ (hw _ (List.mem_of_getElem? (i := 62) rfl))) (by decide) (backOf (W := 0) (own_gc32 l Z a0 hw [] b kb x0 x1 x2 h0 n0 Z0 B hl0 hu0 hl1 hu1 hl2 hu2) hZ (hw _ (List.mem_of_getElem? (i := 62) rfl)) (hw _ (List.mem_of_getElem? (i := 58) rfl)) (by decide) (by decide)) (g := (mkF m 12 #[.val (.ref b), .val (.int (3 : Int32)), .val (.int (2 : Int32)), .val (.int x1)] [(.int (2 : Int32)), (.ref b)])) rfl (by rw [hml]; rfl) (argsL := [(.ref b), (.int (2 : Int32))]) (rest := []) (lenOf own_pd5 rfl) rfl (by show 2 * 0 + _ ≤ _; exact Nat.le_of_eq rfl) (hb hby own_d12_12) (fun _ _ => ⟨rfl, e4, (by decide : 0 + 0 ≤ _), (by decide : 0 + 0 ≤ _)⟩)
        dsimp only [Pt.U, Pt.locs, Pt.cells, Pt.slots] at X15 l15 y15 z15 st15 hQ15
        subst l15 y15 z15
        obtain ⟨rfl, N15q, e15⟩ := hQ15
        have N15 := Fr.app N4 N15q
        refine OwnGo.back (T15.setTop (mkF m 15 #[.val (.ref b), .val (.int (3 : Int32)), .val (.int (2 : Int32)), .val (.int x1)] [(.int x2)])) (fun tg kk => st15 _ kk) ?_
        refine OwnGo.back (T15.setTop (mkF m 16 #[.val (.ref b), .val (.int (3 : Int32)), .val (.int (2 : Int32)), .val (.int x2)] [])) (fun tg kk => XS.istoreN X15.here hx rfl (hb hby own_d12_15) rfl (l' := #[.val (.ref b), .val (.int (3 : Int32)), .val (.int (2 : Int32)), .val (.int x2)]) rfl kk) ?_
        refine OwnGo.back (T15.setTop (mkF m 17 #[.val (.ref b), .val (.int (3 : Int32)), .val (.int (2 : Int32)), .val (.int x2)] [(.int x2)])) (fun tg kk => XS.iloadN X15.here hx rfl (hb hby own_d12_16) rfl kk) ?_
        refine OwnGo.back (T15.setTop (mkF m 19 #[.val (.ref b), .val (.int (3 : Int32)), .val (.int (2 : Int32)), .val (.int x2)] [(.int (32 : Int32)), (.int x2)])) (fun tg kk => XS.bipush X15.here hx rfl (hb hby own_d12_17) kk) ?_
        by_cases hc16 : x2 = (32 : Int32)
        ·
          refine OwnGo.back (T15.setTop (mkF m 41 #[.val (.ref b), .val (.int (3 : Int32)), .val (.int (2 : Int32)), .val (.int x2)] [])) (fun tg kk => XS.icmpYes X15.here hx rfl (pc0 := 19) (pc' := 41) rfl (hb hby own_d12_19) rfl (teq hc16).1 (by decide) (by decide) kk) ?_
          refine OwnGo.back (T15.setTop (mkF m 44 #[.val (.ref b), .val (.int (3 : Int32)), .val (.int (3 : Int32)), .val (.int x2)] [])) (fun tg kk => XS.iinc X15.here hx rfl (hb hby own_d12_41) rfl (l' := #[.val (.ref b), .val (.int (3 : Int32)), .val (.int (3 : Int32)), .val (.int x2)]) rfl kk) ?_
          refine OwnGo.back (T15.setTop (mkF m 5 #[.val (.ref b), .val (.int (3 : Int32)), .val (.int (3 : Int32)), .val (.int x2)] [])) (fun tg kk => XS.goto X15.here hx rfl (pc0 := 44) (pc' := 5) rfl (hb hby own_d12_44) (by decide) (by decide) kk) ?_
          refine OwnGo.back (T15.setTop (mkF m 6 #[.val (.ref b), .val (.int (3 : Int32)), .val (.int (3 : Int32)), .val (.int x2)] [(.int (3 : Int32))])) (fun tg kk => XS.iloadN X15.here hx rfl (hb hby own_d12_5) rfl kk) ?_
          refine OwnGo.back (T15.setTop (mkF m 7 #[.val (.ref b), .val (.int (3 : Int32)), .val (.int (3 : Int32)), .val (.int x2)] [(.int (3 : Int32)), (.int (3 : Int32))])) (fun tg kk => XS.iloadN X15.here hx rfl (hb hby own_d12_6) rfl kk) ?_
          refine OwnGo.back (T15.setTop (mkF m 47 #[.val (.ref b), .val (.int (3 : Int32)), .val (.int (3 : Int32)), .val (.int x2)] [])) (fun tg kk => XS.icmpYes X15.here hx rfl (pc0 := 7) (pc' := 47) rfl (hb hby own_d12_7) rfl (flt (by decide : ¬ ((3 : Int32) < (3 : Int32)))).2.1 (by decide) (by decide) kk) ?_
          refine OwnGo.back (T15.setTop (mkF m 48 #[.val (.ref b), .val (.int (3 : Int32)), .val (.int (3 : Int32)), .val (.int x2)] [(.int (3 : Int32))])) (fun tg kk => XS.iloadN X15.here hx rfl (hb hby own_d12_47) rfl kk) ?_
          obtain ⟨fs, hr, hrun, hended, hW, hsame⟩ := X15.leave (v := some (.int (3 : Int32))) (fun h => by rw [Bd.returns] at h; cases h)
          refine ⟨_, _, ?_, hrun, hended, _, _, rfl, ?_, ⟨_, rfl⟩, hW, hsame.mono (by decide) (by decide)⟩
          · exact own_retI X15 hx Bd.returns (hb hby own_d12_48) hr
          · show own_lw3_Q Z b kb x0 x1 x2 aA oi h0 n0 _ T15.heap _
            rw [e15]
            exact ⟨(3 : Int32), rfl, N15, rfl, (by (simp only [true_and, and_true, false_and, and_false, or_false, false_or, or_true, true_or, not_true_eq_false, not_false_eq_true, eq_self, Int32.lt_iff_toInt_lt, Int32.le_iff_toInt_le, ← Int32.toInt_inj, Int32.reduceToInt, Int64.lt_iff_toInt_lt, Int64.le_iff_toInt_le, ← Int64.toInt_inj, Int64.reduceToInt] at hc3 hc5 hc14 hc16 hl0 hu0 hl1 hu1 hl2 hu2 nw ⊢) <;> omega)⟩
        ·
          refine OwnGo.back (T15.setTop (mkF m 22 #[.val (.ref b), .val (.int (3 : Int32)), .val (.int (2 : Int32)), .val (.int x2)] [])) (fun tg kk => XS.icmpNo X15.here hx rfl (hb hby own_d12_19) rfl (feq hc16).1 kk) ?_
          refine OwnGo.back (T15.setTop (mkF m 23 #[.val (.ref b), .val (.int (3 : Int32)), .val (.int (2 : Int32)), .val (.int x2)] [(.int x2)])) (fun tg kk => XS.iloadN X15.here hx rfl (hb hby own_d12_22) rfl kk) ?_
          refine OwnGo.back (T15.setTop (mkF m 25 #[.val (.ref b), .val (.int (3 : Int32)), .val (.int (2 : Int32)), .val (.int x2)] [(.int (9 : Int32)), (.int x2)])) (fun tg kk => XS.bipush X15.here hx rfl (hb hby own_d12_23) kk) ?_
          by_cases hc17 : x2 = (9 : Int32)
          ·
            refine OwnGo.back (T15.setTop (mkF m 41 #[.val (.ref b), .val (.int (3 : Int32)), .val (.int (2 : Int32)), .val (.int x2)] [])) (fun tg kk => XS.icmpYes X15.here hx rfl (pc0 := 25) (pc' := 41) rfl (hb hby own_d12_25) rfl (teq hc17).1 (by decide) (by decide) kk) ?_
            refine OwnGo.back (T15.setTop (mkF m 44 #[.val (.ref b), .val (.int (3 : Int32)), .val (.int (3 : Int32)), .val (.int x2)] [])) (fun tg kk => XS.iinc X15.here hx rfl (hb hby own_d12_41) rfl (l' := #[.val (.ref b), .val (.int (3 : Int32)), .val (.int (3 : Int32)), .val (.int x2)]) rfl kk) ?_
            refine OwnGo.back (T15.setTop (mkF m 5 #[.val (.ref b), .val (.int (3 : Int32)), .val (.int (3 : Int32)), .val (.int x2)] [])) (fun tg kk => XS.goto X15.here hx rfl (pc0 := 44) (pc' := 5) rfl (hb hby own_d12_44) (by decide) (by decide) kk) ?_
            refine OwnGo.back (T15.setTop (mkF m 6 #[.val (.ref b), .val (.int (3 : Int32)), .val (.int (3 : Int32)), .val (.int x2)] [(.int (3 : Int32))])) (fun tg kk => XS.iloadN X15.here hx rfl (hb hby own_d12_5) rfl kk) ?_
            refine OwnGo.back (T15.setTop (mkF m 7 #[.val (.ref b), .val (.int (3 : Int32)), .val (.int (3 : Int32)), .val (.int x2)] [(.int (3 : Int32)), (.int (3 : Int32))])) (fun tg kk => XS.iloadN X15.here hx rfl (hb hby own_d12_6) rfl kk) ?_
            refine OwnGo.back (T15.setTop (mkF m 47 #[.val (.ref b), .val (.int (3 : Int32)), .val (.int (3 : Int32)), .val (.int x2)] [])) (fun tg kk => XS.icmpYes X15.here hx rfl (pc0 := 7) (pc' := 47) rfl (hb hby own_d12_7) rfl (flt (by decide : ¬ ((3 : Int32) < (3 : Int32)))).2.1 (by decide) (by decide) kk) ?_
            refine OwnGo.back (T15.setTop (mkF m 48 #[.val (.ref b), .val (.int (3 : Int32)), .val (.int (3 : Int32)), .val (.int x2)] [(.int (3 : Int32))])) (fun tg kk => XS.iloadN X15.here hx rfl (hb hby own_d12_47) rfl kk) ?_
            obtain ⟨fs, hr, hrun, hended, hW, hsame⟩ := X15.leave (v := some (.int (3 : Int32))) (fun h => by rw [Bd.returns] at h; cases h)
            refine ⟨_, _, ?_, hrun, hended, _, _, rfl, ?_, ⟨_, rfl⟩, hW, hsame.mono (by decide) (by decide)⟩
            · exact own_retI X15 hx Bd.returns (hb hby own_d12_48) hr
            · show own_lw3_Q Z b kb x0 x1 x2 aA oi h0 n0 _ T15.heap _
              rw [e15]
              exact ⟨(3 : Int32), rfl, N15, rfl, (by (simp only [true_and, and_true, false_and, and_false, or_false, false_or, or_true, true_or, not_true_eq_false, not_false_eq_true, eq_self, Int32.lt_iff_toInt_lt, Int32.le_iff_toInt_le, ← Int32.toInt_inj, Int32.reduceToInt, Int64.lt_iff_toInt_lt, Int64.le_iff_toInt_le, ← Int64.toInt_inj, Int64.reduceToInt] at hc3 hc5 hc14 hc16 hc17 hl0 hu0 hl1 hu1 hl2 hu2 nw ⊢) <;> omega)⟩
          ·
            refine OwnGo.back (T15.setTop (mkF m 28 #[.val (.ref b), .val (.int (3 : Int32)), .val (.int (2 : Int32)), .val (.int x2)] [])) (fun tg kk => XS.icmpNo X15.here hx rfl (hb hby own_d12_25) rfl (feq hc17).1 kk) ?_
            obtain ⟨T18, X18, e18, st18⟩ := getS2 X15 hx hZ hown (host := "") (Or.inl (hw _ (List.mem_of_getElem? (i := 63) rfl))) Via.refl e15 (SN.ext old.2) (g := (mkF m 28 #[.val (.ref b), .val (.int (3 : Int32)), .val (.int (2 : Int32)), .val (.int x2)] [])) rfl (hb hby own_d12_28)
            refine OwnGo.back (T18.setTop (mkF m 31 #[.val (.ref b), .val (.int (3 : Int32)), .val (.int (2 : Int32)), .val (.int x2)] [(.ref oi)])) (fun tg kk => st18 _ kk) ?_
            refine OwnGo.back (T18.setTop (mkF m 32 #[.val (.ref b), .val (.int (3 : Int32)), .val (.int (2 : Int32)), .val (.int x2)] [(.int x2), (.ref oi)])) (fun tg kk => XS.iloadN X18.here hx rfl (hb hby own_d12_31) rfl kk) ?_
            obtain ⟨cq19, kq19, q19a, q19b, q19c⟩ := isOf hZ e18 Xi
            obtain ⟨_, _, ⟨T19, L19, k19, n19⟩, -, X19, ⟨Lc19, hQ19, l19, y19, z19⟩, st19⟩ := X18.virtualBack hx (y := (⟨"java/lang/CharacterDataLatin1", "isWhitespace", "(I)Z"⟩ : MethodName)) (z := (⟨"java/lang/CharacterDataLatin1", "isWhitespace", "(I)Z"⟩ : MethodName)) hown (mvT hZ (hw _ (List.mem_of_getElem? (i := 65) rfl))) (mvT hZ (hw _ (List.mem_of_getElem? (i := 66) rfl))) (notFace_of_selects (args := #[]) (mvT hZ (hw _ (List.mem_of_getElem? (i := 68) rfl)))) (mvT hZ (hw _ (List.mem_of_getElem? (i := 68) rfl))) (mvT hZ (hw _ (List.mem_of_getElem? (i := 67) rfl))) (by decide) (backOf (W := 0) (own_isw l Z a0 hw [] oi x2 aA h0 n0 Z0 Xi SA old hA hl2 hu2) hZ (hw _ (List.mem_of_getElem? (i := 69) rfl)) (hw _ (List.mem_of_getElem? (i := 64) rfl)) (by decide) (by decide)) q19a q19c (g := (mkF m 32 #[.val (.ref b), .val (.int (3 : Int32)), .val (.int (2 : Int32)), .val (.int x2)] [(.int x2), (.ref oi)])) rfl (by rw [hml]; rfl) (Steps.refl _) (argsL := [(.int x2)]) (rest := []) (lenOf own_pd6 rfl) rfl (by show 2 * 0 + _ ≤ _; exact Nat.le_of_eq rfl) (hb hby own_d12_32) (fun _ _ => ⟨rfl, e18, (by decide : 0 + 0 ≤ _), (by decide : 0 + 0 ≤ _)⟩)
            dsimp only [Pt.U, Pt.locs, Pt.cells, Pt.slots] at X19 l19 y19 z19 st19 hQ19
            subst l19 y19 z19
            obtain ⟨r_20, rfl, N19q, e19, po21⟩ := hQ19
            have N19 := Fr.app N15 N19q
            refine OwnGo.back (T19.setTop (mkF m 35 #[.val (.ref b), .val (.int (3 : Int32)), .val (.int (2 : Int32)), .val (.int x2)] [(.int r_20)])) (fun tg kk => st19.trans kk) ?_
            by_cases hc22 : r_20 = (0 : Int32)
            ·
              refine OwnGo.back (T19.setTop (mkF m 38 #[.val (.ref b), .val (.int (3 : Int32)), .val (.int (2 : Int32)), .val (.int x2)] [])) (fun tg kk => XS.ifNo X19.here hx rfl (hb hby own_d12_35) rfl ((if0 _ _).trans (teq hc22).2) kk) ?_
              refine OwnGo.back (T19.setTop (mkF m 47 #[.val (.ref b), .val (.int (3 : Int32)), .val (.int (2 : Int32)), .val (.int x2)] [])) (fun tg kk => XS.goto X19.here hx rfl (pc0 := 38) (pc' := 47) rfl (hb hby own_d12_38) (by decide) (by decide) kk) ?_
              refine OwnGo.back (T19.setTop (mkF m 48 #[.val (.ref b), .val (.int (3 : Int32)), .val (.int (2 : Int32)), .val (.int x2)] [(.int (2 : Int32))])) (fun tg kk => XS.iloadN X19.here hx rfl (hb hby own_d12_47) rfl kk) ?_
              obtain ⟨fs, hr, hrun, hended, hW, hsame⟩ := X19.leave (v := some (.int (2 : Int32))) (fun h => by rw [Bd.returns] at h; cases h)
              refine ⟨_, _, ?_, hrun, hended, _, _, rfl, ?_, ⟨_, rfl⟩, hW, hsame.mono (by decide) (by decide)⟩
              · exact own_retI X19 hx Bd.returns (hb hby own_d12_48) hr
              · show own_lw3_Q Z b kb x0 x1 x2 aA oi h0 n0 _ T19.heap _
                rw [e19]
                exact ⟨(2 : Int32), rfl, N19, rfl, (by (simp only [true_and, and_true, false_and, and_false, or_false, false_or, or_true, true_or, not_true_eq_false, not_false_eq_true, eq_self, Int32.lt_iff_toInt_lt, Int32.le_iff_toInt_le, ← Int32.toInt_inj, Int32.reduceToInt, Int64.lt_iff_toInt_lt, Int64.le_iff_toInt_le, ← Int64.toInt_inj, Int64.reduceToInt] at hc3 hc5 hc14 hc16 hc17 hc22 hl0 hu0 hl1 hu1 hl2 hu2 nw po21 ⊢) <;> omega)⟩
            ·
              refine OwnGo.back (T19.setTop (mkF m 41 #[.val (.ref b), .val (.int (3 : Int32)), .val (.int (2 : Int32)), .val (.int x2)] [])) (fun tg kk => XS.ifYes X19.here hx rfl (pc0 := 35) (pc' := 41) rfl (hb hby own_d12_35) rfl ((if0 _ _).trans (feq hc22).2) (by decide) (by decide) kk) ?_
              refine OwnGo.back (T19.setTop (mkF m 44 #[.val (.ref b), .val (.int (3 : Int32)), .val (.int (3 : Int32)), .val (.int x2)] [])) (fun tg kk => XS.iinc X19.here hx rfl (hb hby own_d12_41) rfl (l' := #[.val (.ref b), .val (.int (3 : Int32)), .val (.int (3 : Int32)), .val (.int x2)]) rfl kk) ?_
              refine OwnGo.back (T19.setTop (mkF m 5 #[.val (.ref b), .val (.int (3 : Int32)), .val (.int (3 : Int32)), .val (.int x2)] [])) (fun tg kk => XS.goto X19.here hx rfl (pc0 := 44) (pc' := 5) rfl (hb hby own_d12_44) (by decide) (by decide) kk) ?_
              refine OwnGo.back (T19.setTop (mkF m 6 #[.val (.ref b), .val (.int (3 : Int32)), .val (.int (3 : Int32)), .val (.int x2)] [(.int (3 : Int32))])) (fun tg kk => XS.iloadN X19.here hx rfl (hb hby own_d12_5) rfl kk) ?_
              refine OwnGo.back (T19.setTop (mkF m 7 #[.val (.ref b), .val (.int (3 : Int32)), .val (.int (3 : Int32)), .val (.int x2)] [(.int (3 : Int32)), (.int (3 : Int32))])) (fun tg kk => XS.iloadN X19.here hx rfl (hb hby own_d12_6) rfl kk) ?_
              refine OwnGo.back (T19.setTop (mkF m 47 #[.val (.ref b), .val (.int (3 : Int32)), .val (.int (3 : Int32)), .val (.int x2)] [])) (fun tg kk => XS.icmpYes X19.here hx rfl (pc0 := 7) (pc' := 47) rfl (hb hby own_d12_7) rfl (flt (by decide : ¬ ((3 : Int32) < (3 : Int32)))).2.1 (by decide) (by decide) kk) ?_
              refine OwnGo.back (T19.setTop (mkF m 48 #[.val (.ref b), .val (.int (3 : Int32)), .val (.int (3 : Int32)), .val (.int x2)] [(.int (3 : Int32))])) (fun tg kk => XS.iloadN X19.here hx rfl (hb hby own_d12_47) rfl kk) ?_
              obtain ⟨fs, hr, hrun, hended, hW, hsame⟩ := X19.leave (v := some (.int (3 : Int32))) (fun h => by rw [Bd.returns] at h; cases h)
              refine ⟨_, _, ?_, hrun, hended, _, _, rfl, ?_, ⟨_, rfl⟩, hW, hsame.mono (by decide) (by decide)⟩
              · exact own_retI X19 hx Bd.returns (hb hby own_d12_48) hr
              · show own_lw3_Q Z b kb x0 x1 x2 aA oi h0 n0 _ T19.heap _
                rw [e19]
                exact ⟨(3 : Int32), rfl, N19, rfl, (by (simp only [true_and, and_true, false_and, and_false, or_false, false_or, or_true, true_or, not_true_eq_false, not_false_eq_true, eq_self, Int32.lt_iff_toInt_lt, Int32.le_iff_toInt_le, ← Int32.toInt_inj, Int32.reduceToInt, Int64.lt_iff_toInt_lt, Int64.le_iff_toInt_le, ← Int64.toInt_inj, Int64.reduceToInt] at hc3 hc5 hc14 hc16 hc17 hc22 hl0 hu0 hl1 hu1 hl2 hu2 nw po21 ⊢) <;> omega)⟩
      ·
        refine OwnGo.back (T4.setTop (mkF m 28 #[.val (.ref b), .val (.int (3 : Int32)), .val (.int (1 : Int32)), .val (.int x1)] [])) (fun tg kk => XS.icmpNo X4.here hx rfl (hb hby own_d12_25) rfl (feq hc14).1 kk) ?_
        obtain ⟨T23, X23, e23, st23⟩ := getS2 X4 hx hZ hown (host := "") (Or.inl (hw _ (List.mem_of_getElem? (i := 63) rfl))) Via.refl e4 (SN.ext old.2) (g := (mkF m 28 #[.val (.ref b), .val (.int (3 : Int32)), .val (.int (1 : Int32)), .val (.int x1)] [])) rfl (hb hby own_d12_28)
        refine OwnGo.back (T23.setTop (mkF m 31 #[.val (.ref b), .val (.int (3 : Int32)), .val (.int (1 : Int32)), .val (.int x1)] [(.ref oi)])) (fun tg kk => st23 _ kk) ?_
        refine OwnGo.back (T23.setTop (mkF m 32 #[.val (.ref b), .val (.int (3 : Int32)), .val (.int (1 : Int32)), .val (.int x1)] [(.int x1), (.ref oi)])) (fun tg kk => XS.iloadN X23.here hx rfl (hb hby own_d12_31) rfl kk) ?_
        obtain ⟨cq24, kq24, q24a, q24b, q24c⟩ := isOf hZ e23 Xi
        obtain ⟨_, _, ⟨T24, L24, k24, n24⟩, -, X24, ⟨Lc24, hQ24, l24, y24, z24⟩, st24⟩ := X23.virtualBack hx (y := (⟨"java/lang/CharacterDataLatin1", "isWhitespace", "(I)Z"⟩ : MethodName)) (z := (⟨"java/lang/CharacterDataLatin1", "isWhitespace", "(I)Z"⟩ : MethodName)) hown (mvT hZ (hw _ (List.mem_of_getElem? (i := 65) rfl))) (mvT hZ (hw _ (List.mem_of_getElem? (i := 66) rfl))) (notFace_of_selects (args := #[]) (mvT hZ (hw _ (List.mem_of_getElem? (i := 68) rfl)))) (mvT hZ (hw _ (List.mem_of_getElem? (i := 68) rfl))) (mvT hZ (hw _ (List.mem_of_getElem? (i := 67) rfl))) (by decide) (backOf (W := 0) (own_isw l Z a0 hw [] oi x1 aA h0 n0 Z0 Xi SA old hA hl1 hu1) hZ (hw _ (List.mem_of_getElem? (i := 69) rfl)) (hw _ (List.mem_of_getElem? (i := 64) rfl)) (by decide) (by decide)) q24a q24c (g := (mkF m 32 #[.val (.ref b), .val (.int (3 : Int32)), .val (.int (1 : Int32)), .val (.int x1)] [(.int x1), (.ref oi)])) rfl (by rw [hml]; rfl) (Steps.refl _) (argsL := [(.int x1)]) (rest := []) (lenOf own_pd6 rfl) rfl (by show 2 * 0 + _ ≤ _; exact Nat.le_of_eq rfl) (hb hby own_d12_32) (fun _ _ => ⟨rfl, e23, (by decide : 0 + 0 ≤ _), (by decide : 0 + 0 ≤ _)⟩)
        dsimp only [Pt.U, Pt.locs, Pt.cells, Pt.slots] at X24 l24 y24 z24 st24 hQ24
        subst l24 y24 z24
        obtain ⟨r_25, rfl, N24q, e24, po26⟩ := hQ24
        have N24 := Fr.app N4 N24q
        refine OwnGo.back (T24.setTop (mkF m 35 #[.val (.ref b), .val (.int (3 : Int32)), .val (.int (1 : Int32)), .val (.int x1)] [(.int r_25)])) (fun tg kk => st24.trans kk) ?_
        by_cases hc27 : r_25 = (0 : Int32)
        ·
          refine OwnGo.back (T24.setTop (mkF m 38 #[.val (.ref b), .val (.int (3 : Int32)), .val (.int (1 : Int32)), .val (.int x1)] [])) (fun tg kk => XS.ifNo X24.here hx rfl (hb hby own_d12_35) rfl ((if0 _ _).trans (teq hc27).2) kk) ?_
          refine OwnGo.back (T24.setTop (mkF m 47 #[.val (.ref b), .val (.int (3 : Int32)), .val (.int (1 : Int32)), .val (.int x1)] [])) (fun tg kk => XS.goto X24.here hx rfl (pc0 := 38) (pc' := 47) rfl (hb hby own_d12_38) (by decide) (by decide) kk) ?_
          refine OwnGo.back (T24.setTop (mkF m 48 #[.val (.ref b), .val (.int (3 : Int32)), .val (.int (1 : Int32)), .val (.int x1)] [(.int (1 : Int32))])) (fun tg kk => XS.iloadN X24.here hx rfl (hb hby own_d12_47) rfl kk) ?_
          obtain ⟨fs, hr, hrun, hended, hW, hsame⟩ := X24.leave (v := some (.int (1 : Int32))) (fun h => by rw [Bd.returns] at h; cases h)
          refine ⟨_, _, ?_, hrun, hended, _, _, rfl, ?_, ⟨_, rfl⟩, hW, hsame.mono (by decide) (by decide)⟩
          · exact own_retI X24 hx Bd.returns (hb hby own_d12_48) hr
          · show own_lw3_Q Z b kb x0 x1 x2 aA oi h0 n0 _ T24.heap _
            rw [e24]
            exact ⟨(1 : Int32), rfl, N24, rfl, (by (simp only [true_and, and_true, false_and, and_false, or_false, false_or, or_true, true_or, not_true_eq_false, not_false_eq_true, eq_self, Int32.lt_iff_toInt_lt, Int32.le_iff_toInt_le, ← Int32.toInt_inj, Int32.reduceToInt, Int64.lt_iff_toInt_lt, Int64.le_iff_toInt_le, ← Int64.toInt_inj, Int64.reduceToInt] at hc3 hc5 hc14 hc27 hl0 hu0 hl1 hu1 hl2 hu2 nw po26 ⊢) <;> omega)⟩
        ·
          refine OwnGo.back (T24.setTop (mkF m 41 #[.val (.ref b), .val (.int (3 : Int32)), .val (.int (1 : Int32)), .val (.int x1)] [])) (fun tg kk => XS.ifYes X24.here hx rfl (pc0 := 35) (pc' := 41) rfl (hb hby own_d12_35) rfl ((if0 _ _).trans (feq hc27).2) (by decide) (by decide) kk) ?_
          refine OwnGo.back (T24.setTop (mkF m 44 #[.val (.ref b), .val (.int (3 : Int32)), .val (.int (2 : Int32)), .val (.int x1)] [])) (fun tg kk => XS.iinc X24.here hx rfl (hb hby own_d12_41) rfl (l' := #[.val (.ref b), .val (.int (3 : Int32)), .val (.int (2 : Int32)), .val (.int x1)]) rfl kk) ?_
          refine OwnGo.back (T24.setTop (mkF m 5 #[.val (.ref b), .val (.int (3 : Int32)), .val (.int (2 : Int32)), .val (.int x1)] [])) (fun tg kk => XS.goto X24.here hx rfl (pc0 := 44) (pc' := 5) rfl (hb hby own_d12_44) (by decide) (by decide) kk) ?_
          refine OwnGo.back (T24.setTop (mkF m 6 #[.val (.ref b), .val (.int (3 : Int32)), .val (.int (2 : Int32)), .val (.int x1)] [(.int (2 : Int32))])) (fun tg kk => XS.iloadN X24.here hx rfl (hb hby own_d12_5) rfl kk) ?_
          refine OwnGo.back (T24.setTop (mkF m 7 #[.val (.ref b), .val (.int (3 : Int32)), .val (.int (2 : Int32)), .val (.int x1)] [(.int (3 : Int32)), (.int (2 : Int32))])) (fun tg kk => XS.iloadN X24.here hx rfl (hb hby own_d12_6) rfl kk) ?_
          refine OwnGo.back (T24.setTop (mkF m 10 #[.val (.ref b), .val (.int (3 : Int32)), .val (.int (2 : Int32)), .val (.int x1)] [])) (fun tg kk => XS.icmpNo X24.here hx rfl (hb hby own_d12_7) rfl (tlt (by decide : (2 : Int32) < (3 : Int32))).2.1 kk) ?_
          refine OwnGo.back (T24.setTop (mkF m 11 #[.val (.ref b), .val (.int (3 : Int32)), .val (.int (2 : Int32)), .val (.int x1)] [(.ref b)])) (fun tg kk => XS.aloadN X24.here hx rfl (hb hby own_d12_10) rfl rfl kk) ?_
          refine OwnGo.back (T24.setTop (mkF m 12 #[.val (.ref b), .val (.int (3 : Int32)), .val (.int (2 : Int32)), .val (.int x1)] [(.int (2 : Int32)), (.ref b)])) (fun tg kk => XS.iloadN X24.here hx rfl (hb hby own_d12_11) rfl kk) ?_
          obtain ⟨_, _, ⟨T28, L28, k28, n28⟩, -, X28, ⟨Lc28, hQ28, l28, y28, z28⟩, st28⟩ := Jvm.LawKit.callS X24 hx (y := (⟨"java/lang/StringLatin1", "getChar", "([BI)C"⟩ : MethodName)) hown (mvT hZ (hw _ (List.mem_of_getElem? (i := 60) rfl))) (mvT hZ (hw _ (List.mem_of_getElem? (i := 61) rfl))) (mvT hZ (hw _ (List.mem_of_getElem? (i := 58) rfl))) (mvT hZ (hw _ (List.mem_of_getElem? (i := 62) rfl))) (by decide) (backOf (W := 0) (own_gc32 l Z a0 hw [] b kb x0 x1 x2 h0 n0 Z0 B hl0 hu0 hl1 hu1 hl2 hu2) hZ (hw _ (List.mem_of_getElem? (i := 62) rfl)) (hw _ (List.mem_of_getElem? (i := 58) rfl)) (by decide) (by decide)) (g := (mkF m 12 #[.val (.ref b), .val (.int (3 : Int32)), .val (.int (2 : Int32)), .val (.int x1)] [(.int (2 : Int32)), (.ref b)])) rfl (by rw [hml]; rfl) (argsL := [(.ref b), (.int (2 : Int32))]) (rest := []) (lenOf own_pd5 rfl) rfl (by show 2 * 0 + _ ≤ _; exact Nat.le_of_eq rfl) (hb hby own_d12_12) (fun _ _ => ⟨rfl, e24, (by decide : 0 + 0 ≤ _), (by decide : 0 + 0 ≤ _)⟩)
          dsimp only [Pt.U, Pt.locs, Pt.cells, Pt.slots] at X28 l28 y28 z28 st28 hQ28
          subst l28 y28 z28
          obtain ⟨rfl, N28q, e28⟩ := hQ28
          have N28 := Fr.app N24 N28q
          refine OwnGo.back (T28.setTop (mkF m 15 #[.val (.ref b), .val (.int (3 : Int32)), .val (.int (2 : Int32)), .val (.int x1)] [(.int x2)])) (fun tg kk => st28 _ kk) ?_
          refine OwnGo.back (T28.setTop (mkF m 16 #[.val (.ref b), .val (.int (3 : Int32)), .val (.int (2 : Int32)), .val (.int x2)] [])) (fun tg kk => XS.istoreN X28.here hx rfl (hb hby own_d12_15) rfl (l' := #[.val (.ref b), .val (.int (3 : Int32)), .val (.int (2 : Int32)), .val (.int x2)]) rfl kk) ?_
          refine OwnGo.back (T28.setTop (mkF m 17 #[.val (.ref b), .val (.int (3 : Int32)), .val (.int (2 : Int32)), .val (.int x2)] [(.int x2)])) (fun tg kk => XS.iloadN X28.here hx rfl (hb hby own_d12_16) rfl kk) ?_
          refine OwnGo.back (T28.setTop (mkF m 19 #[.val (.ref b), .val (.int (3 : Int32)), .val (.int (2 : Int32)), .val (.int x2)] [(.int (32 : Int32)), (.int x2)])) (fun tg kk => XS.bipush X28.here hx rfl (hb hby own_d12_17) kk) ?_
          by_cases hc29 : x2 = (32 : Int32)
          ·
            refine OwnGo.back (T28.setTop (mkF m 41 #[.val (.ref b), .val (.int (3 : Int32)), .val (.int (2 : Int32)), .val (.int x2)] [])) (fun tg kk => XS.icmpYes X28.here hx rfl (pc0 := 19) (pc' := 41) rfl (hb hby own_d12_19) rfl (teq hc29).1 (by decide) (by decide) kk) ?_
            refine OwnGo.back (T28.setTop (mkF m 44 #[.val (.ref b), .val (.int (3 : Int32)), .val (.int (3 : Int32)), .val (.int x2)] [])) (fun tg kk => XS.iinc X28.here hx rfl (hb hby own_d12_41) rfl (l' := #[.val (.ref b), .val (.int (3 : Int32)), .val (.int (3 : Int32)), .val (.int x2)]) rfl kk) ?_
            refine OwnGo.back (T28.setTop (mkF m 5 #[.val (.ref b), .val (.int (3 : Int32)), .val (.int (3 : Int32)), .val (.int x2)] [])) (fun tg kk => XS.goto X28.here hx rfl (pc0 := 44) (pc' := 5) rfl (hb hby own_d12_44) (by decide) (by decide) kk) ?_
            refine OwnGo.back (T28.setTop (mkF m 6 #[.val (.ref b), .val (.int (3 : Int32)), .val (.int (3 : Int32)), .val (.int x2)] [(.int (3 : Int32))])) (fun tg kk => XS.iloadN X28.here hx rfl (hb hby own_d12_5) rfl kk) ?_
            refine OwnGo.back (T28.setTop (mkF m 7 #[.val (.ref b), .val (.int (3 : Int32)), .val (.int (3 : Int32)), .val (.int x2)] [(.int (3 : Int32)), (.int (3 : Int32))])) (fun tg kk => XS.iloadN X28.here hx rfl (hb hby own_d12_6) rfl kk) ?_
            refine OwnGo.back (T28.setTop (mkF m 47 #[.val (.ref b), .val (.int (3 : Int32)), .val (.int (3 : Int32)), .val (.int x2)] [])) (fun tg kk => XS.icmpYes X28.here hx rfl (pc0 := 7) (pc' := 47) rfl (hb hby own_d12_7) rfl (flt (by decide : ¬ ((3 : Int32) < (3 : Int32)))).2.1 (by decide) (by decide) kk) ?_
            refine OwnGo.back (T28.setTop (mkF m 48 #[.val (.ref b), .val (.int (3 : Int32)), .val (.int (3 : Int32)), .val (.int x2)] [(.int (3 : Int32))])) (fun tg kk => XS.iloadN X28.here hx rfl (hb hby own_d12_47) rfl kk) ?_
            obtain ⟨fs, hr, hrun, hended, hW, hsame⟩ := X28.leave (v := some (.int (3 : Int32))) (fun h => by rw [Bd.returns] at h; cases h)
            refine ⟨_, _, ?_, hrun, hended, _, _, rfl, ?_, ⟨_, rfl⟩, hW, hsame.mono (by decide) (by decide)⟩
            · exact own_retI X28 hx Bd.returns (hb hby own_d12_48) hr
            · show own_lw3_Q Z b kb x0 x1 x2 aA oi h0 n0 _ T28.heap _
              rw [e28]
              exact ⟨(3 : Int32), rfl, N28, rfl, (by (simp only [true_and, and_true, false_and, and_false, or_false, false_or, or_true, true_or, not_true_eq_false, not_false_eq_true, eq_self, Int32.lt_iff_toInt_lt, Int32.le_iff_toInt_le, ← Int32.toInt_inj, Int32.reduceToInt, Int64.lt_iff_toInt_lt, Int64.le_iff_toInt_le, ← Int64.toInt_inj, Int64.reduceToInt] at hc3 hc5 hc14 hc27 hc29 hl0 hu0 hl1 hu1 hl2 hu2 nw po26 ⊢) <;> omega)⟩
          ·
            refine OwnGo.back (T28.setTop (mkF m 22 #[.val (.ref b), .val (.int (3 : Int32)), .val (.int (2 : Int32)), .val (.int x2)] [])) (fun tg kk => XS.icmpNo X28.here hx rfl (hb hby own_d12_19) rfl (feq hc29).1 kk) ?_
            refine OwnGo.back (T28.setTop (mkF m 23 #[.val (.ref b), .val (.int (3 : Int32)), .val (.int (2 : Int32)), .val (.int x2)] [(.int x2)])) (fun tg kk => XS.iloadN X28.here hx rfl (hb hby own_d12_22) rfl kk) ?_
            refine OwnGo.back (T28.setTop (mkF m 25 #[.val (.ref b), .val (.int (3 : Int32)), .val (.int (2 : Int32)), .val (.int x2)] [(.int (9 : Int32)), (.int x2)])) (fun tg kk => XS.bipush X28.here hx rfl (hb hby own_d12_23) kk) ?_
            by_cases hc30 : x2 = (9 : Int32)
            ·
              refine OwnGo.back (T28.setTop (mkF m 41 #[.val (.ref b), .val (.int (3 : Int32)), .val (.int (2 : Int32)), .val (.int x2)] [])) (fun tg kk => XS.icmpYes X28.here hx rfl (pc0 := 25) (pc' := 41) rfl (hb hby own_d12_25) rfl (teq hc30).1 (by decide) (by decide) kk) ?_
              refine OwnGo.back (T28.setTop (mkF m 44 #[.val (.ref b), .val (.int (3 : Int32)), .val (.int (3 : Int32)), .val (.int x2)] [])) (fun tg kk => XS.iinc X28.here hx rfl (hb hby own_d12_41) rfl (l' := #[.val (.ref b), .val (.int (3 : Int32)), .val (.int (3 : Int32)), .val (.int x2)]) rfl kk) ?_
              refine OwnGo.back (T28.setTop (mkF m 5 #[.val (.ref b), .val (.int (3 : Int32)), .val (.int (3 : Int32)), .val (.int x2)] [])) (fun tg kk => XS.goto X28.here hx rfl (pc0 := 44) (pc' := 5) rfl (hb hby own_d12_44) (by decide) (by decide) kk) ?_
              refine OwnGo.back (T28.setTop (mkF m 6 #[.val (.ref b), .val (.int (3 : Int32)), .val (.int (3 : Int32)), .val (.int x2)] [(.int (3 : Int32))])) (fun tg kk => XS.iloadN X28.here hx rfl (hb hby own_d12_5) rfl kk) ?_
              refine OwnGo.back (T28.setTop (mkF m 7 #[.val (.ref b), .val (.int (3 : Int32)), .val (.int (3 : Int32)), .val (.int x2)] [(.int (3 : Int32)), (.int (3 : Int32))])) (fun tg kk => XS.iloadN X28.here hx rfl (hb hby own_d12_6) rfl kk) ?_
              refine OwnGo.back (T28.setTop (mkF m 47 #[.val (.ref b), .val (.int (3 : Int32)), .val (.int (3 : Int32)), .val (.int x2)] [])) (fun tg kk => XS.icmpYes X28.here hx rfl (pc0 := 7) (pc' := 47) rfl (hb hby own_d12_7) rfl (flt (by decide : ¬ ((3 : Int32) < (3 : Int32)))).2.1 (by decide) (by decide) kk) ?_
              refine OwnGo.back (T28.setTop (mkF m 48 #[.val (.ref b), .val (.int (3 : Int32)), .val (.int (3 : Int32)), .val (.int x2)] [(.int (3 : Int32))])) (fun tg kk => XS.iloadN X28.here hx rfl (hb hby own_d12_47) rfl kk) ?_
              obtain ⟨fs, hr, hrun, hended, hW, hsame⟩ := X28.leave (v := some (.int (3 : Int32))) (fun h => by rw [Bd.returns] at h; cases h)
              refine ⟨_, _, ?_, hrun, hended, _, _, rfl, ?_, ⟨_, rfl⟩, hW, hsame.mono (by decide) (by decide)⟩
              · exact own_retI X28 hx Bd.returns (hb hby own_d12_48) hr
              · show own_lw3_Q Z b kb x0 x1 x2 aA oi h0 n0 _ T28.heap _
                rw [e28]
                exact ⟨(3 : Int32), rfl, N28, rfl, (by (simp only [true_and, and_true, false_and, and_false, or_false, false_or, or_true, true_or, not_true_eq_false, not_false_eq_true, eq_self, Int32.lt_iff_toInt_lt, Int32.le_iff_toInt_le, ← Int32.toInt_inj, Int32.reduceToInt, Int64.lt_iff_toInt_lt, Int64.le_iff_toInt_le, ← Int64.toInt_inj, Int64.reduceToInt] at hc3 hc5 hc14 hc27 hc29 hc30 hl0 hu0 hl1 hu1 hl2 hu2 nw po26 ⊢) <;> omega)⟩
            ·
              refine OwnGo.back (T28.setTop (mkF m 28 #[.val (.ref b), .val (.int (3 : Int32)), .val (.int (2 : Int32)), .val (.int x2)] [])) (fun tg kk => XS.icmpNo X28.here hx rfl (hb hby own_d12_25) rfl (feq hc30).1 kk) ?_
              obtain ⟨T31, X31, e31, st31⟩ := getS2 X28 hx hZ hown (host := "") (Or.inl (hw _ (List.mem_of_getElem? (i := 63) rfl))) Via.refl e28 (SN.ext old.2) (g := (mkF m 28 #[.val (.ref b), .val (.int (3 : Int32)), .val (.int (2 : Int32)), .val (.int x2)] [])) rfl (hb hby own_d12_28)
              refine OwnGo.back (T31.setTop (mkF m 31 #[.val (.ref b), .val (.int (3 : Int32)), .val (.int (2 : Int32)), .val (.int x2)] [(.ref oi)])) (fun tg kk => st31 _ kk) ?_
              refine OwnGo.back (T31.setTop (mkF m 32 #[.val (.ref b), .val (.int (3 : Int32)), .val (.int (2 : Int32)), .val (.int x2)] [(.int x2), (.ref oi)])) (fun tg kk => XS.iloadN X31.here hx rfl (hb hby own_d12_31) rfl kk) ?_
              obtain ⟨cq32, kq32, q32a, q32b, q32c⟩ := isOf hZ e31 Xi
              obtain ⟨_, _, ⟨T32, L32, k32, n32⟩, -, X32, ⟨Lc32, hQ32, l32, y32, z32⟩, st32⟩ := X31.virtualBack hx (y := (⟨"java/lang/CharacterDataLatin1", "isWhitespace", "(I)Z"⟩ : MethodName)) (z := (⟨"java/lang/CharacterDataLatin1", "isWhitespace", "(I)Z"⟩ : MethodName)) hown (mvT hZ (hw _ (List.mem_of_getElem? (i := 65) rfl))) (mvT hZ (hw _ (List.mem_of_getElem? (i := 66) rfl))) (notFace_of_selects (args := #[]) (mvT hZ (hw _ (List.mem_of_getElem? (i := 68) rfl)))) (mvT hZ (hw _ (List.mem_of_getElem? (i := 68) rfl))) (mvT hZ (hw _ (List.mem_of_getElem? (i := 67) rfl))) (by decide) (backOf (W := 0) (own_isw l Z a0 hw [] oi x2 aA h0 n0 Z0 Xi SA old hA hl2 hu2) hZ (hw _ (List.mem_of_getElem? (i := 69) rfl)) (hw _ (List.mem_of_getElem? (i := 64) rfl)) (by decide) (by decide)) q32a q32c (g := (mkF m 32 #[.val (.ref b), .val (.int (3 : Int32)), .val (.int (2 : Int32)), .val (.int x2)] [(.int x2), (.ref oi)])) rfl (by rw [hml]; rfl) (Steps.refl _) (argsL := [(.int x2)]) (rest := []) (lenOf own_pd6 rfl) rfl (by show 2 * 0 + _ ≤ _; exact Nat.le_of_eq rfl) (hb hby own_d12_32) (fun _ _ => ⟨rfl, e31, (by decide : 0 + 0 ≤ _), (by decide : 0 + 0 ≤ _)⟩)
              dsimp only [Pt.U, Pt.locs, Pt.cells, Pt.slots] at X32 l32 y32 z32 st32 hQ32
              subst l32 y32 z32
              obtain ⟨r_33, rfl, N32q, e32, po34⟩ := hQ32
              have N32 := Fr.app N28 N32q
              refine OwnGo.back (T32.setTop (mkF m 35 #[.val (.ref b), .val (.int (3 : Int32)), .val (.int (2 : Int32)), .val (.int x2)] [(.int r_33)])) (fun tg kk => st32.trans kk) ?_
              by_cases hc35 : r_33 = (0 : Int32)
              ·
                refine OwnGo.back (T32.setTop (mkF m 38 #[.val (.ref b), .val (.int (3 : Int32)), .val (.int (2 : Int32)), .val (.int x2)] [])) (fun tg kk => XS.ifNo X32.here hx rfl (hb hby own_d12_35) rfl ((if0 _ _).trans (teq hc35).2) kk) ?_
                refine OwnGo.back (T32.setTop (mkF m 47 #[.val (.ref b), .val (.int (3 : Int32)), .val (.int (2 : Int32)), .val (.int x2)] [])) (fun tg kk => XS.goto X32.here hx rfl (pc0 := 38) (pc' := 47) rfl (hb hby own_d12_38) (by decide) (by decide) kk) ?_
                refine OwnGo.back (T32.setTop (mkF m 48 #[.val (.ref b), .val (.int (3 : Int32)), .val (.int (2 : Int32)), .val (.int x2)] [(.int (2 : Int32))])) (fun tg kk => XS.iloadN X32.here hx rfl (hb hby own_d12_47) rfl kk) ?_
                obtain ⟨fs, hr, hrun, hended, hW, hsame⟩ := X32.leave (v := some (.int (2 : Int32))) (fun h => by rw [Bd.returns] at h; cases h)
                refine ⟨_, _, ?_, hrun, hended, _, _, rfl, ?_, ⟨_, rfl⟩, hW, hsame.mono (by decide) (by decide)⟩
                · exact own_retI X32 hx Bd.returns (hb hby own_d12_48) hr
                · show own_lw3_Q Z b kb x0 x1 x2 aA oi h0 n0 _ T32.heap _
                  rw [e32]
                  exact ⟨(2 : Int32), rfl, N32, rfl, (by (simp only [true_and, and_true, false_and, and_false, or_false, false_or, or_true, true_or, not_true_eq_false, not_false_eq_true, eq_self, Int32.lt_iff_toInt_lt, Int32.le_iff_toInt_le, ← Int32.toInt_inj, Int32.reduceToInt, Int64.lt_iff_toInt_lt, Int64.le_iff_toInt_le, ← Int64.toInt_inj, Int64.reduceToInt] at hc3 hc5 hc14 hc27 hc29 hc30 hc35 hl0 hu0 hl1 hu1 hl2 hu2 nw po26 po34 ⊢) <;> omega)⟩
              ·
                refine OwnGo.back (T32.setTop (mkF m 41 #[.val (.ref b), .val (.int (3 : Int32)), .val (.int (2 : Int32)), .val (.int x2)] [])) (fun tg kk => XS.ifYes X32.here hx rfl (pc0 := 35) (pc' := 41) rfl (hb hby own_d12_35) rfl ((if0 _ _).trans (feq hc35).2) (by decide) (by decide) kk) ?_
                refine OwnGo.back (T32.setTop (mkF m 44 #[.val (.ref b), .val (.int (3 : Int32)), .val (.int (3 : Int32)), .val (.int x2)] [])) (fun tg kk => XS.iinc X32.here hx rfl (hb hby own_d12_41) rfl (l' := #[.val (.ref b), .val (.int (3 : Int32)), .val (.int (3 : Int32)), .val (.int x2)]) rfl kk) ?_
                refine OwnGo.back (T32.setTop (mkF m 5 #[.val (.ref b), .val (.int (3 : Int32)), .val (.int (3 : Int32)), .val (.int x2)] [])) (fun tg kk => XS.goto X32.here hx rfl (pc0 := 44) (pc' := 5) rfl (hb hby own_d12_44) (by decide) (by decide) kk) ?_
                refine OwnGo.back (T32.setTop (mkF m 6 #[.val (.ref b), .val (.int (3 : Int32)), .val (.int (3 : Int32)), .val (.int x2)] [(.int (3 : Int32))])) (fun tg kk => XS.iloadN X32.here hx rfl (hb hby own_d12_5) rfl kk) ?_
                refine OwnGo.back (T32.setTop (mkF m 7 #[.val (.ref b), .val (.int (3 : Int32)), .val (.int (3 : Int32)), .val (.int x2)] [(.int (3 : Int32)), (.int (3 : Int32))])) (fun tg kk => XS.iloadN X32.here hx rfl (hb hby own_d12_6) rfl kk) ?_
                refine OwnGo.back (T32.setTop (mkF m 47 #[.val (.ref b), .val (.int (3 : Int32)), .val (.int (3 : Int32)), .val (.int x2)] [])) (fun tg kk => XS.icmpYes X32.here hx rfl (pc0 := 7) (pc' := 47) rfl (hb hby own_d12_7) rfl (flt (by decide : ¬ ((3 : Int32) < (3 : Int32)))).2.1 (by decide) (by decide) kk) ?_
                refine OwnGo.back (T32.setTop (mkF m 48 #[.val (.ref b), .val (.int (3 : Int32)), .val (.int (3 : Int32)), .val (.int x2)] [(.int (3 : Int32))])) (fun tg kk => XS.iloadN X32.here hx rfl (hb hby own_d12_47) rfl kk) ?_
                obtain ⟨fs, hr, hrun, hended, hW, hsame⟩ := X32.leave (v := some (.int (3 : Int32))) (fun h => by rw [Bd.returns] at h; cases h)
                refine ⟨_, _, ?_, hrun, hended, _, _, rfl, ?_, ⟨_, rfl⟩, hW, hsame.mono (by decide) (by decide)⟩
                · exact own_retI X32 hx Bd.returns (hb hby own_d12_48) hr
                · show own_lw3_Q Z b kb x0 x1 x2 aA oi h0 n0 _ T32.heap _
                  rw [e32]
                  exact ⟨(3 : Int32), rfl, N32, rfl, (by (simp only [true_and, and_true, false_and, and_false, or_false, false_or, or_true, true_or, not_true_eq_false, not_false_eq_true, eq_self, Int32.lt_iff_toInt_lt, Int32.le_iff_toInt_le, ← Int32.toInt_inj, Int32.reduceToInt, Int64.lt_iff_toInt_lt, Int64.le_iff_toInt_le, ← Int64.toInt_inj, Int64.reduceToInt] at hc3 hc5 hc14 hc27 hc29 hc30 hc35 hl0 hu0 hl1 hu1 hl2 hu2 nw po26 po34 ⊢) <;> omega)⟩
  ·
    refine OwnGo.back (T2.setTop (mkF m 22 #[.val (.ref b), .val (.int (3 : Int32)), .val (.int (0 : Int32)), .val (.int x0)] [])) (fun tg kk => XS.icmpNo X2.here hx rfl (hb hby own_d12_19) rfl (feq hc3).1 kk) ?_
    refine OwnGo.back (T2.setTop (mkF m 23 #[.val (.ref b), .val (.int (3 : Int32)), .val (.int (0 : Int32)), .val (.int x0)] [(.int x0)])) (fun tg kk => XS.iloadN X2.here hx rfl (hb hby own_d12_22) rfl kk) ?_
    refine OwnGo.back (T2.setTop (mkF m 25 #[.val (.ref b), .val (.int (3 : Int32)), .val (.int (0 : Int32)), .val (.int x0)] [(.int (9 : Int32)), (.int x0)])) (fun tg kk => XS.bipush X2.here hx rfl (hb hby own_d12_23) kk) ?_
    by_cases hc36 : x0 = (9 : Int32)
    ·
      refine OwnGo.back (T2.setTop (mkF m 41 #[.val (.ref b), .val (.int (3 : Int32)), .val (.int (0 : Int32)), .val (.int x0)] [])) (fun tg kk => XS.icmpYes X2.here hx rfl (pc0 := 25) (pc' := 41) rfl (hb hby own_d12_25) rfl (teq hc36).1 (by decide) (by decide) kk) ?_
      refine OwnGo.back (T2.setTop (mkF m 44 #[.val (.ref b), .val (.int (3 : Int32)), .val (.int (1 : Int32)), .val (.int x0)] [])) (fun tg kk => XS.iinc X2.here hx rfl (hb hby own_d12_41) rfl (l' := #[.val (.ref b), .val (.int (3 : Int32)), .val (.int (1 : Int32)), .val (.int x0)]) rfl kk) ?_
      refine OwnGo.back (T2.setTop (mkF m 5 #[.val (.ref b), .val (.int (3 : Int32)), .val (.int (1 : Int32)), .val (.int x0)] [])) (fun tg kk => XS.goto X2.here hx rfl (pc0 := 44) (pc' := 5) rfl (hb hby own_d12_44) (by decide) (by decide) kk) ?_
      refine OwnGo.back (T2.setTop (mkF m 6 #[.val (.ref b), .val (.int (3 : Int32)), .val (.int (1 : Int32)), .val (.int x0)] [(.int (1 : Int32))])) (fun tg kk => XS.iloadN X2.here hx rfl (hb hby own_d12_5) rfl kk) ?_
      refine OwnGo.back (T2.setTop (mkF m 7 #[.val (.ref b), .val (.int (3 : Int32)), .val (.int (1 : Int32)), .val (.int x0)] [(.int (3 : Int32)), (.int (1 : Int32))])) (fun tg kk => XS.iloadN X2.here hx rfl (hb hby own_d12_6) rfl kk) ?_
      refine OwnGo.back (T2.setTop (mkF m 10 #[.val (.ref b), .val (.int (3 : Int32)), .val (.int (1 : Int32)), .val (.int x0)] [])) (fun tg kk => XS.icmpNo X2.here hx rfl (hb hby own_d12_7) rfl (tlt (by decide : (1 : Int32) < (3 : Int32))).2.1 kk) ?_
      refine OwnGo.back (T2.setTop (mkF m 11 #[.val (.ref b), .val (.int (3 : Int32)), .val (.int (1 : Int32)), .val (.int x0)] [(.ref b)])) (fun tg kk => XS.aloadN X2.here hx rfl (hb hby own_d12_10) rfl rfl kk) ?_
      refine OwnGo.back (T2.setTop (mkF m 12 #[.val (.ref b), .val (.int (3 : Int32)), .val (.int (1 : Int32)), .val (.int x0)] [(.int (1 : Int32)), (.ref b)])) (fun tg kk => XS.iloadN X2.here hx rfl (hb hby own_d12_11) rfl kk) ?_
      obtain ⟨_, _, ⟨T37, L37, k37, n37⟩, -, X37, ⟨Lc37, hQ37, l37, y37, z37⟩, st37⟩ := Jvm.LawKit.callS X2 hx (y := (⟨"java/lang/StringLatin1", "getChar", "([BI)C"⟩ : MethodName)) hown (mvT hZ (hw _ (List.mem_of_getElem? (i := 60) rfl))) (mvT hZ (hw _ (List.mem_of_getElem? (i := 61) rfl))) (mvT hZ (hw _ (List.mem_of_getElem? (i := 58) rfl))) (mvT hZ (hw _ (List.mem_of_getElem? (i := 62) rfl))) (by decide) (backOf (W := 0) (own_gc31 l Z a0 hw [] b kb x0 x1 x2 h0 n0 Z0 B hl0 hu0 hl1 hu1 hl2 hu2) hZ (hw _ (List.mem_of_getElem? (i := 62) rfl)) (hw _ (List.mem_of_getElem? (i := 58) rfl)) (by decide) (by decide)) (g := (mkF m 12 #[.val (.ref b), .val (.int (3 : Int32)), .val (.int (1 : Int32)), .val (.int x0)] [(.int (1 : Int32)), (.ref b)])) rfl (by rw [hml]; rfl) (argsL := [(.ref b), (.int (1 : Int32))]) (rest := []) (lenOf own_pd5 rfl) rfl (by show 2 * 0 + _ ≤ _; exact Nat.le_of_eq rfl) (hb hby own_d12_12) (fun _ _ => ⟨rfl, e2, (by decide : 0 + 0 ≤ _), (by decide : 0 + 0 ≤ _)⟩)
      dsimp only [Pt.U, Pt.locs, Pt.cells, Pt.slots] at X37 l37 y37 z37 st37 hQ37
      subst l37 y37 z37
      obtain ⟨rfl, N37q, e37⟩ := hQ37
      have N37 := Fr.app N2 N37q
      refine OwnGo.back (T37.setTop (mkF m 15 #[.val (.ref b), .val (.int (3 : Int32)), .val (.int (1 : Int32)), .val (.int x0)] [(.int x1)])) (fun tg kk => st37 _ kk) ?_
      refine OwnGo.back (T37.setTop (mkF m 16 #[.val (.ref b), .val (.int (3 : Int32)), .val (.int (1 : Int32)), .val (.int x1)] [])) (fun tg kk => XS.istoreN X37.here hx rfl (hb hby own_d12_15) rfl (l' := #[.val (.ref b), .val (.int (3 : Int32)), .val (.int (1 : Int32)), .val (.int x1)]) rfl kk) ?_
      refine OwnGo.back (T37.setTop (mkF m 17 #[.val (.ref b), .val (.int (3 : Int32)), .val (.int (1 : Int32)), .val (.int x1)] [(.int x1)])) (fun tg kk => XS.iloadN X37.here hx rfl (hb hby own_d12_16) rfl kk) ?_
      refine OwnGo.back (T37.setTop (mkF m 19 #[.val (.ref b), .val (.int (3 : Int32)), .val (.int (1 : Int32)), .val (.int x1)] [(.int (32 : Int32)), (.int x1)])) (fun tg kk => XS.bipush X37.here hx rfl (hb hby own_d12_17) kk) ?_
      by_cases hc38 : x1 = (32 : Int32)
      ·
        refine OwnGo.back (T37.setTop (mkF m 41 #[.val (.ref b), .val (.int (3 : Int32)), .val (.int (1 : Int32)), .val (.int x1)] [])) (fun tg kk => XS.icmpYes X37.here hx rfl (pc0 := 19) (pc' := 41) rfl (hb hby own_d12_19) rfl (teq hc38).1 (by decide) (by decide) kk) ?_
        refine OwnGo.back (T37.setTop (mkF m 44 #[.val (.ref b), .val (.int (3 : Int32)), .val (.int (2 : Int32)), .val (.int x1)] [])) (fun tg kk => XS.iinc X37.here hx rfl (hb hby own_d12_41) rfl (l' := #[.val (.ref b), .val (.int (3 : Int32)), .val (.int (2 : Int32)), .val (.int x1)]) rfl kk) ?_
        refine OwnGo.back (T37.setTop (mkF m 5 #[.val (.ref b), .val (.int (3 : Int32)), .val (.int (2 : Int32)), .val (.int x1)] [])) (fun tg kk => XS.goto X37.here hx rfl (pc0 := 44) (pc' := 5) rfl (hb hby own_d12_44) (by decide) (by decide) kk) ?_
        refine OwnGo.back (T37.setTop (mkF m 6 #[.val (.ref b), .val (.int (3 : Int32)), .val (.int (2 : Int32)), .val (.int x1)] [(.int (2 : Int32))])) (fun tg kk => XS.iloadN X37.here hx rfl (hb hby own_d12_5) rfl kk) ?_
        refine OwnGo.back (T37.setTop (mkF m 7 #[.val (.ref b), .val (.int (3 : Int32)), .val (.int (2 : Int32)), .val (.int x1)] [(.int (3 : Int32)), (.int (2 : Int32))])) (fun tg kk => XS.iloadN X37.here hx rfl (hb hby own_d12_6) rfl kk) ?_
        refine OwnGo.back (T37.setTop (mkF m 10 #[.val (.ref b), .val (.int (3 : Int32)), .val (.int (2 : Int32)), .val (.int x1)] [])) (fun tg kk => XS.icmpNo X37.here hx rfl (hb hby own_d12_7) rfl (tlt (by decide : (2 : Int32) < (3 : Int32))).2.1 kk) ?_
        refine OwnGo.back (T37.setTop (mkF m 11 #[.val (.ref b), .val (.int (3 : Int32)), .val (.int (2 : Int32)), .val (.int x1)] [(.ref b)])) (fun tg kk => XS.aloadN X37.here hx rfl (hb hby own_d12_10) rfl rfl kk) ?_
        refine OwnGo.back (T37.setTop (mkF m 12 #[.val (.ref b), .val (.int (3 : Int32)), .val (.int (2 : Int32)), .val (.int x1)] [(.int (2 : Int32)), (.ref b)])) (fun tg kk => XS.iloadN X37.here hx rfl (hb hby own_d12_11) rfl kk) ?_
        obtain ⟨_, _, ⟨T39, L39, k39, n39⟩, -, X39, ⟨Lc39, hQ39, l39, y39, z39⟩, st39⟩ := Jvm.LawKit.callS X37 hx (y := (⟨"java/lang/StringLatin1", "getChar", "([BI)C"⟩ : MethodName)) hown (mvT hZ (hw _ (List.mem_of_getElem? (i := 60) rfl))) (mvT hZ (hw _ (List.mem_of_getElem? (i := 61) rfl))) (mvT hZ (hw _ (List.mem_of_getElem? (i := 58) rfl))) (mvT hZ (hw _ (List.mem_of_getElem? (i := 62) rfl))) (by decide) (backOf (W := 0) (own_gc32 l Z a0 hw [] b kb x0 x1 x2 h0 n0 Z0 B hl0 hu0 hl1 hu1 hl2 hu2) hZ (hw _ (List.mem_of_getElem? (i := 62) rfl)) (hw _ (List.mem_of_getElem? (i := 58) rfl)) (by decide) (by decide)) (g := (mkF m 12 #[.val (.ref b), .val (.int (3 : Int32)), .val (.int (2 : Int32)), .val (.int x1)] [(.int (2 : Int32)), (.ref b)])) rfl (by rw [hml]; rfl) (argsL := [(.ref b), (.int (2 : Int32))]) (rest := []) (lenOf own_pd5 rfl) rfl (by show 2 * 0 + _ ≤ _; exact Nat.le_of_eq rfl) (hb hby own_d12_12) (fun _ _ => ⟨rfl, e37, (by decide : 0 + 0 ≤ _), (by decide : 0 + 0 ≤ _)⟩)
        dsimp only [Pt.U, Pt.locs, Pt.cells, Pt.slots] at X39 l39 y39 z39 st39 hQ39
        subst l39 y39 z39
        obtain ⟨rfl, N39q, e39⟩ := hQ39
        have N39 := Fr.app N37 N39q
        refine OwnGo.back (T39.setTop (mkF m 15 #[.val (.ref b), .val (.int (3 : Int32)), .val (.int (2 : Int32)), .val (.int x1)] [(.int x2)])) (fun tg kk => st39 _ kk) ?_
        refine OwnGo.back (T39.setTop (mkF m 16 #[.val (.ref b), .val (.int (3 : Int32)), .val (.int (2 : Int32)), .val (.int x2)] [])) (fun tg kk => XS.istoreN X39.here hx rfl (hb hby own_d12_15) rfl (l' := #[.val (.ref b), .val (.int (3 : Int32)), .val (.int (2 : Int32)), .val (.int x2)]) rfl kk) ?_
        refine OwnGo.back (T39.setTop (mkF m 17 #[.val (.ref b), .val (.int (3 : Int32)), .val (.int (2 : Int32)), .val (.int x2)] [(.int x2)])) (fun tg kk => XS.iloadN X39.here hx rfl (hb hby own_d12_16) rfl kk) ?_
        refine OwnGo.back (T39.setTop (mkF m 19 #[.val (.ref b), .val (.int (3 : Int32)), .val (.int (2 : Int32)), .val (.int x2)] [(.int (32 : Int32)), (.int x2)])) (fun tg kk => XS.bipush X39.here hx rfl (hb hby own_d12_17) kk) ?_
        by_cases hc40 : x2 = (32 : Int32)
        ·
          refine OwnGo.back (T39.setTop (mkF m 41 #[.val (.ref b), .val (.int (3 : Int32)), .val (.int (2 : Int32)), .val (.int x2)] [])) (fun tg kk => XS.icmpYes X39.here hx rfl (pc0 := 19) (pc' := 41) rfl (hb hby own_d12_19) rfl (teq hc40).1 (by decide) (by decide) kk) ?_
          refine OwnGo.back (T39.setTop (mkF m 44 #[.val (.ref b), .val (.int (3 : Int32)), .val (.int (3 : Int32)), .val (.int x2)] [])) (fun tg kk => XS.iinc X39.here hx rfl (hb hby own_d12_41) rfl (l' := #[.val (.ref b), .val (.int (3 : Int32)), .val (.int (3 : Int32)), .val (.int x2)]) rfl kk) ?_
          refine OwnGo.back (T39.setTop (mkF m 5 #[.val (.ref b), .val (.int (3 : Int32)), .val (.int (3 : Int32)), .val (.int x2)] [])) (fun tg kk => XS.goto X39.here hx rfl (pc0 := 44) (pc' := 5) rfl (hb hby own_d12_44) (by decide) (by decide) kk) ?_
          refine OwnGo.back (T39.setTop (mkF m 6 #[.val (.ref b), .val (.int (3 : Int32)), .val (.int (3 : Int32)), .val (.int x2)] [(.int (3 : Int32))])) (fun tg kk => XS.iloadN X39.here hx rfl (hb hby own_d12_5) rfl kk) ?_
          refine OwnGo.back (T39.setTop (mkF m 7 #[.val (.ref b), .val (.int (3 : Int32)), .val (.int (3 : Int32)), .val (.int x2)] [(.int (3 : Int32)), (.int (3 : Int32))])) (fun tg kk => XS.iloadN X39.here hx rfl (hb hby own_d12_6) rfl kk) ?_
          refine OwnGo.back (T39.setTop (mkF m 47 #[.val (.ref b), .val (.int (3 : Int32)), .val (.int (3 : Int32)), .val (.int x2)] [])) (fun tg kk => XS.icmpYes X39.here hx rfl (pc0 := 7) (pc' := 47) rfl (hb hby own_d12_7) rfl (flt (by decide : ¬ ((3 : Int32) < (3 : Int32)))).2.1 (by decide) (by decide) kk) ?_
          refine OwnGo.back (T39.setTop (mkF m 48 #[.val (.ref b), .val (.int (3 : Int32)), .val (.int (3 : Int32)), .val (.int x2)] [(.int (3 : Int32))])) (fun tg kk => XS.iloadN X39.here hx rfl (hb hby own_d12_47) rfl kk) ?_
          obtain ⟨fs, hr, hrun, hended, hW, hsame⟩ := X39.leave (v := some (.int (3 : Int32))) (fun h => by rw [Bd.returns] at h; cases h)
          refine ⟨_, _, ?_, hrun, hended, _, _, rfl, ?_, ⟨_, rfl⟩, hW, hsame.mono (by decide) (by decide)⟩
          · exact own_retI X39 hx Bd.returns (hb hby own_d12_48) hr
          · show own_lw3_Q Z b kb x0 x1 x2 aA oi h0 n0 _ T39.heap _
            rw [e39]
            exact ⟨(3 : Int32), rfl, N39, rfl, (by (simp only [true_and, and_true, false_and, and_false, or_false, false_or, or_true, true_or, not_true_eq_false, not_false_eq_true, eq_self, Int32.lt_iff_toInt_lt, Int32.le_iff_toInt_le, ← Int32.toInt_inj, Int32.reduceToInt, Int64.lt_iff_toInt_lt, Int64.le_iff_toInt_le, ← Int64.toInt_inj, Int64.reduceToInt] at hc3 hc36 hc38 hc40 hl0 hu0 hl1 hu1 hl2 hu2 nw ⊢) <;> omega)⟩
        ·
          refine OwnGo.back (T39.setTop (mkF m 22 #[.val (.ref b), .val (.int (3 : Int32)), .val (.int (2 : Int32)), .val (.int x2)] [])) (fun tg kk => XS.icmpNo X39.here hx rfl (hb hby own_d12_19) rfl (feq hc40).1 kk) ?_
          refine OwnGo.back (T39.setTop (mkF m 23 #[.val (.ref b), .val (.int (3 : Int32)), .val (.int (2 : Int32)), .val (.int x2)] [(.int x2)])) (fun tg kk => XS.iloadN X39.here hx rfl (hb hby own_d12_22) rfl kk) ?_
          refine OwnGo.back (T39.setTop (mkF m 25 #[.val (.ref b), .val (.int (3 : Int32)), .val (.int (2 : Int32)), .val (.int x2)] [(.int (9 : Int32)), (.int x2)])) (fun tg kk => XS.bipush X39.here hx rfl (hb hby own_d12_23) kk) ?_
          by_cases hc41 : x2 = (9 : Int32)
          ·
            refine OwnGo.back (T39.setTop (mkF m 41 #[.val (.ref b), .val (.int (3 : Int32)), .val (.int (2 : Int32)), .val (.int x2)] [])) (fun tg kk => XS.icmpYes X39.here hx rfl (pc0 := 25) (pc' := 41) rfl (hb hby own_d12_25) rfl (teq hc41).1 (by decide) (by decide) kk) ?_
            refine OwnGo.back (T39.setTop (mkF m 44 #[.val (.ref b), .val (.int (3 : Int32)), .val (.int (3 : Int32)), .val (.int x2)] [])) (fun tg kk => XS.iinc X39.here hx rfl (hb hby own_d12_41) rfl (l' := #[.val (.ref b), .val (.int (3 : Int32)), .val (.int (3 : Int32)), .val (.int x2)]) rfl kk) ?_
            refine OwnGo.back (T39.setTop (mkF m 5 #[.val (.ref b), .val (.int (3 : Int32)), .val (.int (3 : Int32)), .val (.int x2)] [])) (fun tg kk => XS.goto X39.here hx rfl (pc0 := 44) (pc' := 5) rfl (hb hby own_d12_44) (by decide) (by decide) kk) ?_
            refine OwnGo.back (T39.setTop (mkF m 6 #[.val (.ref b), .val (.int (3 : Int32)), .val (.int (3 : Int32)), .val (.int x2)] [(.int (3 : Int32))])) (fun tg kk => XS.iloadN X39.here hx rfl (hb hby own_d12_5) rfl kk) ?_
            refine OwnGo.back (T39.setTop (mkF m 7 #[.val (.ref b), .val (.int (3 : Int32)), .val (.int (3 : Int32)), .val (.int x2)] [(.int (3 : Int32)), (.int (3 : Int32))])) (fun tg kk => XS.iloadN X39.here hx rfl (hb hby own_d12_6) rfl kk) ?_
            refine OwnGo.back (T39.setTop (mkF m 47 #[.val (.ref b), .val (.int (3 : Int32)), .val (.int (3 : Int32)), .val (.int x2)] [])) (fun tg kk => XS.icmpYes X39.here hx rfl (pc0 := 7) (pc' := 47) rfl (hb hby own_d12_7) rfl (flt (by decide : ¬ ((3 : Int32) < (3 : Int32)))).2.1 (by decide) (by decide) kk) ?_
            refine OwnGo.back (T39.setTop (mkF m 48 #[.val (.ref b), .val (.int (3 : Int32)), .val (.int (3 : Int32)), .val (.int x2)] [(.int (3 : Int32))])) (fun tg kk => XS.iloadN X39.here hx rfl (hb hby own_d12_47) rfl kk) ?_
            obtain ⟨fs, hr, hrun, hended, hW, hsame⟩ := X39.leave (v := some (.int (3 : Int32))) (fun h => by rw [Bd.returns] at h; cases h)
            refine ⟨_, _, ?_, hrun, hended, _, _, rfl, ?_, ⟨_, rfl⟩, hW, hsame.mono (by decide) (by decide)⟩
            · exact own_retI X39 hx Bd.returns (hb hby own_d12_48) hr
            · show own_lw3_Q Z b kb x0 x1 x2 aA oi h0 n0 _ T39.heap _
              rw [e39]
              exact ⟨(3 : Int32), rfl, N39, rfl, (by (simp only [true_and, and_true, false_and, and_false, or_false, false_or, or_true, true_or, not_true_eq_false, not_false_eq_true, eq_self, Int32.lt_iff_toInt_lt, Int32.le_iff_toInt_le, ← Int32.toInt_inj, Int32.reduceToInt, Int64.lt_iff_toInt_lt, Int64.le_iff_toInt_le, ← Int64.toInt_inj, Int64.reduceToInt] at hc3 hc36 hc38 hc40 hc41 hl0 hu0 hl1 hu1 hl2 hu2 nw ⊢) <;> omega)⟩
          ·
            refine OwnGo.back (T39.setTop (mkF m 28 #[.val (.ref b), .val (.int (3 : Int32)), .val (.int (2 : Int32)), .val (.int x2)] [])) (fun tg kk => XS.icmpNo X39.here hx rfl (hb hby own_d12_25) rfl (feq hc41).1 kk) ?_
            obtain ⟨T42, X42, e42, st42⟩ := getS2 X39 hx hZ hown (host := "") (Or.inl (hw _ (List.mem_of_getElem? (i := 63) rfl))) Via.refl e39 (SN.ext old.2) (g := (mkF m 28 #[.val (.ref b), .val (.int (3 : Int32)), .val (.int (2 : Int32)), .val (.int x2)] [])) rfl (hb hby own_d12_28)
            refine OwnGo.back (T42.setTop (mkF m 31 #[.val (.ref b), .val (.int (3 : Int32)), .val (.int (2 : Int32)), .val (.int x2)] [(.ref oi)])) (fun tg kk => st42 _ kk) ?_
            refine OwnGo.back (T42.setTop (mkF m 32 #[.val (.ref b), .val (.int (3 : Int32)), .val (.int (2 : Int32)), .val (.int x2)] [(.int x2), (.ref oi)])) (fun tg kk => XS.iloadN X42.here hx rfl (hb hby own_d12_31) rfl kk) ?_
            obtain ⟨cq43, kq43, q43a, q43b, q43c⟩ := isOf hZ e42 Xi
            obtain ⟨_, _, ⟨T43, L43, k43, n43⟩, -, X43, ⟨Lc43, hQ43, l43, y43, z43⟩, st43⟩ := X42.virtualBack hx (y := (⟨"java/lang/CharacterDataLatin1", "isWhitespace", "(I)Z"⟩ : MethodName)) (z := (⟨"java/lang/CharacterDataLatin1", "isWhitespace", "(I)Z"⟩ : MethodName)) hown (mvT hZ (hw _ (List.mem_of_getElem? (i := 65) rfl))) (mvT hZ (hw _ (List.mem_of_getElem? (i := 66) rfl))) (notFace_of_selects (args := #[]) (mvT hZ (hw _ (List.mem_of_getElem? (i := 68) rfl)))) (mvT hZ (hw _ (List.mem_of_getElem? (i := 68) rfl))) (mvT hZ (hw _ (List.mem_of_getElem? (i := 67) rfl))) (by decide) (backOf (W := 0) (own_isw l Z a0 hw [] oi x2 aA h0 n0 Z0 Xi SA old hA hl2 hu2) hZ (hw _ (List.mem_of_getElem? (i := 69) rfl)) (hw _ (List.mem_of_getElem? (i := 64) rfl)) (by decide) (by decide)) q43a q43c (g := (mkF m 32 #[.val (.ref b), .val (.int (3 : Int32)), .val (.int (2 : Int32)), .val (.int x2)] [(.int x2), (.ref oi)])) rfl (by rw [hml]; rfl) (Steps.refl _) (argsL := [(.int x2)]) (rest := []) (lenOf own_pd6 rfl) rfl (by show 2 * 0 + _ ≤ _; exact Nat.le_of_eq rfl) (hb hby own_d12_32) (fun _ _ => ⟨rfl, e42, (by decide : 0 + 0 ≤ _), (by decide : 0 + 0 ≤ _)⟩)
            dsimp only [Pt.U, Pt.locs, Pt.cells, Pt.slots] at X43 l43 y43 z43 st43 hQ43
            subst l43 y43 z43
            obtain ⟨r_44, rfl, N43q, e43, po45⟩ := hQ43
            have N43 := Fr.app N39 N43q
            refine OwnGo.back (T43.setTop (mkF m 35 #[.val (.ref b), .val (.int (3 : Int32)), .val (.int (2 : Int32)), .val (.int x2)] [(.int r_44)])) (fun tg kk => st43.trans kk) ?_
            by_cases hc46 : r_44 = (0 : Int32)
            ·
              refine OwnGo.back (T43.setTop (mkF m 38 #[.val (.ref b), .val (.int (3 : Int32)), .val (.int (2 : Int32)), .val (.int x2)] [])) (fun tg kk => XS.ifNo X43.here hx rfl (hb hby own_d12_35) rfl ((if0 _ _).trans (teq hc46).2) kk) ?_
              refine OwnGo.back (T43.setTop (mkF m 47 #[.val (.ref b), .val (.int (3 : Int32)), .val (.int (2 : Int32)), .val (.int x2)] [])) (fun tg kk => XS.goto X43.here hx rfl (pc0 := 38) (pc' := 47) rfl (hb hby own_d12_38) (by decide) (by decide) kk) ?_
              refine OwnGo.back (T43.setTop (mkF m 48 #[.val (.ref b), .val (.int (3 : Int32)), .val (.int (2 : Int32)), .val (.int x2)] [(.int (2 : Int32))])) (fun tg kk => XS.iloadN X43.here hx rfl (hb hby own_d12_47) rfl kk) ?_
              obtain ⟨fs, hr, hrun, hended, hW, hsame⟩ := X43.leave (v := some (.int (2 : Int32))) (fun h => by rw [Bd.returns] at h; cases h)
              refine ⟨_, _, ?_, hrun, hended, _, _, rfl, ?_, ⟨_, rfl⟩, hW, hsame.mono (by decide) (by decide)⟩
              · exact own_retI X43 hx Bd.returns (hb hby own_d12_48) hr
              · show own_lw3_Q Z b kb x0 x1 x2 aA oi h0 n0 _ T43.heap _
                rw [e43]
                exact ⟨(2 : Int32), rfl, N43, rfl, (by (simp only [true_and, and_true, false_and, and_false, or_false, false_or, or_true, true_or, not_true_eq_false, not_false_eq_true, eq_self, Int32.lt_iff_toInt_lt, Int32.le_iff_toInt_le, ← Int32.toInt_inj, Int32.reduceToInt, Int64.lt_iff_toInt_lt, Int64.le_iff_toInt_le, ← Int64.toInt_inj, Int64.reduceToInt] at hc3 hc36 hc38 hc40 hc41 hc46 hl0 hu0 hl1 hu1 hl2 hu2 nw po45 ⊢) <;> omega)⟩
            ·
              refine OwnGo.back (T43.setTop (mkF m 41 #[.val (.ref b), .val (.int (3 : Int32)), .val (.int (2 : Int32)), .val (.int x2)] [])) (fun tg kk => XS.ifYes X43.here hx rfl (pc0 := 35) (pc' := 41) rfl (hb hby own_d12_35) rfl ((if0 _ _).trans (feq hc46).2) (by decide) (by decide) kk) ?_
              refine OwnGo.back (T43.setTop (mkF m 44 #[.val (.ref b), .val (.int (3 : Int32)), .val (.int (3 : Int32)), .val (.int x2)] [])) (fun tg kk => XS.iinc X43.here hx rfl (hb hby own_d12_41) rfl (l' := #[.val (.ref b), .val (.int (3 : Int32)), .val (.int (3 : Int32)), .val (.int x2)]) rfl kk) ?_
              refine OwnGo.back (T43.setTop (mkF m 5 #[.val (.ref b), .val (.int (3 : Int32)), .val (.int (3 : Int32)), .val (.int x2)] [])) (fun tg kk => XS.goto X43.here hx rfl (pc0 := 44) (pc' := 5) rfl (hb hby own_d12_44) (by decide) (by decide) kk) ?_
              refine OwnGo.back (T43.setTop (mkF m 6 #[.val (.ref b), .val (.int (3 : Int32)), .val (.int (3 : Int32)), .val (.int x2)] [(.int (3 : Int32))])) (fun tg kk => XS.iloadN X43.here hx rfl (hb hby own_d12_5) rfl kk) ?_
              refine OwnGo.back (T43.setTop (mkF m 7 #[.val (.ref b), .val (.int (3 : Int32)), .val (.int (3 : Int32)), .val (.int x2)] [(.int (3 : Int32)), (.int (3 : Int32))])) (fun tg kk => XS.iloadN X43.here hx rfl (hb hby own_d12_6) rfl kk) ?_
              refine OwnGo.back (T43.setTop (mkF m 47 #[.val (.ref b), .val (.int (3 : Int32)), .val (.int (3 : Int32)), .val (.int x2)] [])) (fun tg kk => XS.icmpYes X43.here hx rfl (pc0 := 7) (pc' := 47) rfl (hb hby own_d12_7) rfl (flt (by decide : ¬ ((3 : Int32) < (3 : Int32)))).2.1 (by decide) (by decide) kk) ?_
              refine OwnGo.back (T43.setTop (mkF m 48 #[.val (.ref b), .val (.int (3 : Int32)), .val (.int (3 : Int32)), .val (.int x2)] [(.int (3 : Int32))])) (fun tg kk => XS.iloadN X43.here hx rfl (hb hby own_d12_47) rfl kk) ?_
              obtain ⟨fs, hr, hrun, hended, hW, hsame⟩ := X43.leave (v := some (.int (3 : Int32))) (fun h => by rw [Bd.returns] at h; cases h)
              refine ⟨_, _, ?_, hrun, hended, _, _, rfl, ?_, ⟨_, rfl⟩, hW, hsame.mono (by decide) (by decide)⟩
              · exact own_retI X43 hx Bd.returns (hb hby own_d12_48) hr
              · show own_lw3_Q Z b kb x0 x1 x2 aA oi h0 n0 _ T43.heap _
                rw [e43]
                exact ⟨(3 : Int32), rfl, N43, rfl, (by (simp only [true_and, and_true, false_and, and_false, or_false, false_or, or_true, true_or, not_true_eq_false, not_false_eq_true, eq_self, Int32.lt_iff_toInt_lt, Int32.le_iff_toInt_le, ← Int32.toInt_inj, Int32.reduceToInt, Int64.lt_iff_toInt_lt, Int64.le_iff_toInt_le, ← Int64.toInt_inj, Int64.reduceToInt] at hc3 hc36 hc38 hc40 hc41 hc46 hl0 hu0 hl1 hu1 hl2 hu2 nw po45 ⊢) <;> omega)⟩
      ·
        refine OwnGo.back (T37.setTop (mkF m 22 #[.val (.ref b), .val (.int (3 : Int32)), .val (.int (1 : Int32)), .val (.int x1)] [])) (fun tg kk => XS.icmpNo X37.here hx rfl (hb hby own_d12_19) rfl (feq hc38).1 kk) ?_
        refine OwnGo.back (T37.setTop (mkF m 23 #[.val (.ref b), .val (.int (3 : Int32)), .val (.int (1 : Int32)), .val (.int x1)] [(.int x1)])) (fun tg kk => XS.iloadN X37.here hx rfl (hb hby own_d12_22) rfl kk) ?_
        refine OwnGo.back (T37.setTop (mkF m 25 #[.val (.ref b), .val (.int (3 : Int32)), .val (.int (1 : Int32)), .val (.int x1)] [(.int (9 : Int32)), (.int x1)])) (fun tg kk => XS.bipush X37.here hx rfl (hb hby own_d12_23) kk) ?_
        by_cases hc47 : x1 = (9 : Int32)
        ·
          refine OwnGo.back (T37.setTop (mkF m 41 #[.val (.ref b), .val (.int (3 : Int32)), .val (.int (1 : Int32)), .val (.int x1)] [])) (fun tg kk => XS.icmpYes X37.here hx rfl (pc0 := 25) (pc' := 41) rfl (hb hby own_d12_25) rfl (teq hc47).1 (by decide) (by decide) kk) ?_
          refine OwnGo.back (T37.setTop (mkF m 44 #[.val (.ref b), .val (.int (3 : Int32)), .val (.int (2 : Int32)), .val (.int x1)] [])) (fun tg kk => XS.iinc X37.here hx rfl (hb hby own_d12_41) rfl (l' := #[.val (.ref b), .val (.int (3 : Int32)), .val (.int (2 : Int32)), .val (.int x1)]) rfl kk) ?_
          refine OwnGo.back (T37.setTop (mkF m 5 #[.val (.ref b), .val (.int (3 : Int32)), .val (.int (2 : Int32)), .val (.int x1)] [])) (fun tg kk => XS.goto X37.here hx rfl (pc0 := 44) (pc' := 5) rfl (hb hby own_d12_44) (by decide) (by decide) kk) ?_
          refine OwnGo.back (T37.setTop (mkF m 6 #[.val (.ref b), .val (.int (3 : Int32)), .val (.int (2 : Int32)), .val (.int x1)] [(.int (2 : Int32))])) (fun tg kk => XS.iloadN X37.here hx rfl (hb hby own_d12_5) rfl kk) ?_
          refine OwnGo.back (T37.setTop (mkF m 7 #[.val (.ref b), .val (.int (3 : Int32)), .val (.int (2 : Int32)), .val (.int x1)] [(.int (3 : Int32)), (.int (2 : Int32))])) (fun tg kk => XS.iloadN X37.here hx rfl (hb hby own_d12_6) rfl kk) ?_
          refine OwnGo.back (T37.setTop (mkF m 10 #[.val (.ref b), .val (.int (3 : Int32)), .val (.int (2 : Int32)), .val (.int x1)] [])) (fun tg kk => XS.icmpNo X37.here hx rfl (hb hby own_d12_7) rfl (tlt (by decide : (2 : Int32) < (3 : Int32))).2.1 kk) ?_
          refine OwnGo.back (T37.setTop (mkF m 11 #[.val (.ref b), .val (.int (3 : Int32)), .val (.int (2 : Int32)), .val (.int x1)] [(.ref b)])) (fun tg kk => XS.aloadN X37.here hx rfl (hb hby own_d12_10) rfl rfl kk) ?_
          refine OwnGo.back (T37.setTop (mkF m 12 #[.val (.ref b), .val (.int (3 : Int32)), .val (.int (2 : Int32)), .val (.int x1)] [(.int (2 : Int32)), (.ref b)])) (fun tg kk => XS.iloadN X37.here hx rfl (hb hby own_d12_11) rfl kk) ?_
          obtain ⟨_, _, ⟨T48, L48, k48, n48⟩, -, X48, ⟨Lc48, hQ48, l48, y48, z48⟩, st48⟩ := Jvm.LawKit.callS X37 hx (y := (⟨"java/lang/StringLatin1", "getChar", "([BI)C"⟩ : MethodName)) hown (mvT hZ (hw _ (List.mem_of_getElem? (i := 60) rfl))) (mvT hZ (hw _ (List.mem_of_getElem? (i := 61) rfl))) (mvT hZ (hw _ (List.mem_of_getElem? (i := 58) rfl))) (mvT hZ (hw _ (List.mem_of_getElem? (i := 62) rfl))) (by decide) (backOf (W := 0) (own_gc32 l Z a0 hw [] b kb x0 x1 x2 h0 n0 Z0 B hl0 hu0 hl1 hu1 hl2 hu2) hZ (hw _ (List.mem_of_getElem? (i := 62) rfl)) (hw _ (List.mem_of_getElem? (i := 58) rfl)) (by decide) (by decide)) (g := (mkF m 12 #[.val (.ref b), .val (.int (3 : Int32)), .val (.int (2 : Int32)), .val (.int x1)] [(.int (2 : Int32)), (.ref b)])) rfl (by rw [hml]; rfl) (argsL := [(.ref b), (.int (2 : Int32))]) (rest := []) (lenOf own_pd5 rfl) rfl (by show 2 * 0 + _ ≤ _; exact Nat.le_of_eq rfl) (hb hby own_d12_12) (fun _ _ => ⟨rfl, e37, (by decide : 0 + 0 ≤ _), (by decide : 0 + 0 ≤ _)⟩)
          dsimp only [Pt.U, Pt.locs, Pt.cells, Pt.slots] at X48 l48 y48 z48 st48 hQ48
          subst l48 y48 z48
          obtain ⟨rfl, N48q, e48⟩ := hQ48
          have N48 := Fr.app N37 N48q
          refine OwnGo.back (T48.setTop (mkF m 15 #[.val (.ref b), .val (.int (3 : Int32)), .val (.int (2 : Int32)), .val (.int x1)] [(.int x2)])) (fun tg kk => st48 _ kk) ?_
          refine OwnGo.back (T48.setTop (mkF m 16 #[.val (.ref b), .val (.int (3 : Int32)), .val (.int (2 : Int32)), .val (.int x2)] [])) (fun tg kk => XS.istoreN X48.here hx rfl (hb hby own_d12_15) rfl (l' := #[.val (.ref b), .val (.int (3 : Int32)), .val (.int (2 : Int32)), .val (.int x2)]) rfl kk) ?_
          refine OwnGo.back (T48.setTop (mkF m 17 #[.val (.ref b), .val (.int (3 : Int32)), .val (.int (2 : Int32)), .val (.int x2)] [(.int x2)])) (fun tg kk => XS.iloadN X48.here hx rfl (hb hby own_d12_16) rfl kk) ?_
          refine OwnGo.back (T48.setTop (mkF m 19 #[.val (.ref b), .val (.int (3 : Int32)), .val (.int (2 : Int32)), .val (.int x2)] [(.int (32 : Int32)), (.int x2)])) (fun tg kk => XS.bipush X48.here hx rfl (hb hby own_d12_17) kk) ?_
          by_cases hc49 : x2 = (32 : Int32)
          ·
            refine OwnGo.back (T48.setTop (mkF m 41 #[.val (.ref b), .val (.int (3 : Int32)), .val (.int (2 : Int32)), .val (.int x2)] [])) (fun tg kk => XS.icmpYes X48.here hx rfl (pc0 := 19) (pc' := 41) rfl (hb hby own_d12_19) rfl (teq hc49).1 (by decide) (by decide) kk) ?_
            refine OwnGo.back (T48.setTop (mkF m 44 #[.val (.ref b), .val (.int (3 : Int32)), .val (.int (3 : Int32)), .val (.int x2)] [])) (fun tg kk => XS.iinc X48.here hx rfl (hb hby own_d12_41) rfl (l' := #[.val (.ref b), .val (.int (3 : Int32)), .val (.int (3 : Int32)), .val (.int x2)]) rfl kk) ?_
            refine OwnGo.back (T48.setTop (mkF m 5 #[.val (.ref b), .val (.int (3 : Int32)), .val (.int (3 : Int32)), .val (.int x2)] [])) (fun tg kk => XS.goto X48.here hx rfl (pc0 := 44) (pc' := 5) rfl (hb hby own_d12_44) (by decide) (by decide) kk) ?_
            refine OwnGo.back (T48.setTop (mkF m 6 #[.val (.ref b), .val (.int (3 : Int32)), .val (.int (3 : Int32)), .val (.int x2)] [(.int (3 : Int32))])) (fun tg kk => XS.iloadN X48.here hx rfl (hb hby own_d12_5) rfl kk) ?_
            refine OwnGo.back (T48.setTop (mkF m 7 #[.val (.ref b), .val (.int (3 : Int32)), .val (.int (3 : Int32)), .val (.int x2)] [(.int (3 : Int32)), (.int (3 : Int32))])) (fun tg kk => XS.iloadN X48.here hx rfl (hb hby own_d12_6) rfl kk) ?_
            refine OwnGo.back (T48.setTop (mkF m 47 #[.val (.ref b), .val (.int (3 : Int32)), .val (.int (3 : Int32)), .val (.int x2)] [])) (fun tg kk => XS.icmpYes X48.here hx rfl (pc0 := 7) (pc' := 47) rfl (hb hby own_d12_7) rfl (flt (by decide : ¬ ((3 : Int32) < (3 : Int32)))).2.1 (by decide) (by decide) kk) ?_
            refine OwnGo.back (T48.setTop (mkF m 48 #[.val (.ref b), .val (.int (3 : Int32)), .val (.int (3 : Int32)), .val (.int x2)] [(.int (3 : Int32))])) (fun tg kk => XS.iloadN X48.here hx rfl (hb hby own_d12_47) rfl kk) ?_
            obtain ⟨fs, hr, hrun, hended, hW, hsame⟩ := X48.leave (v := some (.int (3 : Int32))) (fun h => by rw [Bd.returns] at h; cases h)
            refine ⟨_, _, ?_, hrun, hended, _, _, rfl, ?_, ⟨_, rfl⟩, hW, hsame.mono (by decide) (by decide)⟩
            · exact own_retI X48 hx Bd.returns (hb hby own_d12_48) hr
            · show own_lw3_Q Z b kb x0 x1 x2 aA oi h0 n0 _ T48.heap _
              rw [e48]
              exact ⟨(3 : Int32), rfl, N48, rfl, (by (simp only [true_and, and_true, false_and, and_false, or_false, false_or, or_true, true_or, not_true_eq_false, not_false_eq_true, eq_self, Int32.lt_iff_toInt_lt, Int32.le_iff_toInt_le, ← Int32.toInt_inj, Int32.reduceToInt, Int64.lt_iff_toInt_lt, Int64.le_iff_toInt_le, ← Int64.toInt_inj, Int64.reduceToInt] at hc3 hc36 hc38 hc47 hc49 hl0 hu0 hl1 hu1 hl2 hu2 nw ⊢) <;> omega)⟩
          ·
            refine OwnGo.back (T48.setTop (mkF m 22 #[.val (.ref b), .val (.int (3 : Int32)), .val (.int (2 : Int32)), .val (.int x2)] [])) (fun tg kk => XS.icmpNo X48.here hx rfl (hb hby own_d12_19) rfl (feq hc49).1 kk) ?_
            refine OwnGo.back (T48.setTop (mkF m 23 #[.val (.ref b), .val (.int (3 : Int32)), .val (.int (2 : Int32)), .val (.int x2)] [(.int x2)])) (fun tg kk => XS.iloadN X48.here hx rfl (hb hby own_d12_22) rfl kk) ?_
            refine OwnGo.back (T48.setTop (mkF m 25 #[.val (.ref b), .val (.int (3 : Int32)), .val (.int (2 : Int32)), .val (.int x2)] [(.int (9 : Int32)), (.int x2)])) (fun tg kk => XS.bipush X48.here hx rfl (hb hby own_d12_23) kk) ?_
            by_cases hc50 : x2 = (9 : Int32)
            ·
              refine OwnGo.back (T48.setTop (mkF m 41 #[.val (.ref b), .val (.int (3 : Int32)), .val (.int (2 : Int32)), .val (.int x2)] [])) (fun tg kk => XS.icmpYes X48.here hx rfl (pc0 := 25) (pc' := 41) rfl (hb hby own_d12_25) rfl (teq hc50).1 (by decide) (by decide) kk) ?_
              refine OwnGo.back (T48.setTop (mkF m 44 #[.val (.ref b), .val (.int (3 : Int32)), .val (.int (3 : Int32)), .val (.int x2)] [])) (fun tg kk => XS.iinc X48.here hx rfl (hb hby own_d12_41) rfl (l' := #[.val (.ref b), .val (.int (3 : Int32)), .val (.int (3 : Int32)), .val (.int x2)]) rfl kk) ?_
              refine OwnGo.back (T48.setTop (mkF m 5 #[.val (.ref b), .val (.int (3 : Int32)), .val (.int (3 : Int32)), .val (.int x2)] [])) (fun tg kk => XS.goto X48.here hx rfl (pc0 := 44) (pc' := 5) rfl (hb hby own_d12_44) (by decide) (by decide) kk) ?_
              refine OwnGo.back (T48.setTop (mkF m 6 #[.val (.ref b), .val (.int (3 : Int32)), .val (.int (3 : Int32)), .val (.int x2)] [(.int (3 : Int32))])) (fun tg kk => XS.iloadN X48.here hx rfl (hb hby own_d12_5) rfl kk) ?_
              refine OwnGo.back (T48.setTop (mkF m 7 #[.val (.ref b), .val (.int (3 : Int32)), .val (.int (3 : Int32)), .val (.int x2)] [(.int (3 : Int32)), (.int (3 : Int32))])) (fun tg kk => XS.iloadN X48.here hx rfl (hb hby own_d12_6) rfl kk) ?_
              refine OwnGo.back (T48.setTop (mkF m 47 #[.val (.ref b), .val (.int (3 : Int32)), .val (.int (3 : Int32)), .val (.int x2)] [])) (fun tg kk => XS.icmpYes X48.here hx rfl (pc0 := 7) (pc' := 47) rfl (hb hby own_d12_7) rfl (flt (by decide : ¬ ((3 : Int32) < (3 : Int32)))).2.1 (by decide) (by decide) kk) ?_
              refine OwnGo.back (T48.setTop (mkF m 48 #[.val (.ref b), .val (.int (3 : Int32)), .val (.int (3 : Int32)), .val (.int x2)] [(.int (3 : Int32))])) (fun tg kk => XS.iloadN X48.here hx rfl (hb hby own_d12_47) rfl kk) ?_
              obtain ⟨fs, hr, hrun, hended, hW, hsame⟩ := X48.leave (v := some (.int (3 : Int32))) (fun h => by rw [Bd.returns] at h; cases h)
              refine ⟨_, _, ?_, hrun, hended, _, _, rfl, ?_, ⟨_, rfl⟩, hW, hsame.mono (by decide) (by decide)⟩
              · exact own_retI X48 hx Bd.returns (hb hby own_d12_48) hr
              · show own_lw3_Q Z b kb x0 x1 x2 aA oi h0 n0 _ T48.heap _
                rw [e48]
                exact ⟨(3 : Int32), rfl, N48, rfl, (by (simp only [true_and, and_true, false_and, and_false, or_false, false_or, or_true, true_or, not_true_eq_false, not_false_eq_true, eq_self, Int32.lt_iff_toInt_lt, Int32.le_iff_toInt_le, ← Int32.toInt_inj, Int32.reduceToInt, Int64.lt_iff_toInt_lt, Int64.le_iff_toInt_le, ← Int64.toInt_inj, Int64.reduceToInt] at hc3 hc36 hc38 hc47 hc49 hc50 hl0 hu0 hl1 hu1 hl2 hu2 nw ⊢) <;> omega)⟩
            ·
              refine OwnGo.back (T48.setTop (mkF m 28 #[.val (.ref b), .val (.int (3 : Int32)), .val (.int (2 : Int32)), .val (.int x2)] [])) (fun tg kk => XS.icmpNo X48.here hx rfl (hb hby own_d12_25) rfl (feq hc50).1 kk) ?_
              obtain ⟨T51, X51, e51, st51⟩ := getS2 X48 hx hZ hown (host := "") (Or.inl (hw _ (List.mem_of_getElem? (i := 63) rfl))) Via.refl e48 (SN.ext old.2) (g := (mkF m 28 #[.val (.ref b), .val (.int (3 : Int32)), .val (.int (2 : Int32)), .val (.int x2)] [])) rfl (hb hby own_d12_28)
              refine OwnGo.back (T51.setTop (mkF m 31 #[.val (.ref b), .val (.int (3 : Int32)), .val (.int (2 : Int32)), .val (.int x2)] [(.ref oi)])) (fun tg kk => st51 _ kk) ?_
              refine OwnGo.back (T51.setTop (mkF m 32 #[.val (.ref b), .val (.int (3 : Int32)), .val (.int (2 : Int32)), .val (.int x2)] [(.int x2), (.ref oi)])) (fun tg kk => XS.iloadN X51.here hx rfl (hb hby own_d12_31) rfl kk) ?_
              obtain ⟨cq52, kq52, q52a, q52b, q52c⟩ := isOf hZ e51 Xi
              obtain ⟨_, _, ⟨T52, L52, k52, n52⟩, -, X52, ⟨Lc52, hQ52, l52, y52, z52⟩, st52⟩ := X51.virtualBack hx (y := (⟨"java/lang/CharacterDataLatin1", "isWhitespace", "(I)Z"⟩ : MethodName)) (z := (⟨"java/lang/CharacterDataLatin1", "isWhitespace", "(I)Z"⟩ : MethodName)) hown (mvT hZ (hw _ (List.mem_of_getElem? (i := 65) rfl))) (mvT hZ (hw _ (List.mem_of_getElem? (i := 66) rfl))) (notFace_of_selects (args := #[]) (mvT hZ (hw _ (List.mem_of_getElem? (i := 68) rfl)))) (mvT hZ (hw _ (List.mem_of_getElem? (i := 68) rfl))) (mvT hZ (hw _ (List.mem_of_getElem? (i := 67) rfl))) (by decide) (backOf (W := 0) (own_isw l Z a0 hw [] oi x2 aA h0 n0 Z0 Xi SA old hA hl2 hu2) hZ (hw _ (List.mem_of_getElem? (i := 69) rfl)) (hw _ (List.mem_of_getElem? (i := 64) rfl)) (by decide) (by decide)) q52a q52c (g := (mkF m 32 #[.val (.ref b), .val (.int (3 : Int32)), .val (.int (2 : Int32)), .val (.int x2)] [(.int x2), (.ref oi)])) rfl (by rw [hml]; rfl) (Steps.refl _) (argsL := [(.int x2)]) (rest := []) (lenOf own_pd6 rfl) rfl (by show 2 * 0 + _ ≤ _; exact Nat.le_of_eq rfl) (hb hby own_d12_32) (fun _ _ => ⟨rfl, e51, (by decide : 0 + 0 ≤ _), (by decide : 0 + 0 ≤ _)⟩)
              dsimp only [Pt.U, Pt.locs, Pt.cells, Pt.slots] at X52 l52 y52 z52 st52 hQ52
              subst l52 y52 z52
              obtain ⟨r_53, rfl, N52q, e52, po54⟩ := hQ52
              have N52 := Fr.app N48 N52q
              refine OwnGo.back (T52.setTop (mkF m 35 #[.val (.ref b), .val (.int (3 : Int32)), .val (.int (2 : Int32)), .val (.int x2)] [(.int r_53)])) (fun tg kk => st52.trans kk) ?_
              by_cases hc55 : r_53 = (0 : Int32)
              ·
                refine OwnGo.back (T52.setTop (mkF m 38 #[.val (.ref b), .val (.int (3 : Int32)), .val (.int (2 : Int32)), .val (.int x2)] [])) (fun tg kk => XS.ifNo X52.here hx rfl (hb hby own_d12_35) rfl ((if0 _ _).trans (teq hc55).2) kk) ?_
                refine OwnGo.back (T52.setTop (mkF m 47 #[.val (.ref b), .val (.int (3 : Int32)), .val (.int (2 : Int32)), .val (.int x2)] [])) (fun tg kk => XS.goto X52.here hx rfl (pc0 := 38) (pc' := 47) rfl (hb hby own_d12_38) (by decide) (by decide) kk) ?_
                refine OwnGo.back (T52.setTop (mkF m 48 #[.val (.ref b), .val (.int (3 : Int32)), .val (.int (2 : Int32)), .val (.int x2)] [(.int (2 : Int32))])) (fun tg kk => XS.iloadN X52.here hx rfl (hb hby own_d12_47) rfl kk) ?_
                obtain ⟨fs, hr, hrun, hended, hW, hsame⟩ := X52.leave (v := some (.int (2 : Int32))) (fun h => by rw [Bd.returns] at h; cases h)
                refine ⟨_, _, ?_, hrun, hended, _, _, rfl, ?_, ⟨_, rfl⟩, hW, hsame.mono (by decide) (by decide)⟩
                · exact own_retI X52 hx Bd.returns (hb hby own_d12_48) hr
                · show own_lw3_Q Z b kb x0 x1 x2 aA oi h0 n0 _ T52.heap _
                  rw [e52]
                  exact ⟨(2 : Int32), rfl, N52, rfl, (by (simp only [true_and, and_true, false_and, and_false, or_false, false_or, or_true, true_or, not_true_eq_false, not_false_eq_true, eq_self, Int32.lt_iff_toInt_lt, Int32.le_iff_toInt_le, ← Int32.toInt_inj, Int32.reduceToInt, Int64.lt_iff_toInt_lt, Int64.le_iff_toInt_le, ← Int64.toInt_inj, Int64.reduceToInt] at hc3 hc36 hc38 hc47 hc49 hc50 hc55 hl0 hu0 hl1 hu1 hl2 hu2 nw po54 ⊢) <;> omega)⟩
              ·
                refine OwnGo.back (T52.setTop (mkF m 41 #[.val (.ref b), .val (.int (3 : Int32)), .val (.int (2 : Int32)), .val (.int x2)] [])) (fun tg kk => XS.ifYes X52.here hx rfl (pc0 := 35) (pc' := 41) rfl (hb hby own_d12_35) rfl ((if0 _ _).trans (feq hc55).2) (by decide) (by decide) kk) ?_
                refine OwnGo.back (T52.setTop (mkF m 44 #[.val (.ref b), .val (.int (3 : Int32)), .val (.int (3 : Int32)), .val (.int x2)] [])) (fun tg kk => XS.iinc X52.here hx rfl (hb hby own_d12_41) rfl (l' := #[.val (.ref b), .val (.int (3 : Int32)), .val (.int (3 : Int32)), .val (.int x2)]) rfl kk) ?_
                refine OwnGo.back (T52.setTop (mkF m 5 #[.val (.ref b), .val (.int (3 : Int32)), .val (.int (3 : Int32)), .val (.int x2)] [])) (fun tg kk => XS.goto X52.here hx rfl (pc0 := 44) (pc' := 5) rfl (hb hby own_d12_44) (by decide) (by decide) kk) ?_
                refine OwnGo.back (T52.setTop (mkF m 6 #[.val (.ref b), .val (.int (3 : Int32)), .val (.int (3 : Int32)), .val (.int x2)] [(.int (3 : Int32))])) (fun tg kk => XS.iloadN X52.here hx rfl (hb hby own_d12_5) rfl kk) ?_
                refine OwnGo.back (T52.setTop (mkF m 7 #[.val (.ref b), .val (.int (3 : Int32)), .val (.int (3 : Int32)), .val (.int x2)] [(.int (3 : Int32)), (.int (3 : Int32))])) (fun tg kk => XS.iloadN X52.here hx rfl (hb hby own_d12_6) rfl kk) ?_
                refine OwnGo.back (T52.setTop (mkF m 47 #[.val (.ref b), .val (.int (3 : Int32)), .val (.int (3 : Int32)), .val (.int x2)] [])) (fun tg kk => XS.icmpYes X52.here hx rfl (pc0 := 7) (pc' := 47) rfl (hb hby own_d12_7) rfl (flt (by decide : ¬ ((3 : Int32) < (3 : Int32)))).2.1 (by decide) (by decide) kk) ?_
                refine OwnGo.back (T52.setTop (mkF m 48 #[.val (.ref b), .val (.int (3 : Int32)), .val (.int (3 : Int32)), .val (.int x2)] [(.int (3 : Int32))])) (fun tg kk => XS.iloadN X52.here hx rfl (hb hby own_d12_47) rfl kk) ?_
                obtain ⟨fs, hr, hrun, hended, hW, hsame⟩ := X52.leave (v := some (.int (3 : Int32))) (fun h => by rw [Bd.returns] at h; cases h)
                refine ⟨_, _, ?_, hrun, hended, _, _, rfl, ?_, ⟨_, rfl⟩, hW, hsame.mono (by decide) (by decide)⟩
                · exact own_retI X52 hx Bd.returns (hb hby own_d12_48) hr
                · show own_lw3_Q Z b kb x0 x1 x2 aA oi h0 n0 _ T52.heap _
                  rw [e52]
                  exact ⟨(3 : Int32), rfl, N52, rfl, (by (simp only [true_and, and_true, false_and, and_false, or_false, false_or, or_true, true_or, not_true_eq_false, not_false_eq_true, eq_self, Int32.lt_iff_toInt_lt, Int32.le_iff_toInt_le, ← Int32.toInt_inj, Int32.reduceToInt, Int64.lt_iff_toInt_lt, Int64.le_iff_toInt_le, ← Int64.toInt_inj, Int64.reduceToInt] at hc3 hc36 hc38 hc47 hc49 hc50 hc55 hl0 hu0 hl1 hu1 hl2 hu2 nw po54 ⊢) <;> omega)⟩
        ·
          refine OwnGo.back (T37.setTop (mkF m 28 #[.val (.ref b), .val (.int (3 : Int32)), .val (.int (1 : Int32)), .val (.int x1)] [])) (fun tg kk => XS.icmpNo X37.here hx rfl (hb hby own_d12_25) rfl (feq hc47).1 kk) ?_
          obtain ⟨T56, X56, e56, st56⟩ := getS2 X37 hx hZ hown (host := "") (Or.inl (hw _ (List.mem_of_getElem? (i := 63) rfl))) Via.refl e37 (SN.ext old.2) (g := (mkF m 28 #[.val (.ref b), .val (.int (3 : Int32)), .val (.int (1 : Int32)), .val (.int x1)] [])) rfl (hb hby own_d12_28)
          refine OwnGo.back (T56.setTop (mkF m 31 #[.val (.ref b), .val (.int (3 : Int32)), .val (.int (1 : Int32)), .val (.int x1)] [(.ref oi)])) (fun tg kk => st56 _ kk) ?_
          refine OwnGo.back (T56.setTop (mkF m 32 #[.val (.ref b), .val (.int (3 : Int32)), .val (.int (1 : Int32)), .val (.int x1)] [(.int x1), (.ref oi)])) (fun tg kk => XS.iloadN X56.here hx rfl (hb hby own_d12_31) rfl kk) ?_
          obtain ⟨cq57, kq57, q57a, q57b, q57c⟩ := isOf hZ e56 Xi
          obtain ⟨_, _, ⟨T57, L57, k57, n57⟩, -, X57, ⟨Lc57, hQ57, l57, y57, z57⟩, st57⟩ := X56.virtualBack hx (y := (⟨"java/lang/CharacterDataLatin1", "isWhitespace", "(I)Z"⟩ : MethodName)) (z := (⟨"java/lang/CharacterDataLatin1", "isWhitespace", "(I)Z"⟩ : MethodName)) hown (mvT hZ (hw _ (List.mem_of_getElem? (i := 65) rfl))) (mvT hZ (hw _ (List.mem_of_getElem? (i := 66) rfl))) (notFace_of_selects (args := #[]) (mvT hZ (hw _ (List.mem_of_getElem? (i := 68) rfl)))) (mvT hZ (hw _ (List.mem_of_getElem? (i := 68) rfl))) (mvT hZ (hw _ (List.mem_of_getElem? (i := 67) rfl))) (by decide) (backOf (W := 0) (own_isw l Z a0 hw [] oi x1 aA h0 n0 Z0 Xi SA old hA hl1 hu1) hZ (hw _ (List.mem_of_getElem? (i := 69) rfl)) (hw _ (List.mem_of_getElem? (i := 64) rfl)) (by decide) (by decide)) q57a q57c (g := (mkF m 32 #[.val (.ref b), .val (.int (3 : Int32)), .val (.int (1 : Int32)), .val (.int x1)] [(.int x1), (.ref oi)])) rfl (by rw [hml]; rfl) (Steps.refl _) (argsL := [(.int x1)]) (rest := []) (lenOf own_pd6 rfl) rfl (by show 2 * 0 + _ ≤ _; exact Nat.le_of_eq rfl) (hb hby own_d12_32) (fun _ _ => ⟨rfl, e56, (by decide : 0 + 0 ≤ _), (by decide : 0 + 0 ≤ _)⟩)
          dsimp only [Pt.U, Pt.locs, Pt.cells, Pt.slots] at X57 l57 y57 z57 st57 hQ57
          subst l57 y57 z57
          obtain ⟨r_58, rfl, N57q, e57, po59⟩ := hQ57
          have N57 := Fr.app N37 N57q
          refine OwnGo.back (T57.setTop (mkF m 35 #[.val (.ref b), .val (.int (3 : Int32)), .val (.int (1 : Int32)), .val (.int x1)] [(.int r_58)])) (fun tg kk => st57.trans kk) ?_
          by_cases hc60 : r_58 = (0 : Int32)
          ·
            refine OwnGo.back (T57.setTop (mkF m 38 #[.val (.ref b), .val (.int (3 : Int32)), .val (.int (1 : Int32)), .val (.int x1)] [])) (fun tg kk => XS.ifNo X57.here hx rfl (hb hby own_d12_35) rfl ((if0 _ _).trans (teq hc60).2) kk) ?_
            refine OwnGo.back (T57.setTop (mkF m 47 #[.val (.ref b), .val (.int (3 : Int32)), .val (.int (1 : Int32)), .val (.int x1)] [])) (fun tg kk => XS.goto X57.here hx rfl (pc0 := 38) (pc' := 47) rfl (hb hby own_d12_38) (by decide) (by decide) kk) ?_
            refine OwnGo.back (T57.setTop (mkF m 48 #[.val (.ref b), .val (.int (3 : Int32)), .val (.int (1 : Int32)), .val (.int x1)] [(.int (1 : Int32))])) (fun tg kk => XS.iloadN X57.here hx rfl (hb hby own_d12_47) rfl kk) ?_
            obtain ⟨fs, hr, hrun, hended, hW, hsame⟩ := X57.leave (v := some (.int (1 : Int32))) (fun h => by rw [Bd.returns] at h; cases h)
            refine ⟨_, _, ?_, hrun, hended, _, _, rfl, ?_, ⟨_, rfl⟩, hW, hsame.mono (by decide) (by decide)⟩
            · exact own_retI X57 hx Bd.returns (hb hby own_d12_48) hr
            · show own_lw3_Q Z b kb x0 x1 x2 aA oi h0 n0 _ T57.heap _
              rw [e57]
              exact ⟨(1 : Int32), rfl, N57, rfl, (by (simp only [true_and, and_true, false_and, and_false, or_false, false_or, or_true, true_or, not_true_eq_false, not_false_eq_true, eq_self, Int32.lt_iff_toInt_lt, Int32.le_iff_toInt_le, ← Int32.toInt_inj, Int32.reduceToInt, Int64.lt_iff_toInt_lt, Int64.le_iff_toInt_le, ← Int64.toInt_inj, Int64.reduceToInt] at hc3 hc36 hc38 hc47 hc60 hl0 hu0 hl1 hu1 hl2 hu2 nw po59 ⊢) <;> omega)⟩
          ·
            refine OwnGo.back (T57.setTop (mkF m 41 #[.val (.ref b), .val (.int (3 : Int32)), .val (.int (1 : Int32)), .val (.int x1)] [])) (fun tg kk => XS.ifYes X57.here hx rfl (pc0 := 35) (pc' := 41) rfl (hb hby own_d12_35) rfl ((if0 _ _).trans (feq hc60).2) (by decide) (by decide) kk) ?_
            refine OwnGo.back (T57.setTop (mkF m 44 #[.val (.ref b), .val (.int (3 : Int32)), .val (.int (2 : Int32)), .val (.int x1)] [])) (fun tg kk => XS.iinc X57.here hx rfl (hb hby own_d12_41) rfl (l' := #[.val (.ref b), .val (.int (3 : Int32)), .val (.int (2 : Int32)), .val (.int x1)]) rfl kk) ?_
            refine OwnGo.back (T57.setTop (mkF m 5 #[.val (.ref b), .val (.int (3 : Int32)), .val (.int (2 : Int32)), .val (.int x1)] [])) (fun tg kk => XS.goto X57.here hx rfl (pc0 := 44) (pc' := 5) rfl (hb hby own_d12_44) (by decide) (by decide) kk) ?_
            refine OwnGo.back (T57.setTop (mkF m 6 #[.val (.ref b), .val (.int (3 : Int32)), .val (.int (2 : Int32)), .val (.int x1)] [(.int (2 : Int32))])) (fun tg kk => XS.iloadN X57.here hx rfl (hb hby own_d12_5) rfl kk) ?_
            refine OwnGo.back (T57.setTop (mkF m 7 #[.val (.ref b), .val (.int (3 : Int32)), .val (.int (2 : Int32)), .val (.int x1)] [(.int (3 : Int32)), (.int (2 : Int32))])) (fun tg kk => XS.iloadN X57.here hx rfl (hb hby own_d12_6) rfl kk) ?_
            refine OwnGo.back (T57.setTop (mkF m 10 #[.val (.ref b), .val (.int (3 : Int32)), .val (.int (2 : Int32)), .val (.int x1)] [])) (fun tg kk => XS.icmpNo X57.here hx rfl (hb hby own_d12_7) rfl (tlt (by decide : (2 : Int32) < (3 : Int32))).2.1 kk) ?_
            refine OwnGo.back (T57.setTop (mkF m 11 #[.val (.ref b), .val (.int (3 : Int32)), .val (.int (2 : Int32)), .val (.int x1)] [(.ref b)])) (fun tg kk => XS.aloadN X57.here hx rfl (hb hby own_d12_10) rfl rfl kk) ?_
            refine OwnGo.back (T57.setTop (mkF m 12 #[.val (.ref b), .val (.int (3 : Int32)), .val (.int (2 : Int32)), .val (.int x1)] [(.int (2 : Int32)), (.ref b)])) (fun tg kk => XS.iloadN X57.here hx rfl (hb hby own_d12_11) rfl kk) ?_
            obtain ⟨_, _, ⟨T61, L61, k61, n61⟩, -, X61, ⟨Lc61, hQ61, l61, y61, z61⟩, st61⟩ := Jvm.LawKit.callS X57 hx (y := (⟨"java/lang/StringLatin1", "getChar", "([BI)C"⟩ : MethodName)) hown (mvT hZ (hw _ (List.mem_of_getElem? (i := 60) rfl))) (mvT hZ (hw _ (List.mem_of_getElem? (i := 61) rfl))) (mvT hZ (hw _ (List.mem_of_getElem? (i := 58) rfl))) (mvT hZ (hw _ (List.mem_of_getElem? (i := 62) rfl))) (by decide) (backOf (W := 0) (own_gc32 l Z a0 hw [] b kb x0 x1 x2 h0 n0 Z0 B hl0 hu0 hl1 hu1 hl2 hu2) hZ (hw _ (List.mem_of_getElem? (i := 62) rfl)) (hw _ (List.mem_of_getElem? (i := 58) rfl)) (by decide) (by decide)) (g := (mkF m 12 #[.val (.ref b), .val (.int (3 : Int32)), .val (.int (2 : Int32)), .val (.int x1)] [(.int (2 : Int32)), (.ref b)])) rfl (by rw [hml]; rfl) (argsL := [(.ref b), (.int (2 : Int32))]) (rest := []) (lenOf own_pd5 rfl) rfl (by show 2 * 0 + _ ≤ _; exact Nat.le_of_eq rfl) (hb hby own_d12_12) (fun _ _ => ⟨rfl, e57, (by decide : 0 + 0 ≤ _), (by decide : 0 + 0 ≤ _)⟩)
            dsimp only [Pt.U, Pt.locs, Pt.cells, Pt.slots] at X61 l61 y61 z61 st61 hQ61
            subst l61 y61 z61
            obtain ⟨rfl, N61q, e61⟩ := hQ61
            have N61 := Fr.app N57 N61q
            refine OwnGo.back (T61.setTop (mkF m 15 #[.val (.ref b), .val (.int (3 : Int32)), .val (.int (2 : Int32)), .val (.int x1)] [(.int x2)])) (fun tg kk => st61 _ kk) ?_
            refine OwnGo.back (T61.setTop (mkF m 16 #[.val (.ref b), .val (.int (3 : Int32)), .val (.int (2 : Int32)), .val (.int x2)] [])) (fun tg kk => XS.istoreN X61.here hx rfl (hb hby own_d12_15) rfl (l' := #[.val (.ref b), .val (.int (3 : Int32)), .val (.int (2 : Int32)), .val (.int x2)]) rfl kk) ?_
            refine OwnGo.back (T61.setTop (mkF m 17 #[.val (.ref b), .val (.int (3 : Int32)), .val (.int (2 : Int32)), .val (.int x2)] [(.int x2)])) (fun tg kk => XS.iloadN X61.here hx rfl (hb hby own_d12_16) rfl kk) ?_
            refine OwnGo.back (T61.setTop (mkF m 19 #[.val (.ref b), .val (.int (3 : Int32)), .val (.int (2 : Int32)), .val (.int x2)] [(.int (32 : Int32)), (.int x2)])) (fun tg kk => XS.bipush X61.here hx rfl (hb hby own_d12_17) kk) ?_
            by_cases hc62 : x2 = (32 : Int32)
            ·
              refine OwnGo.back (T61.setTop (mkF m 41 #[.val (.ref b), .val (.int (3 : Int32)), .val (.int (2 : Int32)), .val (.int x2)] [])) (fun tg kk => XS.icmpYes X61.here hx rfl (pc0 := 19) (pc' := 41) rfl (hb hby own_d12_19) rfl (teq hc62).1 (by decide) (by decide) kk) ?_
              refine OwnGo.back (T61.setTop (mkF m 44 #[.val (.ref b), .val (.int (3 : Int32)), .val (.int (3 : Int32)), .val (.int x2)] [])) (fun tg kk => XS.iinc X61.here hx rfl (hb hby own_d12_41) rfl (l' := #[.val (.ref b), .val (.int (3 : Int32)), .val (.int (3 : Int32)), .val (.int x2)]) rfl kk) ?_
              refine OwnGo.back (T61.setTop (mkF m 5 #[.val (.ref b), .val (.int (3 : Int32)), .val (.int (3 : Int32)), .val (.int x2)] [])) (fun tg kk => XS.goto X61.here hx rfl (pc0 := 44) (pc' := 5) rfl (hb hby own_d12_44) (by decide) (by decide) kk) ?_
              refine OwnGo.back (T61.setTop (mkF m 6 #[.val (.ref b), .val (.int (3 : Int32)), .val (.int (3 : Int32)), .val (.int x2)] [(.int (3 : Int32))])) (fun tg kk => XS.iloadN X61.here hx rfl (hb hby own_d12_5) rfl kk) ?_
              refine OwnGo.back (T61.setTop (mkF m 7 #[.val (.ref b), .val (.int (3 : Int32)), .val (.int (3 : Int32)), .val (.int x2)] [(.int (3 : Int32)), (.int (3 : Int32))])) (fun tg kk => XS.iloadN X61.here hx rfl (hb hby own_d12_6) rfl kk) ?_
              refine OwnGo.back (T61.setTop (mkF m 47 #[.val (.ref b), .val (.int (3 : Int32)), .val (.int (3 : Int32)), .val (.int x2)] [])) (fun tg kk => XS.icmpYes X61.here hx rfl (pc0 := 7) (pc' := 47) rfl (hb hby own_d12_7) rfl (flt (by decide : ¬ ((3 : Int32) < (3 : Int32)))).2.1 (by decide) (by decide) kk) ?_
              refine OwnGo.back (T61.setTop (mkF m 48 #[.val (.ref b), .val (.int (3 : Int32)), .val (.int (3 : Int32)), .val (.int x2)] [(.int (3 : Int32))])) (fun tg kk => XS.iloadN X61.here hx rfl (hb hby own_d12_47) rfl kk) ?_
              obtain ⟨fs, hr, hrun, hended, hW, hsame⟩ := X61.leave (v := some (.int (3 : Int32))) (fun h => by rw [Bd.returns] at h; cases h)
              refine ⟨_, _, ?_, hrun, hended, _, _, rfl, ?_, ⟨_, rfl⟩, hW, hsame.mono (by decide) (by decide)⟩
              · exact own_retI X61 hx Bd.returns (hb hby own_d12_48) hr
              · show own_lw3_Q Z b kb x0 x1 x2 aA oi h0 n0 _ T61.heap _
                rw [e61]
                exact ⟨(3 : Int32), rfl, N61, rfl, (by (simp only [true_and, and_true, false_and, and_false, or_false, false_or, or_true, true_or, not_true_eq_false, not_false_eq_true, eq_self, Int32.lt_iff_toInt_lt, Int32.le_iff_toInt_le, ← Int32.toInt_inj, Int32.reduceToInt, Int64.lt_iff_toInt_lt, Int64.le_iff_toInt_le, ← Int64.toInt_inj, Int64.reduceToInt] at hc3 hc36 hc38 hc47 hc60 hc62 hl0 hu0 hl1 hu1 hl2 hu2 nw po59 ⊢) <;> omega)⟩
            ·
              refine OwnGo.back (T61.setTop (mkF m 22 #[.val (.ref b), .val (.int (3 : Int32)), .val (.int (2 : Int32)), .val (.int x2)] [])) (fun tg kk => XS.icmpNo X61.here hx rfl (hb hby own_d12_19) rfl (feq hc62).1 kk) ?_
              refine OwnGo.back (T61.setTop (mkF m 23 #[.val (.ref b), .val (.int (3 : Int32)), .val (.int (2 : Int32)), .val (.int x2)] [(.int x2)])) (fun tg kk => XS.iloadN X61.here hx rfl (hb hby own_d12_22) rfl kk) ?_
              refine OwnGo.back (T61.setTop (mkF m 25 #[.val (.ref b), .val (.int (3 : Int32)), .val (.int (2 : Int32)), .val (.int x2)] [(.int (9 : Int32)), (.int x2)])) (fun tg kk => XS.bipush X61.here hx rfl (hb hby own_d12_23) kk) ?_
              by_cases hc63 : x2 = (9 : Int32)
              ·
                refine OwnGo.back (T61.setTop (mkF m 41 #[.val (.ref b), .val (.int (3 : Int32)), .val (.int (2 : Int32)), .val (.int x2)] [])) (fun tg kk => XS.icmpYes X61.here hx rfl (pc0 := 25) (pc' := 41) rfl (hb hby own_d12_25) rfl (teq hc63).1 (by decide) (by decide) kk) ?_
                refine OwnGo.back (T61.setTop (mkF m 44 #[.val (.ref b), .val (.int (3 : Int32)), .val (.int (3 : Int32)), .val (.int x2)] [])) (fun tg kk => XS.iinc X61.here hx rfl (hb hby own_d12_41) rfl (l' := #[.val (.ref b), .val (.int (3 : Int32)), .val (.int (3 : Int32)), .val (.int x2)]) rfl kk) ?_
                refine OwnGo.back (T61.setTop (mkF m 5 #[.val (.ref b), .val (.int (3 : Int32)), .val (.int (3 : Int32)), .val (.int x2)] [])) (fun tg kk => XS.goto X61.here hx rfl (pc0 := 44) (pc' := 5) rfl (hb hby own_d12_44) (by decide) (by decide) kk) ?_
                refine OwnGo.back (T61.setTop (mkF m 6 #[.val (.ref b), .val (.int (3 : Int32)), .val (.int (3 : Int32)), .val (.int x2)] [(.int (3 : Int32))])) (fun tg kk => XS.iloadN X61.here hx rfl (hb hby own_d12_5) rfl kk) ?_
                refine OwnGo.back (T61.setTop (mkF m 7 #[.val (.ref b), .val (.int (3 : Int32)), .val (.int (3 : Int32)), .val (.int x2)] [(.int (3 : Int32)), (.int (3 : Int32))])) (fun tg kk => XS.iloadN X61.here hx rfl (hb hby own_d12_6) rfl kk) ?_
                refine OwnGo.back (T61.setTop (mkF m 47 #[.val (.ref b), .val (.int (3 : Int32)), .val (.int (3 : Int32)), .val (.int x2)] [])) (fun tg kk => XS.icmpYes X61.here hx rfl (pc0 := 7) (pc' := 47) rfl (hb hby own_d12_7) rfl (flt (by decide : ¬ ((3 : Int32) < (3 : Int32)))).2.1 (by decide) (by decide) kk) ?_
                refine OwnGo.back (T61.setTop (mkF m 48 #[.val (.ref b), .val (.int (3 : Int32)), .val (.int (3 : Int32)), .val (.int x2)] [(.int (3 : Int32))])) (fun tg kk => XS.iloadN X61.here hx rfl (hb hby own_d12_47) rfl kk) ?_
                obtain ⟨fs, hr, hrun, hended, hW, hsame⟩ := X61.leave (v := some (.int (3 : Int32))) (fun h => by rw [Bd.returns] at h; cases h)
                refine ⟨_, _, ?_, hrun, hended, _, _, rfl, ?_, ⟨_, rfl⟩, hW, hsame.mono (by decide) (by decide)⟩
                · exact own_retI X61 hx Bd.returns (hb hby own_d12_48) hr
                · show own_lw3_Q Z b kb x0 x1 x2 aA oi h0 n0 _ T61.heap _
                  rw [e61]
                  exact ⟨(3 : Int32), rfl, N61, rfl, (by (simp only [true_and, and_true, false_and, and_false, or_false, false_or, or_true, true_or, not_true_eq_false, not_false_eq_true, eq_self, Int32.lt_iff_toInt_lt, Int32.le_iff_toInt_le, ← Int32.toInt_inj, Int32.reduceToInt, Int64.lt_iff_toInt_lt, Int64.le_iff_toInt_le, ← Int64.toInt_inj, Int64.reduceToInt] at hc3 hc36 hc38 hc47 hc60 hc62 hc63 hl0 hu0 hl1 hu1 hl2 hu2 nw po59 ⊢) <;> omega)⟩
              ·
                refine OwnGo.back (T61.setTop (mkF m 28 #[.val (.ref b), .val (.int (3 : Int32)), .val (.int (2 : Int32)), .val (.int x2)] [])) (fun tg kk => XS.icmpNo X61.here hx rfl (hb hby own_d12_25) rfl (feq hc63).1 kk) ?_
                obtain ⟨T64, X64, e64, st64⟩ := getS2 X61 hx hZ hown (host := "") (Or.inl (hw _ (List.mem_of_getElem? (i := 63) rfl))) Via.refl e61 (SN.ext old.2) (g := (mkF m 28 #[.val (.ref b), .val (.int (3 : Int32)), .val (.int (2 : Int32)), .val (.int x2)] [])) rfl (hb hby own_d12_28)
                refine OwnGo.back (T64.setTop (mkF m 31 #[.val (.ref b), .val (.int (3 : Int32)), .val (.int (2 : Int32)), .val (.int x2)] [(.ref oi)])) (fun tg kk => st64 _ kk) ?_
                refine OwnGo.back (T64.setTop (mkF m 32 #[.val (.ref b), .val (.int (3 : Int32)), .val (.int (2 : Int32)), .val (.int x2)] [(.int x2), (.ref oi)])) (fun tg kk => XS.iloadN X64.here hx rfl (hb hby own_d12_31) rfl kk) ?_
                obtain ⟨cq65, kq65, q65a, q65b, q65c⟩ := isOf hZ e64 Xi
                obtain ⟨_, _, ⟨T65, L65, k65, n65⟩, -, X65, ⟨Lc65, hQ65, l65, y65, z65⟩, st65⟩ := X64.virtualBack hx (y := (⟨"java/lang/CharacterDataLatin1", "isWhitespace", "(I)Z"⟩ : MethodName)) (z := (⟨"java/lang/CharacterDataLatin1", "isWhitespace", "(I)Z"⟩ : MethodName)) hown (mvT hZ (hw _ (List.mem_of_getElem? (i := 65) rfl))) (mvT hZ (hw _ (List.mem_of_getElem? (i := 66) rfl))) (notFace_of_selects (args := #[]) (mvT hZ (hw _ (List.mem_of_getElem? (i := 68) rfl)))) (mvT hZ (hw _ (List.mem_of_getElem? (i := 68) rfl))) (mvT hZ (hw _ (List.mem_of_getElem? (i := 67) rfl))) (by decide) (backOf (W := 0) (own_isw l Z a0 hw [] oi x2 aA h0 n0 Z0 Xi SA old hA hl2 hu2) hZ (hw _ (List.mem_of_getElem? (i := 69) rfl)) (hw _ (List.mem_of_getElem? (i := 64) rfl)) (by decide) (by decide)) q65a q65c (g := (mkF m 32 #[.val (.ref b), .val (.int (3 : Int32)), .val (.int (2 : Int32)), .val (.int x2)] [(.int x2), (.ref oi)])) rfl (by rw [hml]; rfl) (Steps.refl _) (argsL := [(.int x2)]) (rest := []) (lenOf own_pd6 rfl) rfl (by show 2 * 0 + _ ≤ _; exact Nat.le_of_eq rfl) (hb hby own_d12_32) (fun _ _ => ⟨rfl, e64, (by decide : 0 + 0 ≤ _), (by decide : 0 + 0 ≤ _)⟩)
                dsimp only [Pt.U, Pt.locs, Pt.cells, Pt.slots] at X65 l65 y65 z65 st65 hQ65
                subst l65 y65 z65
                obtain ⟨r_66, rfl, N65q, e65, po67⟩ := hQ65
                have N65 := Fr.app N61 N65q
                refine OwnGo.back (T65.setTop (mkF m 35 #[.val (.ref b), .val (.int (3 : Int32)), .val (.int (2 : Int32)), .val (.int x2)] [(.int r_66)])) (fun tg kk => st65.trans kk) ?_
                by_cases hc68 : r_66 = (0 : Int32)
                ·
                  refine OwnGo.back (T65.setTop (mkF m 38 #[.val (.ref b), .val (.int (3 : Int32)), .val (.int (2 : Int32)), .val (.int x2)] [])) (fun tg kk => XS.ifNo X65.here hx rfl (hb hby own_d12_35) rfl ((if0 _ _).trans (teq hc68).2) kk) ?_
                  refine OwnGo.back (T65.setTop (mkF m 47 #[.val (.ref b), .val (.int (3 : Int32)), .val (.int (2 : Int32)), .val (.int x2)] [])) (fun tg kk => XS.goto X65.here hx rfl (pc0 := 38) (pc' := 47) rfl (hb hby own_d12_38) (by decide) (by decide) kk) ?_
                  refine OwnGo.back (T65.setTop (mkF m 48 #[.val (.ref b), .val (.int (3 : Int32)), .val (.int (2 : Int32)), .val (.int x2)] [(.int (2 : Int32))])) (fun tg kk => XS.iloadN X65.here hx rfl (hb hby own_d12_47) rfl kk) ?_
                  obtain ⟨fs, hr, hrun, hended, hW, hsame⟩ := X65.leave (v := some (.int (2 : Int32))) (fun h => by rw [Bd.returns] at h; cases h)
                  refine ⟨_, _, ?_, hrun, hended, _, _, rfl, ?_, ⟨_, rfl⟩, hW, hsame.mono (by decide) (by decide)⟩
                  · exact own_retI X65 hx Bd.returns (hb hby own_d12_48) hr
                  · show own_lw3_Q Z b kb x0 x1 x2 aA oi h0 n0 _ T65.heap _
                    rw [e65]
                    exact ⟨(2 : Int32), rfl, N65, rfl, (by (simp only [true_and, and_true, false_and, and_false, or_false, false_or, or_true, true_or, not_true_eq_false, not_false_eq_true, eq_self, Int32.lt_iff_toInt_lt, Int32.le_iff_toInt_le, ← Int32.toInt_inj, Int32.reduceToInt, Int64.lt_iff_toInt_lt, Int64.le_iff_toInt_le, ← Int64.toInt_inj, Int64.reduceToInt] at hc3 hc36 hc38 hc47 hc60 hc62 hc63 hc68 hl0 hu0 hl1 hu1 hl2 hu2 nw po59 po67 ⊢) <;> omega)⟩
                ·
                  refine OwnGo.back (T65.setTop (mkF m 41 #[.val (.ref b), .val (.int (3 : Int32)), .val (.int (2 : Int32)), .val (.int x2)] [])) (fun tg kk => XS.ifYes X65.here hx rfl (pc0 := 35) (pc' := 41) rfl (hb hby own_d12_35) rfl ((if0 _ _).trans (feq hc68).2) (by decide) (by decide) kk) ?_
                  refine OwnGo.back (T65.setTop (mkF m 44 #[.val (.ref b), .val (.int (3 : Int32)), .val (.int (3 : Int32)), .val (.int x2)] [])) (fun tg kk => XS.iinc X65.here hx rfl (hb hby own_d12_41) rfl (l' := #[.val (.ref b), .val (.int (3 : Int32)), .val (.int (3 : Int32)), .val (.int x2)]) rfl kk) ?_
                  refine OwnGo.back (T65.setTop (mkF m 5 #[.val (.ref b), .val (.int (3 : Int32)), .val (.int (3 : Int32)), .val (.int x2)] [])) (fun tg kk => XS.goto X65.here hx rfl (pc0 := 44) (pc' := 5) rfl (hb hby own_d12_44) (by decide) (by decide) kk) ?_
                  refine OwnGo.back (T65.setTop (mkF m 6 #[.val (.ref b), .val (.int (3 : Int32)), .val (.int (3 : Int32)), .val (.int x2)] [(.int (3 : Int32))])) (fun tg kk => XS.iloadN X65.here hx rfl (hb hby own_d12_5) rfl kk) ?_
                  refine OwnGo.back (T65.setTop (mkF m 7 #[.val (.ref b), .val (.int (3 : Int32)), .val (.int (3 : Int32)), .val (.int x2)] [(.int (3 : Int32)), (.int (3 : Int32))])) (fun tg kk => XS.iloadN X65.here hx rfl (hb hby own_d12_6) rfl kk) ?_
                  refine OwnGo.back (T65.setTop (mkF m 47 #[.val (.ref b), .val (.int (3 : Int32)), .val (.int (3 : Int32)), .val (.int x2)] [])) (fun tg kk => XS.icmpYes X65.here hx rfl (pc0 := 7) (pc' := 47) rfl (hb hby own_d12_7) rfl (flt (by decide : ¬ ((3 : Int32) < (3 : Int32)))).2.1 (by decide) (by decide) kk) ?_
                  refine OwnGo.back (T65.setTop (mkF m 48 #[.val (.ref b), .val (.int (3 : Int32)), .val (.int (3 : Int32)), .val (.int x2)] [(.int (3 : Int32))])) (fun tg kk => XS.iloadN X65.here hx rfl (hb hby own_d12_47) rfl kk) ?_
                  obtain ⟨fs, hr, hrun, hended, hW, hsame⟩ := X65.leave (v := some (.int (3 : Int32))) (fun h => by rw [Bd.returns] at h; cases h)
                  refine ⟨_, _, ?_, hrun, hended, _, _, rfl, ?_, ⟨_, rfl⟩, hW, hsame.mono (by decide) (by decide)⟩
                  · exact own_retI X65 hx Bd.returns (hb hby own_d12_48) hr
                  · show own_lw3_Q Z b kb x0 x1 x2 aA oi h0 n0 _ T65.heap _
                    rw [e65]
                    exact ⟨(3 : Int32), rfl, N65, rfl, (by (simp only [true_and, and_true, false_and, and_false, or_false, false_or, or_true, true_or, not_true_eq_false, not_false_eq_true, eq_self, Int32.lt_iff_toInt_lt, Int32.le_iff_toInt_le, ← Int32.toInt_inj, Int32.reduceToInt, Int64.lt_iff_toInt_lt, Int64.le_iff_toInt_le, ← Int64.toInt_inj, Int64.reduceToInt] at hc3 hc36 hc38 hc47 hc60 hc62 hc63 hc68 hl0 hu0 hl1 hu1 hl2 hu2 nw po59 po67 ⊢) <;> omega)⟩
    ·
      refine OwnGo.back (T2.setTop (mkF m 28 #[.val (.ref b), .val (.int (3 : Int32)), .val (.int (0 : Int32)), .val (.int x0)] [])) (fun tg kk => XS.icmpNo X2.here hx rfl (hb hby own_d12_25) rfl (feq hc36).1 kk) ?_
      obtain ⟨T69, X69, e69, st69⟩ := getS2 X2 hx hZ hown (host := "") (Or.inl (hw _ (List.mem_of_getElem? (i := 63) rfl))) Via.refl e2 (SN.ext old.2) (g := (mkF m 28 #[.val (.ref b), .val (.int (3 : Int32)), .val (.int (0 : Int32)), .val (.int x0)] [])) rfl (hb hby own_d12_28)
      refine OwnGo.back (T69.setTop (mkF m 31 #[.val (.ref b), .val (.int (3 : Int32)), .val (.int (0 : Int32)), .val (.int x0)] [(.ref oi)])) (fun tg kk => st69 _ kk) ?_
      refine OwnGo.back (T69.setTop (mkF m 32 #[.val (.ref b), .val (.int (3 : Int32)), .val (.int (0 : Int32)), .val (.int x0)] [(.int x0), (.ref oi)])) (fun tg kk => XS.iloadN X69.here hx rfl (hb hby own_d12_31) rfl kk) ?_
      obtain ⟨cq70, kq70, q70a, q70b, q70c⟩ := isOf hZ e69 Xi
      obtain ⟨_, _, ⟨T70, L70, k70, n70⟩, -, X70, ⟨Lc70, hQ70, l70, y70, z70⟩, st70⟩ := X69.virtualBack hx (y := (⟨"java/lang/CharacterDataLatin1", "isWhitespace", "(I)Z"⟩ : MethodName)) (z := (⟨"java/lang/CharacterDataLatin1", "isWhitespace", "(I)Z"⟩ : MethodName)) hown (mvT hZ (hw _ (List.mem_of_getElem? (i := 65) rfl))) (mvT hZ (hw _ (List.mem_of_getElem? (i := 66) rfl))) (notFace_of_selects (args := #[]) (mvT hZ (hw _ (List.mem_of_getElem? (i := 68) rfl)))) (mvT hZ (hw _ (List.mem_of_getElem? (i := 68) rfl))) (mvT hZ (hw _ (List.mem_of_getElem? (i := 67) rfl))) (by decide) (backOf (W := 0) (own_isw l Z a0 hw [] oi x0 aA h0 n0 Z0 Xi SA old hA hl0 hu0) hZ (hw _ (List.mem_of_getElem? (i := 69) rfl)) (hw _ (List.mem_of_getElem? (i := 64) rfl)) (by decide) (by decide)) q70a q70c (g := (mkF m 32 #[.val (.ref b), .val (.int (3 : Int32)), .val (.int (0 : Int32)), .val (.int x0)] [(.int x0), (.ref oi)])) rfl (by rw [hml]; rfl) (Steps.refl _) (argsL := [(.int x0)]) (rest := []) (lenOf own_pd6 rfl) rfl (by show 2 * 0 + _ ≤ _; exact Nat.le_of_eq rfl) (hb hby own_d12_32) (fun _ _ => ⟨rfl, e69, (by decide : 0 + 0 ≤ _), (by decide : 0 + 0 ≤ _)⟩)
      dsimp only [Pt.U, Pt.locs, Pt.cells, Pt.slots] at X70 l70 y70 z70 st70 hQ70
      subst l70 y70 z70
      obtain ⟨r_71, rfl, N70q, e70, po72⟩ := hQ70
      have N70 := Fr.app N2 N70q
      refine OwnGo.back (T70.setTop (mkF m 35 #[.val (.ref b), .val (.int (3 : Int32)), .val (.int (0 : Int32)), .val (.int x0)] [(.int r_71)])) (fun tg kk => st70.trans kk) ?_
      by_cases hc73 : r_71 = (0 : Int32)
      ·
        refine OwnGo.back (T70.setTop (mkF m 38 #[.val (.ref b), .val (.int (3 : Int32)), .val (.int (0 : Int32)), .val (.int x0)] [])) (fun tg kk => XS.ifNo X70.here hx rfl (hb hby own_d12_35) rfl ((if0 _ _).trans (teq hc73).2) kk) ?_
        refine OwnGo.back (T70.setTop (mkF m 47 #[.val (.ref b), .val (.int (3 : Int32)), .val (.int (0 : Int32)), .val (.int x0)] [])) (fun tg kk => XS.goto X70.here hx rfl (pc0 := 38) (pc' := 47) rfl (hb hby own_d12_38) (by decide) (by decide) kk) ?_
        refine OwnGo.back (T70.setTop (mkF m 48 #[.val (.ref b), .val (.int (3 : Int32)), .val (.int (0 : Int32)), .val (.int x0)] [(.int (0 : Int32))])) (fun tg kk => XS.iloadN X70.here hx rfl (hb hby own_d12_47) rfl kk) ?_
        obtain ⟨fs, hr, hrun, hended, hW, hsame⟩ := X70.leave (v := some (.int (0 : Int32))) (fun h => by rw [Bd.returns] at h; cases h)
        refine ⟨_, _, ?_, hrun, hended, _, _, rfl, ?_, ⟨_, rfl⟩, hW, hsame.mono (by decide) (by decide)⟩
        · exact own_retI X70 hx Bd.returns (hb hby own_d12_48) hr
        · show own_lw3_Q Z b kb x0 x1 x2 aA oi h0 n0 _ T70.heap _
          rw [e70]
          exact ⟨(0 : Int32), rfl, N70, rfl, (by (simp only [true_and, and_true, false_and, and_false, or_false, false_or, or_true, true_or, not_true_eq_false, not_false_eq_true, eq_self, Int32.lt_iff_toInt_lt, Int32.le_iff_toInt_le, ← Int32.toInt_inj, Int32.reduceToInt, Int64.lt_iff_toInt_lt, Int64.le_iff_toInt_le, ← Int64.toInt_inj, Int64.reduceToInt] at hc3 hc36 hc73 hl0 hu0 hl1 hu1 hl2 hu2 nw po72 ⊢) <;> omega)⟩
      ·
        refine OwnGo.back (T70.setTop (mkF m 41 #[.val (.ref b), .val (.int (3 : Int32)), .val (.int (0 : Int32)), .val (.int x0)] [])) (fun tg kk => XS.ifYes X70.here hx rfl (pc0 := 35) (pc' := 41) rfl (hb hby own_d12_35) rfl ((if0 _ _).trans (feq hc73).2) (by decide) (by decide) kk) ?_
        refine OwnGo.back (T70.setTop (mkF m 44 #[.val (.ref b), .val (.int (3 : Int32)), .val (.int (1 : Int32)), .val (.int x0)] [])) (fun tg kk => XS.iinc X70.here hx rfl (hb hby own_d12_41) rfl (l' := #[.val (.ref b), .val (.int (3 : Int32)), .val (.int (1 : Int32)), .val (.int x0)]) rfl kk) ?_
        refine OwnGo.back (T70.setTop (mkF m 5 #[.val (.ref b), .val (.int (3 : Int32)), .val (.int (1 : Int32)), .val (.int x0)] [])) (fun tg kk => XS.goto X70.here hx rfl (pc0 := 44) (pc' := 5) rfl (hb hby own_d12_44) (by decide) (by decide) kk) ?_
        refine OwnGo.back (T70.setTop (mkF m 6 #[.val (.ref b), .val (.int (3 : Int32)), .val (.int (1 : Int32)), .val (.int x0)] [(.int (1 : Int32))])) (fun tg kk => XS.iloadN X70.here hx rfl (hb hby own_d12_5) rfl kk) ?_
        refine OwnGo.back (T70.setTop (mkF m 7 #[.val (.ref b), .val (.int (3 : Int32)), .val (.int (1 : Int32)), .val (.int x0)] [(.int (3 : Int32)), (.int (1 : Int32))])) (fun tg kk => XS.iloadN X70.here hx rfl (hb hby own_d12_6) rfl kk) ?_
        refine OwnGo.back (T70.setTop (mkF m 10 #[.val (.ref b), .val (.int (3 : Int32)), .val (.int (1 : Int32)), .val (.int x0)] [])) (fun tg kk => XS.icmpNo X70.here hx rfl (hb hby own_d12_7) rfl (tlt (by decide : (1 : Int32) < (3 : Int32))).2.1 kk) ?_
        refine OwnGo.back (T70.setTop (mkF m 11 #[.val (.ref b), .val (.int (3 : Int32)), .val (.int (1 : Int32)), .val (.int x0)] [(.ref b)])) (fun tg kk => XS.aloadN X70.here hx rfl (hb hby own_d12_10) rfl rfl kk) ?_
        refine OwnGo.back (T70.setTop (mkF m 12 #[.val (.ref b), .val (.int (3 : Int32)), .val (.int (1 : Int32)), .val (.int x0)] [(.int (1 : Int32)), (.ref b)])) (fun tg kk => XS.iloadN X70.here hx rfl (hb hby own_d12_11) rfl kk) ?_
        obtain ⟨_, _, ⟨T74, L74, k74, n74⟩, -, X74, ⟨Lc74, hQ74, l74, y74, z74⟩, st74⟩ := Jvm.LawKit.callS X70 hx (y := (⟨"java/lang/StringLatin1", "getChar", "([BI)C"⟩ : MethodName)) hown (mvT hZ (hw _ (List.mem_of_getElem? (i := 60) rfl))) (mvT hZ (hw _ (List.mem_of_getElem? (i := 61) rfl))) (mvT hZ (hw _ (List.mem_of_getElem? (i := 58) rfl))) (mvT hZ (hw _ (List.mem_of_getElem? (i := 62) rfl))) (by decide) (backOf (W := 0) (own_gc31 l Z a0 hw [] b kb x0 x1 x2 h0 n0 Z0 B hl0 hu0 hl1 hu1 hl2 hu2) hZ (hw _ (List.mem_of_getElem? (i := 62) rfl)) (hw _ (List.mem_of_getElem? (i := 58) rfl)) (by decide) (by decide)) (g := (mkF m 12 #[.val (.ref b), .val (.int (3 : Int32)), .val (.int (1 : Int32)), .val (.int x0)] [(.int (1 : Int32)), (.ref b)])) rfl (by rw [hml]; rfl) (argsL := [(.ref b), (.int (1 : Int32))]) (rest := []) (lenOf own_pd5 rfl) rfl (by show 2 * 0 + _ ≤ _; exact Nat.le_of_eq rfl) (hb hby own_d12_12) (fun _ _ => ⟨rfl, e70, (by decide : 0 + 0 ≤ _), (by decide : 0 + 0 ≤ _)⟩)
        dsimp only [Pt.U, Pt.locs, Pt.cells, Pt.slots] at X74 l74 y74 z74 st74 hQ74
        subst l74 y74 z74
        obtain ⟨rfl, N74q, e74⟩ := hQ74
        have N74 := Fr.app N70 N74q
        refine OwnGo.back (T74.setTop (mkF m 15 #[.val (.ref b), .val (.int (3 : Int32)), .val (.int (1 : Int32)), .val (.int x0)] [(.int x1)])) (fun tg kk => st74 _ kk) ?_
        refine OwnGo.back (T74.setTop (mkF m 16 #[.val (.ref b), .val (.int (3 : Int32)), .val (.int (1 : Int32)), .val (.int x1)] [])) (fun tg kk => XS.istoreN X74.here hx rfl (hb hby own_d12_15) rfl (l' := #[.val (.ref b), .val (.int (3 : Int32)), .val (.int (1 : Int32)), .val (.int x1)]) rfl kk) ?_
        refine OwnGo.back (T74.setTop (mkF m 17 #[.val (.ref b), .val (.int (3 : Int32)), .val (.int (1 : Int32)), .val (.int x1)] [(.int x1)])) (fun tg kk => XS.iloadN X74.here hx rfl (hb hby own_d12_16) rfl kk) ?_
        refine OwnGo.back (T74.setTop (mkF m 19 #[.val (.ref b), .val (.int (3 : Int32)), .val (.int (1 : Int32)), .val (.int x1)] [(.int (32 : Int32)), (.int x1)])) (fun tg kk => XS.bipush X74.here hx rfl (hb hby own_d12_17) kk) ?_
        by_cases hc75 : x1 = (32 : Int32)
        ·
          refine OwnGo.back (T74.setTop (mkF m 41 #[.val (.ref b), .val (.int (3 : Int32)), .val (.int (1 : Int32)), .val (.int x1)] [])) (fun tg kk => XS.icmpYes X74.here hx rfl (pc0 := 19) (pc' := 41) rfl (hb hby own_d12_19) rfl (teq hc75).1 (by decide) (by decide) kk) ?_
          refine OwnGo.back (T74.setTop (mkF m 44 #[.val (.ref b), .val (.int (3 : Int32)), .val (.int (2 : Int32)), .val (.int x1)] [])) (fun tg kk => XS.iinc X74.here hx rfl (hb hby own_d12_41) rfl (l' := #[.val (.ref b), .val (.int (3 : Int32)), .val (.int (2 : Int32)), .val (.int x1)]) rfl kk) ?_
          refine OwnGo.back (T74.setTop (mkF m 5 #[.val (.ref b), .val (.int (3 : Int32)), .val (.int (2 : Int32)), .val (.int x1)] [])) (fun tg kk => XS.goto X74.here hx rfl (pc0 := 44) (pc' := 5) rfl (hb hby own_d12_44) (by decide) (by decide) kk) ?_
          refine OwnGo.back (T74.setTop (mkF m 6 #[.val (.ref b), .val (.int (3 : Int32)), .val (.int (2 : Int32)), .val (.int x1)] [(.int (2 : Int32))])) (fun tg kk => XS.iloadN X74.here hx rfl (hb hby own_d12_5) rfl kk) ?_
          refine OwnGo.back (T74.setTop (mkF m 7 #[.val (.ref b), .val (.int (3 : Int32)), .val (.int (2 : Int32)), .val (.int x1)] [(.int (3 : Int32)), (.int (2 : Int32))])) (fun tg kk => XS.iloadN X74.here hx rfl (hb hby own_d12_6) rfl kk) ?_
          refine OwnGo.back (T74.setTop (mkF m 10 #[.val (.ref b), .val (.int (3 : Int32)), .val (.int (2 : Int32)), .val (.int x1)] [])) (fun tg kk => XS.icmpNo X74.here hx rfl (hb hby own_d12_7) rfl (tlt (by decide : (2 : Int32) < (3 : Int32))).2.1 kk) ?_
          refine OwnGo.back (T74.setTop (mkF m 11 #[.val (.ref b), .val (.int (3 : Int32)), .val (.int (2 : Int32)), .val (.int x1)] [(.ref b)])) (fun tg kk => XS.aloadN X74.here hx rfl (hb hby own_d12_10) rfl rfl kk) ?_
          refine OwnGo.back (T74.setTop (mkF m 12 #[.val (.ref b), .val (.int (3 : Int32)), .val (.int (2 : Int32)), .val (.int x1)] [(.int (2 : Int32)), (.ref b)])) (fun tg kk => XS.iloadN X74.here hx rfl (hb hby own_d12_11) rfl kk) ?_
          obtain ⟨_, _, ⟨T76, L76, k76, n76⟩, -, X76, ⟨Lc76, hQ76, l76, y76, z76⟩, st76⟩ := Jvm.LawKit.callS X74 hx (y := (⟨"java/lang/StringLatin1", "getChar", "([BI)C"⟩ : MethodName)) hown (mvT hZ (hw _ (List.mem_of_getElem? (i := 60) rfl))) (mvT hZ (hw _ (List.mem_of_getElem? (i := 61) rfl))) (mvT hZ (hw _ (List.mem_of_getElem? (i := 58) rfl))) (mvT hZ (hw _ (List.mem_of_getElem? (i := 62) rfl))) (by decide) (backOf (W := 0) (own_gc32 l Z a0 hw [] b kb x0 x1 x2 h0 n0 Z0 B hl0 hu0 hl1 hu1 hl2 hu2) hZ (hw _ (List.mem_of_getElem? (i := 62) rfl)) (hw _ (List.mem_of_getElem? (i := 58) rfl)) (by decide) (by decide)) (g := (mkF m 12 #[.val (.ref b), .val (.int (3 : Int32)), .val (.int (2 : Int32)), .val (.int x1)] [(.int (2 : Int32)), (.ref b)])) rfl (by rw [hml]; rfl) (argsL := [(.ref b), (.int (2 : Int32))]) (rest := []) (lenOf own_pd5 rfl) rfl (by show 2 * 0 + _ ≤ _; exact Nat.le_of_eq rfl) (hb hby own_d12_12) (fun _ _ => ⟨rfl, e74, (by decide : 0 + 0 ≤ _), (by decide : 0 + 0 ≤ _)⟩)
          dsimp only [Pt.U, Pt.locs, Pt.cells, Pt.slots] at X76 l76 y76 z76 st76 hQ76
          subst l76 y76 z76
          obtain ⟨rfl, N76q, e76⟩ := hQ76
          have N76 := Fr.app N74 N76q
          refine OwnGo.back (T76.setTop (mkF m 15 #[.val (.ref b), .val (.int (3 : Int32)), .val (.int (2 : Int32)), .val (.int x1)] [(.int x2)])) (fun tg kk => st76 _ kk) ?_
          refine OwnGo.back (T76.setTop (mkF m 16 #[.val (.ref b), .val (.int (3 : Int32)), .val (.int (2 : Int32)), .val (.int x2)] [])) (fun tg kk => XS.istoreN X76.here hx rfl (hb hby own_d12_15) rfl (l' := #[.val (.ref b), .val (.int (3 : Int32)), .val (.int (2 : Int32)), .val (.int x2)]) rfl kk) ?_
          refine OwnGo.back (T76.setTop (mkF m 17 #[.val (.ref b), .val (.int (3 : Int32)), .val (.int (2 : Int32)), .val (.int x2)] [(.int x2)])) (fun tg kk => XS.iloadN X76.here hx rfl (hb hby own_d12_16) rfl kk) ?_
          refine OwnGo.back (T76.setTop (mkF m 19 #[.val (.ref b), .val (.int (3 : Int32)), .val (.int (2 : Int32)), .val (.int x2)] [(.int (32 : Int32)), (.int x2)])) (fun tg kk => XS.bipush X76.here hx rfl (hb hby own_d12_17) kk) ?_
          by_cases hc77 : x2 = (32 : Int32)
          ·
            refine OwnGo.back (T76.setTop (mkF m 41 #[.val (.ref b), .val (.int (3 : Int32)), .val (.int (2 : Int32)), .val (.int x2)] [])) (fun tg kk => XS.icmpYes X76.here hx rfl (pc0 := 19) (pc' := 41) rfl (hb hby own_d12_19) rfl (teq hc77).1 (by decide) (by decide) kk) ?_
            refine OwnGo.back (T76.setTop (mkF m 44 #[.val (.ref b), .val (.int (3 : Int32)), .val (.int (3 : Int32)), .val (.int x2)] [])) (fun tg kk => XS.iinc X76.here hx rfl (hb hby own_d12_41) rfl (l' := #[.val (.ref b), .val (.int (3 : Int32)), .val (.int (3 : Int32)), .val (.int x2)]) rfl kk) ?_
            refine OwnGo.back (T76.setTop (mkF m 5 #[.val (.ref b), .val (.int (3 : Int32)), .val (.int (3 : Int32)), .val (.int x2)] [])) (fun tg kk => XS.goto X76.here hx rfl (pc0 := 44) (pc' := 5) rfl (hb hby own_d12_44) (by decide) (by decide) kk) ?_
            refine OwnGo.back (T76.setTop (mkF m 6 #[.val (.ref b), .val (.int (3 : Int32)), .val (.int (3 : Int32)), .val (.int x2)] [(.int (3 : Int32))])) (fun tg kk => XS.iloadN X76.here hx rfl (hb hby own_d12_5) rfl kk) ?_
            refine OwnGo.back (T76.setTop (mkF m 7 #[.val (.ref b), .val (.int (3 : Int32)), .val (.int (3 : Int32)), .val (.int x2)] [(.int (3 : Int32)), (.int (3 : Int32))])) (fun tg kk => XS.iloadN X76.here hx rfl (hb hby own_d12_6) rfl kk) ?_
            refine OwnGo.back (T76.setTop (mkF m 47 #[.val (.ref b), .val (.int (3 : Int32)), .val (.int (3 : Int32)), .val (.int x2)] [])) (fun tg kk => XS.icmpYes X76.here hx rfl (pc0 := 7) (pc' := 47) rfl (hb hby own_d12_7) rfl (flt (by decide : ¬ ((3 : Int32) < (3 : Int32)))).2.1 (by decide) (by decide) kk) ?_
            refine OwnGo.back (T76.setTop (mkF m 48 #[.val (.ref b), .val (.int (3 : Int32)), .val (.int (3 : Int32)), .val (.int x2)] [(.int (3 : Int32))])) (fun tg kk => XS.iloadN X76.here hx rfl (hb hby own_d12_47) rfl kk) ?_
            obtain ⟨fs, hr, hrun, hended, hW, hsame⟩ := X76.leave (v := some (.int (3 : Int32))) (fun h => by rw [Bd.returns] at h; cases h)
            refine ⟨_, _, ?_, hrun, hended, _, _, rfl, ?_, ⟨_, rfl⟩, hW, hsame.mono (by decide) (by decide)⟩
            · exact own_retI X76 hx Bd.returns (hb hby own_d12_48) hr
            · show own_lw3_Q Z b kb x0 x1 x2 aA oi h0 n0 _ T76.heap _
              rw [e76]
              exact ⟨(3 : Int32), rfl, N76, rfl, (by (simp only [true_and, and_true, false_and, and_false, or_false, false_or, or_true, true_or, not_true_eq_false, not_false_eq_true, eq_self, Int32.lt_iff_toInt_lt, Int32.le_iff_toInt_le, ← Int32.toInt_inj, Int32.reduceToInt, Int64.lt_iff_toInt_lt, Int64.le_iff_toInt_le, ← Int64.toInt_inj, Int64.reduceToInt] at hc3 hc36 hc73 hc75 hc77 hl0 hu0 hl1 hu1 hl2 hu2 nw po72 ⊢) <;> omega)⟩
          ·
            refine OwnGo.back (T76.setTop (mkF m 22 #[.val (.ref b), .val (.int (3 : Int32)), .val (.int (2 : Int32)), .val (.int x2)] [])) (fun tg kk => XS.icmpNo X76.here hx rfl (hb hby own_d12_19) rfl (feq hc77).1 kk) ?_
            refine OwnGo.back (T76.setTop (mkF m 23 #[.val (.ref b), .val (.int (3 : Int32)), .val (.int (2 : Int32)), .val (.int x2)] [(.int x2)])) (fun tg kk => XS.iloadN X76.here hx rfl (hb hby own_d12_22) rfl kk) ?_
            refine OwnGo.back (T76.setTop (mkF m 25 #[.val (.ref b), .val (.int (3 : Int32)), .val (.int (2 : Int32)), .val (.int x2)] [(.int (9 : Int32)), (.int x2)])) (fun tg kk => XS.bipush X76.here hx rfl (hb hby own_d12_23) kk) ?_
            by_cases hc78 : x2 = (9 : Int32)
            ·
              refine OwnGo.back (T76.setTop (mkF m 41 #[.val (.ref b), .val (.int (3 : Int32)), .val (.int (2 : Int32)), .val (.int x2)] [])) (fun tg kk => XS.icmpYes X76.here hx rfl (pc0 := 25) (pc' := 41) rfl (hb hby own_d12_25) rfl (teq hc78).1 (by decide) (by decide) kk) ?_
              refine OwnGo.back (T76.setTop (mkF m 44 #[.val (.ref b), .val (.int (3 : Int32)), .val (.int (3 : Int32)), .val (.int x2)] [])) (fun tg kk => XS.iinc X76.here hx rfl (hb hby own_d12_41) rfl (l' := #[.val (.ref b), .val (.int (3 : Int32)), .val (.int (3 : Int32)), .val (.int x2)]) rfl kk) ?_
              refine OwnGo.back (T76.setTop (mkF m 5 #[.val (.ref b), .val (.int (3 : Int32)), .val (.int (3 : Int32)), .val (.int x2)] [])) (fun tg kk => XS.goto X76.here hx rfl (pc0 := 44) (pc' := 5) rfl (hb hby own_d12_44) (by decide) (by decide) kk) ?_
              refine OwnGo.back (T76.setTop (mkF m 6 #[.val (.ref b), .val (.int (3 : Int32)), .val (.int (3 : Int32)), .val (.int x2)] [(.int (3 : Int32))])) (fun tg kk => XS.iloadN X76.here hx rfl (hb hby own_d12_5) rfl kk) ?_
              refine OwnGo.back (T76.setTop (mkF m 7 #[.val (.ref b), .val (.int (3 : Int32)), .val (.int (3 : Int32)), .val (.int x2)] [(.int (3 : Int32)), (.int (3 : Int32))])) (fun tg kk => XS.iloadN X76.here hx rfl (hb hby own_d12_6) rfl kk) ?_
              refine OwnGo.back (T76.setTop (mkF m 47 #[.val (.ref b), .val (.int (3 : Int32)), .val (.int (3 : Int32)), .val (.int x2)] [])) (fun tg kk => XS.icmpYes X76.here hx rfl (pc0 := 7) (pc' := 47) rfl (hb hby own_d12_7) rfl (flt (by decide : ¬ ((3 : Int32) < (3 : Int32)))).2.1 (by decide) (by decide) kk) ?_
              refine OwnGo.back (T76.setTop (mkF m 48 #[.val (.ref b), .val (.int (3 : Int32)), .val (.int (3 : Int32)), .val (.int x2)] [(.int (3 : Int32))])) (fun tg kk => XS.iloadN X76.here hx rfl (hb hby own_d12_47) rfl kk) ?_
              obtain ⟨fs, hr, hrun, hended, hW, hsame⟩ := X76.leave (v := some (.int (3 : Int32))) (fun h => by rw [Bd.returns] at h; cases h)
              refine ⟨_, _, ?_, hrun, hended, _, _, rfl, ?_, ⟨_, rfl⟩, hW, hsame.mono (by decide) (by decide)⟩
              · exact own_retI X76 hx Bd.returns (hb hby own_d12_48) hr
              · show own_lw3_Q Z b kb x0 x1 x2 aA oi h0 n0 _ T76.heap _
                rw [e76]
                exact ⟨(3 : Int32), rfl, N76, rfl, (by (simp only [true_and, and_true, false_and, and_false, or_false, false_or, or_true, true_or, not_true_eq_false, not_false_eq_true, eq_self, Int32.lt_iff_toInt_lt, Int32.le_iff_toInt_le, ← Int32.toInt_inj, Int32.reduceToInt, Int64.lt_iff_toInt_lt, Int64.le_iff_toInt_le, ← Int64.toInt_inj, Int64.reduceToInt] at hc3 hc36 hc73 hc75 hc77 hc78 hl0 hu0 hl1 hu1 hl2 hu2 nw po72 ⊢) <;> omega)⟩
            ·
              refine OwnGo.back (T76.setTop (mkF m 28 #[.val (.ref b), .val (.int (3 : Int32)), .val (.int (2 : Int32)), .val (.int x2)] [])) (fun tg kk => XS.icmpNo X76.here hx rfl (hb hby own_d12_25) rfl (feq hc78).1 kk) ?_
              obtain ⟨T79, X79, e79, st79⟩ := getS2 X76 hx hZ hown (host := "") (Or.inl (hw _ (List.mem_of_getElem? (i := 63) rfl))) Via.refl e76 (SN.ext old.2) (g := (mkF m 28 #[.val (.ref b), .val (.int (3 : Int32)), .val (.int (2 : Int32)), .val (.int x2)] [])) rfl (hb hby own_d12_28)
              refine OwnGo.back (T79.setTop (mkF m 31 #[.val (.ref b), .val (.int (3 : Int32)), .val (.int (2 : Int32)), .val (.int x2)] [(.ref oi)])) (fun tg kk => st79 _ kk) ?_
              refine OwnGo.back (T79.setTop (mkF m 32 #[.val (.ref b), .val (.int (3 : Int32)), .val (.int (2 : Int32)), .val (.int x2)] [(.int x2), (.ref oi)])) (fun tg kk => XS.iloadN X79.here hx rfl (hb hby own_d12_31) rfl kk) ?_
              obtain ⟨cq80, kq80, q80a, q80b, q80c⟩ := isOf hZ e79 Xi
              obtain ⟨_, _, ⟨T80, L80, k80, n80⟩, -, X80, ⟨Lc80, hQ80, l80, y80, z80⟩, st80⟩ := X79.virtualBack hx (y := (⟨"java/lang/CharacterDataLatin1", "isWhitespace", "(I)Z"⟩ : MethodName)) (z := (⟨"java/lang/CharacterDataLatin1", "isWhitespace", "(I)Z"⟩ : MethodName)) hown (mvT hZ (hw _ (List.mem_of_getElem? (i := 65) rfl))) (mvT hZ (hw _ (List.mem_of_getElem? (i := 66) rfl))) (notFace_of_selects (args := #[]) (mvT hZ (hw _ (List.mem_of_getElem? (i := 68) rfl)))) (mvT hZ (hw _ (List.mem_of_getElem? (i := 68) rfl))) (mvT hZ (hw _ (List.mem_of_getElem? (i := 67) rfl))) (by decide) (backOf (W := 0) (own_isw l Z a0 hw [] oi x2 aA h0 n0 Z0 Xi SA old hA hl2 hu2) hZ (hw _ (List.mem_of_getElem? (i := 69) rfl)) (hw _ (List.mem_of_getElem? (i := 64) rfl)) (by decide) (by decide)) q80a q80c (g := (mkF m 32 #[.val (.ref b), .val (.int (3 : Int32)), .val (.int (2 : Int32)), .val (.int x2)] [(.int x2), (.ref oi)])) rfl (by rw [hml]; rfl) (Steps.refl _) (argsL := [(.int x2)]) (rest := []) (lenOf own_pd6 rfl) rfl (by show 2 * 0 + _ ≤ _; exact Nat.le_of_eq rfl) (hb hby own_d12_32) (fun _ _ => ⟨rfl, e79, (by decide : 0 + 0 ≤ _), (by decide : 0 + 0 ≤ _)⟩)
              dsimp only [Pt.U, Pt.locs, Pt.cells, Pt.slots] at X80 l80 y80 z80 st80 hQ80
              subst l80 y80 z80
              obtain ⟨r_81, rfl, N80q, e80, po82⟩ := hQ80
              have N80 := Fr.app N76 N80q
              refine OwnGo.back (T80.setTop (mkF m 35 #[.val (.ref b), .val (.int (3 : Int32)), .val (.int (2 : Int32)), .val (.int x2)] [(.int r_81)])) (fun tg kk => st80.trans kk) ?_
              by_cases hc83 : r_81 = (0 : Int32)
              ·
                refine OwnGo.back (T80.setTop (mkF m 38 #[.val (.ref b), .val (.int (3 : Int32)), .val (.int (2 : Int32)), .val (.int x2)] [])) (fun tg kk => XS.ifNo X80.here hx rfl (hb hby own_d12_35) rfl ((if0 _ _).trans (teq hc83).2) kk) ?_
                refine OwnGo.back (T80.setTop (mkF m 47 #[.val (.ref b), .val (.int (3 : Int32)), .val (.int (2 : Int32)), .val (.int x2)] [])) (fun tg kk => XS.goto X80.here hx rfl (pc0 := 38) (pc' := 47) rfl (hb hby own_d12_38) (by decide) (by decide) kk) ?_
                refine OwnGo.back (T80.setTop (mkF m 48 #[.val (.ref b), .val (.int (3 : Int32)), .val (.int (2 : Int32)), .val (.int x2)] [(.int (2 : Int32))])) (fun tg kk => XS.iloadN X80.here hx rfl (hb hby own_d12_47) rfl kk) ?_
                obtain ⟨fs, hr, hrun, hended, hW, hsame⟩ := X80.leave (v := some (.int (2 : Int32))) (fun h => by rw [Bd.returns] at h; cases h)
                refine ⟨_, _, ?_, hrun, hended, _, _, rfl, ?_, ⟨_, rfl⟩, hW, hsame.mono (by decide) (by decide)⟩
                · exact own_retI X80 hx Bd.returns (hb hby own_d12_48) hr
                · show own_lw3_Q Z b kb x0 x1 x2 aA oi h0 n0 _ T80.heap _
                  rw [e80]
                  exact ⟨(2 : Int32), rfl, N80, rfl, (by (simp only [true_and, and_true, false_and, and_false, or_false, false_or, or_true, true_or, not_true_eq_false, not_false_eq_true, eq_self, Int32.lt_iff_toInt_lt, Int32.le_iff_toInt_le, ← Int32.toInt_inj, Int32.reduceToInt, Int64.lt_iff_toInt_lt, Int64.le_iff_toInt_le, ← Int64.toInt_inj, Int64.reduceToInt] at hc3 hc36 hc73 hc75 hc77 hc78 hc83 hl0 hu0 hl1 hu1 hl2 hu2 nw po72 po82 ⊢) <;> omega)⟩
              ·
                refine OwnGo.back (T80.setTop (mkF m 41 #[.val (.ref b), .val (.int (3 : Int32)), .val (.int (2 : Int32)), .val (.int x2)] [])) (fun tg kk => XS.ifYes X80.here hx rfl (pc0 := 35) (pc' := 41) rfl (hb hby own_d12_35) rfl ((if0 _ _).trans (feq hc83).2) (by decide) (by decide) kk) ?_
                refine OwnGo.back (T80.setTop (mkF m 44 #[.val (.ref b), .val (.int (3 : Int32)), .val (.int (3 : Int32)), .val (.int x2)] [])) (fun tg kk => XS.iinc X80.here hx rfl (hb hby own_d12_41) rfl (l' := #[.val (.ref b), .val (.int (3 : Int32)), .val (.int (3 : Int32)), .val (.int x2)]) rfl kk) ?_
                refine OwnGo.back (T80.setTop (mkF m 5 #[.val (.ref b), .val (.int (3 : Int32)), .val (.int (3 : Int32)), .val (.int x2)] [])) (fun tg kk => XS.goto X80.here hx rfl (pc0 := 44) (pc' := 5) rfl (hb hby own_d12_44) (by decide) (by decide) kk) ?_
                refine OwnGo.back (T80.setTop (mkF m 6 #[.val (.ref b), .val (.int (3 : Int32)), .val (.int (3 : Int32)), .val (.int x2)] [(.int (3 : Int32))])) (fun tg kk => XS.iloadN X80.here hx rfl (hb hby own_d12_5) rfl kk) ?_
                refine OwnGo.back (T80.setTop (mkF m 7 #[.val (.ref b), .val (.int (3 : Int32)), .val (.int (3 : Int32)), .val (.int x2)] [(.int (3 : Int32)), (.int (3 : Int32))])) (fun tg kk => XS.iloadN X80.here hx rfl (hb hby own_d12_6) rfl kk) ?_
                refine OwnGo.back (T80.setTop (mkF m 47 #[.val (.ref b), .val (.int (3 : Int32)), .val (.int (3 : Int32)), .val (.int x2)] [])) (fun tg kk => XS.icmpYes X80.here hx rfl (pc0 := 7) (pc' := 47) rfl (hb hby own_d12_7) rfl (flt (by decide : ¬ ((3 : Int32) < (3 : Int32)))).2.1 (by decide) (by decide) kk) ?_
                refine OwnGo.back (T80.setTop (mkF m 48 #[.val (.ref b), .val (.int (3 : Int32)), .val (.int (3 : Int32)), .val (.int x2)] [(.int (3 : Int32))])) (fun tg kk => XS.iloadN X80.here hx rfl (hb hby own_d12_47) rfl kk) ?_
                obtain ⟨fs, hr, hrun, hended, hW, hsame⟩ := X80.leave (v := some (.int (3 : Int32))) (fun h => by rw [Bd.returns] at h; cases h)
                refine ⟨_, _, ?_, hrun, hended, _, _, rfl, ?_, ⟨_, rfl⟩, hW, hsame.mono (by decide) (by decide)⟩
                · exact own_retI X80 hx Bd.returns (hb hby own_d12_48) hr
                · show own_lw3_Q Z b kb x0 x1 x2 aA oi h0 n0 _ T80.heap _
                  rw [e80]
                  exact ⟨(3 : Int32), rfl, N80, rfl, (by (simp only [true_and, and_true, false_and, and_false, or_false, false_or, or_true, true_or, not_true_eq_false, not_false_eq_true, eq_self, Int32.lt_iff_toInt_lt, Int32.le_iff_toInt_le, ← Int32.toInt_inj, Int32.reduceToInt, Int64.lt_iff_toInt_lt, Int64.le_iff_toInt_le, ← Int64.toInt_inj, Int64.reduceToInt] at hc3 hc36 hc73 hc75 hc77 hc78 hc83 hl0 hu0 hl1 hu1 hl2 hu2 nw po72 po82 ⊢) <;> omega)⟩
        ·
          refine OwnGo.back (T74.setTop (mkF m 22 #[.val (.ref b), .val (.int (3 : Int32)), .val (.int (1 : Int32)), .val (.int x1)] [])) (fun tg kk => XS.icmpNo X74.here hx rfl (hb hby own_d12_19) rfl (feq hc75).1 kk) ?_
          refine OwnGo.back (T74.setTop (mkF m 23 #[.val (.ref b), .val (.int (3 : Int32)), .val (.int (1 : Int32)), .val (.int x1)] [(.int x1)])) (fun tg kk => XS.iloadN X74.here hx rfl (hb hby own_d12_22) rfl kk) ?_
          refine OwnGo.back (T74.setTop (mkF m 25 #[.val (.ref b), .val (.int (3 : Int32)), .val (.int (1 : Int32)), .val (.int x1)] [(.int (9 : Int32)), (.int x1)])) (fun tg kk => XS.bipush X74.here hx rfl (hb hby own_d12_23) kk) ?_
          by_cases hc84 : x1 = (9 : Int32)
          ·
            refine OwnGo.back (T74.setTop (mkF m 41 #[.val (.ref b), .val (.int (3 : Int32)), .val (.int (1 : Int32)), .val (.int x1)] [])) (fun tg kk => XS.icmpYes X74.here hx rfl (pc0 := 25) (pc' := 41) rfl (hb hby own_d12_25) rfl (teq hc84).1 (by decide) (by decide) kk) ?_
            refine OwnGo.back (T74.setTop (mkF m 44 #[.val (.ref b), .val (.int (3 : Int32)), .val (.int (2 : Int32)), .val (.int x1)] [])) (fun tg kk => XS.iinc X74.here hx rfl (hb hby own_d12_41) rfl (l' := #[.val (.ref b), .val (.int (3 : Int32)), .val (.int (2 : Int32)), .val (.int x1)]) rfl kk) ?_
            refine OwnGo.back (T74.setTop (mkF m 5 #[.val (.ref b), .val (.int (3 : Int32)), .val (.int (2 : Int32)), .val (.int x1)] [])) (fun tg kk => XS.goto X74.here hx rfl (pc0 := 44) (pc' := 5) rfl (hb hby own_d12_44) (by decide) (by decide) kk) ?_
            refine OwnGo.back (T74.setTop (mkF m 6 #[.val (.ref b), .val (.int (3 : Int32)), .val (.int (2 : Int32)), .val (.int x1)] [(.int (2 : Int32))])) (fun tg kk => XS.iloadN X74.here hx rfl (hb hby own_d12_5) rfl kk) ?_
            refine OwnGo.back (T74.setTop (mkF m 7 #[.val (.ref b), .val (.int (3 : Int32)), .val (.int (2 : Int32)), .val (.int x1)] [(.int (3 : Int32)), (.int (2 : Int32))])) (fun tg kk => XS.iloadN X74.here hx rfl (hb hby own_d12_6) rfl kk) ?_
            refine OwnGo.back (T74.setTop (mkF m 10 #[.val (.ref b), .val (.int (3 : Int32)), .val (.int (2 : Int32)), .val (.int x1)] [])) (fun tg kk => XS.icmpNo X74.here hx rfl (hb hby own_d12_7) rfl (tlt (by decide : (2 : Int32) < (3 : Int32))).2.1 kk) ?_
            refine OwnGo.back (T74.setTop (mkF m 11 #[.val (.ref b), .val (.int (3 : Int32)), .val (.int (2 : Int32)), .val (.int x1)] [(.ref b)])) (fun tg kk => XS.aloadN X74.here hx rfl (hb hby own_d12_10) rfl rfl kk) ?_
            refine OwnGo.back (T74.setTop (mkF m 12 #[.val (.ref b), .val (.int (3 : Int32)), .val (.int (2 : Int32)), .val (.int x1)] [(.int (2 : Int32)), (.ref b)])) (fun tg kk => XS.iloadN X74.here hx rfl (hb hby own_d12_11) rfl kk) ?_
            obtain ⟨_, _, ⟨T85, L85, k85, n85⟩, -, X85, ⟨Lc85, hQ85, l85, y85, z85⟩, st85⟩ := Jvm.LawKit.callS X74 hx (y := (⟨"java/lang/StringLatin1", "getChar", "([BI)C"⟩ : MethodName)) hown (mvT hZ (hw _ (List.mem_of_getElem? (i := 60) rfl))) (mvT hZ (hw _ (List.mem_of_getElem? (i := 61) rfl))) (mvT hZ (hw _ (List.mem_of_getElem? (i := 58) rfl))) (mvT hZ (hw _ (List.mem_of_getElem? (i := 62) rfl))) (by decide) (backOf (W := 0) (own_gc32 l Z a0 hw [] b kb x0 x1 x2 h0 n0 Z0 B hl0 hu0 hl1 hu1 hl2 hu2) hZ (hw _ (List.mem_of_getElem? (i := 62) rfl)) (hw _ (List.mem_of_getElem? (i := 58) rfl)) (by decide) (by decide)) (g := (mkF m 12 #[.val (.ref b), .val (.int (3 : Int32)), .val (.int (2 : Int32)), .val (.int x1)] [(.int (2 : Int32)), (.ref b)])) rfl (by rw [hml]; rfl) (argsL := [(.ref b), (.int (2 : Int32))]) (rest := []) (lenOf own_pd5 rfl) rfl (by show 2 * 0 + _ ≤ _; exact Nat.le_of_eq rfl) (hb hby own_d12_12) (fun _ _ => ⟨rfl, e74, (by decide : 0 + 0 ≤ _), (by decide : 0 + 0 ≤ _)⟩)
            dsimp only [Pt.U, Pt.locs, Pt.cells, Pt.slots] at X85 l85 y85 z85 st85 hQ85
            subst l85 y85 z85
            obtain ⟨rfl, N85q, e85⟩ := hQ85
            have N85 := Fr.app N74 N85q
            refine OwnGo.back (T85.setTop (mkF m 15 #[.val (.ref b), .val (.int (3 : Int32)), .val (.int (2 : Int32)), .val (.int x1)] [(.int x2)])) (fun tg kk => st85 _ kk) ?_
            refine OwnGo.back (T85.setTop (mkF m 16 #[.val (.ref b), .val (.int (3 : Int32)), .val (.int (2 : Int32)), .val (.int x2)] [])) (fun tg kk => XS.istoreN X85.here hx rfl (hb hby own_d12_15) rfl (l' := #[.val (.ref b), .val (.int (3 : Int32)), .val (.int (2 : Int32)), .val (.int x2)]) rfl kk) ?_
            refine OwnGo.back (T85.setTop (mkF m 17 #[.val (.ref b), .val (.int (3 : Int32)), .val (.int (2 : Int32)), .val (.int x2)] [(.int x2)])) (fun tg kk => XS.iloadN X85.here hx rfl (hb hby own_d12_16) rfl kk) ?_
            refine OwnGo.back (T85.setTop (mkF m 19 #[.val (.ref b), .val (.int (3 : Int32)), .val (.int (2 : Int32)), .val (.int x2)] [(.int (32 : Int32)), (.int x2)])) (fun tg kk => XS.bipush X85.here hx rfl (hb hby own_d12_17) kk) ?_
            by_cases hc86 : x2 = (32 : Int32)
            ·
              refine OwnGo.back (T85.setTop (mkF m 41 #[.val (.ref b), .val (.int (3 : Int32)), .val (.int (2 : Int32)), .val (.int x2)] [])) (fun tg kk => XS.icmpYes X85.here hx rfl (pc0 := 19) (pc' := 41) rfl (hb hby own_d12_19) rfl (teq hc86).1 (by decide) (by decide) kk) ?_
              refine OwnGo.back (T85.setTop (mkF m 44 #[.val (.ref b), .val (.int (3 : Int32)), .val (.int (3 : Int32)), .val (.int x2)] [])) (fun tg kk => XS.iinc X85.here hx rfl (hb hby own_d12_41) rfl (l' := #[.val (.ref b), .val (.int (3 : Int32)), .val (.int (3 : Int32)), .val (.int x2)]) rfl kk) ?_
              refine OwnGo.back (T85.setTop (mkF m 5 #[.val (.ref b), .val (.int (3 : Int32)), .val (.int (3 : Int32)), .val (.int x2)] [])) (fun tg kk => XS.goto X85.here hx rfl (pc0 := 44) (pc' := 5) rfl (hb hby own_d12_44) (by decide) (by decide) kk) ?_
              refine OwnGo.back (T85.setTop (mkF m 6 #[.val (.ref b), .val (.int (3 : Int32)), .val (.int (3 : Int32)), .val (.int x2)] [(.int (3 : Int32))])) (fun tg kk => XS.iloadN X85.here hx rfl (hb hby own_d12_5) rfl kk) ?_
              refine OwnGo.back (T85.setTop (mkF m 7 #[.val (.ref b), .val (.int (3 : Int32)), .val (.int (3 : Int32)), .val (.int x2)] [(.int (3 : Int32)), (.int (3 : Int32))])) (fun tg kk => XS.iloadN X85.here hx rfl (hb hby own_d12_6) rfl kk) ?_
              refine OwnGo.back (T85.setTop (mkF m 47 #[.val (.ref b), .val (.int (3 : Int32)), .val (.int (3 : Int32)), .val (.int x2)] [])) (fun tg kk => XS.icmpYes X85.here hx rfl (pc0 := 7) (pc' := 47) rfl (hb hby own_d12_7) rfl (flt (by decide : ¬ ((3 : Int32) < (3 : Int32)))).2.1 (by decide) (by decide) kk) ?_
              refine OwnGo.back (T85.setTop (mkF m 48 #[.val (.ref b), .val (.int (3 : Int32)), .val (.int (3 : Int32)), .val (.int x2)] [(.int (3 : Int32))])) (fun tg kk => XS.iloadN X85.here hx rfl (hb hby own_d12_47) rfl kk) ?_
              obtain ⟨fs, hr, hrun, hended, hW, hsame⟩ := X85.leave (v := some (.int (3 : Int32))) (fun h => by rw [Bd.returns] at h; cases h)
              refine ⟨_, _, ?_, hrun, hended, _, _, rfl, ?_, ⟨_, rfl⟩, hW, hsame.mono (by decide) (by decide)⟩
              · exact own_retI X85 hx Bd.returns (hb hby own_d12_48) hr
              · show own_lw3_Q Z b kb x0 x1 x2 aA oi h0 n0 _ T85.heap _
                rw [e85]
                exact ⟨(3 : Int32), rfl, N85, rfl, (by (simp only [true_and, and_true, false_and, and_false, or_false, false_or, or_true, true_or, not_true_eq_false, not_false_eq_true, eq_self, Int32.lt_iff_toInt_lt, Int32.le_iff_toInt_le, ← Int32.toInt_inj, Int32.reduceToInt, Int64.lt_iff_toInt_lt, Int64.le_iff_toInt_le, ← Int64.toInt_inj, Int64.reduceToInt] at hc3 hc36 hc73 hc75 hc84 hc86 hl0 hu0 hl1 hu1 hl2 hu2 nw po72 ⊢) <;> omega)⟩
            ·
              refine OwnGo.back (T85.setTop (mkF m 22 #[.val (.ref b), .val (.int (3 : Int32)), .val (.int (2 : Int32)), .val (.int x2)] [])) (fun tg kk => XS.icmpNo X85.here hx rfl (hb hby own_d12_19) rfl (feq hc86).1 kk) ?_
              refine OwnGo.back (T85.setTop (mkF m 23 #[.val (.ref b), .val (.int (3 : Int32)), .val (.int (2 : Int32)), .val (.int x2)] [(.int x2)])) (fun tg kk => XS.iloadN X85.here hx rfl (hb hby own_d12_22) rfl kk) ?_
              refine OwnGo.back (T85.setTop (mkF m 25 #[.val (.ref b), .val (.int (3 : Int32)), .val (.int (2 : Int32)), .val (.int x2)] [(.int (9 : Int32)), (.int x2)])) (fun tg kk => XS.bipush X85.here hx rfl (hb hby own_d12_23) kk) ?_
              by_cases hc87 : x2 = (9 : Int32)
              ·
                refine OwnGo.back (T85.setTop (mkF m 41 #[.val (.ref b), .val (.int (3 : Int32)), .val (.int (2 : Int32)), .val (.int x2)] [])) (fun tg kk => XS.icmpYes X85.here hx rfl (pc0 := 25) (pc' := 41) rfl (hb hby own_d12_25) rfl (teq hc87).1 (by decide) (by decide) kk) ?_
                refine OwnGo.back (T85.setTop (mkF m 44 #[.val (.ref b), .val (.int (3 : Int32)), .val (.int (3 : Int32)), .val (.int x2)] [])) (fun tg kk => XS.iinc X85.here hx rfl (hb hby own_d12_41) rfl (l' := #[.val (.ref b), .val (.int (3 : Int32)), .val (.int (3 : Int32)), .val (.int x2)]) rfl kk) ?_
                refine OwnGo.back (T85.setTop (mkF m 5 #[.val (.ref b), .val (.int (3 : Int32)), .val (.int (3 : Int32)), .val (.int x2)] [])) (fun tg kk => XS.goto X85.here hx rfl (pc0 := 44) (pc' := 5) rfl (hb hby own_d12_44) (by decide) (by decide) kk) ?_
                refine OwnGo.back (T85.setTop (mkF m 6 #[.val (.ref b), .val (.int (3 : Int32)), .val (.int (3 : Int32)), .val (.int x2)] [(.int (3 : Int32))])) (fun tg kk => XS.iloadN X85.here hx rfl (hb hby own_d12_5) rfl kk) ?_
                refine OwnGo.back (T85.setTop (mkF m 7 #[.val (.ref b), .val (.int (3 : Int32)), .val (.int (3 : Int32)), .val (.int x2)] [(.int (3 : Int32)), (.int (3 : Int32))])) (fun tg kk => XS.iloadN X85.here hx rfl (hb hby own_d12_6) rfl kk) ?_
                refine OwnGo.back (T85.setTop (mkF m 47 #[.val (.ref b), .val (.int (3 : Int32)), .val (.int (3 : Int32)), .val (.int x2)] [])) (fun tg kk => XS.icmpYes X85.here hx rfl (pc0 := 7) (pc' := 47) rfl (hb hby own_d12_7) rfl (flt (by decide : ¬ ((3 : Int32) < (3 : Int32)))).2.1 (by decide) (by decide) kk) ?_
                refine OwnGo.back (T85.setTop (mkF m 48 #[.val (.ref b), .val (.int (3 : Int32)), .val (.int (3 : Int32)), .val (.int x2)] [(.int (3 : Int32))])) (fun tg kk => XS.iloadN X85.here hx rfl (hb hby own_d12_47) rfl kk) ?_
                obtain ⟨fs, hr, hrun, hended, hW, hsame⟩ := X85.leave (v := some (.int (3 : Int32))) (fun h => by rw [Bd.returns] at h; cases h)
                refine ⟨_, _, ?_, hrun, hended, _, _, rfl, ?_, ⟨_, rfl⟩, hW, hsame.mono (by decide) (by decide)⟩
                · exact own_retI X85 hx Bd.returns (hb hby own_d12_48) hr
                · show own_lw3_Q Z b kb x0 x1 x2 aA oi h0 n0 _ T85.heap _
                  rw [e85]
                  exact ⟨(3 : Int32), rfl, N85, rfl, (by (simp only [true_and, and_true, false_and, and_false, or_false, false_or, or_true, true_or, not_true_eq_false, not_false_eq_true, eq_self, Int32.lt_iff_toInt_lt, Int32.le_iff_toInt_le, ← Int32.toInt_inj, Int32.reduceToInt, Int64.lt_iff_toInt_lt, Int64.le_iff_toInt_le, ← Int64.toInt_inj, Int64.reduceToInt] at hc3 hc36 hc73 hc75 hc84 hc86 hc87 hl0 hu0 hl1 hu1 hl2 hu2 nw po72 ⊢) <;> omega)⟩
              ·
                refine OwnGo.back (T85.setTop (mkF m 28 #[.val (.ref b), .val (.int (3 : Int32)), .val (.int (2 : Int32)), .val (.int x2)] [])) (fun tg kk => XS.icmpNo X85.here hx rfl (hb hby own_d12_25) rfl (feq hc87).1 kk) ?_
                obtain ⟨T88, X88, e88, st88⟩ := getS2 X85 hx hZ hown (host := "") (Or.inl (hw _ (List.mem_of_getElem? (i := 63) rfl))) Via.refl e85 (SN.ext old.2) (g := (mkF m 28 #[.val (.ref b), .val (.int (3 : Int32)), .val (.int (2 : Int32)), .val (.int x2)] [])) rfl (hb hby own_d12_28)
                refine OwnGo.back (T88.setTop (mkF m 31 #[.val (.ref b), .val (.int (3 : Int32)), .val (.int (2 : Int32)), .val (.int x2)] [(.ref oi)])) (fun tg kk => st88 _ kk) ?_
                refine OwnGo.back (T88.setTop (mkF m 32 #[.val (.ref b), .val (.int (3 : Int32)), .val (.int (2 : Int32)), .val (.int x2)] [(.int x2), (.ref oi)])) (fun tg kk => XS.iloadN X88.here hx rfl (hb hby own_d12_31) rfl kk) ?_
                obtain ⟨cq89, kq89, q89a, q89b, q89c⟩ := isOf hZ e88 Xi
                obtain ⟨_, _, ⟨T89, L89, k89, n89⟩, -, X89, ⟨Lc89, hQ89, l89, y89, z89⟩, st89⟩ := X88.virtualBack hx (y := (⟨"java/lang/CharacterDataLatin1", "isWhitespace", "(I)Z"⟩ : MethodName)) (z := (⟨"java/lang/CharacterDataLatin1", "isWhitespace", "(I)Z"⟩ : MethodName)) hown (mvT hZ (hw _ (List.mem_of_getElem? (i := 65) rfl))) (mvT hZ (hw _ (List.mem_of_getElem? (i := 66) rfl))) (notFace_of_selects (args := #[]) (mvT hZ (hw _ (List.mem_of_getElem? (i := 68) rfl)))) (mvT hZ (hw _ (List.mem_of_getElem? (i := 68) rfl))) (mvT hZ (hw _ (List.mem_of_getElem? (i := 67) rfl))) (by decide) (backOf (W := 0) (own_isw l Z a0 hw [] oi x2 aA h0 n0 Z0 Xi SA old hA hl2 hu2) hZ (hw _ (List.mem_of_getElem? (i := 69) rfl)) (hw _ (List.mem_of_getElem? (i := 64) rfl)) (by decide) (by decide)) q89a q89c (g := (mkF m 32 #[.val (.ref b), .val (.int (3 : Int32)), .val (.int (2 : Int32)), .val (.int x2)] [(.int x2), (.ref oi)])) rfl (by rw [hml]; rfl) (Steps.refl _) (argsL := [(.int x2)]) (rest := []) (lenOf own_pd6 rfl) rfl (by show 2 * 0 + _ ≤ _; exact Nat.le_of_eq rfl) (hb hby own_d12_32) (fun _ _ => ⟨rfl, e88, (by decide : 0 + 0 ≤ _), (by decide : 0 + 0 ≤ _)⟩)
                dsimp only [Pt.U, Pt.locs, Pt.cells, Pt.slots] at X89 l89 y89 z89 st89 hQ89
                subst l89 y89 z89
                obtain ⟨r_90, rfl, N89q, e89, po91⟩ := hQ89
                have N89 := Fr.app N85 N89q
                refine OwnGo.back (T89.setTop (mkF m 35 #[.val (.ref b), .val (.int (3 : Int32)), .val (.int (2 : Int32)), .val (.int x2)] [(.int r_90)])) (fun tg kk => st89.trans kk) ?_
                by_cases hc92 : r_90 = (0 : Int32)
                ·
                  refine OwnGo.back (T89.setTop (mkF m 38 #[.val (.ref b), .val (.int (3 : Int32)), .val (.int (2 : Int32)), .val (.int x2)] [])) (fun tg kk => XS.ifNo X89.here hx rfl (hb hby own_d12_35) rfl ((if0 _ _).trans (teq hc92).2) kk) ?_
                  refine OwnGo.back (T89.setTop (mkF m 47 #[.val (.ref b), .val (.int (3 : Int32)), .val (.int (2 : Int32)), .val (.int x2)] [])) (fun tg kk => XS.goto X89.here hx rfl (pc0 := 38) (pc' := 47) rfl (hb hby own_d12_38) (by decide) (by decide) kk) ?_
                  refine OwnGo.back (T89.setTop (mkF m 48 #[.val (.ref b), .val (.int (3 : Int32)), .val (.int (2 : Int32)), .val (.int x2)] [(.int (2 : Int32))])) (fun tg kk => XS.iloadN X89.here hx rfl (hb hby own_d12_47) rfl kk) ?_
                  obtain ⟨fs, hr, hrun, hended, hW, hsame⟩ := X89.leave (v := some (.int (2 : Int32))) (fun h => by rw [Bd.returns] at h; cases h)
                  refine ⟨_, _, ?_, hrun, hended, _, _, rfl, ?_, ⟨_, rfl⟩, hW, hsame.mono (by decide) (by decide)⟩
                  · exact own_retI X89 hx Bd.returns (hb hby own_d12_48) hr
                  · show own_lw3_Q Z b kb x0 x1 x2 aA oi h0 n0 _ T89.heap _
                    rw [e89]
                    exact ⟨(2 : Int32), rfl, N89, rfl, (by (simp only [true_and, and_true, false_and, and_false, or_false, false_or, or_true, true_or, not_true_eq_false, not_false_eq_true, eq_self, Int32.lt_iff_toInt_lt, Int32.le_iff_toInt_le, ← Int32.toInt_inj, Int32.reduceToInt, Int64.lt_iff_toInt_lt, Int64.le_iff_toInt_le, ← Int64.toInt_inj, Int64.reduceToInt] at hc3 hc36 hc73 hc75 hc84 hc86 hc87 hc92 hl0 hu0 hl1 hu1 hl2 hu2 nw po72 po91 ⊢) <;> omega)⟩
                ·
                  refine OwnGo.back (T89.setTop (mkF m 41 #[.val (.ref b), .val (.int (3 : Int32)), .val (.int (2 : Int32)), .val (.int x2)] [])) (fun tg kk => XS.ifYes X89.here hx rfl (pc0 := 35) (pc' := 41) rfl (hb hby own_d12_35) rfl ((if0 _ _).trans (feq hc92).2) (by decide) (by decide) kk) ?_
                  refine OwnGo.back (T89.setTop (mkF m 44 #[.val (.ref b), .val (.int (3 : Int32)), .val (.int (3 : Int32)), .val (.int x2)] [])) (fun tg kk => XS.iinc X89.here hx rfl (hb hby own_d12_41) rfl (l' := #[.val (.ref b), .val (.int (3 : Int32)), .val (.int (3 : Int32)), .val (.int x2)]) rfl kk) ?_
                  refine OwnGo.back (T89.setTop (mkF m 5 #[.val (.ref b), .val (.int (3 : Int32)), .val (.int (3 : Int32)), .val (.int x2)] [])) (fun tg kk => XS.goto X89.here hx rfl (pc0 := 44) (pc' := 5) rfl (hb hby own_d12_44) (by decide) (by decide) kk) ?_
                  refine OwnGo.back (T89.setTop (mkF m 6 #[.val (.ref b), .val (.int (3 : Int32)), .val (.int (3 : Int32)), .val (.int x2)] [(.int (3 : Int32))])) (fun tg kk => XS.iloadN X89.here hx rfl (hb hby own_d12_5) rfl kk) ?_
                  refine OwnGo.back (T89.setTop (mkF m 7 #[.val (.ref b), .val (.int (3 : Int32)), .val (.int (3 : Int32)), .val (.int x2)] [(.int (3 : Int32)), (.int (3 : Int32))])) (fun tg kk => XS.iloadN X89.here hx rfl (hb hby own_d12_6) rfl kk) ?_
                  refine OwnGo.back (T89.setTop (mkF m 47 #[.val (.ref b), .val (.int (3 : Int32)), .val (.int (3 : Int32)), .val (.int x2)] [])) (fun tg kk => XS.icmpYes X89.here hx rfl (pc0 := 7) (pc' := 47) rfl (hb hby own_d12_7) rfl (flt (by decide : ¬ ((3 : Int32) < (3 : Int32)))).2.1 (by decide) (by decide) kk) ?_
                  refine OwnGo.back (T89.setTop (mkF m 48 #[.val (.ref b), .val (.int (3 : Int32)), .val (.int (3 : Int32)), .val (.int x2)] [(.int (3 : Int32))])) (fun tg kk => XS.iloadN X89.here hx rfl (hb hby own_d12_47) rfl kk) ?_
                  obtain ⟨fs, hr, hrun, hended, hW, hsame⟩ := X89.leave (v := some (.int (3 : Int32))) (fun h => by rw [Bd.returns] at h; cases h)
                  refine ⟨_, _, ?_, hrun, hended, _, _, rfl, ?_, ⟨_, rfl⟩, hW, hsame.mono (by decide) (by decide)⟩
                  · exact own_retI X89 hx Bd.returns (hb hby own_d12_48) hr
                  · show own_lw3_Q Z b kb x0 x1 x2 aA oi h0 n0 _ T89.heap _
                    rw [e89]
                    exact ⟨(3 : Int32), rfl, N89, rfl, (by (simp only [true_and, and_true, false_and, and_false, or_false, false_or, or_true, true_or, not_true_eq_false, not_false_eq_true, eq_self, Int32.lt_iff_toInt_lt, Int32.le_iff_toInt_le, ← Int32.toInt_inj, Int32.reduceToInt, Int64.lt_iff_toInt_lt, Int64.le_iff_toInt_le, ← Int64.toInt_inj, Int64.reduceToInt] at hc3 hc36 hc73 hc75 hc84 hc86 hc87 hc92 hl0 hu0 hl1 hu1 hl2 hu2 nw po72 po91 ⊢) <;> omega)⟩
          ·
            refine OwnGo.back (T74.setTop (mkF m 28 #[.val (.ref b), .val (.int (3 : Int32)), .val (.int (1 : Int32)), .val (.int x1)] [])) (fun tg kk => XS.icmpNo X74.here hx rfl (hb hby own_d12_25) rfl (feq hc84).1 kk) ?_
            obtain ⟨T93, X93, e93, st93⟩ := getS2 X74 hx hZ hown (host := "") (Or.inl (hw _ (List.mem_of_getElem? (i := 63) rfl))) Via.refl e74 (SN.ext old.2) (g := (mkF m 28 #[.val (.ref b), .val (.int (3 : Int32)), .val (.int (1 : Int32)), .val (.int x1)] [])) rfl (hb hby own_d12_28)
            refine OwnGo.back (T93.setTop (mkF m 31 #[.val (.ref b), .val (.int (3 : Int32)), .val (.int (1 : Int32)), .val (.int x1)] [(.ref oi)])) (fun tg kk => st93 _ kk) ?_
            refine OwnGo.back (T93.setTop (mkF m 32 #[.val (.ref b), .val (.int (3 : Int32)), .val (.int (1 : Int32)), .val (.int x1)] [(.int x1), (.ref oi)])) (fun tg kk => XS.iloadN X93.here hx rfl (hb hby own_d12_31) rfl kk) ?_
            obtain ⟨cq94, kq94, q94a, q94b, q94c⟩ := isOf hZ e93 Xi
            obtain ⟨_, _, ⟨T94, L94, k94, n94⟩, -, X94, ⟨Lc94, hQ94, l94, y94, z94⟩, st94⟩ := X93.virtualBack hx (y := (⟨"java/lang/CharacterDataLatin1", "isWhitespace", "(I)Z"⟩ : MethodName)) (z := (⟨"java/lang/CharacterDataLatin1", "isWhitespace", "(I)Z"⟩ : MethodName)) hown (mvT hZ (hw _ (List.mem_of_getElem? (i := 65) rfl))) (mvT hZ (hw _ (List.mem_of_getElem? (i := 66) rfl))) (notFace_of_selects (args := #[]) (mvT hZ (hw _ (List.mem_of_getElem? (i := 68) rfl)))) (mvT hZ (hw _ (List.mem_of_getElem? (i := 68) rfl))) (mvT hZ (hw _ (List.mem_of_getElem? (i := 67) rfl))) (by decide) (backOf (W := 0) (own_isw l Z a0 hw [] oi x1 aA h0 n0 Z0 Xi SA old hA hl1 hu1) hZ (hw _ (List.mem_of_getElem? (i := 69) rfl)) (hw _ (List.mem_of_getElem? (i := 64) rfl)) (by decide) (by decide)) q94a q94c (g := (mkF m 32 #[.val (.ref b), .val (.int (3 : Int32)), .val (.int (1 : Int32)), .val (.int x1)] [(.int x1), (.ref oi)])) rfl (by rw [hml]; rfl) (Steps.refl _) (argsL := [(.int x1)]) (rest := []) (lenOf own_pd6 rfl) rfl (by show 2 * 0 + _ ≤ _; exact Nat.le_of_eq rfl) (hb hby own_d12_32) (fun _ _ => ⟨rfl, e93, (by decide : 0 + 0 ≤ _), (by decide : 0 + 0 ≤ _)⟩)
            dsimp only [Pt.U, Pt.locs, Pt.cells, Pt.slots] at X94 l94 y94 z94 st94 hQ94
            subst l94 y94 z94
            obtain ⟨r_95, rfl, N94q, e94, po96⟩ := hQ94
            have N94 := Fr.app N74 N94q
            refine OwnGo.back (T94.setTop (mkF m 35 #[.val (.ref b), .val (.int (3 : Int32)), .val (.int (1 : Int32)), .val (.int x1)] [(.int r_95)])) (fun tg kk => st94.trans kk) ?_
            by_cases hc97 : r_95 = (0 : Int32)
            ·
              refine OwnGo.back (T94.setTop (mkF m 38 #[.val (.ref b), .val (.int (3 : Int32)), .val (.int (1 : Int32)), .val (.int x1)] [])) (fun tg kk => XS.ifNo X94.here hx rfl (hb hby own_d12_35) rfl ((if0 _ _).trans (teq hc97).2) kk) ?_
              refine OwnGo.back (T94.setTop (mkF m 47 #[.val (.ref b), .val (.int (3 : Int32)), .val (.int (1 : Int32)), .val (.int x1)] [])) (fun tg kk => XS.goto X94.here hx rfl (pc0 := 38) (pc' := 47) rfl (hb hby own_d12_38) (by decide) (by decide) kk) ?_
              refine OwnGo.back (T94.setTop (mkF m 48 #[.val (.ref b), .val (.int (3 : Int32)), .val (.int (1 : Int32)), .val (.int x1)] [(.int (1 : Int32))])) (fun tg kk => XS.iloadN X94.here hx rfl (hb hby own_d12_47) rfl kk) ?_
              obtain ⟨fs, hr, hrun, hended, hW, hsame⟩ := X94.leave (v := some (.int (1 : Int32))) (fun h => by rw [Bd.returns] at h; cases h)
              refine ⟨_, _, ?_, hrun, hended, _, _, rfl, ?_, ⟨_, rfl⟩, hW, hsame.mono (by decide) (by decide)⟩
              · exact own_retI X94 hx Bd.returns (hb hby own_d12_48) hr
              · show own_lw3_Q Z b kb x0 x1 x2 aA oi h0 n0 _ T94.heap _
                rw [e94]
                exact ⟨(1 : Int32), rfl, N94, rfl, (by (simp only [true_and, and_true, false_and, and_false, or_false, false_or, or_true, true_or, not_true_eq_false, not_false_eq_true, eq_self, Int32.lt_iff_toInt_lt, Int32.le_iff_toInt_le, ← Int32.toInt_inj, Int32.reduceToInt, Int64.lt_iff_toInt_lt, Int64.le_iff_toInt_le, ← Int64.toInt_inj, Int64.reduceToInt] at hc3 hc36 hc73 hc75 hc84 hc97 hl0 hu0 hl1 hu1 hl2 hu2 nw po72 po96 ⊢) <;> omega)⟩
            ·
              refine OwnGo.back (T94.setTop (mkF m 41 #[.val (.ref b), .val (.int (3 : Int32)), .val (.int (1 : Int32)), .val (.int x1)] [])) (fun tg kk => XS.ifYes X94.here hx rfl (pc0 := 35) (pc' := 41) rfl (hb hby own_d12_35) rfl ((if0 _ _).trans (feq hc97).2) (by decide) (by decide) kk) ?_
              refine OwnGo.back (T94.setTop (mkF m 44 #[.val (.ref b), .val (.int (3 : Int32)), .val (.int (2 : Int32)), .val (.int x1)] [])) (fun tg kk => XS.iinc X94.here hx rfl (hb hby own_d12_41) rfl (l' := #[.val (.ref b), .val (.int (3 : Int32)), .val (.int (2 : Int32)), .val (.int x1)]) rfl kk) ?_
              refine OwnGo.back (T94.setTop (mkF m 5 #[.val (.ref b), .val (.int (3 : Int32)), .val (.int (2 : Int32)), .val (.int x1)] [])) (fun tg kk => XS.goto X94.here hx rfl (pc0 := 44) (pc' := 5) rfl (hb hby own_d12_44) (by decide) (by decide) kk) ?_
              refine OwnGo.back (T94.setTop (mkF m 6 #[.val (.ref b), .val (.int (3 : Int32)), .val (.int (2 : Int32)), .val (.int x1)] [(.int (2 : Int32))])) (fun tg kk => XS.iloadN X94.here hx rfl (hb hby own_d12_5) rfl kk) ?_
              refine OwnGo.back (T94.setTop (mkF m 7 #[.val (.ref b), .val (.int (3 : Int32)), .val (.int (2 : Int32)), .val (.int x1)] [(.int (3 : Int32)), (.int (2 : Int32))])) (fun tg kk => XS.iloadN X94.here hx rfl (hb hby own_d12_6) rfl kk) ?_
              refine OwnGo.back (T94.setTop (mkF m 10 #[.val (.ref b), .val (.int (3 : Int32)), .val (.int (2 : Int32)), .val (.int x1)] [])) (fun tg kk => XS.icmpNo X94.here hx rfl (hb hby own_d12_7) rfl (tlt (by decide : (2 : Int32) < (3 : Int32))).2.1 kk) ?_
              refine OwnGo.back (T94.setTop (mkF m 11 #[.val (.ref b), .val (.int (3 : Int32)), .val (.int (2 : Int32)), .val (.int x1)] [(.ref b)])) (fun tg kk => XS.aloadN X94.here hx rfl (hb hby own_d12_10) rfl rfl kk) ?_
              refine OwnGo.back (T94.setTop (mkF m 12 #[.val (.ref b), .val (.int (3 : Int32)), .val (.int (2 : Int32)), .val (.int x1)] [(.int (2 : Int32)), (.ref b)])) (fun tg kk => XS.iloadN X94.here hx rfl (hb hby own_d12_11) rfl kk) ?_
              obtain ⟨_, _, ⟨T98, L98, k98, n98⟩, -, X98, ⟨Lc98, hQ98, l98, y98, z98⟩, st98⟩ := Jvm.LawKit.callS X94 hx (y := (⟨"java/lang/StringLatin1", "getChar", "([BI)C"⟩ : MethodName)) hown (mvT hZ (hw _ (List.mem_of_getElem? (i := 60) rfl))) (mvT hZ (hw _ (List.mem_of_getElem? (i := 61) rfl))) (mvT hZ (hw _ (List.mem_of_getElem? (i := 58) rfl))) (mvT hZ (hw _ (List.mem_of_getElem? (i := 62) rfl))) (by decide) (backOf (W := 0) (own_gc32 l Z a0 hw [] b kb x0 x1 x2 h0 n0 Z0 B hl0 hu0 hl1 hu1 hl2 hu2) hZ (hw _ (List.mem_of_getElem? (i := 62) rfl)) (hw _ (List.mem_of_getElem? (i := 58) rfl)) (by decide) (by decide)) (g := (mkF m 12 #[.val (.ref b), .val (.int (3 : Int32)), .val (.int (2 : Int32)), .val (.int x1)] [(.int (2 : Int32)), (.ref b)])) rfl (by rw [hml]; rfl) (argsL := [(.ref b), (.int (2 : Int32))]) (rest := []) (lenOf own_pd5 rfl) rfl (by show 2 * 0 + _ ≤ _; exact Nat.le_of_eq rfl) (hb hby own_d12_12) (fun _ _ => ⟨rfl, e94, (by decide : 0 + 0 ≤ _), (by decide : 0 + 0 ≤ _)⟩)
              dsimp only [Pt.U, Pt.locs, Pt.cells, Pt.slots] at X98 l98 y98 z98 st98 hQ98
              subst l98 y98 z98
              obtain ⟨rfl, N98q, e98⟩ := hQ98
              have N98 := Fr.app N94 N98q
              refine OwnGo.back (T98.setTop (mkF m 15 #[.val (.ref b), .val (.int (3 : Int32)), .val (.int (2 : Int32)), .val (.int x1)] [(.int x2)])) (fun tg kk => st98 _ kk) ?_
              refine OwnGo.back (T98.setTop (mkF m 16 #[.val (.ref b), .val (.int (3 : Int32)), .val (.int (2 : Int32)), .val (.int x2)] [])) (fun tg kk => XS.istoreN X98.here hx rfl (hb hby own_d12_15) rfl (l' := #[.val (.ref b), .val (.int (3 : Int32)), .val (.int (2 : Int32)), .val (.int x2)]) rfl kk) ?_
              refine OwnGo.back (T98.setTop (mkF m 17 #[.val (.ref b), .val (.int (3 : Int32)), .val (.int (2 : Int32)), .val (.int x2)] [(.int x2)])) (fun tg kk => XS.iloadN X98.here hx rfl (hb hby own_d12_16) rfl kk) ?_
              refine OwnGo.back (T98.setTop (mkF m 19 #[.val (.ref b), .val (.int (3 : Int32)), .val (.int (2 : Int32)), .val (.int x2)] [(.int (32 : Int32)), (.int x2)])) (fun tg kk => XS.bipush X98.here hx rfl (hb hby own_d12_17) kk) ?_
              by_cases hc99 : x2 = (32 : Int32)
              ·
                refine OwnGo.back (T98.setTop (mkF m 41 #[.val (.ref b), .val (.int (3 : Int32)), .val (.int (2 : Int32)), .val (.int x2)] [])) (fun tg kk => XS.icmpYes X98.here hx rfl (pc0 := 19) (pc' := 41) rfl (hb hby own_d12_19) rfl (teq hc99).1 (by decide) (by decide) kk) ?_
                refine OwnGo.back (T98.setTop (mkF m 44 #[.val (.ref b), .val (.int (3 : Int32)), .val (.int (3 : Int32)), .val (.int x2)] [])) (fun tg kk => XS.iinc X98.here hx rfl (hb hby own_d12_41) rfl (l' := #[.val (.ref b), .val (.int (3 : Int32)), .val (.int (3 : Int32)), .val (.int x2)]) rfl kk) ?_
                refine OwnGo.back (T98.setTop (mkF m 5 #[.val (.ref b), .val (.int (3 : Int32)), .val (.int (3 : Int32)), .val (.int x2)] [])) (fun tg kk => XS.goto X98.here hx rfl (pc0 := 44) (pc' := 5) rfl (hb hby own_d12_44) (by decide) (by decide) kk) ?_
                refine OwnGo.back (T98.setTop (mkF m 6 #[.val (.ref b), .val (.int (3 : Int32)), .val (.int (3 : Int32)), .val (.int x2)] [(.int (3 : Int32))])) (fun tg kk => XS.iloadN X98.here hx rfl (hb hby own_d12_5) rfl kk) ?_
                refine OwnGo.back (T98.setTop (mkF m 7 #[.val (.ref b), .val (.int (3 : Int32)), .val (.int (3 : Int32)), .val (.int x2)] [(.int (3 : Int32)), (.int (3 : Int32))])) (fun tg kk => XS.iloadN X98.here hx rfl (hb hby own_d12_6) rfl kk) ?_
                refine OwnGo.back (T98.setTop (mkF m 47 #[.val (.ref b), .val (.int (3 : Int32)), .val (.int (3 : Int32)), .val (.int x2)] [])) (fun tg kk => XS.icmpYes X98.here hx rfl (pc0 := 7) (pc' := 47) rfl (hb hby own_d12_7) rfl (flt (by decide : ¬ ((3 : Int32) < (3 : Int32)))).2.1 (by decide) (by decide) kk) ?_
                refine OwnGo.back (T98.setTop (mkF m 48 #[.val (.ref b), .val (.int (3 : Int32)), .val (.int (3 : Int32)), .val (.int x2)] [(.int (3 : Int32))])) (fun tg kk => XS.iloadN X98.here hx rfl (hb hby own_d12_47) rfl kk) ?_
                obtain ⟨fs, hr, hrun, hended, hW, hsame⟩ := X98.leave (v := some (.int (3 : Int32))) (fun h => by rw [Bd.returns] at h; cases h)
                refine ⟨_, _, ?_, hrun, hended, _, _, rfl, ?_, ⟨_, rfl⟩, hW, hsame.mono (by decide) (by decide)⟩
                · exact own_retI X98 hx Bd.returns (hb hby own_d12_48) hr
                · show own_lw3_Q Z b kb x0 x1 x2 aA oi h0 n0 _ T98.heap _
                  rw [e98]
                  exact ⟨(3 : Int32), rfl, N98, rfl, (by (simp only [true_and, and_true, false_and, and_false, or_false, false_or, or_true, true_or, not_true_eq_false, not_false_eq_true, eq_self, Int32.lt_iff_toInt_lt, Int32.le_iff_toInt_le, ← Int32.toInt_inj, Int32.reduceToInt, Int64.lt_iff_toInt_lt, Int64.le_iff_toInt_le, ← Int64.toInt_inj, Int64.reduceToInt] at hc3 hc36 hc73 hc75 hc84 hc97 hc99 hl0 hu0 hl1 hu1 hl2 hu2 nw po72 po96 ⊢) <;> omega)⟩
              ·
                refine OwnGo.back (T98.setTop (mkF m 22 #[.val (.ref b), .val (.int (3 : Int32)), .val (.int (2 : Int32)), .val (.int x2)] [])) (fun tg kk => XS.icmpNo X98.here hx rfl (hb hby own_d12_19) rfl (feq hc99).1 kk) ?_
                refine OwnGo.back (T98.setTop (mkF m 23 #[.val (.ref b), .val (.int (3 : Int32)), .val (.int (2 : Int32)), .val (.int x2)] [(.int x2)])) (fun tg kk => XS.iloadN X98.here hx rfl (hb hby own_d12_22) rfl kk) ?_
                refine OwnGo.back (T98.setTop (mkF m 25 #[.val (.ref b), .val (.int (3 : Int32)), .val (.int (2 : Int32)), .val (.int x2)] [(.int (9 : Int32)), (.int x2)])) (fun tg kk => XS.bipush X98.here hx rfl (hb hby own_d12_23) kk) ?_
                by_cases hc100 : x2 = (9 : Int32)
                ·
                  refine OwnGo.back (T98.setTop (mkF m 41 #[.val (.ref b), .val (.int (3 : Int32)), .val (.int (2 : Int32)), .val (.int x2)] [])) (fun tg kk => XS.icmpYes X98.here hx rfl (pc0 := 25) (pc' := 41) rfl (hb hby own_d12_25) rfl (teq hc100).1 (by decide) (by decide) kk) ?_
                  refine OwnGo.back (T98.setTop (mkF m 44 #[.val (.ref b), .val (.int (3 : Int32)), .val (.int (3 : Int32)), .val (.int x2)] [])) (fun tg kk => XS.iinc X98.here hx rfl (hb hby own_d12_41) rfl (l' := #[.val (.ref b), .val (.int (3 : Int32)), .val (.int (3 : Int32)), .val (.int x2)]) rfl kk) ?_
                  refine OwnGo.back (T98.setTop (mkF m 5 #[.val (.ref b), .val (.int (3 : Int32)), .val (.int (3 : Int32)), .val (.int x2)] [])) (fun tg kk => XS.goto X98.here hx rfl (pc0 := 44) (pc' := 5) rfl (hb hby own_d12_44) (by decide) (by decide) kk) ?_
                  refine OwnGo.back (T98.setTop (mkF m 6 #[.val (.ref b), .val (.int (3 : Int32)), .val (.int (3 : Int32)), .val (.int x2)] [(.int (3 : Int32))])) (fun tg kk => XS.iloadN X98.here hx rfl (hb hby own_d12_5) rfl kk) ?_
                  refine OwnGo.back (T98.setTop (mkF m 7 #[.val (.ref b), .val (.int (3 : Int32)), .val (.int (3 : Int32)), .val (.int x2)] [(.int (3 : Int32)), (.int (3 : Int32))])) (fun tg kk => XS.iloadN X98.here hx rfl (hb hby own_d12_6) rfl kk) ?_
                  refine OwnGo.back (T98.setTop (mkF m 47 #[.val (.ref b), .val (.int (3 : Int32)), .val (.int (3 : Int32)), .val (.int x2)] [])) (fun tg kk => XS.icmpYes X98.here hx rfl (pc0 := 7) (pc' := 47) rfl (hb hby own_d12_7) rfl (flt (by decide : ¬ ((3 : Int32) < (3 : Int32)))).2.1 (by decide) (by decide) kk) ?_
                  refine OwnGo.back (T98.setTop (mkF m 48 #[.val (.ref b), .val (.int (3 : Int32)), .val (.int (3 : Int32)), .val (.int x2)] [(.int (3 : Int32))])) (fun tg kk => XS.iloadN X98.here hx rfl (hb hby own_d12_47) rfl kk) ?_
                  obtain ⟨fs, hr, hrun, hended, hW, hsame⟩ := X98.leave (v := some (.int (3 : Int32))) (fun h => by rw [Bd.returns] at h; cases h)
                  refine ⟨_, _, ?_, hrun, hended, _, _, rfl, ?_, ⟨_, rfl⟩, hW, hsame.mono (by decide) (by decide)⟩
                  · exact own_retI X98 hx Bd.returns (hb hby own_d12_48) hr
                  · show own_lw3_Q Z b kb x0 x1 x2 aA oi h0 n0 _ T98.heap _
                    rw [e98]
                    exact ⟨(3 : Int32), rfl, N98, rfl, (by (simp only [true_and, and_true, false_and, and_false, or_false, false_or, or_true, true_or, not_true_eq_false, not_false_eq_true, eq_self, Int32.lt_iff_toInt_lt, Int32.le_iff_toInt_le, ← Int32.toInt_inj, Int32.reduceToInt, Int64.lt_iff_toInt_lt, Int64.le_iff_toInt_le, ← Int64.toInt_inj, Int64.reduceToInt] at hc3 hc36 hc73 hc75 hc84 hc97 hc99 hc100 hl0 hu0 hl1 hu1 hl2 hu2 nw po72 po96 ⊢) <;> omega)⟩
                ·
                  refine OwnGo.back (T98.setTop (mkF m 28 #[.val (.ref b), .val (.int (3 : Int32)), .val (.int (2 : Int32)), .val (.int x2)] [])) (fun tg kk => XS.icmpNo X98.here hx rfl (hb hby own_d12_25) rfl (feq hc100).1 kk) ?_
                  obtain ⟨T101, X101, e101, st101⟩ := getS2 X98 hx hZ hown (host := "") (Or.inl (hw _ (List.mem_of_getElem? (i := 63) rfl))) Via.refl e98 (SN.ext old.2) (g := (mkF m 28 #[.val (.ref b), .val (.int (3 : Int32)), .val (.int (2 : Int32)), .val (.int x2)] [])) rfl (hb hby own_d12_28)
                  refine OwnGo.back (T101.setTop (mkF m 31 #[.val (.ref b), .val (.int (3 : Int32)), .val (.int (2 : Int32)), .val (.int x2)] [(.ref oi)])) (fun tg kk => st101 _ kk) ?_
                  refine OwnGo.back (T101.setTop (mkF m 32 #[.val (.ref b), .val (.int (3 : Int32)), .val (.int (2 : Int32)), .val (.int x2)] [(.int x2), (.ref oi)])) (fun tg kk => XS.iloadN X101.here hx rfl (hb hby own_d12_31) rfl kk) ?_
                  obtain ⟨cq102, kq102, q102a, q102b, q102c⟩ := isOf hZ e101 Xi
                  obtain ⟨_, _, ⟨T102, L102, k102, n102⟩, -, X102, ⟨Lc102, hQ102, l102, y102, z102⟩, st102⟩ := X101.virtualBack hx (y := (⟨"java/lang/CharacterDataLatin1", "isWhitespace", "(I)Z"⟩ : MethodName)) (z := (⟨"java/lang/CharacterDataLatin1", "isWhitespace", "(I)Z"⟩ : MethodName)) hown (mvT hZ (hw _ (List.mem_of_getElem? (i := 65) rfl))) (mvT hZ (hw _ (List.mem_of_getElem? (i := 66) rfl))) (notFace_of_selects (args := #[]) (mvT hZ (hw _ (List.mem_of_getElem? (i := 68) rfl)))) (mvT hZ (hw _ (List.mem_of_getElem? (i := 68) rfl))) (mvT hZ (hw _ (List.mem_of_getElem? (i := 67) rfl))) (by decide) (backOf (W := 0) (own_isw l Z a0 hw [] oi x2 aA h0 n0 Z0 Xi SA old hA hl2 hu2) hZ (hw _ (List.mem_of_getElem? (i := 69) rfl)) (hw _ (List.mem_of_getElem? (i := 64) rfl)) (by decide) (by decide)) q102a q102c (g := (mkF m 32 #[.val (.ref b), .val (.int (3 : Int32)), .val (.int (2 : Int32)), .val (.int x2)] [(.int x2), (.ref oi)])) rfl (by rw [hml]; rfl) (Steps.refl _) (argsL := [(.int x2)]) (rest := []) (lenOf own_pd6 rfl) rfl (by show 2 * 0 + _ ≤ _; exact Nat.le_of_eq rfl) (hb hby own_d12_32) (fun _ _ => ⟨rfl, e101, (by decide : 0 + 0 ≤ _), (by decide : 0 + 0 ≤ _)⟩)
                  dsimp only [Pt.U, Pt.locs, Pt.cells, Pt.slots] at X102 l102 y102 z102 st102 hQ102
                  subst l102 y102 z102
                  obtain ⟨r_103, rfl, N102q, e102, po104⟩ := hQ102
                  have N102 := Fr.app N98 N102q
                  refine OwnGo.back (T102.setTop (mkF m 35 #[.val (.ref b), .val (.int (3 : Int32)), .val (.int (2 : Int32)), .val (.int x2)] [(.int r_103)])) (fun tg kk => st102.trans kk) ?_
                  by_cases hc105 : r_103 = (0 : Int32)
                  ·
                    refine OwnGo.back (T102.setTop (mkF m 38 #[.val (.ref b), .val (.int (3 : Int32)), .val (.int (2 : Int32)), .val (.int x2)] [])) (fun tg kk => XS.ifNo X102.here hx rfl (hb hby own_d12_35) rfl ((if0 _ _).trans (teq hc105).2) kk) ?_
                    refine OwnGo.back (T102.setTop (mkF m 47 #[.val (.ref b), .val (.int (3 : Int32)), .val (.int (2 : Int32)), .val (.int x2)] [])) (fun tg kk => XS.goto X102.here hx rfl (pc0 := 38) (pc' := 47) rfl (hb hby own_d12_38) (by decide) (by decide) kk) ?_
                    refine OwnGo.back (T102.setTop (mkF m 48 #[.val (.ref b), .val (.int (3 : Int32)), .val (.int (2 : Int32)), .val (.int x2)] [(.int (2 : Int32))])) (fun tg kk => XS.iloadN X102.here hx rfl (hb hby own_d12_47) rfl kk) ?_
                    obtain ⟨fs, hr, hrun, hended, hW, hsame⟩ := X102.leave (v := some (.int (2 : Int32))) (fun h => by rw [Bd.returns] at h; cases h)
                    refine ⟨_, _, ?_, hrun, hended, _, _, rfl, ?_, ⟨_, rfl⟩, hW, hsame.mono (by decide) (by decide)⟩
                    · exact own_retI X102 hx Bd.returns (hb hby own_d12_48) hr
                    · show own_lw3_Q Z b kb x0 x1 x2 aA oi h0 n0 _ T102.heap _
                      rw [e102]
                      exact ⟨(2 : Int32), rfl, N102, rfl, (by (simp only [true_and, and_true, false_and, and_false, or_false, false_or, or_true, true_or, not_true_eq_false, not_false_eq_true, eq_self, Int32.lt_iff_toInt_lt, Int32.le_iff_toInt_le, ← Int32.toInt_inj, Int32.reduceToInt, Int64.lt_iff_toInt_lt, Int64.le_iff_toInt_le, ← Int64.toInt_inj, Int64.reduceToInt] at hc3 hc36 hc73 hc75 hc84 hc97 hc99 hc100 hc105 hl0 hu0 hl1 hu1 hl2 hu2 nw po72 po96 po104 ⊢) <;> omega)⟩
                  ·
                    refine OwnGo.back (T102.setTop (mkF m 41 #[.val (.ref b), .val (.int (3 : Int32)), .val (.int (2 : Int32)), .val (.int x2)] [])) (fun tg kk => XS.ifYes X102.here hx rfl (pc0 := 35) (pc' := 41) rfl (hb hby own_d12_35) rfl ((if0 _ _).trans (feq hc105).2) (by decide) (by decide) kk) ?_
                    refine OwnGo.back (T102.setTop (mkF m 44 #[.val (.ref b), .val (.int (3 : Int32)), .val (.int (3 : Int32)), .val (.int x2)] [])) (fun tg kk => XS.iinc X102.here hx rfl (hb hby own_d12_41) rfl (l' := #[.val (.ref b), .val (.int (3 : Int32)), .val (.int (3 : Int32)), .val (.int x2)]) rfl kk) ?_
                    refine OwnGo.back (T102.setTop (mkF m 5 #[.val (.ref b), .val (.int (3 : Int32)), .val (.int (3 : Int32)), .val (.int x2)] [])) (fun tg kk => XS.goto X102.here hx rfl (pc0 := 44) (pc' := 5) rfl (hb hby own_d12_44) (by decide) (by decide) kk) ?_
                    refine OwnGo.back (T102.setTop (mkF m 6 #[.val (.ref b), .val (.int (3 : Int32)), .val (.int (3 : Int32)), .val (.int x2)] [(.int (3 : Int32))])) (fun tg kk => XS.iloadN X102.here hx rfl (hb hby own_d12_5) rfl kk) ?_
                    refine OwnGo.back (T102.setTop (mkF m 7 #[.val (.ref b), .val (.int (3 : Int32)), .val (.int (3 : Int32)), .val (.int x2)] [(.int (3 : Int32)), (.int (3 : Int32))])) (fun tg kk => XS.iloadN X102.here hx rfl (hb hby own_d12_6) rfl kk) ?_
                    refine OwnGo.back (T102.setTop (mkF m 47 #[.val (.ref b), .val (.int (3 : Int32)), .val (.int (3 : Int32)), .val (.int x2)] [])) (fun tg kk => XS.icmpYes X102.here hx rfl (pc0 := 7) (pc' := 47) rfl (hb hby own_d12_7) rfl (flt (by decide : ¬ ((3 : Int32) < (3 : Int32)))).2.1 (by decide) (by decide) kk) ?_
                    refine OwnGo.back (T102.setTop (mkF m 48 #[.val (.ref b), .val (.int (3 : Int32)), .val (.int (3 : Int32)), .val (.int x2)] [(.int (3 : Int32))])) (fun tg kk => XS.iloadN X102.here hx rfl (hb hby own_d12_47) rfl kk) ?_
                    obtain ⟨fs, hr, hrun, hended, hW, hsame⟩ := X102.leave (v := some (.int (3 : Int32))) (fun h => by rw [Bd.returns] at h; cases h)
                    refine ⟨_, _, ?_, hrun, hended, _, _, rfl, ?_, ⟨_, rfl⟩, hW, hsame.mono (by decide) (by decide)⟩
                    · exact own_retI X102 hx Bd.returns (hb hby own_d12_48) hr
                    · show own_lw3_Q Z b kb x0 x1 x2 aA oi h0 n0 _ T102.heap _
                      rw [e102]
                      exact ⟨(3 : Int32), rfl, N102, rfl, (by (simp only [true_and, and_true, false_and, and_false, or_false, false_or, or_true, true_or, not_true_eq_false, not_false_eq_true, eq_self, Int32.lt_iff_toInt_lt, Int32.le_iff_toInt_le, ← Int32.toInt_inj, Int32.reduceToInt, Int64.lt_iff_toInt_lt, Int64.le_iff_toInt_le, ← Int64.toInt_inj, Int64.reduceToInt] at hc3 hc36 hc73 hc75 hc84 hc97 hc99 hc100 hc105 hl0 hu0 hl1 hu1 hl2 hu2 nw po72 po96 po104 ⊢) <;> omega)⟩
theorem own_sw3_ef (m : MethodId) (x0 : Addr) : entryFrame m #[(.ref x0)] 1 = mkF m 0 #[.val (.ref x0)] [] := by first | (simp [entryFrame, mkF, argsToLocals, Value.category]; done) | rfl
def own_sw3_Q (Z : State) (a : Addr) (b : Addr) (kb : ClassId) (x0 : Int32) (x1 : Int32) (x2 : Int32) (aA : Addr) (oi : Addr) (cs : Int32) (h0 : Heap) (n0 : Nat) (rv : Option Value) (hN : Heap) (LL : List Loc) : Prop := ∃ (r : Int32), rv = some (.int r) ∧ Fr n0 LL ∧ hN = h0 ∧ ¬ r = (3 : Int32)
set_option maxRecDepth 65536 in
set_option maxHeartbeats 40000000 in
theorem own_sw3 (l : Launch) (Z : State) (a0 : Array Value) (hw : ∀ d ∈ tables_1, d.before a0 Z = true) (ws : List Jvm.Cond) (a : Addr) (b : Addr) (kb : ClassId) (x0 : Int32) (x1 : Int32) (x2 : Int32) (aA : Addr) (oi : Addr) (cs : Int32) (h0 : Heap) (n0 : Nat) (Z0 : n0 ≤ h0.size) (hl0 : ¬ x0 < (0 : Int32)) (hu0 : ¬ (255 : Int32) < x0) (hl1 : ¬ x1 < (0 : Int32)) (hu1 : ¬ (255 : Int32) < x1) (hl2 : ¬ x2 < (0 : Int32)) (hu2 : ¬ (255 : Int32) < x2) (SA : Sta Z Z.heap "java/lang/CharacterDataLatin1" "A" "[I" (.ref aA)) (old : Old Z n0 h0) (hA : own_A Z aA) (SN : Sta Z Z.heap "java/lang/CharacterDataLatin1" "instance" "Ljava/lang/CharacterDataLatin1;" (.ref oi)) (Xi : Exa Z h0 oi "java/lang/CharacterDataLatin1") (nw : ¬ (((x0 = (32 : Int32)) ∨ (¬ x0 < (9 : Int32) ∧ ¬ (13 : Int32) < x0) ∨ (¬ x0 < (28 : Int32) ∧ ¬ (31 : Int32) < x0)) ∧ ((x1 = (32 : Int32)) ∨ (¬ x1 < (9 : Int32) ∧ ¬ (13 : Int32) < x1) ∨ (¬ x1 < (28 : Int32) ∧ ¬ (31 : Int32) < x1)) ∧ ((x2 = (32 : Int32)) ∨ (¬ x2 < (9 : Int32) ∧ ¬ (13 : Int32) < x2) ∨ (¬ x2 < (28 : Int32) ∧ ¬ (31 : Int32) < x2)))) (S : Sta Z Z.heap "java/lang/String" "COMPACT_STRINGS" "Z" (.int cs)) (hcs : ¬ cs = 0) (H0 : Exa Z h0 a "java/lang/String") (H1 : Fld Z h0 a "java/lang/String" "value" "[B" (.ref b)) (H2 : Fld Z h0 a "java/lang/String" "coder" "B" (.int (0 : Int32))) (B : Arv Z h0 b kb .byte (3 : Int32) [(.int (nar .byte (x0.toInt8.toInt32))), (.int (nar .byte (x1.toInt8.toInt32))), (.int (nar .byte (x2.toInt8.toInt32)))] (.int (0 : Int32))) :
    MetFree l (⟨"java/lang/String", "indexOfNonWhitespace", "()I"⟩ : MethodName) (head1 (Jvm.Cond.code (⟨"java/lang/String", "indexOfNonWhitespace", "()I"⟩ : MethodName) jdk_42_method_120_code 1 (some .int) :: ws) ({ frames := 3, cells := 0, slots := 0, locals := 44 } : Room)) (fun aa UU => aa = #[(.ref a)] ∧ Z.Warmed39 UU.vm ∧ UU.heap = h0) (fun _ _ _ _ _ => True) (fun _ UU oo UU' => ∃ rv LL, oo = .returned rv ∧ own_sw3_Q Z a b kb x0 x1 x2 aA oi cs h0 n0 rv UU'.heap LL ∧ FrameEnd UU oo UU' LL ({ frames := 3, cells := 0, slots := 0, locals := 44 } : Room).cells ({ frames := 3, cells := 0, slots := 0, locals := 44 } : Room).slots) := by
  refine MetFree.of_bodySF (plainFor_of_name own_pn0) hisR ?_
  intro p e s m args below meth c s₁ Bd hml0 hP hK
  obtain ⟨rfl, hZ, hh⟩ := hP
  have hx := Bd.exec
  have hby := Bd.bytes
  have hml : c.maxLocals = 1 := hml0
  have hown : s.vm.findClass "java/lang/String" = some m.cls := findClass_of_methodNamed Bd.named
  have hnm := (name_of_methodNamed Bd.named Bd.method).1
  have X0 : Stand p l e ({ frames := 3, cells := 0, slots := 0, locals := 44 } : Room) s m #[(.ref a)] below meth c s₁ [] 0 0 := Stand.of_body Bd
  have e0 : s₁.heap = h0 := by rw [← hh, Bd.state]; rfl
  have N0 := Fr.nil n0
  have K0 : Keep h0 h0 [] := Keep.refl h0 _
  refine (?_ : OwnGo p.tables e below (fun UU' oo => ∃ rv LL, oo = .returned rv ∧ own_sw3_Q Z a b kb x0 x1 x2 aA oi cs h0 n0 rv UU'.heap LL ∧ FrameEnd s oo UU' LL ({ frames := 3, cells := 0, slots := 0, locals := 44 } : Room).cells ({ frames := 3, cells := 0, slots := 0, locals := 44 } : Room).slots) _)
  refine OwnGo.back (s₁.setTop (mkF m 0 #[.val (.ref a)] [])) (fun tg kk => castTop (own_sw3_ef m a) kk) ?_
  refine OwnGo.back (s₁.setTop (mkF m 1 #[.val (.ref a)] [(.ref a)])) (fun tg kk => XS.aloadN X0.here hx rfl (hb hby own_d10_0) rfl rfl kk) ?_
  obtain ⟨cq1, kq1, q1a, q1b, q1c⟩ := isOf hZ e0 H0
  obtain ⟨_, _, ⟨T1, L1, k1, n1⟩, -, X1, ⟨Lc1, hQ1, l1, y1, z1⟩, st1⟩ := X0.virtualBack hx (y := (⟨"java/lang/String", "isLatin1", "()Z"⟩ : MethodName)) (z := (⟨"java/lang/String", "isLatin1", "()Z"⟩ : MethodName)) hown (mvT hZ (hw _ (List.mem_of_getElem? (i := 51) rfl))) (mvT hZ (hw _ (List.mem_of_getElem? (i := 52) rfl))) (notFace_of_selects (args := #[]) (mvT hZ (hw _ (List.mem_of_getElem? (i := 54) rfl)))) (mvT hZ (hw _ (List.mem_of_getElem? (i := 54) rfl))) (mvT hZ (hw _ (List.mem_of_getElem? (i := 53) rfl))) (by decide) (backOf (W := 0) (own_lat l Z a0 hw [] a b cs h0 n0 Z0 S old hcs H0 H1 H2) hZ (hw _ (List.mem_of_getElem? (i := 55) rfl)) (hw _ (List.mem_of_getElem? (i := 3) rfl)) (by decide) (by decide)) q1a q1c (g := (mkF m 1 #[.val (.ref a)] [(.ref a)])) rfl (by rw [hml]; rfl) (Steps.refl _) (argsL := []) (rest := []) (lenOf own_pd7 rfl) rfl (by show 2 * 0 + _ ≤ _; exact Nat.le_of_eq rfl) (hb hby own_d10_1) (fun _ _ => ⟨rfl, e0, (by decide : 0 + 0 ≤ _), (by decide : 0 + 0 ≤ _)⟩)
  dsimp only [Pt.U, Pt.locs, Pt.cells, Pt.slots] at X1 l1 y1 z1 st1 hQ1
  subst l1 y1 z1
  obtain ⟨rfl, N1q, e1⟩ := hQ1
  have N1 := Fr.app N0 N1q
  refine OwnGo.back (T1.setTop (mkF m 4 #[.val (.ref a)] [(.int (1 : Int32))])) (fun tg kk => st1.trans kk) ?_
  refine OwnGo.back (T1.setTop (mkF m 7 #[.val (.ref a)] [])) (fun tg kk => XS.ifNo X1.here hx rfl (hb hby own_d10_4) rfl ((if0 _ _).trans (feq (by decide : ¬ ((1 : Int32) = (0 : Int32)))).1) kk) ?_
  refine OwnGo.back (T1.setTop (mkF m 8 #[.val (.ref a)] [(.ref a)])) (fun tg kk => XS.aloadN X1.here hx rfl (hb hby own_d10_7) rfl rfl kk) ?_
  obtain ⟨T2, X2, e2, st2⟩ := getF X1 hx hZ hown (host := "") (Or.inl (hw _ (List.mem_of_getElem? (i := 20) rfl))) Via.refl e1 H1 (g := (mkF m 8 #[.val (.ref a)] [(.ref a)])) rfl rfl (hb hby own_d10_8)
  refine OwnGo.back (T2.setTop (mkF m 11 #[.val (.ref a)] [(.ref b)])) (fun tg kk => st2 _ kk) ?_
  obtain ⟨_, _, ⟨T3, L3, k3, n3⟩, -, X3, ⟨Lc3, hQ3, l3, y3, z3⟩, st3⟩ := Jvm.LawKit.callS X2 hx (y := (⟨"java/lang/StringLatin1", "indexOfNonWhitespace", "([B)I"⟩ : MethodName)) hown (mvT hZ (hw _ (List.mem_of_getElem? (i := 56) rfl))) (mvT hZ (hw _ (List.mem_of_getElem? (i := 57) rfl))) (mvT hZ (hw _ (List.mem_of_getElem? (i := 58) rfl))) (mvT hZ (hw _ (List.mem_of_getElem? (i := 59) rfl))) (by decide) (backOf (W := 0) (own_lw3 l Z a0 hw [] b kb x0 x1 x2 aA oi h0 n0 Z0 B hl0 hu0 hl1 hu1 hl2 hu2 SA old hA SN Xi nw) hZ (hw _ (List.mem_of_getElem? (i := 59) rfl)) (hw _ (List.mem_of_getElem? (i := 58) rfl)) (by decide) (by decide)) (g := (mkF m 11 #[.val (.ref a)] [(.ref b)])) rfl (by rw [hml]; rfl) (argsL := [(.ref b)]) (rest := []) (lenOf own_pd8 rfl) rfl (by show 2 * 0 + _ ≤ _; exact Nat.le_of_eq rfl) (hb hby own_d10_11) (fun _ _ => ⟨rfl, e2, (by decide : 0 + 0 ≤ _), (by decide : 0 + 0 ≤ _)⟩)
  dsimp only [Pt.U, Pt.locs, Pt.cells, Pt.slots] at X3 l3 y3 z3 st3 hQ3
  subst l3 y3 z3
  obtain ⟨r_4, rfl, N3q, e3, po5⟩ := hQ3
  have N3 := Fr.app N1 N3q
  refine OwnGo.back (T3.setTop (mkF m 14 #[.val (.ref a)] [(.int r_4)])) (fun tg kk => st3 _ kk) ?_
  refine OwnGo.back (T3.setTop (mkF m 24 #[.val (.ref a)] [(.int r_4)])) (fun tg kk => XS.goto X3.here hx rfl (pc0 := 14) (pc' := 24) rfl (hb hby own_d10_14) (by decide) (by decide) kk) ?_
  obtain ⟨fs, hr, hrun, hended, hW, hsame⟩ := X3.leave (v := some (.int r_4)) (fun h => by rw [Bd.returns] at h; cases h)
  refine ⟨_, _, ?_, hrun, hended, _, _, rfl, ?_, ⟨_, rfl⟩, hW, hsame.mono (by decide) (by decide)⟩
  · exact own_retI X3 hx Bd.returns (hb hby own_d10_24) hr
  · show own_sw3_Q Z a b kb x0 x1 x2 aA oi cs h0 n0 _ T3.heap _
    rw [e3]
    exact ⟨r_4, rfl, N3, rfl, po5⟩
theorem own_len3_ef (m : MethodId) (x0 : Addr) : entryFrame m #[(.ref x0)] 1 = mkF m 0 #[.val (.ref x0)] [] := by first | (simp [entryFrame, mkF, argsToLocals, Value.category]; done) | rfl
def own_len3_Q (Z : State) (a : Addr) (b : Addr) (kb : ClassId) (x0 : Int32) (x1 : Int32) (x2 : Int32) (cs : Int32) (h0 : Heap) (n0 : Nat) (rv : Option Value) (hN : Heap) (LL : List Loc) : Prop := rv = some (.int (3 : Int32)) ∧ Fr n0 LL ∧ hN = h0
set_option maxRecDepth 65536 in
set_option maxHeartbeats 40000000 in
theorem own_len3 (l : Launch) (Z : State) (a0 : Array Value) (hw : ∀ d ∈ tables_1, d.before a0 Z = true) (ws : List Jvm.Cond) (a : Addr) (b : Addr) (kb : ClassId) (x0 : Int32) (x1 : Int32) (x2 : Int32) (cs : Int32) (h0 : Heap) (n0 : Nat) (Z0 : n0 ≤ h0.size) (S : Sta Z Z.heap "java/lang/String" "COMPACT_STRINGS" "Z" (.int cs)) (old : Old Z n0 h0) (hcs : ¬ cs = 0) (H0 : Exa Z h0 a "java/lang/String") (H1 : Fld Z h0 a "java/lang/String" "value" "[B" (.ref b)) (H2 : Fld Z h0 a "java/lang/String" "coder" "B" (.int (0 : Int32))) (B : Arv Z h0 b kb .byte (3 : Int32) [(.int (nar .byte (x0.toInt8.toInt32))), (.int (nar .byte (x1.toInt8.toInt32))), (.int (nar .byte (x2.toInt8.toInt32)))] (.int (0 : Int32))) :
    MetFree l (⟨"java/lang/String", "length", "()I"⟩ : MethodName) (head1 (Jvm.Cond.code (⟨"java/lang/String", "length", "()I"⟩ : MethodName) jdk_42_method_54_code 1 (some .int) :: ws) ({ frames := 1, cells := 0, slots := 0, locals := 13 } : Room)) (fun aa UU => aa = #[(.ref a)] ∧ Z.Warmed39 UU.vm ∧ UU.heap = h0) (fun _ _ _ _ _ => True) (fun _ UU oo UU' => ∃ rv LL, oo = .returned rv ∧ own_len3_Q Z a b kb x0 x1 x2 cs h0 n0 rv UU'.heap LL ∧ FrameEnd UU oo UU' LL ({ frames := 1, cells := 0, slots := 0, locals := 13 } : Room).cells ({ frames := 1, cells := 0, slots := 0, locals := 13 } : Room).slots) := by
  refine MetFree.of_bodySF (plainFor_of_name own_pn0) hisR ?_
  intro p e s m args below meth c s₁ Bd hml0 hP hK
  obtain ⟨rfl, hZ, hh⟩ := hP
  have hx := Bd.exec
  have hby := Bd.bytes
  have hml : c.maxLocals = 1 := hml0
  have hown : s.vm.findClass "java/lang/String" = some m.cls := findClass_of_methodNamed Bd.named
  have hnm := (name_of_methodNamed Bd.named Bd.method).1
  have X0 : Stand p l e ({ frames := 1, cells := 0, slots := 0, locals := 13 } : Room) s m #[(.ref a)] below meth c s₁ [] 0 0 := Stand.of_body Bd
  have e0 : s₁.heap = h0 := by rw [← hh, Bd.state]; rfl
  have N0 := Fr.nil n0
  have K0 : Keep h0 h0 [] := Keep.refl h0 _
  refine (?_ : OwnGo p.tables e below (fun UU' oo => ∃ rv LL, oo = .returned rv ∧ own_len3_Q Z a b kb x0 x1 x2 cs h0 n0 rv UU'.heap LL ∧ FrameEnd s oo UU' LL ({ frames := 1, cells := 0, slots := 0, locals := 13 } : Room).cells ({ frames := 1, cells := 0, slots := 0, locals := 13 } : Room).slots) _)
  refine OwnGo.back (s₁.setTop (mkF m 0 #[.val (.ref a)] [])) (fun tg kk => castTop (own_len3_ef m a) kk) ?_
  refine OwnGo.back (s₁.setTop (mkF m 1 #[.val (.ref a)] [(.ref a)])) (fun tg kk => XS.aloadN X0.here hx rfl (hb hby own_d16_0) rfl rfl kk) ?_
  obtain ⟨T1, X1, e1, st1⟩ := getF X0 hx hZ hown (host := "") (Or.inl (hw _ (List.mem_of_getElem? (i := 20) rfl))) Via.refl e0 H1 (g := (mkF m 1 #[.val (.ref a)] [(.ref a)])) rfl rfl (hb hby own_d16_1)
  refine OwnGo.back (T1.setTop (mkF m 4 #[.val (.ref a)] [(.ref b)])) (fun tg kk => st1 _ kk) ?_
  obtain ⟨cl_2, Ar_2, -, Sz_2, Ng_2, -, -⟩ := id B
  refine OwnGo.back (T1.setTop (mkF m 5 #[.val (.ref a)] [(.int (3 : Int32))])) (fun tg kk => X1.arraylength hx (by rw [e1]; exact Ar_2.1) (State.isArrayOf_alike hZ.alike Ar_2.2.1) (g := (mkF m 4 #[.val (.ref a)] [(.ref b)])) rfl rfl (hb hby own_d16_4) _ (by rw [len_of Sz_2 Ng_2]; exact kk)) ?_
  refine OwnGo.back (T1.setTop (mkF m 6 #[.val (.ref a)] [(.ref a), (.int (3 : Int32))])) (fun tg kk => XS.aloadN X1.here hx rfl (hb hby own_d16_5) rfl rfl kk) ?_
  obtain ⟨cq3, kq3, q3a, q3b, q3c⟩ := isOf hZ e1 H0
  obtain ⟨_, _, ⟨T3, L3, k3, n3⟩, -, X3, ⟨Lc3, hQ3, l3, y3, z3⟩, st3⟩ := X1.virtualBack hx (y := (⟨"java/lang/String", "coder", "()B"⟩ : MethodName)) (z := (⟨"java/lang/String", "coder", "()B"⟩ : MethodName)) hown (mvT hZ (hw _ (List.mem_of_getElem? (i := 81) rfl))) (mvT hZ (hw _ (List.mem_of_getElem? (i := 82) rfl))) (notFace_of_selects (args := #[]) (mvT hZ (hw _ (List.mem_of_getElem? (i := 84) rfl)))) (mvT hZ (hw _ (List.mem_of_getElem? (i := 84) rfl))) (mvT hZ (hw _ (List.mem_of_getElem? (i := 83) rfl))) (by decide) (backOf (W := 1) (own_cod l Z a0 hw [] a b cs h0 n0 Z0 S old hcs H0 H1 H2) hZ (hw _ (List.mem_of_getElem? (i := 85) rfl)) (hw _ (List.mem_of_getElem? (i := 3) rfl)) (by decide) (by decide)) q3a q3c (g := (mkF m 6 #[.val (.ref a)] [(.ref a), (.int (3 : Int32))])) rfl (by rw [hml]; rfl) (Steps.refl _) (argsL := []) (rest := [(.int (3 : Int32))]) (lenOf own_pd9 rfl) rfl (by show 2 * 0 + _ ≤ _; exact Nat.le_of_eq rfl) (hb hby own_d16_6) (fun _ _ => ⟨rfl, e1, (by decide : 0 + 0 ≤ _), (by decide : 0 + 0 ≤ _)⟩)
  dsimp only [Pt.U, Pt.locs, Pt.cells, Pt.slots] at X3 l3 y3 z3 st3 hQ3
  subst l3 y3 z3
  obtain ⟨rfl, N3q, e3⟩ := hQ3
  have N3 := Fr.app N0 N3q
  refine OwnGo.back (T3.setTop (mkF m 9 #[.val (.ref a)] [(.int (0 : Int32)), (.int (3 : Int32))])) (fun tg kk => st3.trans kk) ?_
  refine OwnGo.back (T3.setTop (mkF m 10 #[.val (.ref a)] [(.int (3 : Int32))])) (fun tg kk => XS.ishr X3.here hx rfl (hb hby own_d16_9) rfl kk) ?_
  obtain ⟨fs, hr, hrun, hended, hW, hsame⟩ := X3.leave (v := some (.int (3 : Int32))) (fun h => by rw [Bd.returns] at h; cases h)
  refine ⟨_, _, ?_, hrun, hended, _, _, rfl, ?_, ⟨_, rfl⟩, hW, hsame.mono (by decide) (by decide)⟩
  · exact own_retI X3 hx Bd.returns (hb hby own_d16_10) hr
  · show own_len3_Q Z a b kb x0 x1 x2 cs h0 n0 _ T3.heap _
    rw [e3]
    exact ⟨rfl, N3, rfl⟩
theorem own_bl3_ef (m : MethodId) (x0 : Addr) : entryFrame m #[(.ref x0)] 1 = mkF m 0 #[.val (.ref x0)] [] := by first | (simp [entryFrame, mkF, argsToLocals, Value.category]; done) | rfl
def own_bl3_Q (Z : State) (a : Addr) (b : Addr) (kb : ClassId) (x0 : Int32) (x1 : Int32) (x2 : Int32) (aA : Addr) (oi : Addr) (cs : Int32) (h0 : Heap) (n0 : Nat) (rv : Option Value) (hN : Heap) (LL : List Loc) : Prop := rv = some (.int (0 : Int32)) ∧ Fr n0 LL ∧ hN = h0
set_option maxRecDepth 65536 in
set_option maxHeartbeats 40000000 in
theorem own_bl3 (l : Launch) (Z : State) (a0 : Array Value) (hw : ∀ d ∈ tables_1, d.before a0 Z = true) (ws : List Jvm.Cond) (a : Addr) (b : Addr) (kb : ClassId) (x0 : Int32) (x1 : Int32) (x2 : Int32) (aA : Addr) (oi : Addr) (cs : Int32) (h0 : Heap) (n0 : Nat) (Z0 : n0 ≤ h0.size) (hl0 : ¬ x0 < (0 : Int32)) (hu0 : ¬ (255 : Int32) < x0) (hl1 : ¬ x1 < (0 : Int32)) (hu1 : ¬ (255 : Int32) < x1) (hl2 : ¬ x2 < (0 : Int32)) (hu2 : ¬ (255 : Int32) < x2) (SA : Sta Z Z.heap "java/lang/CharacterDataLatin1" "A" "[I" (.ref aA)) (old : Old Z n0 h0) (hA : own_A Z aA) (SN : Sta Z Z.heap "java/lang/CharacterDataLatin1" "instance" "Ljava/lang/CharacterDataLatin1;" (.ref oi)) (Xi : Exa Z h0 oi "java/lang/CharacterDataLatin1") (nw : ¬ (((x0 = (32 : Int32)) ∨ (¬ x0 < (9 : Int32) ∧ ¬ (13 : Int32) < x0) ∨ (¬ x0 < (28 : Int32) ∧ ¬ (31 : Int32) < x0)) ∧ ((x1 = (32 : Int32)) ∨ (¬ x1 < (9 : Int32) ∧ ¬ (13 : Int32) < x1) ∨ (¬ x1 < (28 : Int32) ∧ ¬ (31 : Int32) < x1)) ∧ ((x2 = (32 : Int32)) ∨ (¬ x2 < (9 : Int32) ∧ ¬ (13 : Int32) < x2) ∨ (¬ x2 < (28 : Int32) ∧ ¬ (31 : Int32) < x2)))) (S : Sta Z Z.heap "java/lang/String" "COMPACT_STRINGS" "Z" (.int cs)) (hcs : ¬ cs = 0) (H0 : Exa Z h0 a "java/lang/String") (H1 : Fld Z h0 a "java/lang/String" "value" "[B" (.ref b)) (H2 : Fld Z h0 a "java/lang/String" "coder" "B" (.int (0 : Int32))) (B : Arv Z h0 b kb .byte (3 : Int32) [(.int (nar .byte (x0.toInt8.toInt32))), (.int (nar .byte (x1.toInt8.toInt32))), (.int (nar .byte (x2.toInt8.toInt32)))] (.int (0 : Int32))) :
    MetFree l (⟨"java/lang/String", "isBlank", "()Z"⟩ : MethodName) (head1 (Jvm.Cond.code (⟨"java/lang/String", "isBlank", "()Z"⟩ : MethodName) jdk_42_method_117_code 1 (some .boolean) :: ws) ({ frames := 4, cells := 0, slots := 0, locals := 56 } : Room)) (fun aa UU => aa = #[(.ref a)] ∧ Z.Warmed39 UU.vm ∧ UU.heap = h0) (fun _ _ _ _ _ => True) (fun _ UU oo UU' => ∃ rv LL, oo = .returned rv ∧ own_bl3_Q Z a b kb x0 x1 x2 aA oi cs h0 n0 rv UU'.heap LL ∧ FrameEnd UU oo UU' LL ({ frames := 4, cells := 0, slots := 0, locals := 56 } : Room).cells ({ frames := 4, cells := 0, slots := 0, locals := 56 } : Room).slots) := by
  refine MetFree.of_bodySF (plainFor_of_name own_pn0) hisR ?_
  intro p e s m args below meth c s₁ Bd hml0 hP hK
  obtain ⟨rfl, hZ, hh⟩ := hP
  have hx := Bd.exec
  have hby := Bd.bytes
  have hml : c.maxLocals = 1 := hml0
  have hown : s.vm.findClass "java/lang/String" = some m.cls := findClass_of_methodNamed Bd.named
  have hnm := (name_of_methodNamed Bd.named Bd.method).1
  have X0 : Stand p l e ({ frames := 4, cells := 0, slots := 0, locals := 56 } : Room) s m #[(.ref a)] below meth c s₁ [] 0 0 := Stand.of_body Bd
  have e0 : s₁.heap = h0 := by rw [← hh, Bd.state]; rfl
  have N0 := Fr.nil n0
  have K0 : Keep h0 h0 [] := Keep.refl h0 _
  refine (?_ : OwnGo p.tables e below (fun UU' oo => ∃ rv LL, oo = .returned rv ∧ own_bl3_Q Z a b kb x0 x1 x2 aA oi cs h0 n0 rv UU'.heap LL ∧ FrameEnd s oo UU' LL ({ frames := 4, cells := 0, slots := 0, locals := 56 } : Room).cells ({ frames := 4, cells := 0, slots := 0, locals := 56 } : Room).slots) _)
  refine OwnGo.back (s₁.setTop (mkF m 0 #[.val (.ref a)] [])) (fun tg kk => castTop (own_bl3_ef m a) kk) ?_
  refine OwnGo.back (s₁.setTop (mkF m 1 #[.val (.ref a)] [(.ref a)])) (fun tg kk => XS.aloadN X0.here hx rfl (hb hby own_d9_0) rfl rfl kk) ?_
  obtain ⟨cq1, q1, q1'⟩ := H0.cell
  obtain ⟨_, _, ⟨T1, L1, k1, n1⟩, -, X1, ⟨Lc1, hQ1, l1, y1, z1⟩, st1⟩ := X0.privateBack hx (y := (⟨"java/lang/String", "indexOfNonWhitespace", "()I"⟩ : MethodName)) hown (mvT hZ (hw _ (List.mem_of_getElem? (i := 46) rfl))) (mvT hZ (hw _ (List.mem_of_getElem? (i := 47) rfl))) (mvT hZ (hw _ (List.mem_of_getElem? (i := 49) rfl))) (Cond.privateMethod_at (mvP hZ (hw _ (List.mem_of_getElem? (i := 48) rfl)) (args := #[]))) (mvT hZ (hw _ (List.mem_of_getElem? (i := 50) rfl))) (by decide) (backOf (W := 0) (own_sw3 l Z a0 hw [] a b kb x0 x1 x2 aA oi cs h0 n0 Z0 hl0 hu0 hl1 hu1 hl2 hu2 SA old hA SN Xi nw S hcs H0 H1 H2 B) hZ (hw _ (List.mem_of_getElem? (i := 50) rfl)) (hw _ (List.mem_of_getElem? (i := 3) rfl)) (by decide) (by decide)) (g := (mkF m 1 #[.val (.ref a)] [(.ref a)])) rfl (by rw [hml]; rfl) (Steps.refl _) (a := a) (by rw [e0]; exact q1) q1' (argsL := []) (rest := []) (lenOf own_pd10 rfl) rfl (by show 2 * 0 + _ ≤ _; exact Nat.le_of_eq rfl) (hb hby own_d9_1) (fun _ _ => ⟨rfl, e0, (by decide : 0 + 0 ≤ _), (by decide : 0 + 0 ≤ _)⟩)
  dsimp only [Pt.U, Pt.locs, Pt.cells, Pt.slots] at X1 l1 y1 z1 st1 hQ1
  subst l1 y1 z1
  obtain ⟨r_2, rfl, N1q, e1, po3⟩ := hQ1
  have N1 := Fr.app N0 N1q
  refine OwnGo.back (T1.setTop (mkF m 4 #[.val (.ref a)] [(.int r_2)])) (fun tg kk => st1.trans kk) ?_
  refine OwnGo.back (T1.setTop (mkF m 5 #[.val (.ref a)] [(.ref a), (.int r_2)])) (fun tg kk => XS.aloadN X1.here hx rfl (hb hby own_d9_4) rfl rfl kk) ?_
  obtain ⟨cq4, kq4, q4a, q4b, q4c⟩ := isOf hZ e1 H0
  obtain ⟨_, _, ⟨T4, L4, k4, n4⟩, -, X4, ⟨Lc4, hQ4, l4, y4, z4⟩, st4⟩ := X1.virtualBack hx (y := (⟨"java/lang/String", "length", "()I"⟩ : MethodName)) (z := (⟨"java/lang/String", "length", "()I"⟩ : MethodName)) hown (mvT hZ (hw _ (List.mem_of_getElem? (i := 76) rfl))) (mvT hZ (hw _ (List.mem_of_getElem? (i := 77) rfl))) (notFace_of_selects (args := #[]) (mvT hZ (hw _ (List.mem_of_getElem? (i := 79) rfl)))) (mvT hZ (hw _ (List.mem_of_getElem? (i := 79) rfl))) (mvT hZ (hw _ (List.mem_of_getElem? (i := 78) rfl))) (by decide) (backOf (W := 1) (own_len3 l Z a0 hw [] a b kb x0 x1 x2 cs h0 n0 Z0 S old hcs H0 H1 H2 B) hZ (hw _ (List.mem_of_getElem? (i := 80) rfl)) (hw _ (List.mem_of_getElem? (i := 3) rfl)) (by decide) (by decide)) q4a q4c (g := (mkF m 5 #[.val (.ref a)] [(.ref a), (.int r_2)])) rfl (by rw [hml]; rfl) (Steps.refl _) (argsL := []) (rest := [(.int r_2)]) (lenOf own_pd10 rfl) rfl (by show 2 * 0 + _ ≤ _; exact Nat.le_of_eq rfl) (hb hby own_d9_5) (fun _ _ => ⟨rfl, e1, (by decide : 0 + 0 ≤ _), (by decide : 0 + 0 ≤ _)⟩)
  dsimp only [Pt.U, Pt.locs, Pt.cells, Pt.slots] at X4 l4 y4 z4 st4 hQ4
  subst l4 y4 z4
  obtain ⟨rfl, N4q, e4⟩ := hQ4
  have N4 := Fr.app N1 N4q
  refine OwnGo.back (T4.setTop (mkF m 8 #[.val (.ref a)] [(.int (3 : Int32)), (.int r_2)])) (fun tg kk => st4.trans kk) ?_
  refine OwnGo.back (T4.setTop (mkF m 15 #[.val (.ref a)] [])) (fun tg kk => XS.icmpYes X4.here hx rfl (pc0 := 8) (pc' := 15) rfl (hb hby own_d9_8) rfl (feq (by (simp only [true_and, and_true, false_and, and_false, or_false, false_or, or_true, true_or, not_true_eq_false, not_false_eq_true, eq_self, Int32.lt_iff_toInt_lt, Int32.le_iff_toInt_le, ← Int32.toInt_inj, Int32.reduceToInt, Int64.lt_iff_toInt_lt, Int64.le_iff_toInt_le, ← Int64.toInt_inj, Int64.reduceToInt] at hl0 hu0 hl1 hu1 hl2 hu2 nw hcs po3 ⊢) <;> omega : ¬ (r_2 = (3 : Int32)))).2 (by decide) (by decide) kk) ?_
  refine OwnGo.back (T4.setTop (mkF m 16 #[.val (.ref a)] [(.int (0 : Int32))])) (fun tg kk => XS.iconst X4.here hx rfl (hb hby own_d9_15) kk) ?_
  obtain ⟨fs, hr, hrun, hended, hW, hsame⟩ := X4.leave (v := some (.int (0 : Int32))) (fun h => by rw [Bd.returns] at h; cases h)
  refine ⟨_, _, ?_, hrun, hended, _, _, rfl, ?_, ⟨_, rfl⟩, hW, hsame.mono (by decide) (by decide)⟩
  · exact retN X4 hx (t := .boolean) Bd.returns (by simp) (hb hby own_d9_16) hr
  · show own_bl3_Q Z a b kb x0 x1 x2 aA oi cs h0 n0 _ T4.heap _
    rw [e4]
    exact ⟨rfl, N4, rfl⟩
theorem own_cn3_ef (m : MethodId) (x0 : Addr) : entryFrame m #[(.ref x0)] 1 = mkF m 0 #[.val (.ref x0)] [] := by first | (simp [entryFrame, mkF, argsToLocals, Value.category]; done) | rfl
def own_cn3_Q (Z : State) (a : Addr) (b : Addr) (kb : ClassId) (x0 : Int32) (x1 : Int32) (x2 : Int32) (aA : Addr) (oi : Addr) (cs : Int32) (h0 : Heap) (n0 : Nat) (rv : Option Value) (hN : Heap) (LL : List Loc) : Prop := rv = some (.ref a) ∧ Fr n0 LL ∧ hN = h0
set_option maxRecDepth 65536 in
set_option maxHeartbeats 40000000 in
theorem own_cn3 (l : Launch) (Z : State) (a0 : Array Value) (hw : ∀ d ∈ tables_1, d.before a0 Z = true) (ws : List Jvm.Cond) (a : Addr) (b : Addr) (kb : ClassId) (x0 : Int32) (x1 : Int32) (x2 : Int32) (aA : Addr) (oi : Addr) (cs : Int32) (h0 : Heap) (n0 : Nat) (Z0 : n0 ≤ h0.size) (hl0 : ¬ x0 < (0 : Int32)) (hu0 : ¬ (255 : Int32) < x0) (hl1 : ¬ x1 < (0 : Int32)) (hu1 : ¬ (255 : Int32) < x1) (hl2 : ¬ x2 < (0 : Int32)) (hu2 : ¬ (255 : Int32) < x2) (SA : Sta Z Z.heap "java/lang/CharacterDataLatin1" "A" "[I" (.ref aA)) (old : Old Z n0 h0) (hA : own_A Z aA) (SN : Sta Z Z.heap "java/lang/CharacterDataLatin1" "instance" "Ljava/lang/CharacterDataLatin1;" (.ref oi)) (Xi : Exa Z h0 oi "java/lang/CharacterDataLatin1") (nw : ¬ (((x0 = (32 : Int32)) ∨ (¬ x0 < (9 : Int32) ∧ ¬ (13 : Int32) < x0) ∨ (¬ x0 < (28 : Int32) ∧ ¬ (31 : Int32) < x0)) ∧ ((x1 = (32 : Int32)) ∨ (¬ x1 < (9 : Int32) ∧ ¬ (13 : Int32) < x1) ∨ (¬ x1 < (28 : Int32) ∧ ¬ (31 : Int32) < x1)) ∧ ((x2 = (32 : Int32)) ∨ (¬ x2 < (9 : Int32) ∧ ¬ (13 : Int32) < x2) ∨ (¬ x2 < (28 : Int32) ∧ ¬ (31 : Int32) < x2)))) (S : Sta Z Z.heap "java/lang/String" "COMPACT_STRINGS" "Z" (.int cs)) (hcs : ¬ cs = 0) (H0 : Exa Z h0 a "java/lang/String") (H1 : Fld Z h0 a "java/lang/String" "value" "[B" (.ref b)) (H2 : Fld Z h0 a "java/lang/String" "coder" "B" (.int (0 : Int32))) (B : Arv Z h0 b kb .byte (3 : Int32) [(.int (nar .byte (x0.toInt8.toInt32))), (.int (nar .byte (x1.toInt8.toInt32))), (.int (nar .byte (x2.toInt8.toInt32)))] (.int (0 : Int32))) :
    MetFree l (⟨"com/example/penelope/penelope/RollbackRules", "checkedName", "(Ljava/lang/String;)Ljava/lang/String;"⟩ : MethodName) (head1 (Jvm.Cond.code (⟨"com/example/penelope/penelope/RollbackRules", "checkedName", "(Ljava/lang/String;)Ljava/lang/String;"⟩ : MethodName) prog_16_method_3_code 1 (some (.object "java/lang/String")) :: ws) ({ frames := 5, cells := 0, slots := 0, locals := 68 } : Room)) (fun aa UU => aa = #[(.ref a)] ∧ Z.Warmed39 UU.vm ∧ UU.heap = h0) (fun _ _ _ _ _ => True) (fun _ UU oo UU' => ∃ rv LL, oo = .returned rv ∧ own_cn3_Q Z a b kb x0 x1 x2 aA oi cs h0 n0 rv UU'.heap LL ∧ FrameEnd UU oo UU' LL ({ frames := 5, cells := 0, slots := 0, locals := 68 } : Room).cells ({ frames := 5, cells := 0, slots := 0, locals := 68 } : Room).slots) := by
  refine MetFree.of_bodySF (plainFor_of_name own_pn5) hisR ?_
  intro p e s m args below meth c s₁ Bd hml0 hP hK
  obtain ⟨rfl, hZ, hh⟩ := hP
  have hx := Bd.exec
  have hby := Bd.bytes
  have hml : c.maxLocals = 1 := hml0
  have hown : s.vm.findClass "com/example/penelope/penelope/RollbackRules" = some m.cls := findClass_of_methodNamed Bd.named
  have hnm := (name_of_methodNamed Bd.named Bd.method).1
  have X0 : Stand p l e ({ frames := 5, cells := 0, slots := 0, locals := 68 } : Room) s m #[(.ref a)] below meth c s₁ [] 0 0 := Stand.of_body Bd
  have e0 : s₁.heap = h0 := by rw [← hh, Bd.state]; rfl
  have N0 := Fr.nil n0
  have K0 : Keep h0 h0 [] := Keep.refl h0 _
  refine (?_ : OwnGo p.tables e below (fun UU' oo => ∃ rv LL, oo = .returned rv ∧ own_cn3_Q Z a b kb x0 x1 x2 aA oi cs h0 n0 rv UU'.heap LL ∧ FrameEnd s oo UU' LL ({ frames := 5, cells := 0, slots := 0, locals := 68 } : Room).cells ({ frames := 5, cells := 0, slots := 0, locals := 68 } : Room).slots) _)
  refine OwnGo.back (s₁.setTop (mkF m 0 #[.val (.ref a)] [])) (fun tg kk => castTop (own_cn3_ef m a) kk) ?_
  refine OwnGo.back (s₁.setTop (mkF m 1 #[.val (.ref a)] [(.ref a)])) (fun tg kk => XS.aloadN X0.here hx rfl (hb hby own_d8_0) rfl rfl kk) ?_
  obtain ⟨cq1, kq1, q1a, q1b, q1c⟩ := isOf hZ e0 H0
  obtain ⟨_, _, ⟨T1, L1, k1, n1⟩, -, X1, ⟨Lc1, hQ1, l1, y1, z1⟩, st1⟩ := X0.virtualBack hx (y := (⟨"java/lang/String", "isBlank", "()Z"⟩ : MethodName)) (z := (⟨"java/lang/String", "isBlank", "()Z"⟩ : MethodName)) hown (mvT hZ (hw _ (List.mem_of_getElem? (i := 41) rfl))) (mvT hZ (hw _ (List.mem_of_getElem? (i := 42) rfl))) (notFace_of_selects (args := #[]) (mvT hZ (hw _ (List.mem_of_getElem? (i := 44) rfl)))) (mvT hZ (hw _ (List.mem_of_getElem? (i := 44) rfl))) (mvT hZ (hw _ (List.mem_of_getElem? (i := 43) rfl))) (by decide) (backOf (W := 0) (own_bl3 l Z a0 hw [] a b kb x0 x1 x2 aA oi cs h0 n0 Z0 hl0 hu0 hl1 hu1 hl2 hu2 SA old hA SN Xi nw S hcs H0 H1 H2 B) hZ (hw _ (List.mem_of_getElem? (i := 45) rfl)) (hw _ (List.mem_of_getElem? (i := 3) rfl)) (by decide) (by decide)) q1a q1c (g := (mkF m 1 #[.val (.ref a)] [(.ref a)])) rfl (by rw [hml]; rfl) (Steps.refl _) (argsL := []) (rest := []) (lenOf own_pd7 rfl) rfl (by show 2 * 0 + _ ≤ _; exact Nat.le_of_eq rfl) (hb hby own_d8_1) (fun _ _ => ⟨rfl, e0, (by decide : 0 + 0 ≤ _), (by decide : 0 + 0 ≤ _)⟩)
  dsimp only [Pt.U, Pt.locs, Pt.cells, Pt.slots] at X1 l1 y1 z1 st1 hQ1
  subst l1 y1 z1
  obtain ⟨rfl, N1q, e1⟩ := hQ1
  have N1 := Fr.app N0 N1q
  refine OwnGo.back (T1.setTop (mkF m 4 #[.val (.ref a)] [(.int (0 : Int32))])) (fun tg kk => st1.trans kk) ?_
  refine OwnGo.back (T1.setTop (mkF m 17 #[.val (.ref a)] [])) (fun tg kk => XS.ifYes X1.here hx rfl (pc0 := 4) (pc' := 17) rfl (hb hby own_d8_4) rfl ((if0 _ _).trans (teq (by decide : (0 : Int32) = (0 : Int32))).1) (by decide) (by decide) kk) ?_
  refine OwnGo.back (T1.setTop (mkF m 18 #[.val (.ref a)] [(.ref a)])) (fun tg kk => XS.aloadN X1.here hx rfl (hb hby own_d8_17) rfl rfl kk) ?_
  obtain ⟨fs, hr, hrun, hended, hW, hsame⟩ := X1.leave (v := some (.ref a)) (fun h => by rw [Bd.returns] at h; cases h)
  refine ⟨_, _, ?_, hrun, hended, _, _, rfl, ?_, ⟨_, rfl⟩, hW, hsame.mono (by decide) (by decide)⟩
  · exact own_retA X1 hx Bd.returns rfl rfl rfl (hb hby own_d8_18) hr
  · show own_cn3_Q Z a b kb x0 x1 x2 aA oi cs h0 n0 _ T1.heap _
    rw [e1]
    exact ⟨rfl, N1, rfl⟩
theorem own_law_ef (m : MethodId) (x0 : Int32) (x1 : Int32) (x2 : Int32) (x3 : Int32) : entryFrame m #[(.int x0), (.int x1), (.int x2), (.int x3)] maxLocals = mkF m 0 #[.val (.int x0), .val (.int x1), .val (.int x2), .val (.int x3), .unset, .unset, .unset, .unset, .unset, .unset, .unset, .unset] [] := by first | (simp [entryFrame, mkF, argsToLocals, Value.category, maxLocals]; done) | rfl
def own_law_Q (Z : State) (p1 : Int32) (p2 : Int32) (p3 : Int32) (p4 : Int32) (cs : Int32) (aA : Addr) (oi : Addr) (h0 : Heap) (n0 : Nat) (rv : Option Value) (hN : Heap) (LL : List Loc) : Prop := rv = some (.int (1 : Int32)) ∧ Fr n0 LL ∧ Keep h0 hN []
set_option maxRecDepth 65536 in
set_option maxHeartbeats 40000000 in
theorem own_law (l : Launch) (Z : State) (a0 : Array Value) (hw : ∀ d ∈ tables_1, d.before a0 Z = true) (ws : List Jvm.Cond) (p1 : Int32) (p2 : Int32) (p3 : Int32) (p4 : Int32) (cs : Int32) (aA : Addr) (oi : Addr) (h0 : Heap) (n0 : Nat) (Z0 : n0 ≤ h0.size) (S : Sta Z Z.heap "java/lang/String" "COMPACT_STRINGS" "Z" (.int cs)) (old : Old Z n0 h0) (hcs : ¬ cs = 0) (SA : Sta Z Z.heap "java/lang/CharacterDataLatin1" "A" "[I" (.ref aA)) (hA : own_A Z aA) (SN : Sta Z Z.heap "java/lang/CharacterDataLatin1" "instance" "Ljava/lang/CharacterDataLatin1;" (.ref oi)) (Xi : Exa Z h0 oi "java/lang/CharacterDataLatin1") :
    MetFree l x (head1 (Jvm.Cond.code x code maxLocals ret :: ws) room_1) (fun aa UU => aa = #[(.int p1), (.int p2), (.int p3), (.int p4)] ∧ Z.Warmed39 UU.vm ∧ UU.heap = h0 ∧ CHv Z own_EL UU.vm h0) (fun _ _ _ _ _ => True) (fun _ UU oo UU' => ∃ rv LL, oo = .returned rv ∧ own_law_Q Z p1 p2 p3 p4 cs aA oi h0 n0 rv UU'.heap LL ∧ ReturnedEndW UU oo UU' LL room_1.cells room_1.slots) := by
  refine MetFree.of_bodySF (plainFor_of_name own_pn2) hisR ?_
  intro p e s m args below meth c s₁ Bd hml0 hP hK
  obtain ⟨rfl, hZ, hh, hC⟩ := hP
  have R0 := CHr.refl hC
  have hx := Bd.exec
  have hby := Bd.bytes
  have hml : c.maxLocals = 12 := hml0
  have hown : s.vm.findClass "com/example/penelope/penelope/RollbackRulesCheckedNamePinLaw" = some m.cls := findClass_of_methodNamed Bd.named
  have hnm := (name_of_methodNamed Bd.named Bd.method).1
  have hS : s.Since s.vm 0 := State.WarmedH.since (State.WarmedH.refl s) 0
  have hk0 : 0 ≤ h0.size := Nat.zero_le _
  have hZ : Z.Warmed39 (s.setVm s.vm).vm := hZ
  have hown : (s.setVm s.vm).vm.findClass "com/example/penelope/penelope/RollbackRulesCheckedNamePinLaw" = some m.cls := hown
  have X0 : Stand p l e room_1 (s.setVm s.vm) m #[(.int p1), (.int p2), (.int p3), (.int p4)] below meth c s₁ [] 0 0 := Stand.of_body Bd
  have e0 : s₁.heap = h0 := by rw [← hh, Bd.state]; rfl
  have N0 := Fr.nil n0
  have K0 : Keep h0 h0 [] := Keep.refl h0 _
  refine (?_ : OwnGo p.tables e below (fun UU' oo => ∃ rv LL, oo = .returned rv ∧ own_law_Q Z p1 p2 p3 p4 cs aA oi h0 n0 rv UU'.heap LL ∧ ReturnedEndW s oo UU' LL room_1.cells room_1.slots) _)
  refine OwnGo.back (s₁.setTop (mkF m 0 #[.val (.int p1), .val (.int p2), .val (.int p3), .val (.int p4), .unset, .unset, .unset, .unset, .unset, .unset, .unset, .unset] [])) (fun tg kk => castTop (own_law_ef m p1 p2 p3 p4) kk) ?_
  refine OwnGo.back (s₁.setTop (mkF m 1 #[.val (.int p1), .val (.int p2), .val (.int p3), .val (.int p4), .unset, .unset, .unset, .unset, .unset, .unset, .unset, .unset] [(.int p1)])) (fun tg kk => XS.iloadN X0.here hx rfl (hb hby at_0) rfl kk) ?_
  refine OwnGo.back (s₁.setTop (mkF m 2 #[.val (.int p1), .val (.int p2), .val (.int p3), .val (.int p4), .unset, .unset, .unset, .unset, .unset, .unset, .unset, .unset] [(.int (3 : Int32)), (.int p1)])) (fun tg kk => XS.iconst X0.here hx rfl (hb hby at_1) kk) ?_
  refine OwnGo.back (s₁.setTop (mkF m 3 #[.val (.int p1), .val (.int p2), .val (.int p3), .val (.int p4), .unset, .unset, .unset, .unset, .unset, .unset, .unset, .unset] [(.int (p1 &&& (3 : Int32)))])) (fun tg kk => XS.iand X0.here hx rfl (hb hby at_2) rfl kk) ?_
  refine OwnGo.back (s₁.setTop (mkF m 5 #[.val (.int p1), .val (.int p2), .val (.int p3), .val (.int p4), .val (.int (p1 &&& (3 : Int32))), .unset, .unset, .unset, .unset, .unset, .unset, .unset] [])) (fun tg kk => XS.istore X0.here hx rfl (hb hby at_3) rfl (l' := #[.val (.int p1), .val (.int p2), .val (.int p3), .val (.int p4), .val (.int (p1 &&& (3 : Int32))), .unset, .unset, .unset, .unset, .unset, .unset, .unset]) rfl kk) ?_
  refine OwnGo.back (s₁.setTop (mkF m 6 #[.val (.int p1), .val (.int p2), .val (.int p3), .val (.int p4), .val (.int (p1 &&& (3 : Int32))), .unset, .unset, .unset, .unset, .unset, .unset, .unset] [(.int p2)])) (fun tg kk => XS.iloadN X0.here hx rfl (hb hby at_5) rfl kk) ?_
  refine OwnGo.back (s₁.setTop (mkF m 9 #[.val (.int p1), .val (.int p2), .val (.int p3), .val (.int p4), .val (.int (p1 &&& (3 : Int32))), .unset, .unset, .unset, .unset, .unset, .unset, .unset] [(.int (255 : Int32)), (.int p2)])) (fun tg kk => XS.sipush X0.here hx rfl (hb hby at_6) kk) ?_
  refine OwnGo.back (s₁.setTop (mkF m 10 #[.val (.int p1), .val (.int p2), .val (.int p3), .val (.int p4), .val (.int (p1 &&& (3 : Int32))), .unset, .unset, .unset, .unset, .unset, .unset, .unset] [(.int (p2 &&& (255 : Int32)))])) (fun tg kk => XS.iand X0.here hx rfl (hb hby at_9) rfl kk) ?_
  refine OwnGo.back (s₁.setTop (mkF m 11 #[.val (.int p1), .val (.int p2), .val (.int p3), .val (.int p4), .val (.int (p1 &&& (3 : Int32))), .unset, .unset, .unset, .unset, .unset, .unset, .unset] [(.int ((p2 &&& (255 : Int32)).toUInt32.toUInt16.toUInt32.toInt32))])) (fun tg kk => XS.i2c X0.here hx rfl (hb hby at_10) rfl kk) ?_
  refine OwnGo.back (s₁.setTop (mkF m 13 #[.val (.int p1), .val (.int p2), .val (.int p3), .val (.int p4), .val (.int (p1 &&& (3 : Int32))), .val (.int ((p2 &&& (255 : Int32)).toUInt32.toUInt16.toUInt32.toInt32)), .unset, .unset, .unset, .unset, .unset, .unset] [])) (fun tg kk => XS.istore X0.here hx rfl (hb hby at_11) rfl (l' := #[.val (.int p1), .val (.int p2), .val (.int p3), .val (.int p4), .val (.int (p1 &&& (3 : Int32))), .val (.int ((p2 &&& (255 : Int32)).toUInt32.toUInt16.toUInt32.toInt32)), .unset, .unset, .unset, .unset, .unset, .unset]) rfl kk) ?_
  refine OwnGo.back (s₁.setTop (mkF m 14 #[.val (.int p1), .val (.int p2), .val (.int p3), .val (.int p4), .val (.int (p1 &&& (3 : Int32))), .val (.int ((p2 &&& (255 : Int32)).toUInt32.toUInt16.toUInt32.toInt32)), .unset, .unset, .unset, .unset, .unset, .unset] [(.int p3)])) (fun tg kk => XS.iloadN X0.here hx rfl (hb hby at_13) rfl kk) ?_
  refine OwnGo.back (s₁.setTop (mkF m 17 #[.val (.int p1), .val (.int p2), .val (.int p3), .val (.int p4), .val (.int (p1 &&& (3 : Int32))), .val (.int ((p2 &&& (255 : Int32)).toUInt32.toUInt16.toUInt32.toInt32)), .unset, .unset, .unset, .unset, .unset, .unset] [(.int (255 : Int32)), (.int p3)])) (fun tg kk => XS.sipush X0.here hx rfl (hb hby at_14) kk) ?_
  refine OwnGo.back (s₁.setTop (mkF m 18 #[.val (.int p1), .val (.int p2), .val (.int p3), .val (.int p4), .val (.int (p1 &&& (3 : Int32))), .val (.int ((p2 &&& (255 : Int32)).toUInt32.toUInt16.toUInt32.toInt32)), .unset, .unset, .unset, .unset, .unset, .unset] [(.int (p3 &&& (255 : Int32)))])) (fun tg kk => XS.iand X0.here hx rfl (hb hby at_17) rfl kk) ?_
  refine OwnGo.back (s₁.setTop (mkF m 19 #[.val (.int p1), .val (.int p2), .val (.int p3), .val (.int p4), .val (.int (p1 &&& (3 : Int32))), .val (.int ((p2 &&& (255 : Int32)).toUInt32.toUInt16.toUInt32.toInt32)), .unset, .unset, .unset, .unset, .unset, .unset] [(.int ((p3 &&& (255 : Int32)).toUInt32.toUInt16.toUInt32.toInt32))])) (fun tg kk => XS.i2c X0.here hx rfl (hb hby at_18) rfl kk) ?_
  refine OwnGo.back (s₁.setTop (mkF m 21 #[.val (.int p1), .val (.int p2), .val (.int p3), .val (.int p4), .val (.int (p1 &&& (3 : Int32))), .val (.int ((p2 &&& (255 : Int32)).toUInt32.toUInt16.toUInt32.toInt32)), .val (.int ((p3 &&& (255 : Int32)).toUInt32.toUInt16.toUInt32.toInt32)), .unset, .unset, .unset, .unset, .unset] [])) (fun tg kk => XS.istore X0.here hx rfl (hb hby at_19) rfl (l' := #[.val (.int p1), .val (.int p2), .val (.int p3), .val (.int p4), .val (.int (p1 &&& (3 : Int32))), .val (.int ((p2 &&& (255 : Int32)).toUInt32.toUInt16.toUInt32.toInt32)), .val (.int ((p3 &&& (255 : Int32)).toUInt32.toUInt16.toUInt32.toInt32)), .unset, .unset, .unset, .unset, .unset]) rfl kk) ?_
  refine OwnGo.back (s₁.setTop (mkF m 22 #[.val (.int p1), .val (.int p2), .val (.int p3), .val (.int p4), .val (.int (p1 &&& (3 : Int32))), .val (.int ((p2 &&& (255 : Int32)).toUInt32.toUInt16.toUInt32.toInt32)), .val (.int ((p3 &&& (255 : Int32)).toUInt32.toUInt16.toUInt32.toInt32)), .unset, .unset, .unset, .unset, .unset] [(.int p4)])) (fun tg kk => XS.iloadN X0.here hx rfl (hb hby at_21) rfl kk) ?_
  refine OwnGo.back (s₁.setTop (mkF m 25 #[.val (.int p1), .val (.int p2), .val (.int p3), .val (.int p4), .val (.int (p1 &&& (3 : Int32))), .val (.int ((p2 &&& (255 : Int32)).toUInt32.toUInt16.toUInt32.toInt32)), .val (.int ((p3 &&& (255 : Int32)).toUInt32.toUInt16.toUInt32.toInt32)), .unset, .unset, .unset, .unset, .unset] [(.int (255 : Int32)), (.int p4)])) (fun tg kk => XS.sipush X0.here hx rfl (hb hby at_22) kk) ?_
  refine OwnGo.back (s₁.setTop (mkF m 26 #[.val (.int p1), .val (.int p2), .val (.int p3), .val (.int p4), .val (.int (p1 &&& (3 : Int32))), .val (.int ((p2 &&& (255 : Int32)).toUInt32.toUInt16.toUInt32.toInt32)), .val (.int ((p3 &&& (255 : Int32)).toUInt32.toUInt16.toUInt32.toInt32)), .unset, .unset, .unset, .unset, .unset] [(.int (p4 &&& (255 : Int32)))])) (fun tg kk => XS.iand X0.here hx rfl (hb hby at_25) rfl kk) ?_
  refine OwnGo.back (s₁.setTop (mkF m 27 #[.val (.int p1), .val (.int p2), .val (.int p3), .val (.int p4), .val (.int (p1 &&& (3 : Int32))), .val (.int ((p2 &&& (255 : Int32)).toUInt32.toUInt16.toUInt32.toInt32)), .val (.int ((p3 &&& (255 : Int32)).toUInt32.toUInt16.toUInt32.toInt32)), .unset, .unset, .unset, .unset, .unset] [(.int ((p4 &&& (255 : Int32)).toUInt32.toUInt16.toUInt32.toInt32))])) (fun tg kk => XS.i2c X0.here hx rfl (hb hby at_26) rfl kk) ?_
  refine OwnGo.back (s₁.setTop (mkF m 29 #[.val (.int p1), .val (.int p2), .val (.int p3), .val (.int p4), .val (.int (p1 &&& (3 : Int32))), .val (.int ((p2 &&& (255 : Int32)).toUInt32.toUInt16.toUInt32.toInt32)), .val (.int ((p3 &&& (255 : Int32)).toUInt32.toUInt16.toUInt32.toInt32)), .val (.int ((p4 &&& (255 : Int32)).toUInt32.toUInt16.toUInt32.toInt32)), .unset, .unset, .unset, .unset] [])) (fun tg kk => XS.istore X0.here hx rfl (hb hby at_27) rfl (l' := #[.val (.int p1), .val (.int p2), .val (.int p3), .val (.int p4), .val (.int (p1 &&& (3 : Int32))), .val (.int ((p2 &&& (255 : Int32)).toUInt32.toUInt16.toUInt32.toInt32)), .val (.int ((p3 &&& (255 : Int32)).toUInt32.toUInt16.toUInt32.toInt32)), .val (.int ((p4 &&& (255 : Int32)).toUInt32.toUInt16.toUInt32.toInt32)), .unset, .unset, .unset, .unset]) rfl kk) ?_
  obtain ⟨x0, ex0⟩ : ∃ z, z = ((p2 &&& (255 : Int32)).toUInt32.toUInt16.toUInt32.toInt32) := ⟨_, rfl⟩
  have hl0 : ¬ x0 < (0 : Int32) := by rw [ex0]; exact (own_ch p2).1
  have hu0 : ¬ (255 : Int32) < x0 := by rw [ex0]; exact (own_ch p2).2
  rw [← ex0]
  obtain ⟨x1, ex1⟩ : ∃ z, z = ((p3 &&& (255 : Int32)).toUInt32.toUInt16.toUInt32.toInt32) := ⟨_, rfl⟩
  have hl1 : ¬ x1 < (0 : Int32) := by rw [ex1]; exact (own_ch p3).1
  have hu1 : ¬ (255 : Int32) < x1 := by rw [ex1]; exact (own_ch p3).2
  rw [← ex1]
  obtain ⟨x2, ex2⟩ : ∃ z, z = ((p4 &&& (255 : Int32)).toUInt32.toUInt16.toUInt32.toInt32) := ⟨_, rfl⟩
  have hl2 : ¬ x2 < (0 : Int32) := by rw [ex2]; exact (own_ch p4).1
  have hu2 : ¬ (255 : Int32) < x2 := by rw [ex2]; exact (own_ch p4).2
  rw [← ex2]
  rcases own_and3 p1 with hk | hk | hk | hk
  ·
    rw [hk]
    refine OwnGo.back (s₁.setTop (mkF m 31 #[.val (.int p1), .val (.int p2), .val (.int p3), .val (.int p4), .val (.int (0 : Int32)), .val (.int x0), .val (.int x1), .val (.int x2), .unset, .unset, .unset, .unset] [(.int (0 : Int32))])) (fun tg kk => XS.iload X0.here hx rfl (hb hby at_29) rfl kk) ?_
    refine OwnGo.back (s₁.setTop (mkF m 34 #[.val (.int p1), .val (.int p2), .val (.int p3), .val (.int p4), .val (.int (0 : Int32)), .val (.int x0), .val (.int x1), .val (.int x2), .unset, .unset, .unset, .unset] [])) (fun tg kk => XS.ifNo X0.here hx rfl (hb hby at_31) rfl ((if0 _ _).trans (teq (by decide : (0 : Int32) = (0 : Int32))).2) kk) ?_
    refine OwnGo.back (s₁.setTop (mkF m 35 #[.val (.int p1), .val (.int p2), .val (.int p3), .val (.int p4), .val (.int (0 : Int32)), .val (.int x0), .val (.int x1), .val (.int x2), .unset, .unset, .unset, .unset] [(.int (0 : Int32))])) (fun tg kk => XS.iconst X0.here hx rfl (hb hby at_34) kk) ?_
    obtain ⟨T1, h1, k1, X1, e1, E1, A1, st1⟩ := newP X0 hx hZ (hw _ (List.mem_of_getElem? (i := 0) rfl)) e0 (g := (mkF m 35 #[.val (.int p1), .val (.int p2), .val (.int p3), .val (.int p4), .val (.int (0 : Int32)), .val (.int x0), .val (.int x1), .val (.int x2), .unset, .unset, .unset, .unset] [(.int (0 : Int32))])) rfl (hb hby at_35) rfl (by decide) (cap := 0) (by decide) (by decide) (by decide) (by decide)
    obtain ⟨b1, q1⟩ : ∃ z, z = h0.size := ⟨_, rfl⟩
    rw [← q1] at A1 st1
    have g2 : n0 ≤ b1 := Nat.le_trans Z0 (Nat.le_of_eq q1.symm)
    have s3 : h0.size ≤ b1 := Nat.le_trans K0.1 (Nat.le_of_eq q1.symm)
    have f4 : Old Z n0 h1 := old.ext E1
    have f5 : Exa Z h1 oi "java/lang/CharacterDataLatin1" := Xi.ext E1
    have K6 : Keep h0 h1 [] := K0.ext E1
    have Z7 : n0 ≤ h1.size := Nat.le_trans Z0 E1.1
    have R8 := CHr.trans R0 (CHr.ext E1 R0.1)
    have f9 : Arv Z h1 b1 k1 .char (0 : Int32) [] (.int (0 : Int32)) := (Arv.new A1 (by decide)).pad (pad_rep [] (.int (0 : Int32)) 0)
    clear old Xi R0
    refine OwnGo.back (T1.setTop (mkF m 37 #[.val (.int p1), .val (.int p2), .val (.int p3), .val (.int p4), .val (.int (0 : Int32)), .val (.int x0), .val (.int x1), .val (.int x2), .unset, .unset, .unset, .unset] [(.ref b1)])) (fun tg kk => st1 _ kk) ?_
    refine OwnGo.back (T1.setTop (mkF m 39 #[.val (.int p1), .val (.int p2), .val (.int p3), .val (.int p4), .val (.int (0 : Int32)), .val (.int x0), .val (.int x1), .val (.int x2), .val (.ref b1), .unset, .unset, .unset] [])) (fun tg kk => XS.astore X1.here hx rfl (hb hby at_37) rfl rfl (l' := #[.val (.int p1), .val (.int p2), .val (.int p3), .val (.int p4), .val (.int (0 : Int32)), .val (.int x0), .val (.int x1), .val (.int x2), .val (.ref b1), .unset, .unset, .unset]) rfl kk) ?_
    refine OwnGo.back (T1.setTop (mkF m 105 #[.val (.int p1), .val (.int p2), .val (.int p3), .val (.int p4), .val (.int (0 : Int32)), .val (.int x0), .val (.int x1), .val (.int x2), .val (.ref b1), .unset, .unset, .unset] [])) (fun tg kk => XS.goto X1.here hx rfl (pc0 := 39) (pc' := 105) rfl (hb hby at_39) (by decide) (by decide) kk) ?_
    obtain ⟨T10, h10, X10, e10, E10, A10, D10, -, st10⟩ := newO X1 hx hZ hown (hw _ (List.mem_of_getElem? (i := 1) rfl)) (hw _ (List.mem_of_getElem? (i := 2) rfl)) (hw _ (List.mem_of_getElem? (i := 3) rfl)) e1 (g := (mkF m 105 #[.val (.int p1), .val (.int p2), .val (.int p3), .val (.int p4), .val (.int (0 : Int32)), .val (.int x0), .val (.int x1), .val (.int x2), .val (.ref b1), .unset, .unset, .unset] [])) rfl (hb hby at_105) (by decide) (by decide)
    obtain ⟨b10, q10⟩ : ∃ z, z = h1.size := ⟨_, rfl⟩
    rw [← q10] at A10 D10 st10
    have n11 : b1 ≠ b10 := own_ne f9.lt q10
    have g12 : n0 ≤ b10 := Nat.le_trans Z7 (Nat.le_of_eq q10.symm)
    have s13 : h0.size ≤ b10 := Nat.le_trans K6.1 (Nat.le_of_eq q10.symm)
    have sf14 : Safe Z own_EL s.vm h1 b10 := Safe.new (Nat.le_of_eq q10.symm)
    have f15 : Old Z n0 h10 := f4.ext E10
    have f16 : Exa Z h10 oi "java/lang/CharacterDataLatin1" := f5.ext E10
    have f17 : Arv Z h10 b1 k1 .char (0 : Int32) [] (.int (0 : Int32)) := f9.ext E10
    have K18 : Keep h0 h10 [] := K6.ext E10
    have Z19 : n0 ≤ h10.size := Nat.le_trans Z7 E10.1
    have sf20 := Safe.ext E10 R8.1 sf14
    have R21 := CHr.trans R8 (CHr.ext E10 R8.1)
    have f22 : Fld Z h10 b10 "java/lang/String" "value" "[B" .null := D10 (Or.inr (hw _ (List.mem_of_getElem? (i := 16) rfl))) (ty := (.array .byte)) (by decide)
    have f23 : Fld Z h10 b10 "java/lang/String" "coder" "B" (.int (0 : Int32)) := D10 (Or.inr (hw _ (List.mem_of_getElem? (i := 17) rfl))) (ty := .byte) (by decide)
    clear f4 f5 f9 R8
    refine OwnGo.back (T10.setTop (mkF m 108 #[.val (.int p1), .val (.int p2), .val (.int p3), .val (.int p4), .val (.int (0 : Int32)), .val (.int x0), .val (.int x1), .val (.int x2), .val (.ref b1), .unset, .unset, .unset] [(.ref b10)])) (fun tg kk => st10 _ kk) ?_
    refine OwnGo.back (T10.setTop (mkF m 109 #[.val (.int p1), .val (.int p2), .val (.int p3), .val (.int p4), .val (.int (0 : Int32)), .val (.int x0), .val (.int x1), .val (.int x2), .val (.ref b1), .unset, .unset, .unset] [(.ref b10), (.ref b10)])) (fun tg kk => XS.dup X10.here hx rfl (hb hby at_108) rfl rfl kk) ?_
    refine OwnGo.back (T10.setTop (mkF m 111 #[.val (.int p1), .val (.int p2), .val (.int p3), .val (.int p4), .val (.int (0 : Int32)), .val (.int x0), .val (.int x1), .val (.int x2), .val (.ref b1), .unset, .unset, .unset] [(.ref b1), (.ref b10), (.ref b10)])) (fun tg kk => XS.aload X10.here hx rfl (hb hby at_109) rfl rfl kk) ?_
    obtain ⟨_, _, ⟨T24, L24, k24, n24⟩, -, X24, hs24, hg24, ⟨Lc24, hQ24, l24, y24, z24, cr24⟩, st24⟩ := X10.specialBackS hx (y := (⟨"java/lang/String", "<init>", "([C)V"⟩ : MethodName)) rfl hown (mvT hZ (hw _ (List.mem_of_getElem? (i := 4) rfl))) (mvT hZ (hw _ (List.mem_of_getElem? (i := 5) rfl))) (mvT hZ (hw _ (List.mem_of_getElem? (i := 6) rfl))) (by decide) (backOfSH (W := 1) (own_i1_0 l Z a0 hw [] b10 b1 k1 h10 n0 Z19 f17 A10 f22 f23 g12 (Ne.symm n11)) hZ (hw _ (List.mem_of_getElem? (i := 6) rfl)) (hw _ (List.mem_of_getElem? (i := 3) rfl)) (by decide) (by decide) (own_EW hw) R21.1) (g := (mkF m 111 #[.val (.int p1), .val (.int p2), .val (.int p3), .val (.int p4), .val (.int (0 : Int32)), .val (.int x0), .val (.int x1), .val (.int x2), .val (.ref b1), .unset, .unset, .unset] [(.ref b1), (.ref b10), (.ref b10)])) rfl (by rw [hml]; rfl) (Steps.refl _) (a := b10) (argsL := [(.ref b1)]) (rest := [(.ref b10)]) (lenOf own_pd11 rfl) rfl (by show 2 * 0 + _ ≤ _; exact Nat.le_of_eq rfl) (hb hby at_111) (fun _ _ => ⟨rfl, e10, (by decide : 2 + 2 ≤ _), (by decide : 4 + 4 ≤ _)⟩)
    dsimp only [Pt.U, Pt.locs, Pt.cells, Pt.slots] at X24 l24 y24 z24 st24 hQ24 hs24 hg24 cr24
    subst l24 y24 z24
    obtain ⟨X24, hS, hZ, hown⟩ := rebS hS (by rw [e10]; exact (Nat.le_trans (Nat.le_trans hk0 E1.1) E10.1)) X24 hs24 hg24 hZ hown
    obtain ⟨rfl, N24q, Kc24, po25⟩ := hQ24
    have N24 := Fr.app N0 N24q
    have sf26 := CHr.safe cr24 A10.lt sf20
    have R27 := CHr.trans R21 cr24
    have f28 : Old Z n0 T24.heap := f15.keep Kc24 (allS g12 all0)
    have f29 : Exa Z T24.heap oi "java/lang/CharacterDataLatin1" := f16.keep Kc24
    have f30 : Arv Z T24.heap b1 k1 .char (0 : Int32) [] (.int (0 : Int32)) := f17.keep Kc24 (ninS n11 nin0)
    have f31 : Exa Z T24.heap b10 "java/lang/String" := A10.keep Kc24
    have K32 : Keep h0 T24.heap [] := K18.trans Kc24 (allS (Or.inr s13) all0)
    have Z33 : n0 ≤ T24.heap.size := Nat.le_trans Z19 Kc24.1
    obtain ⟨lo34, Xh34, Nh34⟩ := own_hide X24 N24 (C := 4) (S := 8) rfl rfl
    clear sf20 R21 f15 f16 f17 A10 X24 N24
    refine OwnGo.back (T24.setTop (mkF m 114 #[.val (.int p1), .val (.int p2), .val (.int p3), .val (.int p4), .val (.int (0 : Int32)), .val (.int x0), .val (.int x1), .val (.int x2), .val (.ref b1), .unset, .unset, .unset] [(.ref b10)])) (fun tg kk => st24.trans kk) ?_
    refine OwnGo.back (T24.setTop (mkF m 116 #[.val (.int p1), .val (.int p2), .val (.int p3), .val (.int p4), .val (.int (0 : Int32)), .val (.int x0), .val (.int x1), .val (.int x2), .val (.ref b1), .val (.ref b10), .unset, .unset] [])) (fun tg kk => XS.astore Xh34.here hx rfl (hb hby at_114) rfl rfl (l' := #[.val (.int p1), .val (.int p2), .val (.int p3), .val (.int p4), .val (.int (0 : Int32)), .val (.int x0), .val (.int x1), .val (.int x2), .val (.ref b1), .val (.ref b10), .unset, .unset]) rfl kk) ?_
    refine OwnGo.back (T24.setTop (mkF m 118 #[.val (.int p1), .val (.int p2), .val (.int p3), .val (.int p4), .val (.int (0 : Int32)), .val (.int x0), .val (.int x1), .val (.int x2), .val (.ref b1), .val (.ref b10), .unset, .unset] [(.int (0 : Int32))])) (fun tg kk => XS.iload Xh34.here hx rfl (hb hby at_116) rfl kk) ?_
    refine OwnGo.back (T24.setTop (mkF m 157 #[.val (.int p1), .val (.int p2), .val (.int p3), .val (.int p4), .val (.int (0 : Int32)), .val (.int x0), .val (.int x1), .val (.int x2), .val (.ref b1), .val (.ref b10), .unset, .unset] [])) (fun tg kk => XS.ifYes Xh34.here hx rfl (pc0 := 118) (pc' := 157) rfl (hb hby at_118) rfl ((if0 _ _).trans (teq (by decide : (0 : Int32) = (0 : Int32))).1) (by decide) (by decide) kk) ?_
    refine OwnGo.back (T24.setTop (mkF m 158 #[.val (.int p1), .val (.int p2), .val (.int p3), .val (.int p4), .val (.int (0 : Int32)), .val (.int x0), .val (.int x1), .val (.int x2), .val (.ref b1), .val (.ref b10), .unset, .unset] [(.int (1 : Int32))])) (fun tg kk => XS.iconst Xh34.here hx rfl (hb hby at_157) kk) ?_
    refine OwnGo.back (T24.setTop (mkF m 162 #[.val (.int p1), .val (.int p2), .val (.int p3), .val (.int p4), .val (.int (0 : Int32)), .val (.int x0), .val (.int x1), .val (.int x2), .val (.ref b1), .val (.ref b10), .unset, .unset] [(.int (1 : Int32))])) (fun tg kk => XS.goto Xh34.here hx rfl (pc0 := 158) (pc' := 162) rfl (hb hby at_158) (by decide) (by decide) kk) ?_
    refine OwnGo.back (T24.setTop (mkF m 164 #[.val (.int p1), .val (.int p2), .val (.int p3), .val (.int p4), .val (.int (0 : Int32)), .val (.int x0), .val (.int x1), .val (.int x2), .val (.ref b1), .val (.ref b10), .val (.int (1 : Int32)), .unset] [])) (fun tg kk => XS.istore Xh34.here hx rfl (hb hby at_162) rfl (l' := #[.val (.int p1), .val (.int p2), .val (.int p3), .val (.int p4), .val (.int (0 : Int32)), .val (.int x0), .val (.int x1), .val (.int x2), .val (.ref b1), .val (.ref b10), .val (.int (1 : Int32)), .unset]) rfl kk) ?_
    refine OwnGo.back (T24.setTop (mkF m 166 #[.val (.int p1), .val (.int p2), .val (.int p3), .val (.int p4), .val (.int (0 : Int32)), .val (.int x0), .val (.int x1), .val (.int x2), .val (.ref b1), .val (.ref b10), .val (.int (1 : Int32)), .unset] [(.int (1 : Int32))])) (fun tg kk => XS.iload Xh34.here hx rfl (hb hby at_164) rfl kk) ?_
    refine OwnGo.back (T24.setTop (mkF m 169 #[.val (.int p1), .val (.int p2), .val (.int p3), .val (.int p4), .val (.int (0 : Int32)), .val (.int x0), .val (.int x1), .val (.int x2), .val (.ref b1), .val (.ref b10), .val (.int (1 : Int32)), .unset] [])) (fun tg kk => XS.ifNo Xh34.here hx rfl (hb hby at_166) rfl ((if0 _ _).trans (feq (by decide : ¬ ((1 : Int32) = (0 : Int32)))).1) kk) ?_
    refine OwnGo.back (T24.setTop (mkF m 170 #[.val (.int p1), .val (.int p2), .val (.int p3), .val (.int p4), .val (.int (0 : Int32)), .val (.int x0), .val (.int x1), .val (.int x2), .val (.ref b1), .val (.ref b10), .val (.int (1 : Int32)), .unset] [(.int (1 : Int32))])) (fun tg kk => XS.iconst Xh34.here hx rfl (hb hby at_169) kk) ?_
    obtain ⟨fs, hr, hrun, hended, -, hW, hI, hsame⟩ := Xh34.leaveW hS (Nat.le_refl _) (v := some (.int (1 : Int32))) (fun h => by rw [Bd.returns] at h; cases h)
    refine ⟨_, _, ?_, hrun, hended, _, _, rfl, ?_, ⟨_, rfl⟩, hW, hI, hsame.mono (by decide) (by decide)⟩
    · exact retN Xh34 hx (t := .boolean) Bd.returns (by simp) (hb hby at_170) hr
    · show own_law_Q Z p1 p2 p3 p4 cs aA oi h0 n0 _ T24.heap _
      exact ⟨rfl, Nh34, K32⟩
  ·
    rw [hk]
    refine OwnGo.back (s₁.setTop (mkF m 31 #[.val (.int p1), .val (.int p2), .val (.int p3), .val (.int p4), .val (.int (1 : Int32)), .val (.int x0), .val (.int x1), .val (.int x2), .unset, .unset, .unset, .unset] [(.int (1 : Int32))])) (fun tg kk => XS.iload X0.here hx rfl (hb hby at_29) rfl kk) ?_
    refine OwnGo.back (s₁.setTop (mkF m 42 #[.val (.int p1), .val (.int p2), .val (.int p3), .val (.int p4), .val (.int (1 : Int32)), .val (.int x0), .val (.int x1), .val (.int x2), .unset, .unset, .unset, .unset] [])) (fun tg kk => XS.ifYes X0.here hx rfl (pc0 := 31) (pc' := 42) rfl (hb hby at_31) rfl ((if0 _ _).trans (feq (by decide : ¬ ((1 : Int32) = (0 : Int32)))).2) (by decide) (by decide) kk) ?_
    refine OwnGo.back (s₁.setTop (mkF m 44 #[.val (.int p1), .val (.int p2), .val (.int p3), .val (.int p4), .val (.int (1 : Int32)), .val (.int x0), .val (.int x1), .val (.int x2), .unset, .unset, .unset, .unset] [(.int (1 : Int32))])) (fun tg kk => XS.iload X0.here hx rfl (hb hby at_42) rfl kk) ?_
    refine OwnGo.back (s₁.setTop (mkF m 45 #[.val (.int p1), .val (.int p2), .val (.int p3), .val (.int p4), .val (.int (1 : Int32)), .val (.int x0), .val (.int x1), .val (.int x2), .unset, .unset, .unset, .unset] [(.int (1 : Int32)), (.int (1 : Int32))])) (fun tg kk => XS.iconst X0.here hx rfl (hb hby at_44) kk) ?_
    refine OwnGo.back (s₁.setTop (mkF m 48 #[.val (.int p1), .val (.int p2), .val (.int p3), .val (.int p4), .val (.int (1 : Int32)), .val (.int x0), .val (.int x1), .val (.int x2), .unset, .unset, .unset, .unset] [])) (fun tg kk => XS.icmpNo X0.here hx rfl (hb hby at_45) rfl (teq (by decide : (1 : Int32) = (1 : Int32))).2 kk) ?_
    refine OwnGo.back (s₁.setTop (mkF m 49 #[.val (.int p1), .val (.int p2), .val (.int p3), .val (.int p4), .val (.int (1 : Int32)), .val (.int x0), .val (.int x1), .val (.int x2), .unset, .unset, .unset, .unset] [(.int (1 : Int32))])) (fun tg kk => XS.iconst X0.here hx rfl (hb hby at_48) kk) ?_
    obtain ⟨T35, h35, k35, X35, e35, E35, A35, st35⟩ := newP X0 hx hZ (hw _ (List.mem_of_getElem? (i := 0) rfl)) e0 (g := (mkF m 49 #[.val (.int p1), .val (.int p2), .val (.int p3), .val (.int p4), .val (.int (1 : Int32)), .val (.int x0), .val (.int x1), .val (.int x2), .unset, .unset, .unset, .unset] [(.int (1 : Int32))])) rfl (hb hby at_49) rfl (by decide) (cap := 1) (by decide) (by decide) (by decide) (by decide)
    obtain ⟨b35, q35⟩ : ∃ z, z = h0.size := ⟨_, rfl⟩
    rw [← q35] at A35 st35
    have g36 : n0 ≤ b35 := Nat.le_trans Z0 (Nat.le_of_eq q35.symm)
    have s37 : h0.size ≤ b35 := Nat.le_trans K0.1 (Nat.le_of_eq q35.symm)
    have f38 : Old Z n0 h35 := old.ext E35
    have f39 : Exa Z h35 oi "java/lang/CharacterDataLatin1" := Xi.ext E35
    have K40 : Keep h0 h35 [] := K0.ext E35
    have Z41 : n0 ≤ h35.size := Nat.le_trans Z0 E35.1
    have R42 := CHr.trans R0 (CHr.ext E35 R0.1)
    have f43 : Arv Z h35 b35 k35 .char (1 : Int32) [(.int (0 : Int32))] (.int (0 : Int32)) := (Arv.new A35 (by decide)).pad (pad_rep [] (.int (0 : Int32)) 1)
    clear old Xi R0
    refine OwnGo.back (T35.setTop (mkF m 51 #[.val (.int p1), .val (.int p2), .val (.int p3), .val (.int p4), .val (.int (1 : Int32)), .val (.int x0), .val (.int x1), .val (.int x2), .unset, .unset, .unset, .unset] [(.ref b35)])) (fun tg kk => st35 _ kk) ?_
    refine OwnGo.back (T35.setTop (mkF m 52 #[.val (.int p1), .val (.int p2), .val (.int p3), .val (.int p4), .val (.int (1 : Int32)), .val (.int x0), .val (.int x1), .val (.int x2), .unset, .unset, .unset, .unset] [(.ref b35), (.ref b35)])) (fun tg kk => XS.dup X35.here hx rfl (hb hby at_51) rfl rfl kk) ?_
    refine OwnGo.back (T35.setTop (mkF m 53 #[.val (.int p1), .val (.int p2), .val (.int p3), .val (.int p4), .val (.int (1 : Int32)), .val (.int x0), .val (.int x1), .val (.int x2), .unset, .unset, .unset, .unset] [(.int (0 : Int32)), (.ref b35), (.ref b35)])) (fun tg kk => XS.iconst X35.here hx rfl (hb hby at_52) kk) ?_
    refine OwnGo.back (T35.setTop (mkF m 55 #[.val (.int p1), .val (.int p2), .val (.int p3), .val (.int p4), .val (.int (1 : Int32)), .val (.int x0), .val (.int x1), .val (.int x2), .unset, .unset, .unset, .unset] [(.int x0), (.int (0 : Int32)), (.ref b35), (.ref b35)])) (fun tg kk => XS.iload X35.here hx rfl (hb hby at_53) rfl kk) ?_
    obtain ⟨cl_44, Ar_44, qq_44, Sz_44, Ng_44, Hs_44, Gf_44⟩ := id f43
    have hin_44 : ¬ ((0 : Int32) < 0 ∨ cl_44.slots.size ≤ ((0 : Int32)).toNatClampNeg) := inb_of Sz_44 ⟨by decide, by decide⟩
    obtain ⟨T45, h45, X45, e45, W45, st45⟩ := stC X35 hx hZ e35 Ar_44 (j := (0 : Int32)) hin_44 (g := (mkF m 55 #[.val (.int p1), .val (.int p2), .val (.int p3), .val (.int p4), .val (.int (1 : Int32)), .val (.int x0), .val (.int x1), .val (.int x2), .unset, .unset, .unset, .unset] [(.int x0), (.int (0 : Int32)), (.ref b35), (.ref b35)])) rfl rfl (hb hby at_55)
    have f46 : Arv Z h45 b35 k35 .char (1 : Int32) [(.int (nar .char x0))] (.int (0 : Int32)) := Arv.set Ar_44 qq_44 Sz_44 Ng_44 Hs_44 Gf_44 (fits_nar_char _) W45 0 rfl (Nat.le_of_ble_eq_true rfl)
    rw [(own_nrn hl0 hu0)] at f46
    have sf47 : Safe Z own_EL s.vm h35 b35 := (own_safeArv hZ.alike f43 (by simp))
    have R48 := CHr.trans R42 (CHr.wr W45 sf47 R42.1)
    have f49 : Old Z n0 h45 := f38.wr W45 g36
    have f50 : Exa Z h45 oi "java/lang/CharacterDataLatin1" := f39.wr W45
    have K51 : Keep h0 h45 [] := K40.wr W45 (Or.inr s37)
    have Z52 : n0 ≤ h45.size := Nat.le_trans Z41 (Keep.of_wr W45).1
    have N53 := Fr.snoc X45 N0 g36
    obtain ⟨lo54, Xh54, Nh54⟩ := own_hide X45 N53 (C := 1) (S := 1) rfl rfl
    clear R42 f38 f39 X45 N53
    refine OwnGo.back (T45.setTop (mkF m 56 #[.val (.int p1), .val (.int p2), .val (.int p3), .val (.int p4), .val (.int (1 : Int32)), .val (.int x0), .val (.int x1), .val (.int x2), .unset, .unset, .unset, .unset] [(.ref b35)])) (fun tg kk => st45 _ kk) ?_
    refine OwnGo.back (T45.setTop (mkF m 58 #[.val (.int p1), .val (.int p2), .val (.int p3), .val (.int p4), .val (.int (1 : Int32)), .val (.int x0), .val (.int x1), .val (.int x2), .val (.ref b35), .unset, .unset, .unset] [])) (fun tg kk => XS.astore Xh54.here hx rfl (hb hby at_56) rfl rfl (l' := #[.val (.int p1), .val (.int p2), .val (.int p3), .val (.int p4), .val (.int (1 : Int32)), .val (.int x0), .val (.int x1), .val (.int x2), .val (.ref b35), .unset, .unset, .unset]) rfl kk) ?_
    refine OwnGo.back (T45.setTop (mkF m 105 #[.val (.int p1), .val (.int p2), .val (.int p3), .val (.int p4), .val (.int (1 : Int32)), .val (.int x0), .val (.int x1), .val (.int x2), .val (.ref b35), .unset, .unset, .unset] [])) (fun tg kk => XS.goto Xh54.here hx rfl (pc0 := 58) (pc' := 105) rfl (hb hby at_58) (by decide) (by decide) kk) ?_
    obtain ⟨T55, h55, X55, e55, E55, A55, D55, -, st55⟩ := newO Xh54 hx hZ hown (hw _ (List.mem_of_getElem? (i := 1) rfl)) (hw _ (List.mem_of_getElem? (i := 2) rfl)) (hw _ (List.mem_of_getElem? (i := 3) rfl)) e45 (g := (mkF m 105 #[.val (.int p1), .val (.int p2), .val (.int p3), .val (.int p4), .val (.int (1 : Int32)), .val (.int x0), .val (.int x1), .val (.int x2), .val (.ref b35), .unset, .unset, .unset] [])) rfl (hb hby at_105) (by decide) (by decide)
    obtain ⟨b55, q55⟩ : ∃ z, z = h45.size := ⟨_, rfl⟩
    rw [← q55] at A55 D55 st55
    have n56 : b35 ≠ b55 := own_ne f46.lt q55
    have g57 : n0 ≤ b55 := Nat.le_trans Z52 (Nat.le_of_eq q55.symm)
    have s58 : h0.size ≤ b55 := Nat.le_trans K51.1 (Nat.le_of_eq q55.symm)
    have sf59 : Safe Z own_EL s.vm h45 b55 := Safe.new (Nat.le_of_eq q55.symm)
    have f60 : Old Z n0 h55 := f49.ext E55
    have f61 : Exa Z h55 oi "java/lang/CharacterDataLatin1" := f50.ext E55
    have f62 : Arv Z h55 b35 k35 .char (1 : Int32) [(.int x0)] (.int (0 : Int32)) := f46.ext E55
    have K63 : Keep h0 h55 [] := K51.ext E55
    have Z64 : n0 ≤ h55.size := Nat.le_trans Z52 E55.1
    have sf65 := Safe.ext E55 R48.1 sf59
    have R66 := CHr.trans R48 (CHr.ext E55 R48.1)
    have f67 : Fld Z h55 b55 "java/lang/String" "value" "[B" .null := D55 (Or.inr (hw _ (List.mem_of_getElem? (i := 16) rfl))) (ty := (.array .byte)) (by decide)
    have f68 : Fld Z h55 b55 "java/lang/String" "coder" "B" (.int (0 : Int32)) := D55 (Or.inr (hw _ (List.mem_of_getElem? (i := 17) rfl))) (ty := .byte) (by decide)
    clear f49 f50 f46 R48
    refine OwnGo.back (T55.setTop (mkF m 108 #[.val (.int p1), .val (.int p2), .val (.int p3), .val (.int p4), .val (.int (1 : Int32)), .val (.int x0), .val (.int x1), .val (.int x2), .val (.ref b35), .unset, .unset, .unset] [(.ref b55)])) (fun tg kk => st55 _ kk) ?_
    refine OwnGo.back (T55.setTop (mkF m 109 #[.val (.int p1), .val (.int p2), .val (.int p3), .val (.int p4), .val (.int (1 : Int32)), .val (.int x0), .val (.int x1), .val (.int x2), .val (.ref b35), .unset, .unset, .unset] [(.ref b55), (.ref b55)])) (fun tg kk => XS.dup X55.here hx rfl (hb hby at_108) rfl rfl kk) ?_
    refine OwnGo.back (T55.setTop (mkF m 111 #[.val (.int p1), .val (.int p2), .val (.int p3), .val (.int p4), .val (.int (1 : Int32)), .val (.int x0), .val (.int x1), .val (.int x2), .val (.ref b35), .unset, .unset, .unset] [(.ref b35), (.ref b55), (.ref b55)])) (fun tg kk => XS.aload X55.here hx rfl (hb hby at_109) rfl rfl kk) ?_
    obtain ⟨_, _, ⟨T69, L69, k69, n69⟩, -, X69, ⟨Lc69, hQ69, l69, y69, z69⟩, st69⟩ := X55.specialBack hx (y := (⟨"java/lang/String", "<init>", "([C)V"⟩ : MethodName)) rfl hown (mvT hZ (hw _ (List.mem_of_getElem? (i := 4) rfl))) (mvT hZ (hw _ (List.mem_of_getElem? (i := 5) rfl))) (mvT hZ (hw _ (List.mem_of_getElem? (i := 6) rfl))) (by decide) (backOf (W := 1) (own_i1_1 l Z a0 hw [] b55 b35 k35 x0 cs h55 n0 Z64 f62 hl0 hu0 S f60 hcs A55 f67 f68 g57 (Ne.symm n56)) hZ (hw _ (List.mem_of_getElem? (i := 6) rfl)) (hw _ (List.mem_of_getElem? (i := 3) rfl)) (by decide) (by decide)) (g := (mkF m 111 #[.val (.int p1), .val (.int p2), .val (.int p3), .val (.int p4), .val (.int (1 : Int32)), .val (.int x0), .val (.int x1), .val (.int x2), .val (.ref b35), .unset, .unset, .unset] [(.ref b35), (.ref b55), (.ref b55)])) rfl (by rw [hml]; rfl) (Steps.refl _) (a := b55) (argsL := [(.ref b35)]) (rest := [(.ref b55)]) (lenOf own_pd11 rfl) rfl (by show 2 * 0 + _ ≤ _; exact Nat.le_of_eq rfl) (hb hby at_111) (fun _ _ => ⟨rfl, e55, (by decide : 2 + 1 ≤ _), (by decide : 5 + 1 ≤ _)⟩)
    dsimp only [Pt.U, Pt.locs, Pt.cells, Pt.slots] at X69 l69 y69 z69 st69 hQ69
    subst l69 y69 z69
    obtain ⟨b_70, kb_71, rfl, N69q, Kc69, po72, po73, po74, po75, po76⟩ := hQ69
    have N69 := Fr.app Nh54 N69q
    have hs77 : ∀ x ∈ [b55], Safe Z own_EL s.vm h55 x := (allS sf65 all0)
    have sf78 := Safe.keep Kc69 hs77 R66.1 sf65
    have sf79 := Safe.keep (vm := s.vm) Kc69 hs77 R66.1 (Safe.new po72)
    have R80 := CHr.trans R66 (CHr.keep Kc69 hs77 R66.1)
    have f81 : Old Z n0 T69.heap := f60.keep Kc69 (allS g57 all0)
    have f82 : Exa Z T69.heap oi "java/lang/CharacterDataLatin1" := f61.keep Kc69
    have f83 : Arv Z T69.heap b35 k35 .char (1 : Int32) [(.int x0)] (.int (0 : Int32)) := f62.keep Kc69 (ninS n56 nin0)
    have f84 : Exa Z T69.heap b55 "java/lang/String" := A55.keep Kc69
    have K85 : Keep h0 T69.heap [] := K63.trans Kc69 (allS (Or.inr s58) all0)
    have Z86 : n0 ≤ T69.heap.size := Nat.le_trans Z64 Kc69.1
    have n87 : b35 ≠ b_70 := own_ne' f62.lt po72
    have n88 : b55 ≠ b_70 := own_ne' A55.lt po72
    have g89 : n0 ≤ b_70 := Nat.le_trans Z64 po72
    have s90 : h0.size ≤ b_70 := Nat.le_trans K63.1 po72
    obtain ⟨lo91, Xh91, Nh91⟩ := own_hide X69 N69 (C := 3) (S := 6) rfl rfl
    clear sf65 R66 f60 f61 f62 A55 X69 N69
    refine OwnGo.back (T69.setTop (mkF m 114 #[.val (.int p1), .val (.int p2), .val (.int p3), .val (.int p4), .val (.int (1 : Int32)), .val (.int x0), .val (.int x1), .val (.int x2), .val (.ref b35), .unset, .unset, .unset] [(.ref b55)])) (fun tg kk => st69.trans kk) ?_
    refine OwnGo.back (T69.setTop (mkF m 116 #[.val (.int p1), .val (.int p2), .val (.int p3), .val (.int p4), .val (.int (1 : Int32)), .val (.int x0), .val (.int x1), .val (.int x2), .val (.ref b35), .val (.ref b55), .unset, .unset] [])) (fun tg kk => XS.astore Xh91.here hx rfl (hb hby at_114) rfl rfl (l' := #[.val (.int p1), .val (.int p2), .val (.int p3), .val (.int p4), .val (.int (1 : Int32)), .val (.int x0), .val (.int x1), .val (.int x2), .val (.ref b35), .val (.ref b55), .unset, .unset]) rfl kk) ?_
    refine OwnGo.back (T69.setTop (mkF m 118 #[.val (.int p1), .val (.int p2), .val (.int p3), .val (.int p4), .val (.int (1 : Int32)), .val (.int x0), .val (.int x1), .val (.int x2), .val (.ref b35), .val (.ref b55), .unset, .unset] [(.int (1 : Int32))])) (fun tg kk => XS.iload Xh91.here hx rfl (hb hby at_116) rfl kk) ?_
    refine OwnGo.back (T69.setTop (mkF m 121 #[.val (.int p1), .val (.int p2), .val (.int p3), .val (.int p4), .val (.int (1 : Int32)), .val (.int x0), .val (.int x1), .val (.int x2), .val (.ref b35), .val (.ref b55), .unset, .unset] [])) (fun tg kk => XS.ifNo Xh91.here hx rfl (hb hby at_118) rfl ((if0 _ _).trans (feq (by decide : ¬ ((1 : Int32) = (0 : Int32)))).1) kk) ?_
    refine OwnGo.back (T69.setTop (mkF m 123 #[.val (.int p1), .val (.int p2), .val (.int p3), .val (.int p4), .val (.int (1 : Int32)), .val (.int x0), .val (.int x1), .val (.int x2), .val (.ref b35), .val (.ref b55), .unset, .unset] [(.int x0)])) (fun tg kk => XS.iload Xh91.here hx rfl (hb hby at_121) rfl kk) ?_
    obtain ⟨_, _, ⟨T92, L92, k92, n92⟩, -, X92, ⟨Lc92, hQ92, l92, y92, z92⟩, st92⟩ := Jvm.LawKit.callS Xh91 hx (y := (⟨"com/example/penelope/penelope/RollbackRulesCheckedNamePinLaw", "ws", "(I)Z"⟩ : MethodName)) hown (mvT hZ (hw _ (List.mem_of_getElem? (i := 33) rfl))) (mvT hZ (hw _ (List.mem_of_getElem? (i := 34) rfl))) (mvT hZ (hw _ (List.mem_of_getElem? (i := 35) rfl))) (mvT hZ (hw _ (List.mem_of_getElem? (i := 36) rfl))) (by decide) (backOf (W := 0) (own_wsp l Z a0 hw [] x0 T69.heap n0 Z86 ) hZ (hw _ (List.mem_of_getElem? (i := 36) rfl)) (hw _ (List.mem_of_getElem? (i := 35) rfl)) (by decide) (by decide)) (g := (mkF m 123 #[.val (.int p1), .val (.int p2), .val (.int p3), .val (.int p4), .val (.int (1 : Int32)), .val (.int x0), .val (.int x1), .val (.int x2), .val (.ref b35), .val (.ref b55), .unset, .unset] [(.int x0)])) rfl (by rw [hml]; rfl) (argsL := [(.int x0)]) (rest := []) (lenOf own_pd6 rfl) rfl (by show 2 * 0 + _ ≤ _; exact Nat.le_of_eq rfl) (hb hby at_123) (fun _ _ => ⟨rfl, rfl, (by decide : 3 + 0 ≤ _), (by decide : 6 + 0 ≤ _)⟩)
    dsimp only [Pt.U, Pt.locs, Pt.cells, Pt.slots] at X92 l92 y92 z92 st92 hQ92
    subst l92 y92 z92
    obtain ⟨r_93, rfl, N92q, e92, po94⟩ := hQ92
    have N92 := Fr.app Nh91 N92q
    obtain ⟨lo95, Xh95, Nh95⟩ := own_hide X92 N92 (C := 3) (S := 6) rfl rfl
    clear X92 N92
    refine OwnGo.back (T92.setTop (mkF m 126 #[.val (.int p1), .val (.int p2), .val (.int p3), .val (.int p4), .val (.int (1 : Int32)), .val (.int x0), .val (.int x1), .val (.int x2), .val (.ref b35), .val (.ref b55), .unset, .unset] [(.int r_93)])) (fun tg kk => st92 _ kk) ?_
    by_cases hc96 : r_93 = (0 : Int32)
    ·
      refine OwnGo.back (T92.setTop (mkF m 161 #[.val (.int p1), .val (.int p2), .val (.int p3), .val (.int p4), .val (.int (1 : Int32)), .val (.int x0), .val (.int x1), .val (.int x2), .val (.ref b35), .val (.ref b55), .unset, .unset] [])) (fun tg kk => XS.ifYes Xh95.here hx rfl (pc0 := 126) (pc' := 161) rfl (hb hby at_126) rfl ((if0 _ _).trans (teq hc96).1) (by decide) (by decide) kk) ?_
      refine OwnGo.back (T92.setTop (mkF m 162 #[.val (.int p1), .val (.int p2), .val (.int p3), .val (.int p4), .val (.int (1 : Int32)), .val (.int x0), .val (.int x1), .val (.int x2), .val (.ref b35), .val (.ref b55), .unset, .unset] [(.int (0 : Int32))])) (fun tg kk => XS.iconst Xh95.here hx rfl (hb hby at_161) kk) ?_
      refine OwnGo.back (T92.setTop (mkF m 164 #[.val (.int p1), .val (.int p2), .val (.int p3), .val (.int p4), .val (.int (1 : Int32)), .val (.int x0), .val (.int x1), .val (.int x2), .val (.ref b35), .val (.ref b55), .val (.int (0 : Int32)), .unset] [])) (fun tg kk => XS.istore Xh95.here hx rfl (hb hby at_162) rfl (l' := #[.val (.int p1), .val (.int p2), .val (.int p3), .val (.int p4), .val (.int (1 : Int32)), .val (.int x0), .val (.int x1), .val (.int x2), .val (.ref b35), .val (.ref b55), .val (.int (0 : Int32)), .unset]) rfl kk) ?_
      refine OwnGo.back (T92.setTop (mkF m 166 #[.val (.int p1), .val (.int p2), .val (.int p3), .val (.int p4), .val (.int (1 : Int32)), .val (.int x0), .val (.int x1), .val (.int x2), .val (.ref b35), .val (.ref b55), .val (.int (0 : Int32)), .unset] [(.int (0 : Int32))])) (fun tg kk => XS.iload Xh95.here hx rfl (hb hby at_164) rfl kk) ?_
      refine OwnGo.back (T92.setTop (mkF m 171 #[.val (.int p1), .val (.int p2), .val (.int p3), .val (.int p4), .val (.int (1 : Int32)), .val (.int x0), .val (.int x1), .val (.int x2), .val (.ref b35), .val (.ref b55), .val (.int (0 : Int32)), .unset] [])) (fun tg kk => XS.ifYes Xh95.here hx rfl (pc0 := 166) (pc' := 171) rfl (hb hby at_166) rfl ((if0 _ _).trans (teq (by decide : (0 : Int32) = (0 : Int32))).1) (by decide) (by decide) kk) ?_
      refine OwnGo.back (T92.setTop (mkF m 173 #[.val (.int p1), .val (.int p2), .val (.int p3), .val (.int p4), .val (.int (1 : Int32)), .val (.int x0), .val (.int x1), .val (.int x2), .val (.ref b35), .val (.ref b55), .val (.int (0 : Int32)), .unset] [(.ref b55)])) (fun tg kk => XS.aload Xh95.here hx rfl (hb hby at_171) rfl rfl kk) ?_
      obtain ⟨_, _, ⟨T97, L97, k97, n97⟩, -, X97, ⟨Lc97, hQ97, l97, y97, z97⟩, st97⟩ := Jvm.LawKit.callS Xh95 hx (y := (⟨"com/example/penelope/penelope/RollbackRules", "checkedName", "(Ljava/lang/String;)Ljava/lang/String;"⟩ : MethodName)) hown (mvT hZ (hw _ (List.mem_of_getElem? (i := 37) rfl))) (mvT hZ (hw _ (List.mem_of_getElem? (i := 38) rfl))) (mvT hZ (hw _ (List.mem_of_getElem? (i := 39) rfl))) (mvT hZ (hw _ (List.mem_of_getElem? (i := 40) rfl))) (by decide) (backOf (W := 0) (own_cn1 l Z a0 hw [] b55 b_70 kb_71 x0 aA oi cs T69.heap n0 Z86 hl0 hu0 SA f81 hA SN f82 (by (simp only [true_and, and_true, false_and, and_false, or_false, false_or, or_true, true_or, not_true_eq_false, not_false_eq_true, eq_self, Int32.lt_iff_toInt_lt, Int32.le_iff_toInt_le, ← Int32.toInt_inj, Int32.reduceToInt, Int64.lt_iff_toInt_lt, Int64.le_iff_toInt_le, ← Int64.toInt_inj, Int64.reduceToInt] at hc96 hcs hl0 hu0 hl1 hu1 hl2 hu2 po94 ⊢) <;> omega) S hcs po73 po74 po75 po76) hZ (hw _ (List.mem_of_getElem? (i := 40) rfl)) (hw _ (List.mem_of_getElem? (i := 39) rfl)) (by decide) (by decide)) (g := (mkF m 173 #[.val (.int p1), .val (.int p2), .val (.int p3), .val (.int p4), .val (.int (1 : Int32)), .val (.int x0), .val (.int x1), .val (.int x2), .val (.ref b35), .val (.ref b55), .val (.int (0 : Int32)), .unset] [(.ref b55)])) rfl (by rw [hml]; rfl) (argsL := [(.ref b55)]) (rest := []) (lenOf own_pd12 rfl) rfl (by show 2 * 0 + _ ≤ _; exact Nat.le_of_eq rfl) (hb hby at_173) (fun _ _ => ⟨rfl, e92, (by decide : 3 + 0 ≤ _), (by decide : 6 + 0 ≤ _)⟩)
      dsimp only [Pt.U, Pt.locs, Pt.cells, Pt.slots] at X97 l97 y97 z97 st97 hQ97
      subst l97 y97 z97
      obtain ⟨rfl, N97q, e97⟩ := hQ97
      have N97 := Fr.app Nh95 N97q
      obtain ⟨lo98, Xh98, Nh98⟩ := own_hide X97 N97 (C := 3) (S := 6) rfl rfl
      clear X97 N97
      refine OwnGo.back (T97.setTop (mkF m 176 #[.val (.int p1), .val (.int p2), .val (.int p3), .val (.int p4), .val (.int (1 : Int32)), .val (.int x0), .val (.int x1), .val (.int x2), .val (.ref b35), .val (.ref b55), .val (.int (0 : Int32)), .unset] [(.ref b55)])) (fun tg kk => st97 _ kk) ?_
      refine OwnGo.back (T97.setTop (mkF m 178 #[.val (.int p1), .val (.int p2), .val (.int p3), .val (.int p4), .val (.int (1 : Int32)), .val (.int x0), .val (.int x1), .val (.int x2), .val (.ref b35), .val (.ref b55), .val (.int (0 : Int32)), .val (.ref b55)] [])) (fun tg kk => XS.astore Xh98.here hx rfl (hb hby at_176) rfl rfl (l' := #[.val (.int p1), .val (.int p2), .val (.int p3), .val (.int p4), .val (.int (1 : Int32)), .val (.int x0), .val (.int x1), .val (.int x2), .val (.ref b35), .val (.ref b55), .val (.int (0 : Int32)), .val (.ref b55)]) rfl kk) ?_
      refine OwnGo.back (T97.setTop (mkF m 180 #[.val (.int p1), .val (.int p2), .val (.int p3), .val (.int p4), .val (.int (1 : Int32)), .val (.int x0), .val (.int x1), .val (.int x2), .val (.ref b35), .val (.ref b55), .val (.int (0 : Int32)), .val (.ref b55)] [(.ref b55)])) (fun tg kk => XS.aload Xh98.here hx rfl (hb hby at_178) rfl rfl kk) ?_
      refine OwnGo.back (T97.setTop (mkF m 183 #[.val (.int p1), .val (.int p2), .val (.int p3), .val (.int p4), .val (.int (1 : Int32)), .val (.int x0), .val (.int x1), .val (.int x2), .val (.ref b35), .val (.ref b55), .val (.int (0 : Int32)), .val (.ref b55)] [])) (fun tg kk => XS.ifnullNo Xh98.here hx rfl (hb hby at_180) rfl kk) ?_
      refine OwnGo.back (T97.setTop (mkF m 185 #[.val (.int p1), .val (.int p2), .val (.int p3), .val (.int p4), .val (.int (1 : Int32)), .val (.int x0), .val (.int x1), .val (.int x2), .val (.ref b35), .val (.ref b55), .val (.int (0 : Int32)), .val (.ref b55)] [(.ref b55)])) (fun tg kk => XS.aload Xh98.here hx rfl (hb hby at_183) rfl rfl kk) ?_
      obtain ⟨cq99, kq99, q99a, q99b, q99c⟩ := isOf hZ e97 po73
      obtain ⟨_, _, ⟨T99, L99, k99, n99⟩, -, X99, ⟨Lc99, hQ99, l99, y99, z99⟩, st99⟩ := Xh98.virtualBack hx (y := (⟨"java/lang/String", "length", "()I"⟩ : MethodName)) (z := (⟨"java/lang/String", "length", "()I"⟩ : MethodName)) hown (mvT hZ (hw _ (List.mem_of_getElem? (i := 86) rfl))) (mvT hZ (hw _ (List.mem_of_getElem? (i := 77) rfl))) (notFace_of_selects (args := #[]) (mvT hZ (hw _ (List.mem_of_getElem? (i := 79) rfl)))) (mvT hZ (hw _ (List.mem_of_getElem? (i := 79) rfl))) (mvT hZ (hw _ (List.mem_of_getElem? (i := 78) rfl))) (by decide) (backOf (W := 0) (own_len1 l Z a0 hw [] b55 b_70 kb_71 x0 cs T69.heap n0 Z86 S f81 hcs po73 po74 po75 po76) hZ (hw _ (List.mem_of_getElem? (i := 80) rfl)) (hw _ (List.mem_of_getElem? (i := 3) rfl)) (by decide) (by decide)) q99a q99c (g := (mkF m 185 #[.val (.int p1), .val (.int p2), .val (.int p3), .val (.int p4), .val (.int (1 : Int32)), .val (.int x0), .val (.int x1), .val (.int x2), .val (.ref b35), .val (.ref b55), .val (.int (0 : Int32)), .val (.ref b55)] [(.ref b55)])) rfl (by rw [hml]; rfl) (Steps.refl _) (argsL := []) (rest := []) (lenOf own_pd10 rfl) rfl (by show 2 * 0 + _ ≤ _; exact Nat.le_of_eq rfl) (hb hby at_185) (fun _ _ => ⟨rfl, e97, (by decide : 3 + 0 ≤ _), (by decide : 6 + 0 ≤ _)⟩)
      dsimp only [Pt.U, Pt.locs, Pt.cells, Pt.slots] at X99 l99 y99 z99 st99 hQ99
      subst l99 y99 z99
      obtain ⟨rfl, N99q, e99⟩ := hQ99
      have N99 := Fr.app Nh98 N99q
      obtain ⟨lo100, Xh100, Nh100⟩ := own_hide X99 N99 (C := 3) (S := 6) rfl rfl
      clear X99 N99
      refine OwnGo.back (T99.setTop (mkF m 188 #[.val (.int p1), .val (.int p2), .val (.int p3), .val (.int p4), .val (.int (1 : Int32)), .val (.int x0), .val (.int x1), .val (.int x2), .val (.ref b35), .val (.ref b55), .val (.int (0 : Int32)), .val (.ref b55)] [(.int (1 : Int32))])) (fun tg kk => st99.trans kk) ?_
      refine OwnGo.back (T99.setTop (mkF m 190 #[.val (.int p1), .val (.int p2), .val (.int p3), .val (.int p4), .val (.int (1 : Int32)), .val (.int x0), .val (.int x1), .val (.int x2), .val (.ref b35), .val (.ref b55), .val (.int (0 : Int32)), .val (.ref b55)] [(.int (1 : Int32)), (.int (1 : Int32))])) (fun tg kk => XS.iload Xh100.here hx rfl (hb hby at_188) rfl kk) ?_
      refine OwnGo.back (T99.setTop (mkF m 193 #[.val (.int p1), .val (.int p2), .val (.int p3), .val (.int p4), .val (.int (1 : Int32)), .val (.int x0), .val (.int x1), .val (.int x2), .val (.ref b35), .val (.ref b55), .val (.int (0 : Int32)), .val (.ref b55)] [])) (fun tg kk => XS.icmpNo Xh100.here hx rfl (hb hby at_190) rfl (teq (by decide : (1 : Int32) = (1 : Int32))).2 kk) ?_
      refine OwnGo.back (T99.setTop (mkF m 195 #[.val (.int p1), .val (.int p2), .val (.int p3), .val (.int p4), .val (.int (1 : Int32)), .val (.int x0), .val (.int x1), .val (.int x2), .val (.ref b35), .val (.ref b55), .val (.int (0 : Int32)), .val (.ref b55)] [(.ref b55)])) (fun tg kk => XS.aload Xh100.here hx rfl (hb hby at_193) rfl rfl kk) ?_
      refine OwnGo.back (T99.setTop (mkF m 197 #[.val (.int p1), .val (.int p2), .val (.int p3), .val (.int p4), .val (.int (1 : Int32)), .val (.int x0), .val (.int x1), .val (.int x2), .val (.ref b35), .val (.ref b55), .val (.int (0 : Int32)), .val (.ref b55)] [(.ref b55), (.ref b55)])) (fun tg kk => XS.aload Xh100.here hx rfl (hb hby at_195) rfl rfl kk) ?_
      obtain ⟨cq101, kq101, q101a, q101b, q101c⟩ := isOf hZ e99 po73
      obtain ⟨_, _, ⟨T101, L101, k101, n101⟩, -, X101, ⟨Lc101, hQ101, l101, y101, z101⟩, st101⟩ := Xh100.virtualBack hx (y := (⟨"java/lang/String", "equals", "(Ljava/lang/Object;)Z"⟩ : MethodName)) (z := (⟨"java/lang/String", "equals", "(Ljava/lang/Object;)Z"⟩ : MethodName)) hown (mvT hZ (hw _ (List.mem_of_getElem? (i := 87) rfl))) (mvT hZ (hw _ (List.mem_of_getElem? (i := 88) rfl))) (notFace_of_selects (args := #[]) (mvT hZ (hw _ (List.mem_of_getElem? (i := 90) rfl)))) (mvT hZ (hw _ (List.mem_of_getElem? (i := 90) rfl))) (mvT hZ (hw _ (List.mem_of_getElem? (i := 89) rfl))) (by decide) (backOf (W := 0) (own_eq l Z a0 hw [] b55 T69.heap n0 Z86 ) hZ (hw _ (List.mem_of_getElem? (i := 91) rfl)) (hw _ (List.mem_of_getElem? (i := 3) rfl)) (by decide) (by decide)) q101a q101c (g := (mkF m 197 #[.val (.int p1), .val (.int p2), .val (.int p3), .val (.int p4), .val (.int (1 : Int32)), .val (.int x0), .val (.int x1), .val (.int x2), .val (.ref b35), .val (.ref b55), .val (.int (0 : Int32)), .val (.ref b55)] [(.ref b55), (.ref b55)])) rfl (by rw [hml]; rfl) (Steps.refl _) (argsL := [(.ref b55)]) (rest := []) (lenOf own_pd13 rfl) rfl (by show 2 * 0 + _ ≤ _; exact Nat.le_of_eq rfl) (hb hby at_197) (fun _ _ => ⟨rfl, e99, (by decide : 3 + 0 ≤ _), (by decide : 6 + 0 ≤ _)⟩)
      dsimp only [Pt.U, Pt.locs, Pt.cells, Pt.slots] at X101 l101 y101 z101 st101 hQ101
      subst l101 y101 z101
      obtain ⟨rfl, N101q, e101⟩ := hQ101
      have N101 := Fr.app Nh100 N101q
      obtain ⟨lo102, Xh102, Nh102⟩ := own_hide X101 N101 (C := 3) (S := 6) rfl rfl
      clear X101 N101
      refine OwnGo.back (T101.setTop (mkF m 200 #[.val (.int p1), .val (.int p2), .val (.int p3), .val (.int p4), .val (.int (1 : Int32)), .val (.int x0), .val (.int x1), .val (.int x2), .val (.ref b35), .val (.ref b55), .val (.int (0 : Int32)), .val (.ref b55)] [(.int (1 : Int32))])) (fun tg kk => st101.trans kk) ?_
      refine OwnGo.back (T101.setTop (mkF m 203 #[.val (.int p1), .val (.int p2), .val (.int p3), .val (.int p4), .val (.int (1 : Int32)), .val (.int x0), .val (.int x1), .val (.int x2), .val (.ref b35), .val (.ref b55), .val (.int (0 : Int32)), .val (.ref b55)] [])) (fun tg kk => XS.ifNo Xh102.here hx rfl (hb hby at_200) rfl ((if0 _ _).trans (feq (by decide : ¬ ((1 : Int32) = (0 : Int32)))).1) kk) ?_
      refine OwnGo.back (T101.setTop (mkF m 204 #[.val (.int p1), .val (.int p2), .val (.int p3), .val (.int p4), .val (.int (1 : Int32)), .val (.int x0), .val (.int x1), .val (.int x2), .val (.ref b35), .val (.ref b55), .val (.int (0 : Int32)), .val (.ref b55)] [(.int (1 : Int32))])) (fun tg kk => XS.iconst Xh102.here hx rfl (hb hby at_203) kk) ?_
      refine OwnGo.back (T101.setTop (mkF m 208 #[.val (.int p1), .val (.int p2), .val (.int p3), .val (.int p4), .val (.int (1 : Int32)), .val (.int x0), .val (.int x1), .val (.int x2), .val (.ref b35), .val (.ref b55), .val (.int (0 : Int32)), .val (.ref b55)] [(.int (1 : Int32))])) (fun tg kk => XS.goto Xh102.here hx rfl (pc0 := 204) (pc' := 208) rfl (hb hby at_204) (by decide) (by decide) kk) ?_
      obtain ⟨fs, hr, hrun, hended, -, hW, hI, hsame⟩ := Xh102.leaveW hS (by rw [e101]; exact (Nat.le_trans (Nat.le_trans (Nat.le_trans (Nat.le_trans hk0 E35.1) (Keep.of_wr W45).1) E55.1) Kc69.1)) (v := some (.int (1 : Int32))) (fun h => by rw [Bd.returns] at h; cases h)
      refine ⟨_, _, ?_, hrun, hended, _, _, rfl, ?_, ⟨_, rfl⟩, hW, hI, hsame.mono (by decide) (by decide)⟩
      · exact retN Xh102 hx (t := .boolean) Bd.returns (by simp) (hb hby at_208) hr
      · show own_law_Q Z p1 p2 p3 p4 cs aA oi h0 n0 _ T101.heap _
        rw [e101]
        exact ⟨rfl, Nh102, K85⟩
    ·
      refine OwnGo.back (T92.setTop (mkF m 129 #[.val (.int p1), .val (.int p2), .val (.int p3), .val (.int p4), .val (.int (1 : Int32)), .val (.int x0), .val (.int x1), .val (.int x2), .val (.ref b35), .val (.ref b55), .unset, .unset] [])) (fun tg kk => XS.ifNo Xh95.here hx rfl (hb hby at_126) rfl ((if0 _ _).trans (feq hc96).1) kk) ?_
      refine OwnGo.back (T92.setTop (mkF m 131 #[.val (.int p1), .val (.int p2), .val (.int p3), .val (.int p4), .val (.int (1 : Int32)), .val (.int x0), .val (.int x1), .val (.int x2), .val (.ref b35), .val (.ref b55), .unset, .unset] [(.int (1 : Int32))])) (fun tg kk => XS.iload Xh95.here hx rfl (hb hby at_129) rfl kk) ?_
      refine OwnGo.back (T92.setTop (mkF m 132 #[.val (.int p1), .val (.int p2), .val (.int p3), .val (.int p4), .val (.int (1 : Int32)), .val (.int x0), .val (.int x1), .val (.int x2), .val (.ref b35), .val (.ref b55), .unset, .unset] [(.int (2 : Int32)), (.int (1 : Int32))])) (fun tg kk => XS.iconst Xh95.here hx rfl (hb hby at_131) kk) ?_
      refine OwnGo.back (T92.setTop (mkF m 143 #[.val (.int p1), .val (.int p2), .val (.int p3), .val (.int p4), .val (.int (1 : Int32)), .val (.int x0), .val (.int x1), .val (.int x2), .val (.ref b35), .val (.ref b55), .unset, .unset] [])) (fun tg kk => XS.icmpYes Xh95.here hx rfl (pc0 := 132) (pc' := 143) rfl (hb hby at_132) rfl (tlt (by decide : (1 : Int32) < (2 : Int32))).1 (by decide) (by decide) kk) ?_
      refine OwnGo.back (T92.setTop (mkF m 145 #[.val (.int p1), .val (.int p2), .val (.int p3), .val (.int p4), .val (.int (1 : Int32)), .val (.int x0), .val (.int x1), .val (.int x2), .val (.ref b35), .val (.ref b55), .unset, .unset] [(.int (1 : Int32))])) (fun tg kk => XS.iload Xh95.here hx rfl (hb hby at_143) rfl kk) ?_
      refine OwnGo.back (T92.setTop (mkF m 146 #[.val (.int p1), .val (.int p2), .val (.int p3), .val (.int p4), .val (.int (1 : Int32)), .val (.int x0), .val (.int x1), .val (.int x2), .val (.ref b35), .val (.ref b55), .unset, .unset] [(.int (3 : Int32)), (.int (1 : Int32))])) (fun tg kk => XS.iconst Xh95.here hx rfl (hb hby at_145) kk) ?_
      refine OwnGo.back (T92.setTop (mkF m 157 #[.val (.int p1), .val (.int p2), .val (.int p3), .val (.int p4), .val (.int (1 : Int32)), .val (.int x0), .val (.int x1), .val (.int x2), .val (.ref b35), .val (.ref b55), .unset, .unset] [])) (fun tg kk => XS.icmpYes Xh95.here hx rfl (pc0 := 146) (pc' := 157) rfl (hb hby at_146) rfl (tlt (by decide : (1 : Int32) < (3 : Int32))).1 (by decide) (by decide) kk) ?_
      refine OwnGo.back (T92.setTop (mkF m 158 #[.val (.int p1), .val (.int p2), .val (.int p3), .val (.int p4), .val (.int (1 : Int32)), .val (.int x0), .val (.int x1), .val (.int x2), .val (.ref b35), .val (.ref b55), .unset, .unset] [(.int (1 : Int32))])) (fun tg kk => XS.iconst Xh95.here hx rfl (hb hby at_157) kk) ?_
      refine OwnGo.back (T92.setTop (mkF m 162 #[.val (.int p1), .val (.int p2), .val (.int p3), .val (.int p4), .val (.int (1 : Int32)), .val (.int x0), .val (.int x1), .val (.int x2), .val (.ref b35), .val (.ref b55), .unset, .unset] [(.int (1 : Int32))])) (fun tg kk => XS.goto Xh95.here hx rfl (pc0 := 158) (pc' := 162) rfl (hb hby at_158) (by decide) (by decide) kk) ?_
      refine OwnGo.back (T92.setTop (mkF m 164 #[.val (.int p1), .val (.int p2), .val (.int p3), .val (.int p4), .val (.int (1 : Int32)), .val (.int x0), .val (.int x1), .val (.int x2), .val (.ref b35), .val (.ref b55), .val (.int (1 : Int32)), .unset] [])) (fun tg kk => XS.istore Xh95.here hx rfl (hb hby at_162) rfl (l' := #[.val (.int p1), .val (.int p2), .val (.int p3), .val (.int p4), .val (.int (1 : Int32)), .val (.int x0), .val (.int x1), .val (.int x2), .val (.ref b35), .val (.ref b55), .val (.int (1 : Int32)), .unset]) rfl kk) ?_
      refine OwnGo.back (T92.setTop (mkF m 166 #[.val (.int p1), .val (.int p2), .val (.int p3), .val (.int p4), .val (.int (1 : Int32)), .val (.int x0), .val (.int x1), .val (.int x2), .val (.ref b35), .val (.ref b55), .val (.int (1 : Int32)), .unset] [(.int (1 : Int32))])) (fun tg kk => XS.iload Xh95.here hx rfl (hb hby at_164) rfl kk) ?_
      refine OwnGo.back (T92.setTop (mkF m 169 #[.val (.int p1), .val (.int p2), .val (.int p3), .val (.int p4), .val (.int (1 : Int32)), .val (.int x0), .val (.int x1), .val (.int x2), .val (.ref b35), .val (.ref b55), .val (.int (1 : Int32)), .unset] [])) (fun tg kk => XS.ifNo Xh95.here hx rfl (hb hby at_166) rfl ((if0 _ _).trans (feq (by decide : ¬ ((1 : Int32) = (0 : Int32)))).1) kk) ?_
      refine OwnGo.back (T92.setTop (mkF m 170 #[.val (.int p1), .val (.int p2), .val (.int p3), .val (.int p4), .val (.int (1 : Int32)), .val (.int x0), .val (.int x1), .val (.int x2), .val (.ref b35), .val (.ref b55), .val (.int (1 : Int32)), .unset] [(.int (1 : Int32))])) (fun tg kk => XS.iconst Xh95.here hx rfl (hb hby at_169) kk) ?_
      obtain ⟨fs, hr, hrun, hended, -, hW, hI, hsame⟩ := Xh95.leaveW hS (by rw [e92]; exact (Nat.le_trans (Nat.le_trans (Nat.le_trans (Nat.le_trans hk0 E35.1) (Keep.of_wr W45).1) E55.1) Kc69.1)) (v := some (.int (1 : Int32))) (fun h => by rw [Bd.returns] at h; cases h)
      refine ⟨_, _, ?_, hrun, hended, _, _, rfl, ?_, ⟨_, rfl⟩, hW, hI, hsame.mono (by decide) (by decide)⟩
      · exact retN Xh95 hx (t := .boolean) Bd.returns (by simp) (hb hby at_170) hr
      · show own_law_Q Z p1 p2 p3 p4 cs aA oi h0 n0 _ T92.heap _
        rw [e92]
        exact ⟨rfl, Nh95, K85⟩
  ·
    rw [hk]
    refine OwnGo.back (s₁.setTop (mkF m 31 #[.val (.int p1), .val (.int p2), .val (.int p3), .val (.int p4), .val (.int (2 : Int32)), .val (.int x0), .val (.int x1), .val (.int x2), .unset, .unset, .unset, .unset] [(.int (2 : Int32))])) (fun tg kk => XS.iload X0.here hx rfl (hb hby at_29) rfl kk) ?_
    refine OwnGo.back (s₁.setTop (mkF m 42 #[.val (.int p1), .val (.int p2), .val (.int p3), .val (.int p4), .val (.int (2 : Int32)), .val (.int x0), .val (.int x1), .val (.int x2), .unset, .unset, .unset, .unset] [])) (fun tg kk => XS.ifYes X0.here hx rfl (pc0 := 31) (pc' := 42) rfl (hb hby at_31) rfl ((if0 _ _).trans (feq (by decide : ¬ ((2 : Int32) = (0 : Int32)))).2) (by decide) (by decide) kk) ?_
    refine OwnGo.back (s₁.setTop (mkF m 44 #[.val (.int p1), .val (.int p2), .val (.int p3), .val (.int p4), .val (.int (2 : Int32)), .val (.int x0), .val (.int x1), .val (.int x2), .unset, .unset, .unset, .unset] [(.int (2 : Int32))])) (fun tg kk => XS.iload X0.here hx rfl (hb hby at_42) rfl kk) ?_
    refine OwnGo.back (s₁.setTop (mkF m 45 #[.val (.int p1), .val (.int p2), .val (.int p3), .val (.int p4), .val (.int (2 : Int32)), .val (.int x0), .val (.int x1), .val (.int x2), .unset, .unset, .unset, .unset] [(.int (1 : Int32)), (.int (2 : Int32))])) (fun tg kk => XS.iconst X0.here hx rfl (hb hby at_44) kk) ?_
    refine OwnGo.back (s₁.setTop (mkF m 61 #[.val (.int p1), .val (.int p2), .val (.int p3), .val (.int p4), .val (.int (2 : Int32)), .val (.int x0), .val (.int x1), .val (.int x2), .unset, .unset, .unset, .unset] [])) (fun tg kk => XS.icmpYes X0.here hx rfl (pc0 := 45) (pc' := 61) rfl (hb hby at_45) rfl (feq (by decide : ¬ ((2 : Int32) = (1 : Int32)))).2 (by decide) (by decide) kk) ?_
    refine OwnGo.back (s₁.setTop (mkF m 63 #[.val (.int p1), .val (.int p2), .val (.int p3), .val (.int p4), .val (.int (2 : Int32)), .val (.int x0), .val (.int x1), .val (.int x2), .unset, .unset, .unset, .unset] [(.int (2 : Int32))])) (fun tg kk => XS.iload X0.here hx rfl (hb hby at_61) rfl kk) ?_
    refine OwnGo.back (s₁.setTop (mkF m 64 #[.val (.int p1), .val (.int p2), .val (.int p3), .val (.int p4), .val (.int (2 : Int32)), .val (.int x0), .val (.int x1), .val (.int x2), .unset, .unset, .unset, .unset] [(.int (2 : Int32)), (.int (2 : Int32))])) (fun tg kk => XS.iconst X0.here hx rfl (hb hby at_63) kk) ?_
    refine OwnGo.back (s₁.setTop (mkF m 67 #[.val (.int p1), .val (.int p2), .val (.int p3), .val (.int p4), .val (.int (2 : Int32)), .val (.int x0), .val (.int x1), .val (.int x2), .unset, .unset, .unset, .unset] [])) (fun tg kk => XS.icmpNo X0.here hx rfl (hb hby at_64) rfl (teq (by decide : (2 : Int32) = (2 : Int32))).2 kk) ?_
    refine OwnGo.back (s₁.setTop (mkF m 68 #[.val (.int p1), .val (.int p2), .val (.int p3), .val (.int p4), .val (.int (2 : Int32)), .val (.int x0), .val (.int x1), .val (.int x2), .unset, .unset, .unset, .unset] [(.int (2 : Int32))])) (fun tg kk => XS.iconst X0.here hx rfl (hb hby at_67) kk) ?_
    obtain ⟨T103, h103, k103, X103, e103, E103, A103, st103⟩ := newP X0 hx hZ (hw _ (List.mem_of_getElem? (i := 0) rfl)) e0 (g := (mkF m 68 #[.val (.int p1), .val (.int p2), .val (.int p3), .val (.int p4), .val (.int (2 : Int32)), .val (.int x0), .val (.int x1), .val (.int x2), .unset, .unset, .unset, .unset] [(.int (2 : Int32))])) rfl (hb hby at_68) rfl (by decide) (cap := 2) (by decide) (by decide) (by decide) (by decide)
    obtain ⟨b103, q103⟩ : ∃ z, z = h0.size := ⟨_, rfl⟩
    rw [← q103] at A103 st103
    have g104 : n0 ≤ b103 := Nat.le_trans Z0 (Nat.le_of_eq q103.symm)
    have s105 : h0.size ≤ b103 := Nat.le_trans K0.1 (Nat.le_of_eq q103.symm)
    have f106 : Old Z n0 h103 := old.ext E103
    have f107 : Exa Z h103 oi "java/lang/CharacterDataLatin1" := Xi.ext E103
    have K108 : Keep h0 h103 [] := K0.ext E103
    have Z109 : n0 ≤ h103.size := Nat.le_trans Z0 E103.1
    have R110 := CHr.trans R0 (CHr.ext E103 R0.1)
    have f111 : Arv Z h103 b103 k103 .char (2 : Int32) [(.int (0 : Int32)), (.int (0 : Int32))] (.int (0 : Int32)) := (Arv.new A103 (by decide)).pad (pad_rep [] (.int (0 : Int32)) 2)
    clear old Xi R0
    refine OwnGo.back (T103.setTop (mkF m 70 #[.val (.int p1), .val (.int p2), .val (.int p3), .val (.int p4), .val (.int (2 : Int32)), .val (.int x0), .val (.int x1), .val (.int x2), .unset, .unset, .unset, .unset] [(.ref b103)])) (fun tg kk => st103 _ kk) ?_
    refine OwnGo.back (T103.setTop (mkF m 71 #[.val (.int p1), .val (.int p2), .val (.int p3), .val (.int p4), .val (.int (2 : Int32)), .val (.int x0), .val (.int x1), .val (.int x2), .unset, .unset, .unset, .unset] [(.ref b103), (.ref b103)])) (fun tg kk => XS.dup X103.here hx rfl (hb hby at_70) rfl rfl kk) ?_
    refine OwnGo.back (T103.setTop (mkF m 72 #[.val (.int p1), .val (.int p2), .val (.int p3), .val (.int p4), .val (.int (2 : Int32)), .val (.int x0), .val (.int x1), .val (.int x2), .unset, .unset, .unset, .unset] [(.int (0 : Int32)), (.ref b103), (.ref b103)])) (fun tg kk => XS.iconst X103.here hx rfl (hb hby at_71) kk) ?_
    refine OwnGo.back (T103.setTop (mkF m 74 #[.val (.int p1), .val (.int p2), .val (.int p3), .val (.int p4), .val (.int (2 : Int32)), .val (.int x0), .val (.int x1), .val (.int x2), .unset, .unset, .unset, .unset] [(.int x0), (.int (0 : Int32)), (.ref b103), (.ref b103)])) (fun tg kk => XS.iload X103.here hx rfl (hb hby at_72) rfl kk) ?_
    obtain ⟨cl_112, Ar_112, qq_112, Sz_112, Ng_112, Hs_112, Gf_112⟩ := id f111
    have hin_112 : ¬ ((0 : Int32) < 0 ∨ cl_112.slots.size ≤ ((0 : Int32)).toNatClampNeg) := inb_of Sz_112 ⟨by decide, by decide⟩
    obtain ⟨T113, h113, X113, e113, W113, st113⟩ := stC X103 hx hZ e103 Ar_112 (j := (0 : Int32)) hin_112 (g := (mkF m 74 #[.val (.int p1), .val (.int p2), .val (.int p3), .val (.int p4), .val (.int (2 : Int32)), .val (.int x0), .val (.int x1), .val (.int x2), .unset, .unset, .unset, .unset] [(.int x0), (.int (0 : Int32)), (.ref b103), (.ref b103)])) rfl rfl (hb hby at_74)
    have f114 : Arv Z h113 b103 k103 .char (2 : Int32) [(.int (nar .char x0)), (.int (0 : Int32))] (.int (0 : Int32)) := Arv.set Ar_112 qq_112 Sz_112 Ng_112 Hs_112 Gf_112 (fits_nar_char _) W113 0 rfl (Nat.le_of_ble_eq_true rfl)
    rw [(own_nrn hl0 hu0)] at f114
    have sf115 : Safe Z own_EL s.vm h103 b103 := (own_safeArv hZ.alike f111 (by simp))
    have R116 := CHr.trans R110 (CHr.wr W113 sf115 R110.1)
    have f117 : Old Z n0 h113 := f106.wr W113 g104
    have f118 : Exa Z h113 oi "java/lang/CharacterDataLatin1" := f107.wr W113
    have K119 : Keep h0 h113 [] := K108.wr W113 (Or.inr s105)
    have Z120 : n0 ≤ h113.size := Nat.le_trans Z109 (Keep.of_wr W113).1
    have N121 := Fr.snoc X113 N0 g104
    obtain ⟨lo122, Xh122, Nh122⟩ := own_hide X113 N121 (C := 1) (S := 2) rfl rfl
    clear R110 f106 f107 X113 N121
    refine OwnGo.back (T113.setTop (mkF m 75 #[.val (.int p1), .val (.int p2), .val (.int p3), .val (.int p4), .val (.int (2 : Int32)), .val (.int x0), .val (.int x1), .val (.int x2), .unset, .unset, .unset, .unset] [(.ref b103)])) (fun tg kk => st113 _ kk) ?_
    refine OwnGo.back (T113.setTop (mkF m 76 #[.val (.int p1), .val (.int p2), .val (.int p3), .val (.int p4), .val (.int (2 : Int32)), .val (.int x0), .val (.int x1), .val (.int x2), .unset, .unset, .unset, .unset] [(.ref b103), (.ref b103)])) (fun tg kk => XS.dup Xh122.here hx rfl (hb hby at_75) rfl rfl kk) ?_
    refine OwnGo.back (T113.setTop (mkF m 77 #[.val (.int p1), .val (.int p2), .val (.int p3), .val (.int p4), .val (.int (2 : Int32)), .val (.int x0), .val (.int x1), .val (.int x2), .unset, .unset, .unset, .unset] [(.int (1 : Int32)), (.ref b103), (.ref b103)])) (fun tg kk => XS.iconst Xh122.here hx rfl (hb hby at_76) kk) ?_
    refine OwnGo.back (T113.setTop (mkF m 79 #[.val (.int p1), .val (.int p2), .val (.int p3), .val (.int p4), .val (.int (2 : Int32)), .val (.int x0), .val (.int x1), .val (.int x2), .unset, .unset, .unset, .unset] [(.int x1), (.int (1 : Int32)), (.ref b103), (.ref b103)])) (fun tg kk => XS.iload Xh122.here hx rfl (hb hby at_77) rfl kk) ?_
    obtain ⟨cl_123, Ar_123, qq_123, Sz_123, Ng_123, Hs_123, Gf_123⟩ := id f114
    have hin_123 : ¬ ((1 : Int32) < 0 ∨ cl_123.slots.size ≤ ((1 : Int32)).toNatClampNeg) := inb_of Sz_123 ⟨by decide, by decide⟩
    obtain ⟨T124, h124, X124, e124, W124, st124⟩ := stC Xh122 hx hZ e113 Ar_123 (j := (1 : Int32)) hin_123 (g := (mkF m 79 #[.val (.int p1), .val (.int p2), .val (.int p3), .val (.int p4), .val (.int (2 : Int32)), .val (.int x0), .val (.int x1), .val (.int x2), .unset, .unset, .unset, .unset] [(.int x1), (.int (1 : Int32)), (.ref b103), (.ref b103)])) rfl rfl (hb hby at_79)
    have f125 : Arv Z h124 b103 k103 .char (2 : Int32) [(.int x0), (.int (nar .char x1))] (.int (0 : Int32)) := Arv.set Ar_123 qq_123 Sz_123 Ng_123 Hs_123 Gf_123 (fits_nar_char _) W124 1 rfl (Nat.le_of_ble_eq_true rfl)
    rw [(own_nrn hl1 hu1)] at f125
    have sf126 : Safe Z own_EL s.vm h113 b103 := (own_safeArv hZ.alike f114 (by simp))
    have R127 := CHr.trans R116 (CHr.wr W124 sf126 R116.1)
    have f128 : Old Z n0 h124 := f117.wr W124 g104
    have f129 : Exa Z h124 oi "java/lang/CharacterDataLatin1" := f118.wr W124
    have K130 : Keep h0 h124 [] := K119.wr W124 (Or.inr s105)
    have Z131 : n0 ≤ h124.size := Nat.le_trans Z120 (Keep.of_wr W124).1
    have N132 := Fr.snoc X124 Nh122 g104
    obtain ⟨lo133, Xh133, Nh133⟩ := own_hide X124 N132 (C := 1) (S := 2) rfl rfl
    clear R116 f117 f118 X124 N132
    refine OwnGo.back (T124.setTop (mkF m 80 #[.val (.int p1), .val (.int p2), .val (.int p3), .val (.int p4), .val (.int (2 : Int32)), .val (.int x0), .val (.int x1), .val (.int x2), .unset, .unset, .unset, .unset] [(.ref b103)])) (fun tg kk => st124 _ kk) ?_
    refine OwnGo.back (T124.setTop (mkF m 82 #[.val (.int p1), .val (.int p2), .val (.int p3), .val (.int p4), .val (.int (2 : Int32)), .val (.int x0), .val (.int x1), .val (.int x2), .val (.ref b103), .unset, .unset, .unset] [])) (fun tg kk => XS.astore Xh133.here hx rfl (hb hby at_80) rfl rfl (l' := #[.val (.int p1), .val (.int p2), .val (.int p3), .val (.int p4), .val (.int (2 : Int32)), .val (.int x0), .val (.int x1), .val (.int x2), .val (.ref b103), .unset, .unset, .unset]) rfl kk) ?_
    refine OwnGo.back (T124.setTop (mkF m 105 #[.val (.int p1), .val (.int p2), .val (.int p3), .val (.int p4), .val (.int (2 : Int32)), .val (.int x0), .val (.int x1), .val (.int x2), .val (.ref b103), .unset, .unset, .unset] [])) (fun tg kk => XS.goto Xh133.here hx rfl (pc0 := 82) (pc' := 105) rfl (hb hby at_82) (by decide) (by decide) kk) ?_
    obtain ⟨T134, h134, X134, e134, E134, A134, D134, -, st134⟩ := newO Xh133 hx hZ hown (hw _ (List.mem_of_getElem? (i := 1) rfl)) (hw _ (List.mem_of_getElem? (i := 2) rfl)) (hw _ (List.mem_of_getElem? (i := 3) rfl)) e124 (g := (mkF m 105 #[.val (.int p1), .val (.int p2), .val (.int p3), .val (.int p4), .val (.int (2 : Int32)), .val (.int x0), .val (.int x1), .val (.int x2), .val (.ref b103), .unset, .unset, .unset] [])) rfl (hb hby at_105) (by decide) (by decide)
    obtain ⟨b134, q134⟩ : ∃ z, z = h124.size := ⟨_, rfl⟩
    rw [← q134] at A134 D134 st134
    have n135 : b103 ≠ b134 := own_ne f125.lt q134
    have g136 : n0 ≤ b134 := Nat.le_trans Z131 (Nat.le_of_eq q134.symm)
    have s137 : h0.size ≤ b134 := Nat.le_trans K130.1 (Nat.le_of_eq q134.symm)
    have sf138 : Safe Z own_EL s.vm h124 b134 := Safe.new (Nat.le_of_eq q134.symm)
    have f139 : Old Z n0 h134 := f128.ext E134
    have f140 : Exa Z h134 oi "java/lang/CharacterDataLatin1" := f129.ext E134
    have f141 : Arv Z h134 b103 k103 .char (2 : Int32) [(.int x0), (.int x1)] (.int (0 : Int32)) := f125.ext E134
    have K142 : Keep h0 h134 [] := K130.ext E134
    have Z143 : n0 ≤ h134.size := Nat.le_trans Z131 E134.1
    have sf144 := Safe.ext E134 R127.1 sf138
    have R145 := CHr.trans R127 (CHr.ext E134 R127.1)
    have f146 : Fld Z h134 b134 "java/lang/String" "value" "[B" .null := D134 (Or.inr (hw _ (List.mem_of_getElem? (i := 16) rfl))) (ty := (.array .byte)) (by decide)
    have f147 : Fld Z h134 b134 "java/lang/String" "coder" "B" (.int (0 : Int32)) := D134 (Or.inr (hw _ (List.mem_of_getElem? (i := 17) rfl))) (ty := .byte) (by decide)
    clear f128 f129 f125 R127
    refine OwnGo.back (T134.setTop (mkF m 108 #[.val (.int p1), .val (.int p2), .val (.int p3), .val (.int p4), .val (.int (2 : Int32)), .val (.int x0), .val (.int x1), .val (.int x2), .val (.ref b103), .unset, .unset, .unset] [(.ref b134)])) (fun tg kk => st134 _ kk) ?_
    refine OwnGo.back (T134.setTop (mkF m 109 #[.val (.int p1), .val (.int p2), .val (.int p3), .val (.int p4), .val (.int (2 : Int32)), .val (.int x0), .val (.int x1), .val (.int x2), .val (.ref b103), .unset, .unset, .unset] [(.ref b134), (.ref b134)])) (fun tg kk => XS.dup X134.here hx rfl (hb hby at_108) rfl rfl kk) ?_
    refine OwnGo.back (T134.setTop (mkF m 111 #[.val (.int p1), .val (.int p2), .val (.int p3), .val (.int p4), .val (.int (2 : Int32)), .val (.int x0), .val (.int x1), .val (.int x2), .val (.ref b103), .unset, .unset, .unset] [(.ref b103), (.ref b134), (.ref b134)])) (fun tg kk => XS.aload X134.here hx rfl (hb hby at_109) rfl rfl kk) ?_
    obtain ⟨_, _, ⟨T148, L148, k148, n148⟩, -, X148, ⟨Lc148, hQ148, l148, y148, z148⟩, st148⟩ := X134.specialBack hx (y := (⟨"java/lang/String", "<init>", "([C)V"⟩ : MethodName)) rfl hown (mvT hZ (hw _ (List.mem_of_getElem? (i := 4) rfl))) (mvT hZ (hw _ (List.mem_of_getElem? (i := 5) rfl))) (mvT hZ (hw _ (List.mem_of_getElem? (i := 6) rfl))) (by decide) (backOf (W := 1) (own_i1_2 l Z a0 hw [] b134 b103 k103 x0 x1 cs h134 n0 Z143 f141 hl0 hu0 hl1 hu1 S f139 hcs A134 f146 f147 g136 (Ne.symm n135)) hZ (hw _ (List.mem_of_getElem? (i := 6) rfl)) (hw _ (List.mem_of_getElem? (i := 3) rfl)) (by decide) (by decide)) (g := (mkF m 111 #[.val (.int p1), .val (.int p2), .val (.int p3), .val (.int p4), .val (.int (2 : Int32)), .val (.int x0), .val (.int x1), .val (.int x2), .val (.ref b103), .unset, .unset, .unset] [(.ref b103), (.ref b134), (.ref b134)])) rfl (by rw [hml]; rfl) (Steps.refl _) (a := b134) (argsL := [(.ref b103)]) (rest := [(.ref b134)]) (lenOf own_pd11 rfl) rfl (by show 2 * 0 + _ ≤ _; exact Nat.le_of_eq rfl) (hb hby at_111) (fun _ _ => ⟨rfl, e134, (by decide : 2 + 1 ≤ _), (by decide : 6 + 2 ≤ _)⟩)
    dsimp only [Pt.U, Pt.locs, Pt.cells, Pt.slots] at X148 l148 y148 z148 st148 hQ148
    subst l148 y148 z148
    obtain ⟨b_149, kb_150, rfl, N148q, Kc148, po151, po152, po153, po154, po155⟩ := hQ148
    have N148 := Fr.app Nh133 N148q
    have hs156 : ∀ x ∈ [b134], Safe Z own_EL s.vm h134 x := (allS sf144 all0)
    have sf157 := Safe.keep Kc148 hs156 R145.1 sf144
    have sf158 := Safe.keep (vm := s.vm) Kc148 hs156 R145.1 (Safe.new po151)
    have R159 := CHr.trans R145 (CHr.keep Kc148 hs156 R145.1)
    have f160 : Old Z n0 T148.heap := f139.keep Kc148 (allS g136 all0)
    have f161 : Exa Z T148.heap oi "java/lang/CharacterDataLatin1" := f140.keep Kc148
    have f162 : Arv Z T148.heap b103 k103 .char (2 : Int32) [(.int x0), (.int x1)] (.int (0 : Int32)) := f141.keep Kc148 (ninS n135 nin0)
    have f163 : Exa Z T148.heap b134 "java/lang/String" := A134.keep Kc148
    have K164 : Keep h0 T148.heap [] := K142.trans Kc148 (allS (Or.inr s137) all0)
    have Z165 : n0 ≤ T148.heap.size := Nat.le_trans Z143 Kc148.1
    have n166 : b103 ≠ b_149 := own_ne' f141.lt po151
    have n167 : b134 ≠ b_149 := own_ne' A134.lt po151
    have g168 : n0 ≤ b_149 := Nat.le_trans Z143 po151
    have s169 : h0.size ≤ b_149 := Nat.le_trans K142.1 po151
    obtain ⟨lo170, Xh170, Nh170⟩ := own_hide X148 N148 (C := 3) (S := 8) rfl rfl
    clear sf144 R145 f139 f140 f141 A134 X148 N148
    refine OwnGo.back (T148.setTop (mkF m 114 #[.val (.int p1), .val (.int p2), .val (.int p3), .val (.int p4), .val (.int (2 : Int32)), .val (.int x0), .val (.int x1), .val (.int x2), .val (.ref b103), .unset, .unset, .unset] [(.ref b134)])) (fun tg kk => st148.trans kk) ?_
    refine OwnGo.back (T148.setTop (mkF m 116 #[.val (.int p1), .val (.int p2), .val (.int p3), .val (.int p4), .val (.int (2 : Int32)), .val (.int x0), .val (.int x1), .val (.int x2), .val (.ref b103), .val (.ref b134), .unset, .unset] [])) (fun tg kk => XS.astore Xh170.here hx rfl (hb hby at_114) rfl rfl (l' := #[.val (.int p1), .val (.int p2), .val (.int p3), .val (.int p4), .val (.int (2 : Int32)), .val (.int x0), .val (.int x1), .val (.int x2), .val (.ref b103), .val (.ref b134), .unset, .unset]) rfl kk) ?_
    refine OwnGo.back (T148.setTop (mkF m 118 #[.val (.int p1), .val (.int p2), .val (.int p3), .val (.int p4), .val (.int (2 : Int32)), .val (.int x0), .val (.int x1), .val (.int x2), .val (.ref b103), .val (.ref b134), .unset, .unset] [(.int (2 : Int32))])) (fun tg kk => XS.iload Xh170.here hx rfl (hb hby at_116) rfl kk) ?_
    refine OwnGo.back (T148.setTop (mkF m 121 #[.val (.int p1), .val (.int p2), .val (.int p3), .val (.int p4), .val (.int (2 : Int32)), .val (.int x0), .val (.int x1), .val (.int x2), .val (.ref b103), .val (.ref b134), .unset, .unset] [])) (fun tg kk => XS.ifNo Xh170.here hx rfl (hb hby at_118) rfl ((if0 _ _).trans (feq (by decide : ¬ ((2 : Int32) = (0 : Int32)))).1) kk) ?_
    refine OwnGo.back (T148.setTop (mkF m 123 #[.val (.int p1), .val (.int p2), .val (.int p3), .val (.int p4), .val (.int (2 : Int32)), .val (.int x0), .val (.int x1), .val (.int x2), .val (.ref b103), .val (.ref b134), .unset, .unset] [(.int x0)])) (fun tg kk => XS.iload Xh170.here hx rfl (hb hby at_121) rfl kk) ?_
    obtain ⟨_, _, ⟨T171, L171, k171, n171⟩, -, X171, ⟨Lc171, hQ171, l171, y171, z171⟩, st171⟩ := Jvm.LawKit.callS Xh170 hx (y := (⟨"com/example/penelope/penelope/RollbackRulesCheckedNamePinLaw", "ws", "(I)Z"⟩ : MethodName)) hown (mvT hZ (hw _ (List.mem_of_getElem? (i := 33) rfl))) (mvT hZ (hw _ (List.mem_of_getElem? (i := 34) rfl))) (mvT hZ (hw _ (List.mem_of_getElem? (i := 35) rfl))) (mvT hZ (hw _ (List.mem_of_getElem? (i := 36) rfl))) (by decide) (backOf (W := 0) (own_wsp l Z a0 hw [] x0 T148.heap n0 Z165 ) hZ (hw _ (List.mem_of_getElem? (i := 36) rfl)) (hw _ (List.mem_of_getElem? (i := 35) rfl)) (by decide) (by decide)) (g := (mkF m 123 #[.val (.int p1), .val (.int p2), .val (.int p3), .val (.int p4), .val (.int (2 : Int32)), .val (.int x0), .val (.int x1), .val (.int x2), .val (.ref b103), .val (.ref b134), .unset, .unset] [(.int x0)])) rfl (by rw [hml]; rfl) (argsL := [(.int x0)]) (rest := []) (lenOf own_pd6 rfl) rfl (by show 2 * 0 + _ ≤ _; exact Nat.le_of_eq rfl) (hb hby at_123) (fun _ _ => ⟨rfl, rfl, (by decide : 3 + 0 ≤ _), (by decide : 8 + 0 ≤ _)⟩)
    dsimp only [Pt.U, Pt.locs, Pt.cells, Pt.slots] at X171 l171 y171 z171 st171 hQ171
    subst l171 y171 z171
    obtain ⟨r_172, rfl, N171q, e171, po173⟩ := hQ171
    have N171 := Fr.app Nh170 N171q
    obtain ⟨lo174, Xh174, Nh174⟩ := own_hide X171 N171 (C := 3) (S := 8) rfl rfl
    clear X171 N171
    refine OwnGo.back (T171.setTop (mkF m 126 #[.val (.int p1), .val (.int p2), .val (.int p3), .val (.int p4), .val (.int (2 : Int32)), .val (.int x0), .val (.int x1), .val (.int x2), .val (.ref b103), .val (.ref b134), .unset, .unset] [(.int r_172)])) (fun tg kk => st171 _ kk) ?_
    by_cases hc175 : r_172 = (0 : Int32)
    ·
      refine OwnGo.back (T171.setTop (mkF m 161 #[.val (.int p1), .val (.int p2), .val (.int p3), .val (.int p4), .val (.int (2 : Int32)), .val (.int x0), .val (.int x1), .val (.int x2), .val (.ref b103), .val (.ref b134), .unset, .unset] [])) (fun tg kk => XS.ifYes Xh174.here hx rfl (pc0 := 126) (pc' := 161) rfl (hb hby at_126) rfl ((if0 _ _).trans (teq hc175).1) (by decide) (by decide) kk) ?_
      refine OwnGo.back (T171.setTop (mkF m 162 #[.val (.int p1), .val (.int p2), .val (.int p3), .val (.int p4), .val (.int (2 : Int32)), .val (.int x0), .val (.int x1), .val (.int x2), .val (.ref b103), .val (.ref b134), .unset, .unset] [(.int (0 : Int32))])) (fun tg kk => XS.iconst Xh174.here hx rfl (hb hby at_161) kk) ?_
      refine OwnGo.back (T171.setTop (mkF m 164 #[.val (.int p1), .val (.int p2), .val (.int p3), .val (.int p4), .val (.int (2 : Int32)), .val (.int x0), .val (.int x1), .val (.int x2), .val (.ref b103), .val (.ref b134), .val (.int (0 : Int32)), .unset] [])) (fun tg kk => XS.istore Xh174.here hx rfl (hb hby at_162) rfl (l' := #[.val (.int p1), .val (.int p2), .val (.int p3), .val (.int p4), .val (.int (2 : Int32)), .val (.int x0), .val (.int x1), .val (.int x2), .val (.ref b103), .val (.ref b134), .val (.int (0 : Int32)), .unset]) rfl kk) ?_
      refine OwnGo.back (T171.setTop (mkF m 166 #[.val (.int p1), .val (.int p2), .val (.int p3), .val (.int p4), .val (.int (2 : Int32)), .val (.int x0), .val (.int x1), .val (.int x2), .val (.ref b103), .val (.ref b134), .val (.int (0 : Int32)), .unset] [(.int (0 : Int32))])) (fun tg kk => XS.iload Xh174.here hx rfl (hb hby at_164) rfl kk) ?_
      refine OwnGo.back (T171.setTop (mkF m 171 #[.val (.int p1), .val (.int p2), .val (.int p3), .val (.int p4), .val (.int (2 : Int32)), .val (.int x0), .val (.int x1), .val (.int x2), .val (.ref b103), .val (.ref b134), .val (.int (0 : Int32)), .unset] [])) (fun tg kk => XS.ifYes Xh174.here hx rfl (pc0 := 166) (pc' := 171) rfl (hb hby at_166) rfl ((if0 _ _).trans (teq (by decide : (0 : Int32) = (0 : Int32))).1) (by decide) (by decide) kk) ?_
      refine OwnGo.back (T171.setTop (mkF m 173 #[.val (.int p1), .val (.int p2), .val (.int p3), .val (.int p4), .val (.int (2 : Int32)), .val (.int x0), .val (.int x1), .val (.int x2), .val (.ref b103), .val (.ref b134), .val (.int (0 : Int32)), .unset] [(.ref b134)])) (fun tg kk => XS.aload Xh174.here hx rfl (hb hby at_171) rfl rfl kk) ?_
      obtain ⟨_, _, ⟨T176, L176, k176, n176⟩, -, X176, ⟨Lc176, hQ176, l176, y176, z176⟩, st176⟩ := Jvm.LawKit.callS Xh174 hx (y := (⟨"com/example/penelope/penelope/RollbackRules", "checkedName", "(Ljava/lang/String;)Ljava/lang/String;"⟩ : MethodName)) hown (mvT hZ (hw _ (List.mem_of_getElem? (i := 37) rfl))) (mvT hZ (hw _ (List.mem_of_getElem? (i := 38) rfl))) (mvT hZ (hw _ (List.mem_of_getElem? (i := 39) rfl))) (mvT hZ (hw _ (List.mem_of_getElem? (i := 40) rfl))) (by decide) (backOf (W := 0) (own_cn2 l Z a0 hw [] b134 b_149 kb_150 x0 x1 aA oi cs T148.heap n0 Z165 hl0 hu0 hl1 hu1 SA f160 hA SN f161 (by (simp only [true_and, and_true, false_and, and_false, or_false, false_or, or_true, true_or, not_true_eq_false, not_false_eq_true, eq_self, Int32.lt_iff_toInt_lt, Int32.le_iff_toInt_le, ← Int32.toInt_inj, Int32.reduceToInt, Int64.lt_iff_toInt_lt, Int64.le_iff_toInt_le, ← Int64.toInt_inj, Int64.reduceToInt] at hc175 hcs hl0 hu0 hl1 hu1 hl2 hu2 po173 ⊢) <;> omega) S hcs po152 po153 po154 po155) hZ (hw _ (List.mem_of_getElem? (i := 40) rfl)) (hw _ (List.mem_of_getElem? (i := 39) rfl)) (by decide) (by decide)) (g := (mkF m 173 #[.val (.int p1), .val (.int p2), .val (.int p3), .val (.int p4), .val (.int (2 : Int32)), .val (.int x0), .val (.int x1), .val (.int x2), .val (.ref b103), .val (.ref b134), .val (.int (0 : Int32)), .unset] [(.ref b134)])) rfl (by rw [hml]; rfl) (argsL := [(.ref b134)]) (rest := []) (lenOf own_pd12 rfl) rfl (by show 2 * 0 + _ ≤ _; exact Nat.le_of_eq rfl) (hb hby at_173) (fun _ _ => ⟨rfl, e171, (by decide : 3 + 0 ≤ _), (by decide : 8 + 0 ≤ _)⟩)
      dsimp only [Pt.U, Pt.locs, Pt.cells, Pt.slots] at X176 l176 y176 z176 st176 hQ176
      subst l176 y176 z176
      obtain ⟨rfl, N176q, e176⟩ := hQ176
      have N176 := Fr.app Nh174 N176q
      obtain ⟨lo177, Xh177, Nh177⟩ := own_hide X176 N176 (C := 3) (S := 8) rfl rfl
      clear X176 N176
      refine OwnGo.back (T176.setTop (mkF m 176 #[.val (.int p1), .val (.int p2), .val (.int p3), .val (.int p4), .val (.int (2 : Int32)), .val (.int x0), .val (.int x1), .val (.int x2), .val (.ref b103), .val (.ref b134), .val (.int (0 : Int32)), .unset] [(.ref b134)])) (fun tg kk => st176 _ kk) ?_
      refine OwnGo.back (T176.setTop (mkF m 178 #[.val (.int p1), .val (.int p2), .val (.int p3), .val (.int p4), .val (.int (2 : Int32)), .val (.int x0), .val (.int x1), .val (.int x2), .val (.ref b103), .val (.ref b134), .val (.int (0 : Int32)), .val (.ref b134)] [])) (fun tg kk => XS.astore Xh177.here hx rfl (hb hby at_176) rfl rfl (l' := #[.val (.int p1), .val (.int p2), .val (.int p3), .val (.int p4), .val (.int (2 : Int32)), .val (.int x0), .val (.int x1), .val (.int x2), .val (.ref b103), .val (.ref b134), .val (.int (0 : Int32)), .val (.ref b134)]) rfl kk) ?_
      refine OwnGo.back (T176.setTop (mkF m 180 #[.val (.int p1), .val (.int p2), .val (.int p3), .val (.int p4), .val (.int (2 : Int32)), .val (.int x0), .val (.int x1), .val (.int x2), .val (.ref b103), .val (.ref b134), .val (.int (0 : Int32)), .val (.ref b134)] [(.ref b134)])) (fun tg kk => XS.aload Xh177.here hx rfl (hb hby at_178) rfl rfl kk) ?_
      refine OwnGo.back (T176.setTop (mkF m 183 #[.val (.int p1), .val (.int p2), .val (.int p3), .val (.int p4), .val (.int (2 : Int32)), .val (.int x0), .val (.int x1), .val (.int x2), .val (.ref b103), .val (.ref b134), .val (.int (0 : Int32)), .val (.ref b134)] [])) (fun tg kk => XS.ifnullNo Xh177.here hx rfl (hb hby at_180) rfl kk) ?_
      refine OwnGo.back (T176.setTop (mkF m 185 #[.val (.int p1), .val (.int p2), .val (.int p3), .val (.int p4), .val (.int (2 : Int32)), .val (.int x0), .val (.int x1), .val (.int x2), .val (.ref b103), .val (.ref b134), .val (.int (0 : Int32)), .val (.ref b134)] [(.ref b134)])) (fun tg kk => XS.aload Xh177.here hx rfl (hb hby at_183) rfl rfl kk) ?_
      obtain ⟨cq178, kq178, q178a, q178b, q178c⟩ := isOf hZ e176 po152
      obtain ⟨_, _, ⟨T178, L178, k178, n178⟩, -, X178, ⟨Lc178, hQ178, l178, y178, z178⟩, st178⟩ := Xh177.virtualBack hx (y := (⟨"java/lang/String", "length", "()I"⟩ : MethodName)) (z := (⟨"java/lang/String", "length", "()I"⟩ : MethodName)) hown (mvT hZ (hw _ (List.mem_of_getElem? (i := 86) rfl))) (mvT hZ (hw _ (List.mem_of_getElem? (i := 77) rfl))) (notFace_of_selects (args := #[]) (mvT hZ (hw _ (List.mem_of_getElem? (i := 79) rfl)))) (mvT hZ (hw _ (List.mem_of_getElem? (i := 79) rfl))) (mvT hZ (hw _ (List.mem_of_getElem? (i := 78) rfl))) (by decide) (backOf (W := 0) (own_len2 l Z a0 hw [] b134 b_149 kb_150 x0 x1 cs T148.heap n0 Z165 S f160 hcs po152 po153 po154 po155) hZ (hw _ (List.mem_of_getElem? (i := 80) rfl)) (hw _ (List.mem_of_getElem? (i := 3) rfl)) (by decide) (by decide)) q178a q178c (g := (mkF m 185 #[.val (.int p1), .val (.int p2), .val (.int p3), .val (.int p4), .val (.int (2 : Int32)), .val (.int x0), .val (.int x1), .val (.int x2), .val (.ref b103), .val (.ref b134), .val (.int (0 : Int32)), .val (.ref b134)] [(.ref b134)])) rfl (by rw [hml]; rfl) (Steps.refl _) (argsL := []) (rest := []) (lenOf own_pd10 rfl) rfl (by show 2 * 0 + _ ≤ _; exact Nat.le_of_eq rfl) (hb hby at_185) (fun _ _ => ⟨rfl, e176, (by decide : 3 + 0 ≤ _), (by decide : 8 + 0 ≤ _)⟩)
      dsimp only [Pt.U, Pt.locs, Pt.cells, Pt.slots] at X178 l178 y178 z178 st178 hQ178
      subst l178 y178 z178
      obtain ⟨rfl, N178q, e178⟩ := hQ178
      have N178 := Fr.app Nh177 N178q
      obtain ⟨lo179, Xh179, Nh179⟩ := own_hide X178 N178 (C := 3) (S := 8) rfl rfl
      clear X178 N178
      refine OwnGo.back (T178.setTop (mkF m 188 #[.val (.int p1), .val (.int p2), .val (.int p3), .val (.int p4), .val (.int (2 : Int32)), .val (.int x0), .val (.int x1), .val (.int x2), .val (.ref b103), .val (.ref b134), .val (.int (0 : Int32)), .val (.ref b134)] [(.int (2 : Int32))])) (fun tg kk => st178.trans kk) ?_
      refine OwnGo.back (T178.setTop (mkF m 190 #[.val (.int p1), .val (.int p2), .val (.int p3), .val (.int p4), .val (.int (2 : Int32)), .val (.int x0), .val (.int x1), .val (.int x2), .val (.ref b103), .val (.ref b134), .val (.int (0 : Int32)), .val (.ref b134)] [(.int (2 : Int32)), (.int (2 : Int32))])) (fun tg kk => XS.iload Xh179.here hx rfl (hb hby at_188) rfl kk) ?_
      refine OwnGo.back (T178.setTop (mkF m 193 #[.val (.int p1), .val (.int p2), .val (.int p3), .val (.int p4), .val (.int (2 : Int32)), .val (.int x0), .val (.int x1), .val (.int x2), .val (.ref b103), .val (.ref b134), .val (.int (0 : Int32)), .val (.ref b134)] [])) (fun tg kk => XS.icmpNo Xh179.here hx rfl (hb hby at_190) rfl (teq (by decide : (2 : Int32) = (2 : Int32))).2 kk) ?_
      refine OwnGo.back (T178.setTop (mkF m 195 #[.val (.int p1), .val (.int p2), .val (.int p3), .val (.int p4), .val (.int (2 : Int32)), .val (.int x0), .val (.int x1), .val (.int x2), .val (.ref b103), .val (.ref b134), .val (.int (0 : Int32)), .val (.ref b134)] [(.ref b134)])) (fun tg kk => XS.aload Xh179.here hx rfl (hb hby at_193) rfl rfl kk) ?_
      refine OwnGo.back (T178.setTop (mkF m 197 #[.val (.int p1), .val (.int p2), .val (.int p3), .val (.int p4), .val (.int (2 : Int32)), .val (.int x0), .val (.int x1), .val (.int x2), .val (.ref b103), .val (.ref b134), .val (.int (0 : Int32)), .val (.ref b134)] [(.ref b134), (.ref b134)])) (fun tg kk => XS.aload Xh179.here hx rfl (hb hby at_195) rfl rfl kk) ?_
      obtain ⟨cq180, kq180, q180a, q180b, q180c⟩ := isOf hZ e178 po152
      obtain ⟨_, _, ⟨T180, L180, k180, n180⟩, -, X180, ⟨Lc180, hQ180, l180, y180, z180⟩, st180⟩ := Xh179.virtualBack hx (y := (⟨"java/lang/String", "equals", "(Ljava/lang/Object;)Z"⟩ : MethodName)) (z := (⟨"java/lang/String", "equals", "(Ljava/lang/Object;)Z"⟩ : MethodName)) hown (mvT hZ (hw _ (List.mem_of_getElem? (i := 87) rfl))) (mvT hZ (hw _ (List.mem_of_getElem? (i := 88) rfl))) (notFace_of_selects (args := #[]) (mvT hZ (hw _ (List.mem_of_getElem? (i := 90) rfl)))) (mvT hZ (hw _ (List.mem_of_getElem? (i := 90) rfl))) (mvT hZ (hw _ (List.mem_of_getElem? (i := 89) rfl))) (by decide) (backOf (W := 0) (own_eq l Z a0 hw [] b134 T148.heap n0 Z165 ) hZ (hw _ (List.mem_of_getElem? (i := 91) rfl)) (hw _ (List.mem_of_getElem? (i := 3) rfl)) (by decide) (by decide)) q180a q180c (g := (mkF m 197 #[.val (.int p1), .val (.int p2), .val (.int p3), .val (.int p4), .val (.int (2 : Int32)), .val (.int x0), .val (.int x1), .val (.int x2), .val (.ref b103), .val (.ref b134), .val (.int (0 : Int32)), .val (.ref b134)] [(.ref b134), (.ref b134)])) rfl (by rw [hml]; rfl) (Steps.refl _) (argsL := [(.ref b134)]) (rest := []) (lenOf own_pd13 rfl) rfl (by show 2 * 0 + _ ≤ _; exact Nat.le_of_eq rfl) (hb hby at_197) (fun _ _ => ⟨rfl, e178, (by decide : 3 + 0 ≤ _), (by decide : 8 + 0 ≤ _)⟩)
      dsimp only [Pt.U, Pt.locs, Pt.cells, Pt.slots] at X180 l180 y180 z180 st180 hQ180
      subst l180 y180 z180
      obtain ⟨rfl, N180q, e180⟩ := hQ180
      have N180 := Fr.app Nh179 N180q
      obtain ⟨lo181, Xh181, Nh181⟩ := own_hide X180 N180 (C := 3) (S := 8) rfl rfl
      clear X180 N180
      refine OwnGo.back (T180.setTop (mkF m 200 #[.val (.int p1), .val (.int p2), .val (.int p3), .val (.int p4), .val (.int (2 : Int32)), .val (.int x0), .val (.int x1), .val (.int x2), .val (.ref b103), .val (.ref b134), .val (.int (0 : Int32)), .val (.ref b134)] [(.int (1 : Int32))])) (fun tg kk => st180.trans kk) ?_
      refine OwnGo.back (T180.setTop (mkF m 203 #[.val (.int p1), .val (.int p2), .val (.int p3), .val (.int p4), .val (.int (2 : Int32)), .val (.int x0), .val (.int x1), .val (.int x2), .val (.ref b103), .val (.ref b134), .val (.int (0 : Int32)), .val (.ref b134)] [])) (fun tg kk => XS.ifNo Xh181.here hx rfl (hb hby at_200) rfl ((if0 _ _).trans (feq (by decide : ¬ ((1 : Int32) = (0 : Int32)))).1) kk) ?_
      refine OwnGo.back (T180.setTop (mkF m 204 #[.val (.int p1), .val (.int p2), .val (.int p3), .val (.int p4), .val (.int (2 : Int32)), .val (.int x0), .val (.int x1), .val (.int x2), .val (.ref b103), .val (.ref b134), .val (.int (0 : Int32)), .val (.ref b134)] [(.int (1 : Int32))])) (fun tg kk => XS.iconst Xh181.here hx rfl (hb hby at_203) kk) ?_
      refine OwnGo.back (T180.setTop (mkF m 208 #[.val (.int p1), .val (.int p2), .val (.int p3), .val (.int p4), .val (.int (2 : Int32)), .val (.int x0), .val (.int x1), .val (.int x2), .val (.ref b103), .val (.ref b134), .val (.int (0 : Int32)), .val (.ref b134)] [(.int (1 : Int32))])) (fun tg kk => XS.goto Xh181.here hx rfl (pc0 := 204) (pc' := 208) rfl (hb hby at_204) (by decide) (by decide) kk) ?_
      obtain ⟨fs, hr, hrun, hended, -, hW, hI, hsame⟩ := Xh181.leaveW hS (by rw [e180]; exact (Nat.le_trans (Nat.le_trans (Nat.le_trans (Nat.le_trans (Nat.le_trans hk0 E103.1) (Keep.of_wr W113).1) (Keep.of_wr W124).1) E134.1) Kc148.1)) (v := some (.int (1 : Int32))) (fun h => by rw [Bd.returns] at h; cases h)
      refine ⟨_, _, ?_, hrun, hended, _, _, rfl, ?_, ⟨_, rfl⟩, hW, hI, hsame.mono (by decide) (by decide)⟩
      · exact retN Xh181 hx (t := .boolean) Bd.returns (by simp) (hb hby at_208) hr
      · show own_law_Q Z p1 p2 p3 p4 cs aA oi h0 n0 _ T180.heap _
        rw [e180]
        exact ⟨rfl, Nh181, K164⟩
    ·
      refine OwnGo.back (T171.setTop (mkF m 129 #[.val (.int p1), .val (.int p2), .val (.int p3), .val (.int p4), .val (.int (2 : Int32)), .val (.int x0), .val (.int x1), .val (.int x2), .val (.ref b103), .val (.ref b134), .unset, .unset] [])) (fun tg kk => XS.ifNo Xh174.here hx rfl (hb hby at_126) rfl ((if0 _ _).trans (feq hc175).1) kk) ?_
      refine OwnGo.back (T171.setTop (mkF m 131 #[.val (.int p1), .val (.int p2), .val (.int p3), .val (.int p4), .val (.int (2 : Int32)), .val (.int x0), .val (.int x1), .val (.int x2), .val (.ref b103), .val (.ref b134), .unset, .unset] [(.int (2 : Int32))])) (fun tg kk => XS.iload Xh174.here hx rfl (hb hby at_129) rfl kk) ?_
      refine OwnGo.back (T171.setTop (mkF m 132 #[.val (.int p1), .val (.int p2), .val (.int p3), .val (.int p4), .val (.int (2 : Int32)), .val (.int x0), .val (.int x1), .val (.int x2), .val (.ref b103), .val (.ref b134), .unset, .unset] [(.int (2 : Int32)), (.int (2 : Int32))])) (fun tg kk => XS.iconst Xh174.here hx rfl (hb hby at_131) kk) ?_
      refine OwnGo.back (T171.setTop (mkF m 135 #[.val (.int p1), .val (.int p2), .val (.int p3), .val (.int p4), .val (.int (2 : Int32)), .val (.int x0), .val (.int x1), .val (.int x2), .val (.ref b103), .val (.ref b134), .unset, .unset] [])) (fun tg kk => XS.icmpNo Xh174.here hx rfl (hb hby at_132) rfl (flt (by decide : ¬ ((2 : Int32) < (2 : Int32)))).1 kk) ?_
      refine OwnGo.back (T171.setTop (mkF m 137 #[.val (.int p1), .val (.int p2), .val (.int p3), .val (.int p4), .val (.int (2 : Int32)), .val (.int x0), .val (.int x1), .val (.int x2), .val (.ref b103), .val (.ref b134), .unset, .unset] [(.int x1)])) (fun tg kk => XS.iload Xh174.here hx rfl (hb hby at_135) rfl kk) ?_
      obtain ⟨_, _, ⟨T182, L182, k182, n182⟩, -, X182, ⟨Lc182, hQ182, l182, y182, z182⟩, st182⟩ := Jvm.LawKit.callS Xh174 hx (y := (⟨"com/example/penelope/penelope/RollbackRulesCheckedNamePinLaw", "ws", "(I)Z"⟩ : MethodName)) hown (mvT hZ (hw _ (List.mem_of_getElem? (i := 33) rfl))) (mvT hZ (hw _ (List.mem_of_getElem? (i := 34) rfl))) (mvT hZ (hw _ (List.mem_of_getElem? (i := 35) rfl))) (mvT hZ (hw _ (List.mem_of_getElem? (i := 36) rfl))) (by decide) (backOf (W := 0) (own_wsp l Z a0 hw [] x1 T148.heap n0 Z165 ) hZ (hw _ (List.mem_of_getElem? (i := 36) rfl)) (hw _ (List.mem_of_getElem? (i := 35) rfl)) (by decide) (by decide)) (g := (mkF m 137 #[.val (.int p1), .val (.int p2), .val (.int p3), .val (.int p4), .val (.int (2 : Int32)), .val (.int x0), .val (.int x1), .val (.int x2), .val (.ref b103), .val (.ref b134), .unset, .unset] [(.int x1)])) rfl (by rw [hml]; rfl) (argsL := [(.int x1)]) (rest := []) (lenOf own_pd6 rfl) rfl (by show 2 * 0 + _ ≤ _; exact Nat.le_of_eq rfl) (hb hby at_137) (fun _ _ => ⟨rfl, e171, (by decide : 3 + 0 ≤ _), (by decide : 8 + 0 ≤ _)⟩)
      dsimp only [Pt.U, Pt.locs, Pt.cells, Pt.slots] at X182 l182 y182 z182 st182 hQ182
      subst l182 y182 z182
      obtain ⟨r_183, rfl, N182q, e182, po184⟩ := hQ182
      have N182 := Fr.app Nh174 N182q
      obtain ⟨lo185, Xh185, Nh185⟩ := own_hide X182 N182 (C := 3) (S := 8) rfl rfl
      clear X182 N182
      refine OwnGo.back (T182.setTop (mkF m 140 #[.val (.int p1), .val (.int p2), .val (.int p3), .val (.int p4), .val (.int (2 : Int32)), .val (.int x0), .val (.int x1), .val (.int x2), .val (.ref b103), .val (.ref b134), .unset, .unset] [(.int r_183)])) (fun tg kk => st182 _ kk) ?_
      by_cases hc186 : r_183 = (0 : Int32)
      ·
        refine OwnGo.back (T182.setTop (mkF m 161 #[.val (.int p1), .val (.int p2), .val (.int p3), .val (.int p4), .val (.int (2 : Int32)), .val (.int x0), .val (.int x1), .val (.int x2), .val (.ref b103), .val (.ref b134), .unset, .unset] [])) (fun tg kk => XS.ifYes Xh185.here hx rfl (pc0 := 140) (pc' := 161) rfl (hb hby at_140) rfl ((if0 _ _).trans (teq hc186).1) (by decide) (by decide) kk) ?_
        refine OwnGo.back (T182.setTop (mkF m 162 #[.val (.int p1), .val (.int p2), .val (.int p3), .val (.int p4), .val (.int (2 : Int32)), .val (.int x0), .val (.int x1), .val (.int x2), .val (.ref b103), .val (.ref b134), .unset, .unset] [(.int (0 : Int32))])) (fun tg kk => XS.iconst Xh185.here hx rfl (hb hby at_161) kk) ?_
        refine OwnGo.back (T182.setTop (mkF m 164 #[.val (.int p1), .val (.int p2), .val (.int p3), .val (.int p4), .val (.int (2 : Int32)), .val (.int x0), .val (.int x1), .val (.int x2), .val (.ref b103), .val (.ref b134), .val (.int (0 : Int32)), .unset] [])) (fun tg kk => XS.istore Xh185.here hx rfl (hb hby at_162) rfl (l' := #[.val (.int p1), .val (.int p2), .val (.int p3), .val (.int p4), .val (.int (2 : Int32)), .val (.int x0), .val (.int x1), .val (.int x2), .val (.ref b103), .val (.ref b134), .val (.int (0 : Int32)), .unset]) rfl kk) ?_
        refine OwnGo.back (T182.setTop (mkF m 166 #[.val (.int p1), .val (.int p2), .val (.int p3), .val (.int p4), .val (.int (2 : Int32)), .val (.int x0), .val (.int x1), .val (.int x2), .val (.ref b103), .val (.ref b134), .val (.int (0 : Int32)), .unset] [(.int (0 : Int32))])) (fun tg kk => XS.iload Xh185.here hx rfl (hb hby at_164) rfl kk) ?_
        refine OwnGo.back (T182.setTop (mkF m 171 #[.val (.int p1), .val (.int p2), .val (.int p3), .val (.int p4), .val (.int (2 : Int32)), .val (.int x0), .val (.int x1), .val (.int x2), .val (.ref b103), .val (.ref b134), .val (.int (0 : Int32)), .unset] [])) (fun tg kk => XS.ifYes Xh185.here hx rfl (pc0 := 166) (pc' := 171) rfl (hb hby at_166) rfl ((if0 _ _).trans (teq (by decide : (0 : Int32) = (0 : Int32))).1) (by decide) (by decide) kk) ?_
        refine OwnGo.back (T182.setTop (mkF m 173 #[.val (.int p1), .val (.int p2), .val (.int p3), .val (.int p4), .val (.int (2 : Int32)), .val (.int x0), .val (.int x1), .val (.int x2), .val (.ref b103), .val (.ref b134), .val (.int (0 : Int32)), .unset] [(.ref b134)])) (fun tg kk => XS.aload Xh185.here hx rfl (hb hby at_171) rfl rfl kk) ?_
        obtain ⟨_, _, ⟨T187, L187, k187, n187⟩, -, X187, ⟨Lc187, hQ187, l187, y187, z187⟩, st187⟩ := Jvm.LawKit.callS Xh185 hx (y := (⟨"com/example/penelope/penelope/RollbackRules", "checkedName", "(Ljava/lang/String;)Ljava/lang/String;"⟩ : MethodName)) hown (mvT hZ (hw _ (List.mem_of_getElem? (i := 37) rfl))) (mvT hZ (hw _ (List.mem_of_getElem? (i := 38) rfl))) (mvT hZ (hw _ (List.mem_of_getElem? (i := 39) rfl))) (mvT hZ (hw _ (List.mem_of_getElem? (i := 40) rfl))) (by decide) (backOf (W := 0) (own_cn2 l Z a0 hw [] b134 b_149 kb_150 x0 x1 aA oi cs T148.heap n0 Z165 hl0 hu0 hl1 hu1 SA f160 hA SN f161 (by (simp only [true_and, and_true, false_and, and_false, or_false, false_or, or_true, true_or, not_true_eq_false, not_false_eq_true, eq_self, Int32.lt_iff_toInt_lt, Int32.le_iff_toInt_le, ← Int32.toInt_inj, Int32.reduceToInt, Int64.lt_iff_toInt_lt, Int64.le_iff_toInt_le, ← Int64.toInt_inj, Int64.reduceToInt] at hc175 hc186 hcs hl0 hu0 hl1 hu1 hl2 hu2 po173 po184 ⊢) <;> omega) S hcs po152 po153 po154 po155) hZ (hw _ (List.mem_of_getElem? (i := 40) rfl)) (hw _ (List.mem_of_getElem? (i := 39) rfl)) (by decide) (by decide)) (g := (mkF m 173 #[.val (.int p1), .val (.int p2), .val (.int p3), .val (.int p4), .val (.int (2 : Int32)), .val (.int x0), .val (.int x1), .val (.int x2), .val (.ref b103), .val (.ref b134), .val (.int (0 : Int32)), .unset] [(.ref b134)])) rfl (by rw [hml]; rfl) (argsL := [(.ref b134)]) (rest := []) (lenOf own_pd12 rfl) rfl (by show 2 * 0 + _ ≤ _; exact Nat.le_of_eq rfl) (hb hby at_173) (fun _ _ => ⟨rfl, e182, (by decide : 3 + 0 ≤ _), (by decide : 8 + 0 ≤ _)⟩)
        dsimp only [Pt.U, Pt.locs, Pt.cells, Pt.slots] at X187 l187 y187 z187 st187 hQ187
        subst l187 y187 z187
        obtain ⟨rfl, N187q, e187⟩ := hQ187
        have N187 := Fr.app Nh185 N187q
        obtain ⟨lo188, Xh188, Nh188⟩ := own_hide X187 N187 (C := 3) (S := 8) rfl rfl
        clear X187 N187
        refine OwnGo.back (T187.setTop (mkF m 176 #[.val (.int p1), .val (.int p2), .val (.int p3), .val (.int p4), .val (.int (2 : Int32)), .val (.int x0), .val (.int x1), .val (.int x2), .val (.ref b103), .val (.ref b134), .val (.int (0 : Int32)), .unset] [(.ref b134)])) (fun tg kk => st187 _ kk) ?_
        refine OwnGo.back (T187.setTop (mkF m 178 #[.val (.int p1), .val (.int p2), .val (.int p3), .val (.int p4), .val (.int (2 : Int32)), .val (.int x0), .val (.int x1), .val (.int x2), .val (.ref b103), .val (.ref b134), .val (.int (0 : Int32)), .val (.ref b134)] [])) (fun tg kk => XS.astore Xh188.here hx rfl (hb hby at_176) rfl rfl (l' := #[.val (.int p1), .val (.int p2), .val (.int p3), .val (.int p4), .val (.int (2 : Int32)), .val (.int x0), .val (.int x1), .val (.int x2), .val (.ref b103), .val (.ref b134), .val (.int (0 : Int32)), .val (.ref b134)]) rfl kk) ?_
        refine OwnGo.back (T187.setTop (mkF m 180 #[.val (.int p1), .val (.int p2), .val (.int p3), .val (.int p4), .val (.int (2 : Int32)), .val (.int x0), .val (.int x1), .val (.int x2), .val (.ref b103), .val (.ref b134), .val (.int (0 : Int32)), .val (.ref b134)] [(.ref b134)])) (fun tg kk => XS.aload Xh188.here hx rfl (hb hby at_178) rfl rfl kk) ?_
        refine OwnGo.back (T187.setTop (mkF m 183 #[.val (.int p1), .val (.int p2), .val (.int p3), .val (.int p4), .val (.int (2 : Int32)), .val (.int x0), .val (.int x1), .val (.int x2), .val (.ref b103), .val (.ref b134), .val (.int (0 : Int32)), .val (.ref b134)] [])) (fun tg kk => XS.ifnullNo Xh188.here hx rfl (hb hby at_180) rfl kk) ?_
        refine OwnGo.back (T187.setTop (mkF m 185 #[.val (.int p1), .val (.int p2), .val (.int p3), .val (.int p4), .val (.int (2 : Int32)), .val (.int x0), .val (.int x1), .val (.int x2), .val (.ref b103), .val (.ref b134), .val (.int (0 : Int32)), .val (.ref b134)] [(.ref b134)])) (fun tg kk => XS.aload Xh188.here hx rfl (hb hby at_183) rfl rfl kk) ?_
        obtain ⟨cq189, kq189, q189a, q189b, q189c⟩ := isOf hZ e187 po152
        obtain ⟨_, _, ⟨T189, L189, k189, n189⟩, -, X189, ⟨Lc189, hQ189, l189, y189, z189⟩, st189⟩ := Xh188.virtualBack hx (y := (⟨"java/lang/String", "length", "()I"⟩ : MethodName)) (z := (⟨"java/lang/String", "length", "()I"⟩ : MethodName)) hown (mvT hZ (hw _ (List.mem_of_getElem? (i := 86) rfl))) (mvT hZ (hw _ (List.mem_of_getElem? (i := 77) rfl))) (notFace_of_selects (args := #[]) (mvT hZ (hw _ (List.mem_of_getElem? (i := 79) rfl)))) (mvT hZ (hw _ (List.mem_of_getElem? (i := 79) rfl))) (mvT hZ (hw _ (List.mem_of_getElem? (i := 78) rfl))) (by decide) (backOf (W := 0) (own_len2 l Z a0 hw [] b134 b_149 kb_150 x0 x1 cs T148.heap n0 Z165 S f160 hcs po152 po153 po154 po155) hZ (hw _ (List.mem_of_getElem? (i := 80) rfl)) (hw _ (List.mem_of_getElem? (i := 3) rfl)) (by decide) (by decide)) q189a q189c (g := (mkF m 185 #[.val (.int p1), .val (.int p2), .val (.int p3), .val (.int p4), .val (.int (2 : Int32)), .val (.int x0), .val (.int x1), .val (.int x2), .val (.ref b103), .val (.ref b134), .val (.int (0 : Int32)), .val (.ref b134)] [(.ref b134)])) rfl (by rw [hml]; rfl) (Steps.refl _) (argsL := []) (rest := []) (lenOf own_pd10 rfl) rfl (by show 2 * 0 + _ ≤ _; exact Nat.le_of_eq rfl) (hb hby at_185) (fun _ _ => ⟨rfl, e187, (by decide : 3 + 0 ≤ _), (by decide : 8 + 0 ≤ _)⟩)
        dsimp only [Pt.U, Pt.locs, Pt.cells, Pt.slots] at X189 l189 y189 z189 st189 hQ189
        subst l189 y189 z189
        obtain ⟨rfl, N189q, e189⟩ := hQ189
        have N189 := Fr.app Nh188 N189q
        obtain ⟨lo190, Xh190, Nh190⟩ := own_hide X189 N189 (C := 3) (S := 8) rfl rfl
        clear X189 N189
        refine OwnGo.back (T189.setTop (mkF m 188 #[.val (.int p1), .val (.int p2), .val (.int p3), .val (.int p4), .val (.int (2 : Int32)), .val (.int x0), .val (.int x1), .val (.int x2), .val (.ref b103), .val (.ref b134), .val (.int (0 : Int32)), .val (.ref b134)] [(.int (2 : Int32))])) (fun tg kk => st189.trans kk) ?_
        refine OwnGo.back (T189.setTop (mkF m 190 #[.val (.int p1), .val (.int p2), .val (.int p3), .val (.int p4), .val (.int (2 : Int32)), .val (.int x0), .val (.int x1), .val (.int x2), .val (.ref b103), .val (.ref b134), .val (.int (0 : Int32)), .val (.ref b134)] [(.int (2 : Int32)), (.int (2 : Int32))])) (fun tg kk => XS.iload Xh190.here hx rfl (hb hby at_188) rfl kk) ?_
        refine OwnGo.back (T189.setTop (mkF m 193 #[.val (.int p1), .val (.int p2), .val (.int p3), .val (.int p4), .val (.int (2 : Int32)), .val (.int x0), .val (.int x1), .val (.int x2), .val (.ref b103), .val (.ref b134), .val (.int (0 : Int32)), .val (.ref b134)] [])) (fun tg kk => XS.icmpNo Xh190.here hx rfl (hb hby at_190) rfl (teq (by decide : (2 : Int32) = (2 : Int32))).2 kk) ?_
        refine OwnGo.back (T189.setTop (mkF m 195 #[.val (.int p1), .val (.int p2), .val (.int p3), .val (.int p4), .val (.int (2 : Int32)), .val (.int x0), .val (.int x1), .val (.int x2), .val (.ref b103), .val (.ref b134), .val (.int (0 : Int32)), .val (.ref b134)] [(.ref b134)])) (fun tg kk => XS.aload Xh190.here hx rfl (hb hby at_193) rfl rfl kk) ?_
        refine OwnGo.back (T189.setTop (mkF m 197 #[.val (.int p1), .val (.int p2), .val (.int p3), .val (.int p4), .val (.int (2 : Int32)), .val (.int x0), .val (.int x1), .val (.int x2), .val (.ref b103), .val (.ref b134), .val (.int (0 : Int32)), .val (.ref b134)] [(.ref b134), (.ref b134)])) (fun tg kk => XS.aload Xh190.here hx rfl (hb hby at_195) rfl rfl kk) ?_
        obtain ⟨cq191, kq191, q191a, q191b, q191c⟩ := isOf hZ e189 po152
        obtain ⟨_, _, ⟨T191, L191, k191, n191⟩, -, X191, ⟨Lc191, hQ191, l191, y191, z191⟩, st191⟩ := Xh190.virtualBack hx (y := (⟨"java/lang/String", "equals", "(Ljava/lang/Object;)Z"⟩ : MethodName)) (z := (⟨"java/lang/String", "equals", "(Ljava/lang/Object;)Z"⟩ : MethodName)) hown (mvT hZ (hw _ (List.mem_of_getElem? (i := 87) rfl))) (mvT hZ (hw _ (List.mem_of_getElem? (i := 88) rfl))) (notFace_of_selects (args := #[]) (mvT hZ (hw _ (List.mem_of_getElem? (i := 90) rfl)))) (mvT hZ (hw _ (List.mem_of_getElem? (i := 90) rfl))) (mvT hZ (hw _ (List.mem_of_getElem? (i := 89) rfl))) (by decide) (backOf (W := 0) (own_eq l Z a0 hw [] b134 T148.heap n0 Z165 ) hZ (hw _ (List.mem_of_getElem? (i := 91) rfl)) (hw _ (List.mem_of_getElem? (i := 3) rfl)) (by decide) (by decide)) q191a q191c (g := (mkF m 197 #[.val (.int p1), .val (.int p2), .val (.int p3), .val (.int p4), .val (.int (2 : Int32)), .val (.int x0), .val (.int x1), .val (.int x2), .val (.ref b103), .val (.ref b134), .val (.int (0 : Int32)), .val (.ref b134)] [(.ref b134), (.ref b134)])) rfl (by rw [hml]; rfl) (Steps.refl _) (argsL := [(.ref b134)]) (rest := []) (lenOf own_pd13 rfl) rfl (by show 2 * 0 + _ ≤ _; exact Nat.le_of_eq rfl) (hb hby at_197) (fun _ _ => ⟨rfl, e189, (by decide : 3 + 0 ≤ _), (by decide : 8 + 0 ≤ _)⟩)
        dsimp only [Pt.U, Pt.locs, Pt.cells, Pt.slots] at X191 l191 y191 z191 st191 hQ191
        subst l191 y191 z191
        obtain ⟨rfl, N191q, e191⟩ := hQ191
        have N191 := Fr.app Nh190 N191q
        obtain ⟨lo192, Xh192, Nh192⟩ := own_hide X191 N191 (C := 3) (S := 8) rfl rfl
        clear X191 N191
        refine OwnGo.back (T191.setTop (mkF m 200 #[.val (.int p1), .val (.int p2), .val (.int p3), .val (.int p4), .val (.int (2 : Int32)), .val (.int x0), .val (.int x1), .val (.int x2), .val (.ref b103), .val (.ref b134), .val (.int (0 : Int32)), .val (.ref b134)] [(.int (1 : Int32))])) (fun tg kk => st191.trans kk) ?_
        refine OwnGo.back (T191.setTop (mkF m 203 #[.val (.int p1), .val (.int p2), .val (.int p3), .val (.int p4), .val (.int (2 : Int32)), .val (.int x0), .val (.int x1), .val (.int x2), .val (.ref b103), .val (.ref b134), .val (.int (0 : Int32)), .val (.ref b134)] [])) (fun tg kk => XS.ifNo Xh192.here hx rfl (hb hby at_200) rfl ((if0 _ _).trans (feq (by decide : ¬ ((1 : Int32) = (0 : Int32)))).1) kk) ?_
        refine OwnGo.back (T191.setTop (mkF m 204 #[.val (.int p1), .val (.int p2), .val (.int p3), .val (.int p4), .val (.int (2 : Int32)), .val (.int x0), .val (.int x1), .val (.int x2), .val (.ref b103), .val (.ref b134), .val (.int (0 : Int32)), .val (.ref b134)] [(.int (1 : Int32))])) (fun tg kk => XS.iconst Xh192.here hx rfl (hb hby at_203) kk) ?_
        refine OwnGo.back (T191.setTop (mkF m 208 #[.val (.int p1), .val (.int p2), .val (.int p3), .val (.int p4), .val (.int (2 : Int32)), .val (.int x0), .val (.int x1), .val (.int x2), .val (.ref b103), .val (.ref b134), .val (.int (0 : Int32)), .val (.ref b134)] [(.int (1 : Int32))])) (fun tg kk => XS.goto Xh192.here hx rfl (pc0 := 204) (pc' := 208) rfl (hb hby at_204) (by decide) (by decide) kk) ?_
        obtain ⟨fs, hr, hrun, hended, -, hW, hI, hsame⟩ := Xh192.leaveW hS (by rw [e191]; exact (Nat.le_trans (Nat.le_trans (Nat.le_trans (Nat.le_trans (Nat.le_trans hk0 E103.1) (Keep.of_wr W113).1) (Keep.of_wr W124).1) E134.1) Kc148.1)) (v := some (.int (1 : Int32))) (fun h => by rw [Bd.returns] at h; cases h)
        refine ⟨_, _, ?_, hrun, hended, _, _, rfl, ?_, ⟨_, rfl⟩, hW, hI, hsame.mono (by decide) (by decide)⟩
        · exact retN Xh192 hx (t := .boolean) Bd.returns (by simp) (hb hby at_208) hr
        · show own_law_Q Z p1 p2 p3 p4 cs aA oi h0 n0 _ T191.heap _
          rw [e191]
          exact ⟨rfl, Nh192, K164⟩
      ·
        refine OwnGo.back (T182.setTop (mkF m 143 #[.val (.int p1), .val (.int p2), .val (.int p3), .val (.int p4), .val (.int (2 : Int32)), .val (.int x0), .val (.int x1), .val (.int x2), .val (.ref b103), .val (.ref b134), .unset, .unset] [])) (fun tg kk => XS.ifNo Xh185.here hx rfl (hb hby at_140) rfl ((if0 _ _).trans (feq hc186).1) kk) ?_
        refine OwnGo.back (T182.setTop (mkF m 145 #[.val (.int p1), .val (.int p2), .val (.int p3), .val (.int p4), .val (.int (2 : Int32)), .val (.int x0), .val (.int x1), .val (.int x2), .val (.ref b103), .val (.ref b134), .unset, .unset] [(.int (2 : Int32))])) (fun tg kk => XS.iload Xh185.here hx rfl (hb hby at_143) rfl kk) ?_
        refine OwnGo.back (T182.setTop (mkF m 146 #[.val (.int p1), .val (.int p2), .val (.int p3), .val (.int p4), .val (.int (2 : Int32)), .val (.int x0), .val (.int x1), .val (.int x2), .val (.ref b103), .val (.ref b134), .unset, .unset] [(.int (3 : Int32)), (.int (2 : Int32))])) (fun tg kk => XS.iconst Xh185.here hx rfl (hb hby at_145) kk) ?_
        refine OwnGo.back (T182.setTop (mkF m 157 #[.val (.int p1), .val (.int p2), .val (.int p3), .val (.int p4), .val (.int (2 : Int32)), .val (.int x0), .val (.int x1), .val (.int x2), .val (.ref b103), .val (.ref b134), .unset, .unset] [])) (fun tg kk => XS.icmpYes Xh185.here hx rfl (pc0 := 146) (pc' := 157) rfl (hb hby at_146) rfl (tlt (by decide : (2 : Int32) < (3 : Int32))).1 (by decide) (by decide) kk) ?_
        refine OwnGo.back (T182.setTop (mkF m 158 #[.val (.int p1), .val (.int p2), .val (.int p3), .val (.int p4), .val (.int (2 : Int32)), .val (.int x0), .val (.int x1), .val (.int x2), .val (.ref b103), .val (.ref b134), .unset, .unset] [(.int (1 : Int32))])) (fun tg kk => XS.iconst Xh185.here hx rfl (hb hby at_157) kk) ?_
        refine OwnGo.back (T182.setTop (mkF m 162 #[.val (.int p1), .val (.int p2), .val (.int p3), .val (.int p4), .val (.int (2 : Int32)), .val (.int x0), .val (.int x1), .val (.int x2), .val (.ref b103), .val (.ref b134), .unset, .unset] [(.int (1 : Int32))])) (fun tg kk => XS.goto Xh185.here hx rfl (pc0 := 158) (pc' := 162) rfl (hb hby at_158) (by decide) (by decide) kk) ?_
        refine OwnGo.back (T182.setTop (mkF m 164 #[.val (.int p1), .val (.int p2), .val (.int p3), .val (.int p4), .val (.int (2 : Int32)), .val (.int x0), .val (.int x1), .val (.int x2), .val (.ref b103), .val (.ref b134), .val (.int (1 : Int32)), .unset] [])) (fun tg kk => XS.istore Xh185.here hx rfl (hb hby at_162) rfl (l' := #[.val (.int p1), .val (.int p2), .val (.int p3), .val (.int p4), .val (.int (2 : Int32)), .val (.int x0), .val (.int x1), .val (.int x2), .val (.ref b103), .val (.ref b134), .val (.int (1 : Int32)), .unset]) rfl kk) ?_
        refine OwnGo.back (T182.setTop (mkF m 166 #[.val (.int p1), .val (.int p2), .val (.int p3), .val (.int p4), .val (.int (2 : Int32)), .val (.int x0), .val (.int x1), .val (.int x2), .val (.ref b103), .val (.ref b134), .val (.int (1 : Int32)), .unset] [(.int (1 : Int32))])) (fun tg kk => XS.iload Xh185.here hx rfl (hb hby at_164) rfl kk) ?_
        refine OwnGo.back (T182.setTop (mkF m 169 #[.val (.int p1), .val (.int p2), .val (.int p3), .val (.int p4), .val (.int (2 : Int32)), .val (.int x0), .val (.int x1), .val (.int x2), .val (.ref b103), .val (.ref b134), .val (.int (1 : Int32)), .unset] [])) (fun tg kk => XS.ifNo Xh185.here hx rfl (hb hby at_166) rfl ((if0 _ _).trans (feq (by decide : ¬ ((1 : Int32) = (0 : Int32)))).1) kk) ?_
        refine OwnGo.back (T182.setTop (mkF m 170 #[.val (.int p1), .val (.int p2), .val (.int p3), .val (.int p4), .val (.int (2 : Int32)), .val (.int x0), .val (.int x1), .val (.int x2), .val (.ref b103), .val (.ref b134), .val (.int (1 : Int32)), .unset] [(.int (1 : Int32))])) (fun tg kk => XS.iconst Xh185.here hx rfl (hb hby at_169) kk) ?_
        obtain ⟨fs, hr, hrun, hended, -, hW, hI, hsame⟩ := Xh185.leaveW hS (by rw [e182]; exact (Nat.le_trans (Nat.le_trans (Nat.le_trans (Nat.le_trans (Nat.le_trans hk0 E103.1) (Keep.of_wr W113).1) (Keep.of_wr W124).1) E134.1) Kc148.1)) (v := some (.int (1 : Int32))) (fun h => by rw [Bd.returns] at h; cases h)
        refine ⟨_, _, ?_, hrun, hended, _, _, rfl, ?_, ⟨_, rfl⟩, hW, hI, hsame.mono (by decide) (by decide)⟩
        · exact retN Xh185 hx (t := .boolean) Bd.returns (by simp) (hb hby at_170) hr
        · show own_law_Q Z p1 p2 p3 p4 cs aA oi h0 n0 _ T182.heap _
          rw [e182]
          exact ⟨rfl, Nh185, K164⟩
  ·
    rw [hk]
    refine OwnGo.back (s₁.setTop (mkF m 31 #[.val (.int p1), .val (.int p2), .val (.int p3), .val (.int p4), .val (.int (3 : Int32)), .val (.int x0), .val (.int x1), .val (.int x2), .unset, .unset, .unset, .unset] [(.int (3 : Int32))])) (fun tg kk => XS.iload X0.here hx rfl (hb hby at_29) rfl kk) ?_
    refine OwnGo.back (s₁.setTop (mkF m 42 #[.val (.int p1), .val (.int p2), .val (.int p3), .val (.int p4), .val (.int (3 : Int32)), .val (.int x0), .val (.int x1), .val (.int x2), .unset, .unset, .unset, .unset] [])) (fun tg kk => XS.ifYes X0.here hx rfl (pc0 := 31) (pc' := 42) rfl (hb hby at_31) rfl ((if0 _ _).trans (feq (by decide : ¬ ((3 : Int32) = (0 : Int32)))).2) (by decide) (by decide) kk) ?_
    refine OwnGo.back (s₁.setTop (mkF m 44 #[.val (.int p1), .val (.int p2), .val (.int p3), .val (.int p4), .val (.int (3 : Int32)), .val (.int x0), .val (.int x1), .val (.int x2), .unset, .unset, .unset, .unset] [(.int (3 : Int32))])) (fun tg kk => XS.iload X0.here hx rfl (hb hby at_42) rfl kk) ?_
    refine OwnGo.back (s₁.setTop (mkF m 45 #[.val (.int p1), .val (.int p2), .val (.int p3), .val (.int p4), .val (.int (3 : Int32)), .val (.int x0), .val (.int x1), .val (.int x2), .unset, .unset, .unset, .unset] [(.int (1 : Int32)), (.int (3 : Int32))])) (fun tg kk => XS.iconst X0.here hx rfl (hb hby at_44) kk) ?_
    refine OwnGo.back (s₁.setTop (mkF m 61 #[.val (.int p1), .val (.int p2), .val (.int p3), .val (.int p4), .val (.int (3 : Int32)), .val (.int x0), .val (.int x1), .val (.int x2), .unset, .unset, .unset, .unset] [])) (fun tg kk => XS.icmpYes X0.here hx rfl (pc0 := 45) (pc' := 61) rfl (hb hby at_45) rfl (feq (by decide : ¬ ((3 : Int32) = (1 : Int32)))).2 (by decide) (by decide) kk) ?_
    refine OwnGo.back (s₁.setTop (mkF m 63 #[.val (.int p1), .val (.int p2), .val (.int p3), .val (.int p4), .val (.int (3 : Int32)), .val (.int x0), .val (.int x1), .val (.int x2), .unset, .unset, .unset, .unset] [(.int (3 : Int32))])) (fun tg kk => XS.iload X0.here hx rfl (hb hby at_61) rfl kk) ?_
    refine OwnGo.back (s₁.setTop (mkF m 64 #[.val (.int p1), .val (.int p2), .val (.int p3), .val (.int p4), .val (.int (3 : Int32)), .val (.int x0), .val (.int x1), .val (.int x2), .unset, .unset, .unset, .unset] [(.int (2 : Int32)), (.int (3 : Int32))])) (fun tg kk => XS.iconst X0.here hx rfl (hb hby at_63) kk) ?_
    refine OwnGo.back (s₁.setTop (mkF m 85 #[.val (.int p1), .val (.int p2), .val (.int p3), .val (.int p4), .val (.int (3 : Int32)), .val (.int x0), .val (.int x1), .val (.int x2), .unset, .unset, .unset, .unset] [])) (fun tg kk => XS.icmpYes X0.here hx rfl (pc0 := 64) (pc' := 85) rfl (hb hby at_64) rfl (feq (by decide : ¬ ((3 : Int32) = (2 : Int32)))).2 (by decide) (by decide) kk) ?_
    refine OwnGo.back (s₁.setTop (mkF m 86 #[.val (.int p1), .val (.int p2), .val (.int p3), .val (.int p4), .val (.int (3 : Int32)), .val (.int x0), .val (.int x1), .val (.int x2), .unset, .unset, .unset, .unset] [(.int (3 : Int32))])) (fun tg kk => XS.iconst X0.here hx rfl (hb hby at_85) kk) ?_
    obtain ⟨T193, h193, k193, X193, e193, E193, A193, st193⟩ := newP X0 hx hZ (hw _ (List.mem_of_getElem? (i := 0) rfl)) e0 (g := (mkF m 86 #[.val (.int p1), .val (.int p2), .val (.int p3), .val (.int p4), .val (.int (3 : Int32)), .val (.int x0), .val (.int x1), .val (.int x2), .unset, .unset, .unset, .unset] [(.int (3 : Int32))])) rfl (hb hby at_86) rfl (by decide) (cap := 3) (by decide) (by decide) (by decide) (by decide)
    obtain ⟨b193, q193⟩ : ∃ z, z = h0.size := ⟨_, rfl⟩
    rw [← q193] at A193 st193
    have g194 : n0 ≤ b193 := Nat.le_trans Z0 (Nat.le_of_eq q193.symm)
    have s195 : h0.size ≤ b193 := Nat.le_trans K0.1 (Nat.le_of_eq q193.symm)
    have f196 : Old Z n0 h193 := old.ext E193
    have f197 : Exa Z h193 oi "java/lang/CharacterDataLatin1" := Xi.ext E193
    have K198 : Keep h0 h193 [] := K0.ext E193
    have Z199 : n0 ≤ h193.size := Nat.le_trans Z0 E193.1
    have R200 := CHr.trans R0 (CHr.ext E193 R0.1)
    have f201 : Arv Z h193 b193 k193 .char (3 : Int32) [(.int (0 : Int32)), (.int (0 : Int32)), (.int (0 : Int32))] (.int (0 : Int32)) := (Arv.new A193 (by decide)).pad (pad_rep [] (.int (0 : Int32)) 3)
    clear old Xi R0
    refine OwnGo.back (T193.setTop (mkF m 88 #[.val (.int p1), .val (.int p2), .val (.int p3), .val (.int p4), .val (.int (3 : Int32)), .val (.int x0), .val (.int x1), .val (.int x2), .unset, .unset, .unset, .unset] [(.ref b193)])) (fun tg kk => st193 _ kk) ?_
    refine OwnGo.back (T193.setTop (mkF m 89 #[.val (.int p1), .val (.int p2), .val (.int p3), .val (.int p4), .val (.int (3 : Int32)), .val (.int x0), .val (.int x1), .val (.int x2), .unset, .unset, .unset, .unset] [(.ref b193), (.ref b193)])) (fun tg kk => XS.dup X193.here hx rfl (hb hby at_88) rfl rfl kk) ?_
    refine OwnGo.back (T193.setTop (mkF m 90 #[.val (.int p1), .val (.int p2), .val (.int p3), .val (.int p4), .val (.int (3 : Int32)), .val (.int x0), .val (.int x1), .val (.int x2), .unset, .unset, .unset, .unset] [(.int (0 : Int32)), (.ref b193), (.ref b193)])) (fun tg kk => XS.iconst X193.here hx rfl (hb hby at_89) kk) ?_
    refine OwnGo.back (T193.setTop (mkF m 92 #[.val (.int p1), .val (.int p2), .val (.int p3), .val (.int p4), .val (.int (3 : Int32)), .val (.int x0), .val (.int x1), .val (.int x2), .unset, .unset, .unset, .unset] [(.int x0), (.int (0 : Int32)), (.ref b193), (.ref b193)])) (fun tg kk => XS.iload X193.here hx rfl (hb hby at_90) rfl kk) ?_
    obtain ⟨cl_202, Ar_202, qq_202, Sz_202, Ng_202, Hs_202, Gf_202⟩ := id f201
    have hin_202 : ¬ ((0 : Int32) < 0 ∨ cl_202.slots.size ≤ ((0 : Int32)).toNatClampNeg) := inb_of Sz_202 ⟨by decide, by decide⟩
    obtain ⟨T203, h203, X203, e203, W203, st203⟩ := stC X193 hx hZ e193 Ar_202 (j := (0 : Int32)) hin_202 (g := (mkF m 92 #[.val (.int p1), .val (.int p2), .val (.int p3), .val (.int p4), .val (.int (3 : Int32)), .val (.int x0), .val (.int x1), .val (.int x2), .unset, .unset, .unset, .unset] [(.int x0), (.int (0 : Int32)), (.ref b193), (.ref b193)])) rfl rfl (hb hby at_92)
    have f204 : Arv Z h203 b193 k193 .char (3 : Int32) [(.int (nar .char x0)), (.int (0 : Int32)), (.int (0 : Int32))] (.int (0 : Int32)) := Arv.set Ar_202 qq_202 Sz_202 Ng_202 Hs_202 Gf_202 (fits_nar_char _) W203 0 rfl (Nat.le_of_ble_eq_true rfl)
    rw [(own_nrn hl0 hu0)] at f204
    have sf205 : Safe Z own_EL s.vm h193 b193 := (own_safeArv hZ.alike f201 (by simp))
    have R206 := CHr.trans R200 (CHr.wr W203 sf205 R200.1)
    have f207 : Old Z n0 h203 := f196.wr W203 g194
    have f208 : Exa Z h203 oi "java/lang/CharacterDataLatin1" := f197.wr W203
    have K209 : Keep h0 h203 [] := K198.wr W203 (Or.inr s195)
    have Z210 : n0 ≤ h203.size := Nat.le_trans Z199 (Keep.of_wr W203).1
    have N211 := Fr.snoc X203 N0 g194
    obtain ⟨lo212, Xh212, Nh212⟩ := own_hide X203 N211 (C := 1) (S := 3) rfl rfl
    clear R200 f196 f197 X203 N211
    refine OwnGo.back (T203.setTop (mkF m 93 #[.val (.int p1), .val (.int p2), .val (.int p3), .val (.int p4), .val (.int (3 : Int32)), .val (.int x0), .val (.int x1), .val (.int x2), .unset, .unset, .unset, .unset] [(.ref b193)])) (fun tg kk => st203 _ kk) ?_
    refine OwnGo.back (T203.setTop (mkF m 94 #[.val (.int p1), .val (.int p2), .val (.int p3), .val (.int p4), .val (.int (3 : Int32)), .val (.int x0), .val (.int x1), .val (.int x2), .unset, .unset, .unset, .unset] [(.ref b193), (.ref b193)])) (fun tg kk => XS.dup Xh212.here hx rfl (hb hby at_93) rfl rfl kk) ?_
    refine OwnGo.back (T203.setTop (mkF m 95 #[.val (.int p1), .val (.int p2), .val (.int p3), .val (.int p4), .val (.int (3 : Int32)), .val (.int x0), .val (.int x1), .val (.int x2), .unset, .unset, .unset, .unset] [(.int (1 : Int32)), (.ref b193), (.ref b193)])) (fun tg kk => XS.iconst Xh212.here hx rfl (hb hby at_94) kk) ?_
    refine OwnGo.back (T203.setTop (mkF m 97 #[.val (.int p1), .val (.int p2), .val (.int p3), .val (.int p4), .val (.int (3 : Int32)), .val (.int x0), .val (.int x1), .val (.int x2), .unset, .unset, .unset, .unset] [(.int x1), (.int (1 : Int32)), (.ref b193), (.ref b193)])) (fun tg kk => XS.iload Xh212.here hx rfl (hb hby at_95) rfl kk) ?_
    obtain ⟨cl_213, Ar_213, qq_213, Sz_213, Ng_213, Hs_213, Gf_213⟩ := id f204
    have hin_213 : ¬ ((1 : Int32) < 0 ∨ cl_213.slots.size ≤ ((1 : Int32)).toNatClampNeg) := inb_of Sz_213 ⟨by decide, by decide⟩
    obtain ⟨T214, h214, X214, e214, W214, st214⟩ := stC Xh212 hx hZ e203 Ar_213 (j := (1 : Int32)) hin_213 (g := (mkF m 97 #[.val (.int p1), .val (.int p2), .val (.int p3), .val (.int p4), .val (.int (3 : Int32)), .val (.int x0), .val (.int x1), .val (.int x2), .unset, .unset, .unset, .unset] [(.int x1), (.int (1 : Int32)), (.ref b193), (.ref b193)])) rfl rfl (hb hby at_97)
    have f215 : Arv Z h214 b193 k193 .char (3 : Int32) [(.int x0), (.int (nar .char x1)), (.int (0 : Int32))] (.int (0 : Int32)) := Arv.set Ar_213 qq_213 Sz_213 Ng_213 Hs_213 Gf_213 (fits_nar_char _) W214 1 rfl (Nat.le_of_ble_eq_true rfl)
    rw [(own_nrn hl1 hu1)] at f215
    have sf216 : Safe Z own_EL s.vm h203 b193 := (own_safeArv hZ.alike f204 (by simp))
    have R217 := CHr.trans R206 (CHr.wr W214 sf216 R206.1)
    have f218 : Old Z n0 h214 := f207.wr W214 g194
    have f219 : Exa Z h214 oi "java/lang/CharacterDataLatin1" := f208.wr W214
    have K220 : Keep h0 h214 [] := K209.wr W214 (Or.inr s195)
    have Z221 : n0 ≤ h214.size := Nat.le_trans Z210 (Keep.of_wr W214).1
    have N222 := Fr.snoc X214 Nh212 g194
    obtain ⟨lo223, Xh223, Nh223⟩ := own_hide X214 N222 (C := 1) (S := 3) rfl rfl
    clear R206 f207 f208 X214 N222
    refine OwnGo.back (T214.setTop (mkF m 98 #[.val (.int p1), .val (.int p2), .val (.int p3), .val (.int p4), .val (.int (3 : Int32)), .val (.int x0), .val (.int x1), .val (.int x2), .unset, .unset, .unset, .unset] [(.ref b193)])) (fun tg kk => st214 _ kk) ?_
    refine OwnGo.back (T214.setTop (mkF m 99 #[.val (.int p1), .val (.int p2), .val (.int p3), .val (.int p4), .val (.int (3 : Int32)), .val (.int x0), .val (.int x1), .val (.int x2), .unset, .unset, .unset, .unset] [(.ref b193), (.ref b193)])) (fun tg kk => XS.dup Xh223.here hx rfl (hb hby at_98) rfl rfl kk) ?_
    refine OwnGo.back (T214.setTop (mkF m 100 #[.val (.int p1), .val (.int p2), .val (.int p3), .val (.int p4), .val (.int (3 : Int32)), .val (.int x0), .val (.int x1), .val (.int x2), .unset, .unset, .unset, .unset] [(.int (2 : Int32)), (.ref b193), (.ref b193)])) (fun tg kk => XS.iconst Xh223.here hx rfl (hb hby at_99) kk) ?_
    refine OwnGo.back (T214.setTop (mkF m 102 #[.val (.int p1), .val (.int p2), .val (.int p3), .val (.int p4), .val (.int (3 : Int32)), .val (.int x0), .val (.int x1), .val (.int x2), .unset, .unset, .unset, .unset] [(.int x2), (.int (2 : Int32)), (.ref b193), (.ref b193)])) (fun tg kk => XS.iload Xh223.here hx rfl (hb hby at_100) rfl kk) ?_
    obtain ⟨cl_224, Ar_224, qq_224, Sz_224, Ng_224, Hs_224, Gf_224⟩ := id f215
    have hin_224 : ¬ ((2 : Int32) < 0 ∨ cl_224.slots.size ≤ ((2 : Int32)).toNatClampNeg) := inb_of Sz_224 ⟨by decide, by decide⟩
    obtain ⟨T225, h225, X225, e225, W225, st225⟩ := stC Xh223 hx hZ e214 Ar_224 (j := (2 : Int32)) hin_224 (g := (mkF m 102 #[.val (.int p1), .val (.int p2), .val (.int p3), .val (.int p4), .val (.int (3 : Int32)), .val (.int x0), .val (.int x1), .val (.int x2), .unset, .unset, .unset, .unset] [(.int x2), (.int (2 : Int32)), (.ref b193), (.ref b193)])) rfl rfl (hb hby at_102)
    have f226 : Arv Z h225 b193 k193 .char (3 : Int32) [(.int x0), (.int x1), (.int (nar .char x2))] (.int (0 : Int32)) := Arv.set Ar_224 qq_224 Sz_224 Ng_224 Hs_224 Gf_224 (fits_nar_char _) W225 2 rfl (Nat.le_of_ble_eq_true rfl)
    rw [(own_nrn hl2 hu2)] at f226
    have sf227 : Safe Z own_EL s.vm h214 b193 := (own_safeArv hZ.alike f215 (by simp))
    have R228 := CHr.trans R217 (CHr.wr W225 sf227 R217.1)
    have f229 : Old Z n0 h225 := f218.wr W225 g194
    have f230 : Exa Z h225 oi "java/lang/CharacterDataLatin1" := f219.wr W225
    have K231 : Keep h0 h225 [] := K220.wr W225 (Or.inr s195)
    have Z232 : n0 ≤ h225.size := Nat.le_trans Z221 (Keep.of_wr W225).1
    have N233 := Fr.snoc X225 Nh223 g194
    obtain ⟨lo234, Xh234, Nh234⟩ := own_hide X225 N233 (C := 1) (S := 3) rfl rfl
    clear R217 f218 f219 X225 N233
    refine OwnGo.back (T225.setTop (mkF m 103 #[.val (.int p1), .val (.int p2), .val (.int p3), .val (.int p4), .val (.int (3 : Int32)), .val (.int x0), .val (.int x1), .val (.int x2), .unset, .unset, .unset, .unset] [(.ref b193)])) (fun tg kk => st225 _ kk) ?_
    refine OwnGo.back (T225.setTop (mkF m 105 #[.val (.int p1), .val (.int p2), .val (.int p3), .val (.int p4), .val (.int (3 : Int32)), .val (.int x0), .val (.int x1), .val (.int x2), .val (.ref b193), .unset, .unset, .unset] [])) (fun tg kk => XS.astore Xh234.here hx rfl (hb hby at_103) rfl rfl (l' := #[.val (.int p1), .val (.int p2), .val (.int p3), .val (.int p4), .val (.int (3 : Int32)), .val (.int x0), .val (.int x1), .val (.int x2), .val (.ref b193), .unset, .unset, .unset]) rfl kk) ?_
    obtain ⟨T235, h235, X235, e235, E235, A235, D235, -, st235⟩ := newO Xh234 hx hZ hown (hw _ (List.mem_of_getElem? (i := 1) rfl)) (hw _ (List.mem_of_getElem? (i := 2) rfl)) (hw _ (List.mem_of_getElem? (i := 3) rfl)) e225 (g := (mkF m 105 #[.val (.int p1), .val (.int p2), .val (.int p3), .val (.int p4), .val (.int (3 : Int32)), .val (.int x0), .val (.int x1), .val (.int x2), .val (.ref b193), .unset, .unset, .unset] [])) rfl (hb hby at_105) (by decide) (by decide)
    obtain ⟨b235, q235⟩ : ∃ z, z = h225.size := ⟨_, rfl⟩
    rw [← q235] at A235 D235 st235
    have n236 : b193 ≠ b235 := own_ne f226.lt q235
    have g237 : n0 ≤ b235 := Nat.le_trans Z232 (Nat.le_of_eq q235.symm)
    have s238 : h0.size ≤ b235 := Nat.le_trans K231.1 (Nat.le_of_eq q235.symm)
    have sf239 : Safe Z own_EL s.vm h225 b235 := Safe.new (Nat.le_of_eq q235.symm)
    have f240 : Old Z n0 h235 := f229.ext E235
    have f241 : Exa Z h235 oi "java/lang/CharacterDataLatin1" := f230.ext E235
    have f242 : Arv Z h235 b193 k193 .char (3 : Int32) [(.int x0), (.int x1), (.int x2)] (.int (0 : Int32)) := f226.ext E235
    have K243 : Keep h0 h235 [] := K231.ext E235
    have Z244 : n0 ≤ h235.size := Nat.le_trans Z232 E235.1
    have sf245 := Safe.ext E235 R228.1 sf239
    have R246 := CHr.trans R228 (CHr.ext E235 R228.1)
    have f247 : Fld Z h235 b235 "java/lang/String" "value" "[B" .null := D235 (Or.inr (hw _ (List.mem_of_getElem? (i := 16) rfl))) (ty := (.array .byte)) (by decide)
    have f248 : Fld Z h235 b235 "java/lang/String" "coder" "B" (.int (0 : Int32)) := D235 (Or.inr (hw _ (List.mem_of_getElem? (i := 17) rfl))) (ty := .byte) (by decide)
    clear f229 f230 f226 R228
    refine OwnGo.back (T235.setTop (mkF m 108 #[.val (.int p1), .val (.int p2), .val (.int p3), .val (.int p4), .val (.int (3 : Int32)), .val (.int x0), .val (.int x1), .val (.int x2), .val (.ref b193), .unset, .unset, .unset] [(.ref b235)])) (fun tg kk => st235 _ kk) ?_
    refine OwnGo.back (T235.setTop (mkF m 109 #[.val (.int p1), .val (.int p2), .val (.int p3), .val (.int p4), .val (.int (3 : Int32)), .val (.int x0), .val (.int x1), .val (.int x2), .val (.ref b193), .unset, .unset, .unset] [(.ref b235), (.ref b235)])) (fun tg kk => XS.dup X235.here hx rfl (hb hby at_108) rfl rfl kk) ?_
    refine OwnGo.back (T235.setTop (mkF m 111 #[.val (.int p1), .val (.int p2), .val (.int p3), .val (.int p4), .val (.int (3 : Int32)), .val (.int x0), .val (.int x1), .val (.int x2), .val (.ref b193), .unset, .unset, .unset] [(.ref b193), (.ref b235), (.ref b235)])) (fun tg kk => XS.aload X235.here hx rfl (hb hby at_109) rfl rfl kk) ?_
    obtain ⟨_, _, ⟨T249, L249, k249, n249⟩, -, X249, ⟨Lc249, hQ249, l249, y249, z249⟩, st249⟩ := X235.specialBack hx (y := (⟨"java/lang/String", "<init>", "([C)V"⟩ : MethodName)) rfl hown (mvT hZ (hw _ (List.mem_of_getElem? (i := 4) rfl))) (mvT hZ (hw _ (List.mem_of_getElem? (i := 5) rfl))) (mvT hZ (hw _ (List.mem_of_getElem? (i := 6) rfl))) (by decide) (backOf (W := 1) (own_i1_3 l Z a0 hw [] b235 b193 k193 x0 x1 x2 cs h235 n0 Z244 f242 hl0 hu0 hl1 hu1 hl2 hu2 S f240 hcs A235 f247 f248 g237 (Ne.symm n236)) hZ (hw _ (List.mem_of_getElem? (i := 6) rfl)) (hw _ (List.mem_of_getElem? (i := 3) rfl)) (by decide) (by decide)) (g := (mkF m 111 #[.val (.int p1), .val (.int p2), .val (.int p3), .val (.int p4), .val (.int (3 : Int32)), .val (.int x0), .val (.int x1), .val (.int x2), .val (.ref b193), .unset, .unset, .unset] [(.ref b193), (.ref b235), (.ref b235)])) rfl (by rw [hml]; rfl) (Steps.refl _) (a := b235) (argsL := [(.ref b193)]) (rest := [(.ref b235)]) (lenOf own_pd11 rfl) rfl (by show 2 * 0 + _ ≤ _; exact Nat.le_of_eq rfl) (hb hby at_111) (fun _ _ => ⟨rfl, e235, (by decide : 2 + 1 ≤ _), (by decide : 7 + 3 ≤ _)⟩)
    dsimp only [Pt.U, Pt.locs, Pt.cells, Pt.slots] at X249 l249 y249 z249 st249 hQ249
    subst l249 y249 z249
    obtain ⟨b_250, kb_251, rfl, N249q, Kc249, po252, po253, po254, po255, po256⟩ := hQ249
    have N249 := Fr.app Nh234 N249q
    have hs257 : ∀ x ∈ [b235], Safe Z own_EL s.vm h235 x := (allS sf245 all0)
    have sf258 := Safe.keep Kc249 hs257 R246.1 sf245
    have sf259 := Safe.keep (vm := s.vm) Kc249 hs257 R246.1 (Safe.new po252)
    have R260 := CHr.trans R246 (CHr.keep Kc249 hs257 R246.1)
    have f261 : Old Z n0 T249.heap := f240.keep Kc249 (allS g237 all0)
    have f262 : Exa Z T249.heap oi "java/lang/CharacterDataLatin1" := f241.keep Kc249
    have f263 : Arv Z T249.heap b193 k193 .char (3 : Int32) [(.int x0), (.int x1), (.int x2)] (.int (0 : Int32)) := f242.keep Kc249 (ninS n236 nin0)
    have f264 : Exa Z T249.heap b235 "java/lang/String" := A235.keep Kc249
    have K265 : Keep h0 T249.heap [] := K243.trans Kc249 (allS (Or.inr s238) all0)
    have Z266 : n0 ≤ T249.heap.size := Nat.le_trans Z244 Kc249.1
    have n267 : b193 ≠ b_250 := own_ne' f242.lt po252
    have n268 : b235 ≠ b_250 := own_ne' A235.lt po252
    have g269 : n0 ≤ b_250 := Nat.le_trans Z244 po252
    have s270 : h0.size ≤ b_250 := Nat.le_trans K243.1 po252
    obtain ⟨lo271, Xh271, Nh271⟩ := own_hide X249 N249 (C := 3) (S := 10) rfl rfl
    clear sf245 R246 f240 f241 f242 A235 X249 N249
    refine OwnGo.back (T249.setTop (mkF m 114 #[.val (.int p1), .val (.int p2), .val (.int p3), .val (.int p4), .val (.int (3 : Int32)), .val (.int x0), .val (.int x1), .val (.int x2), .val (.ref b193), .unset, .unset, .unset] [(.ref b235)])) (fun tg kk => st249.trans kk) ?_
    refine OwnGo.back (T249.setTop (mkF m 116 #[.val (.int p1), .val (.int p2), .val (.int p3), .val (.int p4), .val (.int (3 : Int32)), .val (.int x0), .val (.int x1), .val (.int x2), .val (.ref b193), .val (.ref b235), .unset, .unset] [])) (fun tg kk => XS.astore Xh271.here hx rfl (hb hby at_114) rfl rfl (l' := #[.val (.int p1), .val (.int p2), .val (.int p3), .val (.int p4), .val (.int (3 : Int32)), .val (.int x0), .val (.int x1), .val (.int x2), .val (.ref b193), .val (.ref b235), .unset, .unset]) rfl kk) ?_
    refine OwnGo.back (T249.setTop (mkF m 118 #[.val (.int p1), .val (.int p2), .val (.int p3), .val (.int p4), .val (.int (3 : Int32)), .val (.int x0), .val (.int x1), .val (.int x2), .val (.ref b193), .val (.ref b235), .unset, .unset] [(.int (3 : Int32))])) (fun tg kk => XS.iload Xh271.here hx rfl (hb hby at_116) rfl kk) ?_
    refine OwnGo.back (T249.setTop (mkF m 121 #[.val (.int p1), .val (.int p2), .val (.int p3), .val (.int p4), .val (.int (3 : Int32)), .val (.int x0), .val (.int x1), .val (.int x2), .val (.ref b193), .val (.ref b235), .unset, .unset] [])) (fun tg kk => XS.ifNo Xh271.here hx rfl (hb hby at_118) rfl ((if0 _ _).trans (feq (by decide : ¬ ((3 : Int32) = (0 : Int32)))).1) kk) ?_
    refine OwnGo.back (T249.setTop (mkF m 123 #[.val (.int p1), .val (.int p2), .val (.int p3), .val (.int p4), .val (.int (3 : Int32)), .val (.int x0), .val (.int x1), .val (.int x2), .val (.ref b193), .val (.ref b235), .unset, .unset] [(.int x0)])) (fun tg kk => XS.iload Xh271.here hx rfl (hb hby at_121) rfl kk) ?_
    obtain ⟨_, _, ⟨T272, L272, k272, n272⟩, -, X272, ⟨Lc272, hQ272, l272, y272, z272⟩, st272⟩ := Jvm.LawKit.callS Xh271 hx (y := (⟨"com/example/penelope/penelope/RollbackRulesCheckedNamePinLaw", "ws", "(I)Z"⟩ : MethodName)) hown (mvT hZ (hw _ (List.mem_of_getElem? (i := 33) rfl))) (mvT hZ (hw _ (List.mem_of_getElem? (i := 34) rfl))) (mvT hZ (hw _ (List.mem_of_getElem? (i := 35) rfl))) (mvT hZ (hw _ (List.mem_of_getElem? (i := 36) rfl))) (by decide) (backOf (W := 0) (own_wsp l Z a0 hw [] x0 T249.heap n0 Z266 ) hZ (hw _ (List.mem_of_getElem? (i := 36) rfl)) (hw _ (List.mem_of_getElem? (i := 35) rfl)) (by decide) (by decide)) (g := (mkF m 123 #[.val (.int p1), .val (.int p2), .val (.int p3), .val (.int p4), .val (.int (3 : Int32)), .val (.int x0), .val (.int x1), .val (.int x2), .val (.ref b193), .val (.ref b235), .unset, .unset] [(.int x0)])) rfl (by rw [hml]; rfl) (argsL := [(.int x0)]) (rest := []) (lenOf own_pd6 rfl) rfl (by show 2 * 0 + _ ≤ _; exact Nat.le_of_eq rfl) (hb hby at_123) (fun _ _ => ⟨rfl, rfl, (by decide : 3 + 0 ≤ _), (by decide : 10 + 0 ≤ _)⟩)
    dsimp only [Pt.U, Pt.locs, Pt.cells, Pt.slots] at X272 l272 y272 z272 st272 hQ272
    subst l272 y272 z272
    obtain ⟨r_273, rfl, N272q, e272, po274⟩ := hQ272
    have N272 := Fr.app Nh271 N272q
    obtain ⟨lo275, Xh275, Nh275⟩ := own_hide X272 N272 (C := 3) (S := 10) rfl rfl
    clear X272 N272
    refine OwnGo.back (T272.setTop (mkF m 126 #[.val (.int p1), .val (.int p2), .val (.int p3), .val (.int p4), .val (.int (3 : Int32)), .val (.int x0), .val (.int x1), .val (.int x2), .val (.ref b193), .val (.ref b235), .unset, .unset] [(.int r_273)])) (fun tg kk => st272 _ kk) ?_
    by_cases hc276 : r_273 = (0 : Int32)
    ·
      refine OwnGo.back (T272.setTop (mkF m 161 #[.val (.int p1), .val (.int p2), .val (.int p3), .val (.int p4), .val (.int (3 : Int32)), .val (.int x0), .val (.int x1), .val (.int x2), .val (.ref b193), .val (.ref b235), .unset, .unset] [])) (fun tg kk => XS.ifYes Xh275.here hx rfl (pc0 := 126) (pc' := 161) rfl (hb hby at_126) rfl ((if0 _ _).trans (teq hc276).1) (by decide) (by decide) kk) ?_
      refine OwnGo.back (T272.setTop (mkF m 162 #[.val (.int p1), .val (.int p2), .val (.int p3), .val (.int p4), .val (.int (3 : Int32)), .val (.int x0), .val (.int x1), .val (.int x2), .val (.ref b193), .val (.ref b235), .unset, .unset] [(.int (0 : Int32))])) (fun tg kk => XS.iconst Xh275.here hx rfl (hb hby at_161) kk) ?_
      refine OwnGo.back (T272.setTop (mkF m 164 #[.val (.int p1), .val (.int p2), .val (.int p3), .val (.int p4), .val (.int (3 : Int32)), .val (.int x0), .val (.int x1), .val (.int x2), .val (.ref b193), .val (.ref b235), .val (.int (0 : Int32)), .unset] [])) (fun tg kk => XS.istore Xh275.here hx rfl (hb hby at_162) rfl (l' := #[.val (.int p1), .val (.int p2), .val (.int p3), .val (.int p4), .val (.int (3 : Int32)), .val (.int x0), .val (.int x1), .val (.int x2), .val (.ref b193), .val (.ref b235), .val (.int (0 : Int32)), .unset]) rfl kk) ?_
      refine OwnGo.back (T272.setTop (mkF m 166 #[.val (.int p1), .val (.int p2), .val (.int p3), .val (.int p4), .val (.int (3 : Int32)), .val (.int x0), .val (.int x1), .val (.int x2), .val (.ref b193), .val (.ref b235), .val (.int (0 : Int32)), .unset] [(.int (0 : Int32))])) (fun tg kk => XS.iload Xh275.here hx rfl (hb hby at_164) rfl kk) ?_
      refine OwnGo.back (T272.setTop (mkF m 171 #[.val (.int p1), .val (.int p2), .val (.int p3), .val (.int p4), .val (.int (3 : Int32)), .val (.int x0), .val (.int x1), .val (.int x2), .val (.ref b193), .val (.ref b235), .val (.int (0 : Int32)), .unset] [])) (fun tg kk => XS.ifYes Xh275.here hx rfl (pc0 := 166) (pc' := 171) rfl (hb hby at_166) rfl ((if0 _ _).trans (teq (by decide : (0 : Int32) = (0 : Int32))).1) (by decide) (by decide) kk) ?_
      refine OwnGo.back (T272.setTop (mkF m 173 #[.val (.int p1), .val (.int p2), .val (.int p3), .val (.int p4), .val (.int (3 : Int32)), .val (.int x0), .val (.int x1), .val (.int x2), .val (.ref b193), .val (.ref b235), .val (.int (0 : Int32)), .unset] [(.ref b235)])) (fun tg kk => XS.aload Xh275.here hx rfl (hb hby at_171) rfl rfl kk) ?_
      obtain ⟨_, _, ⟨T277, L277, k277, n277⟩, -, X277, ⟨Lc277, hQ277, l277, y277, z277⟩, st277⟩ := Jvm.LawKit.callS Xh275 hx (y := (⟨"com/example/penelope/penelope/RollbackRules", "checkedName", "(Ljava/lang/String;)Ljava/lang/String;"⟩ : MethodName)) hown (mvT hZ (hw _ (List.mem_of_getElem? (i := 37) rfl))) (mvT hZ (hw _ (List.mem_of_getElem? (i := 38) rfl))) (mvT hZ (hw _ (List.mem_of_getElem? (i := 39) rfl))) (mvT hZ (hw _ (List.mem_of_getElem? (i := 40) rfl))) (by decide) (backOf (W := 0) (own_cn3 l Z a0 hw [] b235 b_250 kb_251 x0 x1 x2 aA oi cs T249.heap n0 Z266 hl0 hu0 hl1 hu1 hl2 hu2 SA f261 hA SN f262 (by (simp only [true_and, and_true, false_and, and_false, or_false, false_or, or_true, true_or, not_true_eq_false, not_false_eq_true, eq_self, Int32.lt_iff_toInt_lt, Int32.le_iff_toInt_le, ← Int32.toInt_inj, Int32.reduceToInt, Int64.lt_iff_toInt_lt, Int64.le_iff_toInt_le, ← Int64.toInt_inj, Int64.reduceToInt] at hc276 hcs hl0 hu0 hl1 hu1 hl2 hu2 po274 ⊢) <;> omega) S hcs po253 po254 po255 po256) hZ (hw _ (List.mem_of_getElem? (i := 40) rfl)) (hw _ (List.mem_of_getElem? (i := 39) rfl)) (by decide) (by decide)) (g := (mkF m 173 #[.val (.int p1), .val (.int p2), .val (.int p3), .val (.int p4), .val (.int (3 : Int32)), .val (.int x0), .val (.int x1), .val (.int x2), .val (.ref b193), .val (.ref b235), .val (.int (0 : Int32)), .unset] [(.ref b235)])) rfl (by rw [hml]; rfl) (argsL := [(.ref b235)]) (rest := []) (lenOf own_pd12 rfl) rfl (by show 2 * 0 + _ ≤ _; exact Nat.le_of_eq rfl) (hb hby at_173) (fun _ _ => ⟨rfl, e272, (by decide : 3 + 0 ≤ _), (by decide : 10 + 0 ≤ _)⟩)
      dsimp only [Pt.U, Pt.locs, Pt.cells, Pt.slots] at X277 l277 y277 z277 st277 hQ277
      subst l277 y277 z277
      obtain ⟨rfl, N277q, e277⟩ := hQ277
      have N277 := Fr.app Nh275 N277q
      obtain ⟨lo278, Xh278, Nh278⟩ := own_hide X277 N277 (C := 3) (S := 10) rfl rfl
      clear X277 N277
      refine OwnGo.back (T277.setTop (mkF m 176 #[.val (.int p1), .val (.int p2), .val (.int p3), .val (.int p4), .val (.int (3 : Int32)), .val (.int x0), .val (.int x1), .val (.int x2), .val (.ref b193), .val (.ref b235), .val (.int (0 : Int32)), .unset] [(.ref b235)])) (fun tg kk => st277 _ kk) ?_
      refine OwnGo.back (T277.setTop (mkF m 178 #[.val (.int p1), .val (.int p2), .val (.int p3), .val (.int p4), .val (.int (3 : Int32)), .val (.int x0), .val (.int x1), .val (.int x2), .val (.ref b193), .val (.ref b235), .val (.int (0 : Int32)), .val (.ref b235)] [])) (fun tg kk => XS.astore Xh278.here hx rfl (hb hby at_176) rfl rfl (l' := #[.val (.int p1), .val (.int p2), .val (.int p3), .val (.int p4), .val (.int (3 : Int32)), .val (.int x0), .val (.int x1), .val (.int x2), .val (.ref b193), .val (.ref b235), .val (.int (0 : Int32)), .val (.ref b235)]) rfl kk) ?_
      refine OwnGo.back (T277.setTop (mkF m 180 #[.val (.int p1), .val (.int p2), .val (.int p3), .val (.int p4), .val (.int (3 : Int32)), .val (.int x0), .val (.int x1), .val (.int x2), .val (.ref b193), .val (.ref b235), .val (.int (0 : Int32)), .val (.ref b235)] [(.ref b235)])) (fun tg kk => XS.aload Xh278.here hx rfl (hb hby at_178) rfl rfl kk) ?_
      refine OwnGo.back (T277.setTop (mkF m 183 #[.val (.int p1), .val (.int p2), .val (.int p3), .val (.int p4), .val (.int (3 : Int32)), .val (.int x0), .val (.int x1), .val (.int x2), .val (.ref b193), .val (.ref b235), .val (.int (0 : Int32)), .val (.ref b235)] [])) (fun tg kk => XS.ifnullNo Xh278.here hx rfl (hb hby at_180) rfl kk) ?_
      refine OwnGo.back (T277.setTop (mkF m 185 #[.val (.int p1), .val (.int p2), .val (.int p3), .val (.int p4), .val (.int (3 : Int32)), .val (.int x0), .val (.int x1), .val (.int x2), .val (.ref b193), .val (.ref b235), .val (.int (0 : Int32)), .val (.ref b235)] [(.ref b235)])) (fun tg kk => XS.aload Xh278.here hx rfl (hb hby at_183) rfl rfl kk) ?_
      obtain ⟨cq279, kq279, q279a, q279b, q279c⟩ := isOf hZ e277 po253
      obtain ⟨_, _, ⟨T279, L279, k279, n279⟩, -, X279, ⟨Lc279, hQ279, l279, y279, z279⟩, st279⟩ := Xh278.virtualBack hx (y := (⟨"java/lang/String", "length", "()I"⟩ : MethodName)) (z := (⟨"java/lang/String", "length", "()I"⟩ : MethodName)) hown (mvT hZ (hw _ (List.mem_of_getElem? (i := 86) rfl))) (mvT hZ (hw _ (List.mem_of_getElem? (i := 77) rfl))) (notFace_of_selects (args := #[]) (mvT hZ (hw _ (List.mem_of_getElem? (i := 79) rfl)))) (mvT hZ (hw _ (List.mem_of_getElem? (i := 79) rfl))) (mvT hZ (hw _ (List.mem_of_getElem? (i := 78) rfl))) (by decide) (backOf (W := 0) (own_len3 l Z a0 hw [] b235 b_250 kb_251 x0 x1 x2 cs T249.heap n0 Z266 S f261 hcs po253 po254 po255 po256) hZ (hw _ (List.mem_of_getElem? (i := 80) rfl)) (hw _ (List.mem_of_getElem? (i := 3) rfl)) (by decide) (by decide)) q279a q279c (g := (mkF m 185 #[.val (.int p1), .val (.int p2), .val (.int p3), .val (.int p4), .val (.int (3 : Int32)), .val (.int x0), .val (.int x1), .val (.int x2), .val (.ref b193), .val (.ref b235), .val (.int (0 : Int32)), .val (.ref b235)] [(.ref b235)])) rfl (by rw [hml]; rfl) (Steps.refl _) (argsL := []) (rest := []) (lenOf own_pd10 rfl) rfl (by show 2 * 0 + _ ≤ _; exact Nat.le_of_eq rfl) (hb hby at_185) (fun _ _ => ⟨rfl, e277, (by decide : 3 + 0 ≤ _), (by decide : 10 + 0 ≤ _)⟩)
      dsimp only [Pt.U, Pt.locs, Pt.cells, Pt.slots] at X279 l279 y279 z279 st279 hQ279
      subst l279 y279 z279
      obtain ⟨rfl, N279q, e279⟩ := hQ279
      have N279 := Fr.app Nh278 N279q
      obtain ⟨lo280, Xh280, Nh280⟩ := own_hide X279 N279 (C := 3) (S := 10) rfl rfl
      clear X279 N279
      refine OwnGo.back (T279.setTop (mkF m 188 #[.val (.int p1), .val (.int p2), .val (.int p3), .val (.int p4), .val (.int (3 : Int32)), .val (.int x0), .val (.int x1), .val (.int x2), .val (.ref b193), .val (.ref b235), .val (.int (0 : Int32)), .val (.ref b235)] [(.int (3 : Int32))])) (fun tg kk => st279.trans kk) ?_
      refine OwnGo.back (T279.setTop (mkF m 190 #[.val (.int p1), .val (.int p2), .val (.int p3), .val (.int p4), .val (.int (3 : Int32)), .val (.int x0), .val (.int x1), .val (.int x2), .val (.ref b193), .val (.ref b235), .val (.int (0 : Int32)), .val (.ref b235)] [(.int (3 : Int32)), (.int (3 : Int32))])) (fun tg kk => XS.iload Xh280.here hx rfl (hb hby at_188) rfl kk) ?_
      refine OwnGo.back (T279.setTop (mkF m 193 #[.val (.int p1), .val (.int p2), .val (.int p3), .val (.int p4), .val (.int (3 : Int32)), .val (.int x0), .val (.int x1), .val (.int x2), .val (.ref b193), .val (.ref b235), .val (.int (0 : Int32)), .val (.ref b235)] [])) (fun tg kk => XS.icmpNo Xh280.here hx rfl (hb hby at_190) rfl (teq (by decide : (3 : Int32) = (3 : Int32))).2 kk) ?_
      refine OwnGo.back (T279.setTop (mkF m 195 #[.val (.int p1), .val (.int p2), .val (.int p3), .val (.int p4), .val (.int (3 : Int32)), .val (.int x0), .val (.int x1), .val (.int x2), .val (.ref b193), .val (.ref b235), .val (.int (0 : Int32)), .val (.ref b235)] [(.ref b235)])) (fun tg kk => XS.aload Xh280.here hx rfl (hb hby at_193) rfl rfl kk) ?_
      refine OwnGo.back (T279.setTop (mkF m 197 #[.val (.int p1), .val (.int p2), .val (.int p3), .val (.int p4), .val (.int (3 : Int32)), .val (.int x0), .val (.int x1), .val (.int x2), .val (.ref b193), .val (.ref b235), .val (.int (0 : Int32)), .val (.ref b235)] [(.ref b235), (.ref b235)])) (fun tg kk => XS.aload Xh280.here hx rfl (hb hby at_195) rfl rfl kk) ?_
      obtain ⟨cq281, kq281, q281a, q281b, q281c⟩ := isOf hZ e279 po253
      obtain ⟨_, _, ⟨T281, L281, k281, n281⟩, -, X281, ⟨Lc281, hQ281, l281, y281, z281⟩, st281⟩ := Xh280.virtualBack hx (y := (⟨"java/lang/String", "equals", "(Ljava/lang/Object;)Z"⟩ : MethodName)) (z := (⟨"java/lang/String", "equals", "(Ljava/lang/Object;)Z"⟩ : MethodName)) hown (mvT hZ (hw _ (List.mem_of_getElem? (i := 87) rfl))) (mvT hZ (hw _ (List.mem_of_getElem? (i := 88) rfl))) (notFace_of_selects (args := #[]) (mvT hZ (hw _ (List.mem_of_getElem? (i := 90) rfl)))) (mvT hZ (hw _ (List.mem_of_getElem? (i := 90) rfl))) (mvT hZ (hw _ (List.mem_of_getElem? (i := 89) rfl))) (by decide) (backOf (W := 0) (own_eq l Z a0 hw [] b235 T249.heap n0 Z266 ) hZ (hw _ (List.mem_of_getElem? (i := 91) rfl)) (hw _ (List.mem_of_getElem? (i := 3) rfl)) (by decide) (by decide)) q281a q281c (g := (mkF m 197 #[.val (.int p1), .val (.int p2), .val (.int p3), .val (.int p4), .val (.int (3 : Int32)), .val (.int x0), .val (.int x1), .val (.int x2), .val (.ref b193), .val (.ref b235), .val (.int (0 : Int32)), .val (.ref b235)] [(.ref b235), (.ref b235)])) rfl (by rw [hml]; rfl) (Steps.refl _) (argsL := [(.ref b235)]) (rest := []) (lenOf own_pd13 rfl) rfl (by show 2 * 0 + _ ≤ _; exact Nat.le_of_eq rfl) (hb hby at_197) (fun _ _ => ⟨rfl, e279, (by decide : 3 + 0 ≤ _), (by decide : 10 + 0 ≤ _)⟩)
      dsimp only [Pt.U, Pt.locs, Pt.cells, Pt.slots] at X281 l281 y281 z281 st281 hQ281
      subst l281 y281 z281
      obtain ⟨rfl, N281q, e281⟩ := hQ281
      have N281 := Fr.app Nh280 N281q
      obtain ⟨lo282, Xh282, Nh282⟩ := own_hide X281 N281 (C := 3) (S := 10) rfl rfl
      clear X281 N281
      refine OwnGo.back (T281.setTop (mkF m 200 #[.val (.int p1), .val (.int p2), .val (.int p3), .val (.int p4), .val (.int (3 : Int32)), .val (.int x0), .val (.int x1), .val (.int x2), .val (.ref b193), .val (.ref b235), .val (.int (0 : Int32)), .val (.ref b235)] [(.int (1 : Int32))])) (fun tg kk => st281.trans kk) ?_
      refine OwnGo.back (T281.setTop (mkF m 203 #[.val (.int p1), .val (.int p2), .val (.int p3), .val (.int p4), .val (.int (3 : Int32)), .val (.int x0), .val (.int x1), .val (.int x2), .val (.ref b193), .val (.ref b235), .val (.int (0 : Int32)), .val (.ref b235)] [])) (fun tg kk => XS.ifNo Xh282.here hx rfl (hb hby at_200) rfl ((if0 _ _).trans (feq (by decide : ¬ ((1 : Int32) = (0 : Int32)))).1) kk) ?_
      refine OwnGo.back (T281.setTop (mkF m 204 #[.val (.int p1), .val (.int p2), .val (.int p3), .val (.int p4), .val (.int (3 : Int32)), .val (.int x0), .val (.int x1), .val (.int x2), .val (.ref b193), .val (.ref b235), .val (.int (0 : Int32)), .val (.ref b235)] [(.int (1 : Int32))])) (fun tg kk => XS.iconst Xh282.here hx rfl (hb hby at_203) kk) ?_
      refine OwnGo.back (T281.setTop (mkF m 208 #[.val (.int p1), .val (.int p2), .val (.int p3), .val (.int p4), .val (.int (3 : Int32)), .val (.int x0), .val (.int x1), .val (.int x2), .val (.ref b193), .val (.ref b235), .val (.int (0 : Int32)), .val (.ref b235)] [(.int (1 : Int32))])) (fun tg kk => XS.goto Xh282.here hx rfl (pc0 := 204) (pc' := 208) rfl (hb hby at_204) (by decide) (by decide) kk) ?_
      obtain ⟨fs, hr, hrun, hended, -, hW, hI, hsame⟩ := Xh282.leaveW hS (by rw [e281]; exact (Nat.le_trans (Nat.le_trans (Nat.le_trans (Nat.le_trans (Nat.le_trans (Nat.le_trans hk0 E193.1) (Keep.of_wr W203).1) (Keep.of_wr W214).1) (Keep.of_wr W225).1) E235.1) Kc249.1)) (v := some (.int (1 : Int32))) (fun h => by rw [Bd.returns] at h; cases h)
      refine ⟨_, _, ?_, hrun, hended, _, _, rfl, ?_, ⟨_, rfl⟩, hW, hI, hsame.mono (by decide) (by decide)⟩
      · exact retN Xh282 hx (t := .boolean) Bd.returns (by simp) (hb hby at_208) hr
      · show own_law_Q Z p1 p2 p3 p4 cs aA oi h0 n0 _ T281.heap _
        rw [e281]
        exact ⟨rfl, Nh282, K265⟩
    ·
      refine OwnGo.back (T272.setTop (mkF m 129 #[.val (.int p1), .val (.int p2), .val (.int p3), .val (.int p4), .val (.int (3 : Int32)), .val (.int x0), .val (.int x1), .val (.int x2), .val (.ref b193), .val (.ref b235), .unset, .unset] [])) (fun tg kk => XS.ifNo Xh275.here hx rfl (hb hby at_126) rfl ((if0 _ _).trans (feq hc276).1) kk) ?_
      refine OwnGo.back (T272.setTop (mkF m 131 #[.val (.int p1), .val (.int p2), .val (.int p3), .val (.int p4), .val (.int (3 : Int32)), .val (.int x0), .val (.int x1), .val (.int x2), .val (.ref b193), .val (.ref b235), .unset, .unset] [(.int (3 : Int32))])) (fun tg kk => XS.iload Xh275.here hx rfl (hb hby at_129) rfl kk) ?_
      refine OwnGo.back (T272.setTop (mkF m 132 #[.val (.int p1), .val (.int p2), .val (.int p3), .val (.int p4), .val (.int (3 : Int32)), .val (.int x0), .val (.int x1), .val (.int x2), .val (.ref b193), .val (.ref b235), .unset, .unset] [(.int (2 : Int32)), (.int (3 : Int32))])) (fun tg kk => XS.iconst Xh275.here hx rfl (hb hby at_131) kk) ?_
      refine OwnGo.back (T272.setTop (mkF m 135 #[.val (.int p1), .val (.int p2), .val (.int p3), .val (.int p4), .val (.int (3 : Int32)), .val (.int x0), .val (.int x1), .val (.int x2), .val (.ref b193), .val (.ref b235), .unset, .unset] [])) (fun tg kk => XS.icmpNo Xh275.here hx rfl (hb hby at_132) rfl (flt (by decide : ¬ ((3 : Int32) < (2 : Int32)))).1 kk) ?_
      refine OwnGo.back (T272.setTop (mkF m 137 #[.val (.int p1), .val (.int p2), .val (.int p3), .val (.int p4), .val (.int (3 : Int32)), .val (.int x0), .val (.int x1), .val (.int x2), .val (.ref b193), .val (.ref b235), .unset, .unset] [(.int x1)])) (fun tg kk => XS.iload Xh275.here hx rfl (hb hby at_135) rfl kk) ?_
      obtain ⟨_, _, ⟨T283, L283, k283, n283⟩, -, X283, ⟨Lc283, hQ283, l283, y283, z283⟩, st283⟩ := Jvm.LawKit.callS Xh275 hx (y := (⟨"com/example/penelope/penelope/RollbackRulesCheckedNamePinLaw", "ws", "(I)Z"⟩ : MethodName)) hown (mvT hZ (hw _ (List.mem_of_getElem? (i := 33) rfl))) (mvT hZ (hw _ (List.mem_of_getElem? (i := 34) rfl))) (mvT hZ (hw _ (List.mem_of_getElem? (i := 35) rfl))) (mvT hZ (hw _ (List.mem_of_getElem? (i := 36) rfl))) (by decide) (backOf (W := 0) (own_wsp l Z a0 hw [] x1 T249.heap n0 Z266 ) hZ (hw _ (List.mem_of_getElem? (i := 36) rfl)) (hw _ (List.mem_of_getElem? (i := 35) rfl)) (by decide) (by decide)) (g := (mkF m 137 #[.val (.int p1), .val (.int p2), .val (.int p3), .val (.int p4), .val (.int (3 : Int32)), .val (.int x0), .val (.int x1), .val (.int x2), .val (.ref b193), .val (.ref b235), .unset, .unset] [(.int x1)])) rfl (by rw [hml]; rfl) (argsL := [(.int x1)]) (rest := []) (lenOf own_pd6 rfl) rfl (by show 2 * 0 + _ ≤ _; exact Nat.le_of_eq rfl) (hb hby at_137) (fun _ _ => ⟨rfl, e272, (by decide : 3 + 0 ≤ _), (by decide : 10 + 0 ≤ _)⟩)
      dsimp only [Pt.U, Pt.locs, Pt.cells, Pt.slots] at X283 l283 y283 z283 st283 hQ283
      subst l283 y283 z283
      obtain ⟨r_284, rfl, N283q, e283, po285⟩ := hQ283
      have N283 := Fr.app Nh275 N283q
      obtain ⟨lo286, Xh286, Nh286⟩ := own_hide X283 N283 (C := 3) (S := 10) rfl rfl
      clear X283 N283
      refine OwnGo.back (T283.setTop (mkF m 140 #[.val (.int p1), .val (.int p2), .val (.int p3), .val (.int p4), .val (.int (3 : Int32)), .val (.int x0), .val (.int x1), .val (.int x2), .val (.ref b193), .val (.ref b235), .unset, .unset] [(.int r_284)])) (fun tg kk => st283 _ kk) ?_
      by_cases hc287 : r_284 = (0 : Int32)
      ·
        refine OwnGo.back (T283.setTop (mkF m 161 #[.val (.int p1), .val (.int p2), .val (.int p3), .val (.int p4), .val (.int (3 : Int32)), .val (.int x0), .val (.int x1), .val (.int x2), .val (.ref b193), .val (.ref b235), .unset, .unset] [])) (fun tg kk => XS.ifYes Xh286.here hx rfl (pc0 := 140) (pc' := 161) rfl (hb hby at_140) rfl ((if0 _ _).trans (teq hc287).1) (by decide) (by decide) kk) ?_
        refine OwnGo.back (T283.setTop (mkF m 162 #[.val (.int p1), .val (.int p2), .val (.int p3), .val (.int p4), .val (.int (3 : Int32)), .val (.int x0), .val (.int x1), .val (.int x2), .val (.ref b193), .val (.ref b235), .unset, .unset] [(.int (0 : Int32))])) (fun tg kk => XS.iconst Xh286.here hx rfl (hb hby at_161) kk) ?_
        refine OwnGo.back (T283.setTop (mkF m 164 #[.val (.int p1), .val (.int p2), .val (.int p3), .val (.int p4), .val (.int (3 : Int32)), .val (.int x0), .val (.int x1), .val (.int x2), .val (.ref b193), .val (.ref b235), .val (.int (0 : Int32)), .unset] [])) (fun tg kk => XS.istore Xh286.here hx rfl (hb hby at_162) rfl (l' := #[.val (.int p1), .val (.int p2), .val (.int p3), .val (.int p4), .val (.int (3 : Int32)), .val (.int x0), .val (.int x1), .val (.int x2), .val (.ref b193), .val (.ref b235), .val (.int (0 : Int32)), .unset]) rfl kk) ?_
        refine OwnGo.back (T283.setTop (mkF m 166 #[.val (.int p1), .val (.int p2), .val (.int p3), .val (.int p4), .val (.int (3 : Int32)), .val (.int x0), .val (.int x1), .val (.int x2), .val (.ref b193), .val (.ref b235), .val (.int (0 : Int32)), .unset] [(.int (0 : Int32))])) (fun tg kk => XS.iload Xh286.here hx rfl (hb hby at_164) rfl kk) ?_
        refine OwnGo.back (T283.setTop (mkF m 171 #[.val (.int p1), .val (.int p2), .val (.int p3), .val (.int p4), .val (.int (3 : Int32)), .val (.int x0), .val (.int x1), .val (.int x2), .val (.ref b193), .val (.ref b235), .val (.int (0 : Int32)), .unset] [])) (fun tg kk => XS.ifYes Xh286.here hx rfl (pc0 := 166) (pc' := 171) rfl (hb hby at_166) rfl ((if0 _ _).trans (teq (by decide : (0 : Int32) = (0 : Int32))).1) (by decide) (by decide) kk) ?_
        refine OwnGo.back (T283.setTop (mkF m 173 #[.val (.int p1), .val (.int p2), .val (.int p3), .val (.int p4), .val (.int (3 : Int32)), .val (.int x0), .val (.int x1), .val (.int x2), .val (.ref b193), .val (.ref b235), .val (.int (0 : Int32)), .unset] [(.ref b235)])) (fun tg kk => XS.aload Xh286.here hx rfl (hb hby at_171) rfl rfl kk) ?_
        obtain ⟨_, _, ⟨T288, L288, k288, n288⟩, -, X288, ⟨Lc288, hQ288, l288, y288, z288⟩, st288⟩ := Jvm.LawKit.callS Xh286 hx (y := (⟨"com/example/penelope/penelope/RollbackRules", "checkedName", "(Ljava/lang/String;)Ljava/lang/String;"⟩ : MethodName)) hown (mvT hZ (hw _ (List.mem_of_getElem? (i := 37) rfl))) (mvT hZ (hw _ (List.mem_of_getElem? (i := 38) rfl))) (mvT hZ (hw _ (List.mem_of_getElem? (i := 39) rfl))) (mvT hZ (hw _ (List.mem_of_getElem? (i := 40) rfl))) (by decide) (backOf (W := 0) (own_cn3 l Z a0 hw [] b235 b_250 kb_251 x0 x1 x2 aA oi cs T249.heap n0 Z266 hl0 hu0 hl1 hu1 hl2 hu2 SA f261 hA SN f262 (by (simp only [true_and, and_true, false_and, and_false, or_false, false_or, or_true, true_or, not_true_eq_false, not_false_eq_true, eq_self, Int32.lt_iff_toInt_lt, Int32.le_iff_toInt_le, ← Int32.toInt_inj, Int32.reduceToInt, Int64.lt_iff_toInt_lt, Int64.le_iff_toInt_le, ← Int64.toInt_inj, Int64.reduceToInt] at hc276 hc287 hcs hl0 hu0 hl1 hu1 hl2 hu2 po274 po285 ⊢) <;> omega) S hcs po253 po254 po255 po256) hZ (hw _ (List.mem_of_getElem? (i := 40) rfl)) (hw _ (List.mem_of_getElem? (i := 39) rfl)) (by decide) (by decide)) (g := (mkF m 173 #[.val (.int p1), .val (.int p2), .val (.int p3), .val (.int p4), .val (.int (3 : Int32)), .val (.int x0), .val (.int x1), .val (.int x2), .val (.ref b193), .val (.ref b235), .val (.int (0 : Int32)), .unset] [(.ref b235)])) rfl (by rw [hml]; rfl) (argsL := [(.ref b235)]) (rest := []) (lenOf own_pd12 rfl) rfl (by show 2 * 0 + _ ≤ _; exact Nat.le_of_eq rfl) (hb hby at_173) (fun _ _ => ⟨rfl, e283, (by decide : 3 + 0 ≤ _), (by decide : 10 + 0 ≤ _)⟩)
        dsimp only [Pt.U, Pt.locs, Pt.cells, Pt.slots] at X288 l288 y288 z288 st288 hQ288
        subst l288 y288 z288
        obtain ⟨rfl, N288q, e288⟩ := hQ288
        have N288 := Fr.app Nh286 N288q
        obtain ⟨lo289, Xh289, Nh289⟩ := own_hide X288 N288 (C := 3) (S := 10) rfl rfl
        clear X288 N288
        refine OwnGo.back (T288.setTop (mkF m 176 #[.val (.int p1), .val (.int p2), .val (.int p3), .val (.int p4), .val (.int (3 : Int32)), .val (.int x0), .val (.int x1), .val (.int x2), .val (.ref b193), .val (.ref b235), .val (.int (0 : Int32)), .unset] [(.ref b235)])) (fun tg kk => st288 _ kk) ?_
        refine OwnGo.back (T288.setTop (mkF m 178 #[.val (.int p1), .val (.int p2), .val (.int p3), .val (.int p4), .val (.int (3 : Int32)), .val (.int x0), .val (.int x1), .val (.int x2), .val (.ref b193), .val (.ref b235), .val (.int (0 : Int32)), .val (.ref b235)] [])) (fun tg kk => XS.astore Xh289.here hx rfl (hb hby at_176) rfl rfl (l' := #[.val (.int p1), .val (.int p2), .val (.int p3), .val (.int p4), .val (.int (3 : Int32)), .val (.int x0), .val (.int x1), .val (.int x2), .val (.ref b193), .val (.ref b235), .val (.int (0 : Int32)), .val (.ref b235)]) rfl kk) ?_
        refine OwnGo.back (T288.setTop (mkF m 180 #[.val (.int p1), .val (.int p2), .val (.int p3), .val (.int p4), .val (.int (3 : Int32)), .val (.int x0), .val (.int x1), .val (.int x2), .val (.ref b193), .val (.ref b235), .val (.int (0 : Int32)), .val (.ref b235)] [(.ref b235)])) (fun tg kk => XS.aload Xh289.here hx rfl (hb hby at_178) rfl rfl kk) ?_
        refine OwnGo.back (T288.setTop (mkF m 183 #[.val (.int p1), .val (.int p2), .val (.int p3), .val (.int p4), .val (.int (3 : Int32)), .val (.int x0), .val (.int x1), .val (.int x2), .val (.ref b193), .val (.ref b235), .val (.int (0 : Int32)), .val (.ref b235)] [])) (fun tg kk => XS.ifnullNo Xh289.here hx rfl (hb hby at_180) rfl kk) ?_
        refine OwnGo.back (T288.setTop (mkF m 185 #[.val (.int p1), .val (.int p2), .val (.int p3), .val (.int p4), .val (.int (3 : Int32)), .val (.int x0), .val (.int x1), .val (.int x2), .val (.ref b193), .val (.ref b235), .val (.int (0 : Int32)), .val (.ref b235)] [(.ref b235)])) (fun tg kk => XS.aload Xh289.here hx rfl (hb hby at_183) rfl rfl kk) ?_
        obtain ⟨cq290, kq290, q290a, q290b, q290c⟩ := isOf hZ e288 po253
        obtain ⟨_, _, ⟨T290, L290, k290, n290⟩, -, X290, ⟨Lc290, hQ290, l290, y290, z290⟩, st290⟩ := Xh289.virtualBack hx (y := (⟨"java/lang/String", "length", "()I"⟩ : MethodName)) (z := (⟨"java/lang/String", "length", "()I"⟩ : MethodName)) hown (mvT hZ (hw _ (List.mem_of_getElem? (i := 86) rfl))) (mvT hZ (hw _ (List.mem_of_getElem? (i := 77) rfl))) (notFace_of_selects (args := #[]) (mvT hZ (hw _ (List.mem_of_getElem? (i := 79) rfl)))) (mvT hZ (hw _ (List.mem_of_getElem? (i := 79) rfl))) (mvT hZ (hw _ (List.mem_of_getElem? (i := 78) rfl))) (by decide) (backOf (W := 0) (own_len3 l Z a0 hw [] b235 b_250 kb_251 x0 x1 x2 cs T249.heap n0 Z266 S f261 hcs po253 po254 po255 po256) hZ (hw _ (List.mem_of_getElem? (i := 80) rfl)) (hw _ (List.mem_of_getElem? (i := 3) rfl)) (by decide) (by decide)) q290a q290c (g := (mkF m 185 #[.val (.int p1), .val (.int p2), .val (.int p3), .val (.int p4), .val (.int (3 : Int32)), .val (.int x0), .val (.int x1), .val (.int x2), .val (.ref b193), .val (.ref b235), .val (.int (0 : Int32)), .val (.ref b235)] [(.ref b235)])) rfl (by rw [hml]; rfl) (Steps.refl _) (argsL := []) (rest := []) (lenOf own_pd10 rfl) rfl (by show 2 * 0 + _ ≤ _; exact Nat.le_of_eq rfl) (hb hby at_185) (fun _ _ => ⟨rfl, e288, (by decide : 3 + 0 ≤ _), (by decide : 10 + 0 ≤ _)⟩)
        dsimp only [Pt.U, Pt.locs, Pt.cells, Pt.slots] at X290 l290 y290 z290 st290 hQ290
        subst l290 y290 z290
        obtain ⟨rfl, N290q, e290⟩ := hQ290
        have N290 := Fr.app Nh289 N290q
        obtain ⟨lo291, Xh291, Nh291⟩ := own_hide X290 N290 (C := 3) (S := 10) rfl rfl
        clear X290 N290
        refine OwnGo.back (T290.setTop (mkF m 188 #[.val (.int p1), .val (.int p2), .val (.int p3), .val (.int p4), .val (.int (3 : Int32)), .val (.int x0), .val (.int x1), .val (.int x2), .val (.ref b193), .val (.ref b235), .val (.int (0 : Int32)), .val (.ref b235)] [(.int (3 : Int32))])) (fun tg kk => st290.trans kk) ?_
        refine OwnGo.back (T290.setTop (mkF m 190 #[.val (.int p1), .val (.int p2), .val (.int p3), .val (.int p4), .val (.int (3 : Int32)), .val (.int x0), .val (.int x1), .val (.int x2), .val (.ref b193), .val (.ref b235), .val (.int (0 : Int32)), .val (.ref b235)] [(.int (3 : Int32)), (.int (3 : Int32))])) (fun tg kk => XS.iload Xh291.here hx rfl (hb hby at_188) rfl kk) ?_
        refine OwnGo.back (T290.setTop (mkF m 193 #[.val (.int p1), .val (.int p2), .val (.int p3), .val (.int p4), .val (.int (3 : Int32)), .val (.int x0), .val (.int x1), .val (.int x2), .val (.ref b193), .val (.ref b235), .val (.int (0 : Int32)), .val (.ref b235)] [])) (fun tg kk => XS.icmpNo Xh291.here hx rfl (hb hby at_190) rfl (teq (by decide : (3 : Int32) = (3 : Int32))).2 kk) ?_
        refine OwnGo.back (T290.setTop (mkF m 195 #[.val (.int p1), .val (.int p2), .val (.int p3), .val (.int p4), .val (.int (3 : Int32)), .val (.int x0), .val (.int x1), .val (.int x2), .val (.ref b193), .val (.ref b235), .val (.int (0 : Int32)), .val (.ref b235)] [(.ref b235)])) (fun tg kk => XS.aload Xh291.here hx rfl (hb hby at_193) rfl rfl kk) ?_
        refine OwnGo.back (T290.setTop (mkF m 197 #[.val (.int p1), .val (.int p2), .val (.int p3), .val (.int p4), .val (.int (3 : Int32)), .val (.int x0), .val (.int x1), .val (.int x2), .val (.ref b193), .val (.ref b235), .val (.int (0 : Int32)), .val (.ref b235)] [(.ref b235), (.ref b235)])) (fun tg kk => XS.aload Xh291.here hx rfl (hb hby at_195) rfl rfl kk) ?_
        obtain ⟨cq292, kq292, q292a, q292b, q292c⟩ := isOf hZ e290 po253
        obtain ⟨_, _, ⟨T292, L292, k292, n292⟩, -, X292, ⟨Lc292, hQ292, l292, y292, z292⟩, st292⟩ := Xh291.virtualBack hx (y := (⟨"java/lang/String", "equals", "(Ljava/lang/Object;)Z"⟩ : MethodName)) (z := (⟨"java/lang/String", "equals", "(Ljava/lang/Object;)Z"⟩ : MethodName)) hown (mvT hZ (hw _ (List.mem_of_getElem? (i := 87) rfl))) (mvT hZ (hw _ (List.mem_of_getElem? (i := 88) rfl))) (notFace_of_selects (args := #[]) (mvT hZ (hw _ (List.mem_of_getElem? (i := 90) rfl)))) (mvT hZ (hw _ (List.mem_of_getElem? (i := 90) rfl))) (mvT hZ (hw _ (List.mem_of_getElem? (i := 89) rfl))) (by decide) (backOf (W := 0) (own_eq l Z a0 hw [] b235 T249.heap n0 Z266 ) hZ (hw _ (List.mem_of_getElem? (i := 91) rfl)) (hw _ (List.mem_of_getElem? (i := 3) rfl)) (by decide) (by decide)) q292a q292c (g := (mkF m 197 #[.val (.int p1), .val (.int p2), .val (.int p3), .val (.int p4), .val (.int (3 : Int32)), .val (.int x0), .val (.int x1), .val (.int x2), .val (.ref b193), .val (.ref b235), .val (.int (0 : Int32)), .val (.ref b235)] [(.ref b235), (.ref b235)])) rfl (by rw [hml]; rfl) (Steps.refl _) (argsL := [(.ref b235)]) (rest := []) (lenOf own_pd13 rfl) rfl (by show 2 * 0 + _ ≤ _; exact Nat.le_of_eq rfl) (hb hby at_197) (fun _ _ => ⟨rfl, e290, (by decide : 3 + 0 ≤ _), (by decide : 10 + 0 ≤ _)⟩)
        dsimp only [Pt.U, Pt.locs, Pt.cells, Pt.slots] at X292 l292 y292 z292 st292 hQ292
        subst l292 y292 z292
        obtain ⟨rfl, N292q, e292⟩ := hQ292
        have N292 := Fr.app Nh291 N292q
        obtain ⟨lo293, Xh293, Nh293⟩ := own_hide X292 N292 (C := 3) (S := 10) rfl rfl
        clear X292 N292
        refine OwnGo.back (T292.setTop (mkF m 200 #[.val (.int p1), .val (.int p2), .val (.int p3), .val (.int p4), .val (.int (3 : Int32)), .val (.int x0), .val (.int x1), .val (.int x2), .val (.ref b193), .val (.ref b235), .val (.int (0 : Int32)), .val (.ref b235)] [(.int (1 : Int32))])) (fun tg kk => st292.trans kk) ?_
        refine OwnGo.back (T292.setTop (mkF m 203 #[.val (.int p1), .val (.int p2), .val (.int p3), .val (.int p4), .val (.int (3 : Int32)), .val (.int x0), .val (.int x1), .val (.int x2), .val (.ref b193), .val (.ref b235), .val (.int (0 : Int32)), .val (.ref b235)] [])) (fun tg kk => XS.ifNo Xh293.here hx rfl (hb hby at_200) rfl ((if0 _ _).trans (feq (by decide : ¬ ((1 : Int32) = (0 : Int32)))).1) kk) ?_
        refine OwnGo.back (T292.setTop (mkF m 204 #[.val (.int p1), .val (.int p2), .val (.int p3), .val (.int p4), .val (.int (3 : Int32)), .val (.int x0), .val (.int x1), .val (.int x2), .val (.ref b193), .val (.ref b235), .val (.int (0 : Int32)), .val (.ref b235)] [(.int (1 : Int32))])) (fun tg kk => XS.iconst Xh293.here hx rfl (hb hby at_203) kk) ?_
        refine OwnGo.back (T292.setTop (mkF m 208 #[.val (.int p1), .val (.int p2), .val (.int p3), .val (.int p4), .val (.int (3 : Int32)), .val (.int x0), .val (.int x1), .val (.int x2), .val (.ref b193), .val (.ref b235), .val (.int (0 : Int32)), .val (.ref b235)] [(.int (1 : Int32))])) (fun tg kk => XS.goto Xh293.here hx rfl (pc0 := 204) (pc' := 208) rfl (hb hby at_204) (by decide) (by decide) kk) ?_
        obtain ⟨fs, hr, hrun, hended, -, hW, hI, hsame⟩ := Xh293.leaveW hS (by rw [e292]; exact (Nat.le_trans (Nat.le_trans (Nat.le_trans (Nat.le_trans (Nat.le_trans (Nat.le_trans hk0 E193.1) (Keep.of_wr W203).1) (Keep.of_wr W214).1) (Keep.of_wr W225).1) E235.1) Kc249.1)) (v := some (.int (1 : Int32))) (fun h => by rw [Bd.returns] at h; cases h)
        refine ⟨_, _, ?_, hrun, hended, _, _, rfl, ?_, ⟨_, rfl⟩, hW, hI, hsame.mono (by decide) (by decide)⟩
        · exact retN Xh293 hx (t := .boolean) Bd.returns (by simp) (hb hby at_208) hr
        · show own_law_Q Z p1 p2 p3 p4 cs aA oi h0 n0 _ T292.heap _
          rw [e292]
          exact ⟨rfl, Nh293, K265⟩
      ·
        refine OwnGo.back (T283.setTop (mkF m 143 #[.val (.int p1), .val (.int p2), .val (.int p3), .val (.int p4), .val (.int (3 : Int32)), .val (.int x0), .val (.int x1), .val (.int x2), .val (.ref b193), .val (.ref b235), .unset, .unset] [])) (fun tg kk => XS.ifNo Xh286.here hx rfl (hb hby at_140) rfl ((if0 _ _).trans (feq hc287).1) kk) ?_
        refine OwnGo.back (T283.setTop (mkF m 145 #[.val (.int p1), .val (.int p2), .val (.int p3), .val (.int p4), .val (.int (3 : Int32)), .val (.int x0), .val (.int x1), .val (.int x2), .val (.ref b193), .val (.ref b235), .unset, .unset] [(.int (3 : Int32))])) (fun tg kk => XS.iload Xh286.here hx rfl (hb hby at_143) rfl kk) ?_
        refine OwnGo.back (T283.setTop (mkF m 146 #[.val (.int p1), .val (.int p2), .val (.int p3), .val (.int p4), .val (.int (3 : Int32)), .val (.int x0), .val (.int x1), .val (.int x2), .val (.ref b193), .val (.ref b235), .unset, .unset] [(.int (3 : Int32)), (.int (3 : Int32))])) (fun tg kk => XS.iconst Xh286.here hx rfl (hb hby at_145) kk) ?_
        refine OwnGo.back (T283.setTop (mkF m 149 #[.val (.int p1), .val (.int p2), .val (.int p3), .val (.int p4), .val (.int (3 : Int32)), .val (.int x0), .val (.int x1), .val (.int x2), .val (.ref b193), .val (.ref b235), .unset, .unset] [])) (fun tg kk => XS.icmpNo Xh286.here hx rfl (hb hby at_146) rfl (flt (by decide : ¬ ((3 : Int32) < (3 : Int32)))).1 kk) ?_
        refine OwnGo.back (T283.setTop (mkF m 151 #[.val (.int p1), .val (.int p2), .val (.int p3), .val (.int p4), .val (.int (3 : Int32)), .val (.int x0), .val (.int x1), .val (.int x2), .val (.ref b193), .val (.ref b235), .unset, .unset] [(.int x2)])) (fun tg kk => XS.iload Xh286.here hx rfl (hb hby at_149) rfl kk) ?_
        obtain ⟨_, _, ⟨T294, L294, k294, n294⟩, -, X294, ⟨Lc294, hQ294, l294, y294, z294⟩, st294⟩ := Jvm.LawKit.callS Xh286 hx (y := (⟨"com/example/penelope/penelope/RollbackRulesCheckedNamePinLaw", "ws", "(I)Z"⟩ : MethodName)) hown (mvT hZ (hw _ (List.mem_of_getElem? (i := 33) rfl))) (mvT hZ (hw _ (List.mem_of_getElem? (i := 34) rfl))) (mvT hZ (hw _ (List.mem_of_getElem? (i := 35) rfl))) (mvT hZ (hw _ (List.mem_of_getElem? (i := 36) rfl))) (by decide) (backOf (W := 0) (own_wsp l Z a0 hw [] x2 T249.heap n0 Z266 ) hZ (hw _ (List.mem_of_getElem? (i := 36) rfl)) (hw _ (List.mem_of_getElem? (i := 35) rfl)) (by decide) (by decide)) (g := (mkF m 151 #[.val (.int p1), .val (.int p2), .val (.int p3), .val (.int p4), .val (.int (3 : Int32)), .val (.int x0), .val (.int x1), .val (.int x2), .val (.ref b193), .val (.ref b235), .unset, .unset] [(.int x2)])) rfl (by rw [hml]; rfl) (argsL := [(.int x2)]) (rest := []) (lenOf own_pd6 rfl) rfl (by show 2 * 0 + _ ≤ _; exact Nat.le_of_eq rfl) (hb hby at_151) (fun _ _ => ⟨rfl, e283, (by decide : 3 + 0 ≤ _), (by decide : 10 + 0 ≤ _)⟩)
        dsimp only [Pt.U, Pt.locs, Pt.cells, Pt.slots] at X294 l294 y294 z294 st294 hQ294
        subst l294 y294 z294
        obtain ⟨r_295, rfl, N294q, e294, po296⟩ := hQ294
        have N294 := Fr.app Nh286 N294q
        obtain ⟨lo297, Xh297, Nh297⟩ := own_hide X294 N294 (C := 3) (S := 10) rfl rfl
        clear X294 N294
        refine OwnGo.back (T294.setTop (mkF m 154 #[.val (.int p1), .val (.int p2), .val (.int p3), .val (.int p4), .val (.int (3 : Int32)), .val (.int x0), .val (.int x1), .val (.int x2), .val (.ref b193), .val (.ref b235), .unset, .unset] [(.int r_295)])) (fun tg kk => st294 _ kk) ?_
        by_cases hc298 : r_295 = (0 : Int32)
        ·
          refine OwnGo.back (T294.setTop (mkF m 161 #[.val (.int p1), .val (.int p2), .val (.int p3), .val (.int p4), .val (.int (3 : Int32)), .val (.int x0), .val (.int x1), .val (.int x2), .val (.ref b193), .val (.ref b235), .unset, .unset] [])) (fun tg kk => XS.ifYes Xh297.here hx rfl (pc0 := 154) (pc' := 161) rfl (hb hby at_154) rfl ((if0 _ _).trans (teq hc298).1) (by decide) (by decide) kk) ?_
          refine OwnGo.back (T294.setTop (mkF m 162 #[.val (.int p1), .val (.int p2), .val (.int p3), .val (.int p4), .val (.int (3 : Int32)), .val (.int x0), .val (.int x1), .val (.int x2), .val (.ref b193), .val (.ref b235), .unset, .unset] [(.int (0 : Int32))])) (fun tg kk => XS.iconst Xh297.here hx rfl (hb hby at_161) kk) ?_
          refine OwnGo.back (T294.setTop (mkF m 164 #[.val (.int p1), .val (.int p2), .val (.int p3), .val (.int p4), .val (.int (3 : Int32)), .val (.int x0), .val (.int x1), .val (.int x2), .val (.ref b193), .val (.ref b235), .val (.int (0 : Int32)), .unset] [])) (fun tg kk => XS.istore Xh297.here hx rfl (hb hby at_162) rfl (l' := #[.val (.int p1), .val (.int p2), .val (.int p3), .val (.int p4), .val (.int (3 : Int32)), .val (.int x0), .val (.int x1), .val (.int x2), .val (.ref b193), .val (.ref b235), .val (.int (0 : Int32)), .unset]) rfl kk) ?_
          refine OwnGo.back (T294.setTop (mkF m 166 #[.val (.int p1), .val (.int p2), .val (.int p3), .val (.int p4), .val (.int (3 : Int32)), .val (.int x0), .val (.int x1), .val (.int x2), .val (.ref b193), .val (.ref b235), .val (.int (0 : Int32)), .unset] [(.int (0 : Int32))])) (fun tg kk => XS.iload Xh297.here hx rfl (hb hby at_164) rfl kk) ?_
          refine OwnGo.back (T294.setTop (mkF m 171 #[.val (.int p1), .val (.int p2), .val (.int p3), .val (.int p4), .val (.int (3 : Int32)), .val (.int x0), .val (.int x1), .val (.int x2), .val (.ref b193), .val (.ref b235), .val (.int (0 : Int32)), .unset] [])) (fun tg kk => XS.ifYes Xh297.here hx rfl (pc0 := 166) (pc' := 171) rfl (hb hby at_166) rfl ((if0 _ _).trans (teq (by decide : (0 : Int32) = (0 : Int32))).1) (by decide) (by decide) kk) ?_
          refine OwnGo.back (T294.setTop (mkF m 173 #[.val (.int p1), .val (.int p2), .val (.int p3), .val (.int p4), .val (.int (3 : Int32)), .val (.int x0), .val (.int x1), .val (.int x2), .val (.ref b193), .val (.ref b235), .val (.int (0 : Int32)), .unset] [(.ref b235)])) (fun tg kk => XS.aload Xh297.here hx rfl (hb hby at_171) rfl rfl kk) ?_
          obtain ⟨_, _, ⟨T299, L299, k299, n299⟩, -, X299, ⟨Lc299, hQ299, l299, y299, z299⟩, st299⟩ := Jvm.LawKit.callS Xh297 hx (y := (⟨"com/example/penelope/penelope/RollbackRules", "checkedName", "(Ljava/lang/String;)Ljava/lang/String;"⟩ : MethodName)) hown (mvT hZ (hw _ (List.mem_of_getElem? (i := 37) rfl))) (mvT hZ (hw _ (List.mem_of_getElem? (i := 38) rfl))) (mvT hZ (hw _ (List.mem_of_getElem? (i := 39) rfl))) (mvT hZ (hw _ (List.mem_of_getElem? (i := 40) rfl))) (by decide) (backOf (W := 0) (own_cn3 l Z a0 hw [] b235 b_250 kb_251 x0 x1 x2 aA oi cs T249.heap n0 Z266 hl0 hu0 hl1 hu1 hl2 hu2 SA f261 hA SN f262 (by (simp only [true_and, and_true, false_and, and_false, or_false, false_or, or_true, true_or, not_true_eq_false, not_false_eq_true, eq_self, Int32.lt_iff_toInt_lt, Int32.le_iff_toInt_le, ← Int32.toInt_inj, Int32.reduceToInt, Int64.lt_iff_toInt_lt, Int64.le_iff_toInt_le, ← Int64.toInt_inj, Int64.reduceToInt] at hc276 hc287 hc298 hcs hl0 hu0 hl1 hu1 hl2 hu2 po274 po285 po296 ⊢) <;> omega) S hcs po253 po254 po255 po256) hZ (hw _ (List.mem_of_getElem? (i := 40) rfl)) (hw _ (List.mem_of_getElem? (i := 39) rfl)) (by decide) (by decide)) (g := (mkF m 173 #[.val (.int p1), .val (.int p2), .val (.int p3), .val (.int p4), .val (.int (3 : Int32)), .val (.int x0), .val (.int x1), .val (.int x2), .val (.ref b193), .val (.ref b235), .val (.int (0 : Int32)), .unset] [(.ref b235)])) rfl (by rw [hml]; rfl) (argsL := [(.ref b235)]) (rest := []) (lenOf own_pd12 rfl) rfl (by show 2 * 0 + _ ≤ _; exact Nat.le_of_eq rfl) (hb hby at_173) (fun _ _ => ⟨rfl, e294, (by decide : 3 + 0 ≤ _), (by decide : 10 + 0 ≤ _)⟩)
          dsimp only [Pt.U, Pt.locs, Pt.cells, Pt.slots] at X299 l299 y299 z299 st299 hQ299
          subst l299 y299 z299
          obtain ⟨rfl, N299q, e299⟩ := hQ299
          have N299 := Fr.app Nh297 N299q
          obtain ⟨lo300, Xh300, Nh300⟩ := own_hide X299 N299 (C := 3) (S := 10) rfl rfl
          clear X299 N299
          refine OwnGo.back (T299.setTop (mkF m 176 #[.val (.int p1), .val (.int p2), .val (.int p3), .val (.int p4), .val (.int (3 : Int32)), .val (.int x0), .val (.int x1), .val (.int x2), .val (.ref b193), .val (.ref b235), .val (.int (0 : Int32)), .unset] [(.ref b235)])) (fun tg kk => st299 _ kk) ?_
          refine OwnGo.back (T299.setTop (mkF m 178 #[.val (.int p1), .val (.int p2), .val (.int p3), .val (.int p4), .val (.int (3 : Int32)), .val (.int x0), .val (.int x1), .val (.int x2), .val (.ref b193), .val (.ref b235), .val (.int (0 : Int32)), .val (.ref b235)] [])) (fun tg kk => XS.astore Xh300.here hx rfl (hb hby at_176) rfl rfl (l' := #[.val (.int p1), .val (.int p2), .val (.int p3), .val (.int p4), .val (.int (3 : Int32)), .val (.int x0), .val (.int x1), .val (.int x2), .val (.ref b193), .val (.ref b235), .val (.int (0 : Int32)), .val (.ref b235)]) rfl kk) ?_
          refine OwnGo.back (T299.setTop (mkF m 180 #[.val (.int p1), .val (.int p2), .val (.int p3), .val (.int p4), .val (.int (3 : Int32)), .val (.int x0), .val (.int x1), .val (.int x2), .val (.ref b193), .val (.ref b235), .val (.int (0 : Int32)), .val (.ref b235)] [(.ref b235)])) (fun tg kk => XS.aload Xh300.here hx rfl (hb hby at_178) rfl rfl kk) ?_
          refine OwnGo.back (T299.setTop (mkF m 183 #[.val (.int p1), .val (.int p2), .val (.int p3), .val (.int p4), .val (.int (3 : Int32)), .val (.int x0), .val (.int x1), .val (.int x2), .val (.ref b193), .val (.ref b235), .val (.int (0 : Int32)), .val (.ref b235)] [])) (fun tg kk => XS.ifnullNo Xh300.here hx rfl (hb hby at_180) rfl kk) ?_
          refine OwnGo.back (T299.setTop (mkF m 185 #[.val (.int p1), .val (.int p2), .val (.int p3), .val (.int p4), .val (.int (3 : Int32)), .val (.int x0), .val (.int x1), .val (.int x2), .val (.ref b193), .val (.ref b235), .val (.int (0 : Int32)), .val (.ref b235)] [(.ref b235)])) (fun tg kk => XS.aload Xh300.here hx rfl (hb hby at_183) rfl rfl kk) ?_
          obtain ⟨cq301, kq301, q301a, q301b, q301c⟩ := isOf hZ e299 po253
          obtain ⟨_, _, ⟨T301, L301, k301, n301⟩, -, X301, ⟨Lc301, hQ301, l301, y301, z301⟩, st301⟩ := Xh300.virtualBack hx (y := (⟨"java/lang/String", "length", "()I"⟩ : MethodName)) (z := (⟨"java/lang/String", "length", "()I"⟩ : MethodName)) hown (mvT hZ (hw _ (List.mem_of_getElem? (i := 86) rfl))) (mvT hZ (hw _ (List.mem_of_getElem? (i := 77) rfl))) (notFace_of_selects (args := #[]) (mvT hZ (hw _ (List.mem_of_getElem? (i := 79) rfl)))) (mvT hZ (hw _ (List.mem_of_getElem? (i := 79) rfl))) (mvT hZ (hw _ (List.mem_of_getElem? (i := 78) rfl))) (by decide) (backOf (W := 0) (own_len3 l Z a0 hw [] b235 b_250 kb_251 x0 x1 x2 cs T249.heap n0 Z266 S f261 hcs po253 po254 po255 po256) hZ (hw _ (List.mem_of_getElem? (i := 80) rfl)) (hw _ (List.mem_of_getElem? (i := 3) rfl)) (by decide) (by decide)) q301a q301c (g := (mkF m 185 #[.val (.int p1), .val (.int p2), .val (.int p3), .val (.int p4), .val (.int (3 : Int32)), .val (.int x0), .val (.int x1), .val (.int x2), .val (.ref b193), .val (.ref b235), .val (.int (0 : Int32)), .val (.ref b235)] [(.ref b235)])) rfl (by rw [hml]; rfl) (Steps.refl _) (argsL := []) (rest := []) (lenOf own_pd10 rfl) rfl (by show 2 * 0 + _ ≤ _; exact Nat.le_of_eq rfl) (hb hby at_185) (fun _ _ => ⟨rfl, e299, (by decide : 3 + 0 ≤ _), (by decide : 10 + 0 ≤ _)⟩)
          dsimp only [Pt.U, Pt.locs, Pt.cells, Pt.slots] at X301 l301 y301 z301 st301 hQ301
          subst l301 y301 z301
          obtain ⟨rfl, N301q, e301⟩ := hQ301
          have N301 := Fr.app Nh300 N301q
          obtain ⟨lo302, Xh302, Nh302⟩ := own_hide X301 N301 (C := 3) (S := 10) rfl rfl
          clear X301 N301
          refine OwnGo.back (T301.setTop (mkF m 188 #[.val (.int p1), .val (.int p2), .val (.int p3), .val (.int p4), .val (.int (3 : Int32)), .val (.int x0), .val (.int x1), .val (.int x2), .val (.ref b193), .val (.ref b235), .val (.int (0 : Int32)), .val (.ref b235)] [(.int (3 : Int32))])) (fun tg kk => st301.trans kk) ?_
          refine OwnGo.back (T301.setTop (mkF m 190 #[.val (.int p1), .val (.int p2), .val (.int p3), .val (.int p4), .val (.int (3 : Int32)), .val (.int x0), .val (.int x1), .val (.int x2), .val (.ref b193), .val (.ref b235), .val (.int (0 : Int32)), .val (.ref b235)] [(.int (3 : Int32)), (.int (3 : Int32))])) (fun tg kk => XS.iload Xh302.here hx rfl (hb hby at_188) rfl kk) ?_
          refine OwnGo.back (T301.setTop (mkF m 193 #[.val (.int p1), .val (.int p2), .val (.int p3), .val (.int p4), .val (.int (3 : Int32)), .val (.int x0), .val (.int x1), .val (.int x2), .val (.ref b193), .val (.ref b235), .val (.int (0 : Int32)), .val (.ref b235)] [])) (fun tg kk => XS.icmpNo Xh302.here hx rfl (hb hby at_190) rfl (teq (by decide : (3 : Int32) = (3 : Int32))).2 kk) ?_
          refine OwnGo.back (T301.setTop (mkF m 195 #[.val (.int p1), .val (.int p2), .val (.int p3), .val (.int p4), .val (.int (3 : Int32)), .val (.int x0), .val (.int x1), .val (.int x2), .val (.ref b193), .val (.ref b235), .val (.int (0 : Int32)), .val (.ref b235)] [(.ref b235)])) (fun tg kk => XS.aload Xh302.here hx rfl (hb hby at_193) rfl rfl kk) ?_
          refine OwnGo.back (T301.setTop (mkF m 197 #[.val (.int p1), .val (.int p2), .val (.int p3), .val (.int p4), .val (.int (3 : Int32)), .val (.int x0), .val (.int x1), .val (.int x2), .val (.ref b193), .val (.ref b235), .val (.int (0 : Int32)), .val (.ref b235)] [(.ref b235), (.ref b235)])) (fun tg kk => XS.aload Xh302.here hx rfl (hb hby at_195) rfl rfl kk) ?_
          obtain ⟨cq303, kq303, q303a, q303b, q303c⟩ := isOf hZ e301 po253
          obtain ⟨_, _, ⟨T303, L303, k303, n303⟩, -, X303, ⟨Lc303, hQ303, l303, y303, z303⟩, st303⟩ := Xh302.virtualBack hx (y := (⟨"java/lang/String", "equals", "(Ljava/lang/Object;)Z"⟩ : MethodName)) (z := (⟨"java/lang/String", "equals", "(Ljava/lang/Object;)Z"⟩ : MethodName)) hown (mvT hZ (hw _ (List.mem_of_getElem? (i := 87) rfl))) (mvT hZ (hw _ (List.mem_of_getElem? (i := 88) rfl))) (notFace_of_selects (args := #[]) (mvT hZ (hw _ (List.mem_of_getElem? (i := 90) rfl)))) (mvT hZ (hw _ (List.mem_of_getElem? (i := 90) rfl))) (mvT hZ (hw _ (List.mem_of_getElem? (i := 89) rfl))) (by decide) (backOf (W := 0) (own_eq l Z a0 hw [] b235 T249.heap n0 Z266 ) hZ (hw _ (List.mem_of_getElem? (i := 91) rfl)) (hw _ (List.mem_of_getElem? (i := 3) rfl)) (by decide) (by decide)) q303a q303c (g := (mkF m 197 #[.val (.int p1), .val (.int p2), .val (.int p3), .val (.int p4), .val (.int (3 : Int32)), .val (.int x0), .val (.int x1), .val (.int x2), .val (.ref b193), .val (.ref b235), .val (.int (0 : Int32)), .val (.ref b235)] [(.ref b235), (.ref b235)])) rfl (by rw [hml]; rfl) (Steps.refl _) (argsL := [(.ref b235)]) (rest := []) (lenOf own_pd13 rfl) rfl (by show 2 * 0 + _ ≤ _; exact Nat.le_of_eq rfl) (hb hby at_197) (fun _ _ => ⟨rfl, e301, (by decide : 3 + 0 ≤ _), (by decide : 10 + 0 ≤ _)⟩)
          dsimp only [Pt.U, Pt.locs, Pt.cells, Pt.slots] at X303 l303 y303 z303 st303 hQ303
          subst l303 y303 z303
          obtain ⟨rfl, N303q, e303⟩ := hQ303
          have N303 := Fr.app Nh302 N303q
          obtain ⟨lo304, Xh304, Nh304⟩ := own_hide X303 N303 (C := 3) (S := 10) rfl rfl
          clear X303 N303
          refine OwnGo.back (T303.setTop (mkF m 200 #[.val (.int p1), .val (.int p2), .val (.int p3), .val (.int p4), .val (.int (3 : Int32)), .val (.int x0), .val (.int x1), .val (.int x2), .val (.ref b193), .val (.ref b235), .val (.int (0 : Int32)), .val (.ref b235)] [(.int (1 : Int32))])) (fun tg kk => st303.trans kk) ?_
          refine OwnGo.back (T303.setTop (mkF m 203 #[.val (.int p1), .val (.int p2), .val (.int p3), .val (.int p4), .val (.int (3 : Int32)), .val (.int x0), .val (.int x1), .val (.int x2), .val (.ref b193), .val (.ref b235), .val (.int (0 : Int32)), .val (.ref b235)] [])) (fun tg kk => XS.ifNo Xh304.here hx rfl (hb hby at_200) rfl ((if0 _ _).trans (feq (by decide : ¬ ((1 : Int32) = (0 : Int32)))).1) kk) ?_
          refine OwnGo.back (T303.setTop (mkF m 204 #[.val (.int p1), .val (.int p2), .val (.int p3), .val (.int p4), .val (.int (3 : Int32)), .val (.int x0), .val (.int x1), .val (.int x2), .val (.ref b193), .val (.ref b235), .val (.int (0 : Int32)), .val (.ref b235)] [(.int (1 : Int32))])) (fun tg kk => XS.iconst Xh304.here hx rfl (hb hby at_203) kk) ?_
          refine OwnGo.back (T303.setTop (mkF m 208 #[.val (.int p1), .val (.int p2), .val (.int p3), .val (.int p4), .val (.int (3 : Int32)), .val (.int x0), .val (.int x1), .val (.int x2), .val (.ref b193), .val (.ref b235), .val (.int (0 : Int32)), .val (.ref b235)] [(.int (1 : Int32))])) (fun tg kk => XS.goto Xh304.here hx rfl (pc0 := 204) (pc' := 208) rfl (hb hby at_204) (by decide) (by decide) kk) ?_
          obtain ⟨fs, hr, hrun, hended, -, hW, hI, hsame⟩ := Xh304.leaveW hS (by rw [e303]; exact (Nat.le_trans (Nat.le_trans (Nat.le_trans (Nat.le_trans (Nat.le_trans (Nat.le_trans hk0 E193.1) (Keep.of_wr W203).1) (Keep.of_wr W214).1) (Keep.of_wr W225).1) E235.1) Kc249.1)) (v := some (.int (1 : Int32))) (fun h => by rw [Bd.returns] at h; cases h)
          refine ⟨_, _, ?_, hrun, hended, _, _, rfl, ?_, ⟨_, rfl⟩, hW, hI, hsame.mono (by decide) (by decide)⟩
          · exact retN Xh304 hx (t := .boolean) Bd.returns (by simp) (hb hby at_208) hr
          · show own_law_Q Z p1 p2 p3 p4 cs aA oi h0 n0 _ T303.heap _
            rw [e303]
            exact ⟨rfl, Nh304, K265⟩
        ·
          refine OwnGo.back (T294.setTop (mkF m 157 #[.val (.int p1), .val (.int p2), .val (.int p3), .val (.int p4), .val (.int (3 : Int32)), .val (.int x0), .val (.int x1), .val (.int x2), .val (.ref b193), .val (.ref b235), .unset, .unset] [])) (fun tg kk => XS.ifNo Xh297.here hx rfl (hb hby at_154) rfl ((if0 _ _).trans (feq hc298).1) kk) ?_
          refine OwnGo.back (T294.setTop (mkF m 158 #[.val (.int p1), .val (.int p2), .val (.int p3), .val (.int p4), .val (.int (3 : Int32)), .val (.int x0), .val (.int x1), .val (.int x2), .val (.ref b193), .val (.ref b235), .unset, .unset] [(.int (1 : Int32))])) (fun tg kk => XS.iconst Xh297.here hx rfl (hb hby at_157) kk) ?_
          refine OwnGo.back (T294.setTop (mkF m 162 #[.val (.int p1), .val (.int p2), .val (.int p3), .val (.int p4), .val (.int (3 : Int32)), .val (.int x0), .val (.int x1), .val (.int x2), .val (.ref b193), .val (.ref b235), .unset, .unset] [(.int (1 : Int32))])) (fun tg kk => XS.goto Xh297.here hx rfl (pc0 := 158) (pc' := 162) rfl (hb hby at_158) (by decide) (by decide) kk) ?_
          refine OwnGo.back (T294.setTop (mkF m 164 #[.val (.int p1), .val (.int p2), .val (.int p3), .val (.int p4), .val (.int (3 : Int32)), .val (.int x0), .val (.int x1), .val (.int x2), .val (.ref b193), .val (.ref b235), .val (.int (1 : Int32)), .unset] [])) (fun tg kk => XS.istore Xh297.here hx rfl (hb hby at_162) rfl (l' := #[.val (.int p1), .val (.int p2), .val (.int p3), .val (.int p4), .val (.int (3 : Int32)), .val (.int x0), .val (.int x1), .val (.int x2), .val (.ref b193), .val (.ref b235), .val (.int (1 : Int32)), .unset]) rfl kk) ?_
          refine OwnGo.back (T294.setTop (mkF m 166 #[.val (.int p1), .val (.int p2), .val (.int p3), .val (.int p4), .val (.int (3 : Int32)), .val (.int x0), .val (.int x1), .val (.int x2), .val (.ref b193), .val (.ref b235), .val (.int (1 : Int32)), .unset] [(.int (1 : Int32))])) (fun tg kk => XS.iload Xh297.here hx rfl (hb hby at_164) rfl kk) ?_
          refine OwnGo.back (T294.setTop (mkF m 169 #[.val (.int p1), .val (.int p2), .val (.int p3), .val (.int p4), .val (.int (3 : Int32)), .val (.int x0), .val (.int x1), .val (.int x2), .val (.ref b193), .val (.ref b235), .val (.int (1 : Int32)), .unset] [])) (fun tg kk => XS.ifNo Xh297.here hx rfl (hb hby at_166) rfl ((if0 _ _).trans (feq (by decide : ¬ ((1 : Int32) = (0 : Int32)))).1) kk) ?_
          refine OwnGo.back (T294.setTop (mkF m 170 #[.val (.int p1), .val (.int p2), .val (.int p3), .val (.int p4), .val (.int (3 : Int32)), .val (.int x0), .val (.int x1), .val (.int x2), .val (.ref b193), .val (.ref b235), .val (.int (1 : Int32)), .unset] [(.int (1 : Int32))])) (fun tg kk => XS.iconst Xh297.here hx rfl (hb hby at_169) kk) ?_
          obtain ⟨fs, hr, hrun, hended, -, hW, hI, hsame⟩ := Xh297.leaveW hS (by rw [e294]; exact (Nat.le_trans (Nat.le_trans (Nat.le_trans (Nat.le_trans (Nat.le_trans (Nat.le_trans hk0 E193.1) (Keep.of_wr W203).1) (Keep.of_wr W214).1) (Keep.of_wr W225).1) E235.1) Kc249.1)) (v := some (.int (1 : Int32))) (fun h => by rw [Bd.returns] at h; cases h)
          refine ⟨_, _, ?_, hrun, hended, _, _, rfl, ?_, ⟨_, rfl⟩, hW, hI, hsame.mono (by decide) (by decide)⟩
          · exact retN Xh297 hx (t := .boolean) Bd.returns (by simp) (hb hby at_170) hr
          · show own_law_Q Z p1 p2 p3 p4 cs aA oi h0 n0 _ T294.heap _
            rw [e294]
            exact ⟨rfl, Nh297, K265⟩
set_option maxRecDepth 65536 in
set_option maxHeartbeats 40000000 in
theorem comes_1 {Post : Tables → Env → Array Value → State → Outcome → State → Prop} (hpost : ∀ tb e args s v u, (limb_1_1.after args s (.returned v) u = true ∧ limb_1_2.after args s (.returned v) u = true ∧ True) → ReturnedEndW s (.returned v) u (Jvm.fieldLocs frame_1_writes args s ++ Jvm.arrayLocs frame_1_arrays args s ++ Jvm.staticLocs frame_1_statics s) 16 1152 → Post tb e args s (.returned v) u) :
    ArmFor flags0 classFile x code maxLocals ret World_1 tables_1 room_1 Calls_1 rest_1 Pre_1 Post := by
  intro l hfl _ _ p e ha hc hk s m args below hf hA hF happ hP
  obtain ⟨hcalls, hrest, hpre⟩ := hP
  obtain ⟨-, -, -, hnamed, -, -, -, hat⟩ := (Spec.applies_iff hf).mp happ
  obtain ⟨hg, hn⟩ := and_e (Cond.before_iff.mp (show (Jvm.Cond.and given_1 narrow_1).before args s = true from hpre))
  obtain ⟨hg0, hg⟩ := and_e hg
  obtain ⟨hg1, hg⟩ := and_e hg
  obtain ⟨hg2, hg⟩ := and_e hg
  obtain ⟨hg3, hg⟩ := and_e hg
  obtain ⟨w0, w1, w2, w3, rfl⟩ : ∃ w0 w1 w2 w3 : Value, args = #[w0, w1, w2, w3] := by
    have hs : args.size = 4 := by simpa [Cond.value, given_1] using hg0
    obtain ⟨L⟩ := args
    match L, hs with
    | [w0, w1, w2, w3], _ => exact ⟨w0, w1, w2, w3, rfl⟩
  have hw := fun d (hd : d ∈ tables_1) => atoms_spec (ws := Jvm.Cond.code x code maxLocals ret :: tables_1) hat d (List.mem_cons_of_mem _ hd)
  have hfit : Fit s := fun {y c} hc i hi => by
    obtain ⟨ha, rfl⟩ := Array.getElem?_eq_some_iff.mp hc
    have q := List.all_eq_true.mp ((Array.all_eq_true_iff_forall_mem.mp hF) _ (Array.getElem_mem ha)) i (List.mem_range.mpr hi)
    simpa [Array.getElem?_eq_getElem hi] using q
  obtain ⟨i0, ei0⟩ := is_v hg1
  obtain rfl : w0 = (.int i0) := Option.some.inj ei0
  obtain ⟨i1, ei1⟩ := is_v hg2
  obtain rfl : w1 = (.int i1) := Option.some.inj ei1
  obtain ⟨i2, ei2⟩ := is_v hg3
  obtain rfl : w2 = (.int i2) := Option.some.inj ei2
  obtain ⟨i3, ei3⟩ := is_v hg
  obtain rfl : w3 = (.int i3) := Option.some.inj ei3
  obtain ⟨hsets, hown0⟩ := atoms_of _ (rest_1_c_eq ▸ (show rest_1_c.before _ s = true from hrest))
  obtain ⟨cs, ecs⟩ := is_v (Cond.before_iff.mp (hsets _ (List.mem_of_getElem? (i := 1) rfl)))
  have S8 : Sta s s.heap "java/lang/String" "COMPACT_STRINGS" "Z" (.int cs) := Sta.start ecs (Or.inl (hsets _ (List.mem_of_getElem? (i := 0) rfl)))
  have n3 := not_v (Cond.before_iff.mp (hsets _ (List.mem_of_getElem? (i := 2) rfl)))
  have hcs : ¬ cs = 0 := gotF (Cond.eq_ints ecs (Term.int_eval (0))) n3
  have hC0 : CHv s own_EL s.vm s.heap := CHv.start (own_EW hw) (fun p hp => hcalls.1 p hp) (hsets _ (List.mem_of_getElem? (i := 2) rfl)) (hw _ (List.mem_of_getElem? (i := 15) rfl)) (hw _ (List.mem_of_getElem? (i := 2) rfl))
  obtain ⟨aA, evA⟩ := arr_v (Cond.before_iff.mp (hsets _ (List.mem_of_getElem? (i := 14) rfl)))
  have SA : Sta s s.heap "java/lang/CharacterDataLatin1" "A" "[I" (.ref aA) := Sta.start evA (Or.inl (hsets _ (List.mem_of_getElem? (i := 13) rfl)))
  obtain ⟨clA, AA⟩ := Arr.start evA (Cond.before_iff.mp (hsets _ (List.mem_of_getElem? (i := 14) rfl)))
  have hHL : HasL clA 0 own_AV := ⟨own_at (k := (0 : Int32)) evA AA (by decide) (Cond.before_iff.mp (hsets _ (List.mem_of_getElem? (i := 17) rfl))), own_at (k := (1 : Int32)) evA AA (by decide) (Cond.before_iff.mp (hsets _ (List.mem_of_getElem? (i := 18) rfl))), own_at (k := (2 : Int32)) evA AA (by decide) (Cond.before_iff.mp (hsets _ (List.mem_of_getElem? (i := 19) rfl))), own_at (k := (3 : Int32)) evA AA (by decide) (Cond.before_iff.mp (hsets _ (List.mem_of_getElem? (i := 20) rfl))), own_at (k := (4 : Int32)) evA AA (by decide) (Cond.before_iff.mp (hsets _ (List.mem_of_getElem? (i := 21) rfl))), own_at (k := (5 : Int32)) evA AA (by decide) (Cond.before_iff.mp (hsets _ (List.mem_of_getElem? (i := 22) rfl))), own_at (k := (6 : Int32)) evA AA (by decide) (Cond.before_iff.mp (hsets _ (List.mem_of_getElem? (i := 23) rfl))), own_at (k := (7 : Int32)) evA AA (by decide) (Cond.before_iff.mp (hsets _ (List.mem_of_getElem? (i := 24) rfl))), own_at (k := (8 : Int32)) evA AA (by decide) (Cond.before_iff.mp (hsets _ (List.mem_of_getElem? (i := 25) rfl))), own_at (k := (9 : Int32)) evA AA (by decide) (Cond.before_iff.mp (hsets _ (List.mem_of_getElem? (i := 26) rfl))), own_at (k := (10 : Int32)) evA AA (by decide) (Cond.before_iff.mp (hsets _ (List.mem_of_getElem? (i := 27) rfl))), own_at (k := (11 : Int32)) evA AA (by decide) (Cond.before_iff.mp (hsets _ (List.mem_of_getElem? (i := 28) rfl))), own_at (k := (12 : Int32)) evA AA (by decide) (Cond.before_iff.mp (hsets _ (List.mem_of_getElem? (i := 29) rfl))), own_at (k := (13 : Int32)) evA AA (by decide) (Cond.before_iff.mp (hsets _ (List.mem_of_getElem? (i := 30) rfl))), own_at (k := (14 : Int32)) evA AA (by decide) (Cond.before_iff.mp (hsets _ (List.mem_of_getElem? (i := 31) rfl))), own_at (k := (15 : Int32)) evA AA (by decide) (Cond.before_iff.mp (hsets _ (List.mem_of_getElem? (i := 32) rfl))), own_at (k := (16 : Int32)) evA AA (by decide) (Cond.before_iff.mp (hsets _ (List.mem_of_getElem? (i := 33) rfl))), own_at (k := (17 : Int32)) evA AA (by decide) (Cond.before_iff.mp (hsets _ (List.mem_of_getElem? (i := 34) rfl))), own_at (k := (18 : Int32)) evA AA (by decide) (Cond.before_iff.mp (hsets _ (List.mem_of_getElem? (i := 35) rfl))), own_at (k := (19 : Int32)) evA AA (by decide) (Cond.before_iff.mp (hsets _ (List.mem_of_getElem? (i := 36) rfl))), own_at (k := (20 : Int32)) evA AA (by decide) (Cond.before_iff.mp (hsets _ (List.mem_of_getElem? (i := 37) rfl))), own_at (k := (21 : Int32)) evA AA (by decide) (Cond.before_iff.mp (hsets _ (List.mem_of_getElem? (i := 38) rfl))), own_at (k := (22 : Int32)) evA AA (by decide) (Cond.before_iff.mp (hsets _ (List.mem_of_getElem? (i := 39) rfl))), own_at (k := (23 : Int32)) evA AA (by decide) (Cond.before_iff.mp (hsets _ (List.mem_of_getElem? (i := 40) rfl))), own_at (k := (24 : Int32)) evA AA (by decide) (Cond.before_iff.mp (hsets _ (List.mem_of_getElem? (i := 41) rfl))), own_at (k := (25 : Int32)) evA AA (by decide) (Cond.before_iff.mp (hsets _ (List.mem_of_getElem? (i := 42) rfl))), own_at (k := (26 : Int32)) evA AA (by decide) (Cond.before_iff.mp (hsets _ (List.mem_of_getElem? (i := 43) rfl))), own_at (k := (27 : Int32)) evA AA (by decide) (Cond.before_iff.mp (hsets _ (List.mem_of_getElem? (i := 44) rfl))), own_at (k := (28 : Int32)) evA AA (by decide) (Cond.before_iff.mp (hsets _ (List.mem_of_getElem? (i := 45) rfl))), own_at (k := (29 : Int32)) evA AA (by decide) (Cond.before_iff.mp (hsets _ (List.mem_of_getElem? (i := 46) rfl))), own_at (k := (30 : Int32)) evA AA (by decide) (Cond.before_iff.mp (hsets _ (List.mem_of_getElem? (i := 47) rfl))), own_at (k := (31 : Int32)) evA AA (by decide) (Cond.before_iff.mp (hsets _ (List.mem_of_getElem? (i := 48) rfl))), own_at (k := (32 : Int32)) evA AA (by decide) (Cond.before_iff.mp (hsets _ (List.mem_of_getElem? (i := 49) rfl))), own_at (k := (33 : Int32)) evA AA (by decide) (Cond.before_iff.mp (hsets _ (List.mem_of_getElem? (i := 50) rfl))), own_at (k := (34 : Int32)) evA AA (by decide) (Cond.before_iff.mp (hsets _ (List.mem_of_getElem? (i := 51) rfl))), own_at (k := (35 : Int32)) evA AA (by decide) (Cond.before_iff.mp (hsets _ (List.mem_of_getElem? (i := 52) rfl))), own_at (k := (36 : Int32)) evA AA (by decide) (Cond.before_iff.mp (hsets _ (List.mem_of_getElem? (i := 53) rfl))), own_at (k := (37 : Int32)) evA AA (by decide) (Cond.before_iff.mp (hsets _ (List.mem_of_getElem? (i := 54) rfl))), own_at (k := (38 : Int32)) evA AA (by decide) (Cond.before_iff.mp (hsets _ (List.mem_of_getElem? (i := 55) rfl))), own_at (k := (39 : Int32)) evA AA (by decide) (Cond.before_iff.mp (hsets _ (List.mem_of_getElem? (i := 56) rfl))), own_at (k := (40 : Int32)) evA AA (by decide) (Cond.before_iff.mp (hsets _ (List.mem_of_getElem? (i := 57) rfl))), own_at (k := (41 : Int32)) evA AA (by decide) (Cond.before_iff.mp (hsets _ (List.mem_of_getElem? (i := 58) rfl))), own_at (k := (42 : Int32)) evA AA (by decide) (Cond.before_iff.mp (hsets _ (List.mem_of_getElem? (i := 59) rfl))), own_at (k := (43 : Int32)) evA AA (by decide) (Cond.before_iff.mp (hsets _ (List.mem_of_getElem? (i := 60) rfl))), own_at (k := (44 : Int32)) evA AA (by decide) (Cond.before_iff.mp (hsets _ (List.mem_of_getElem? (i := 61) rfl))), own_at (k := (45 : Int32)) evA AA (by decide) (Cond.before_iff.mp (hsets _ (List.mem_of_getElem? (i := 62) rfl))), own_at (k := (46 : Int32)) evA AA (by decide) (Cond.before_iff.mp (hsets _ (List.mem_of_getElem? (i := 63) rfl))), own_at (k := (47 : Int32)) evA AA (by decide) (Cond.before_iff.mp (hsets _ (List.mem_of_getElem? (i := 64) rfl))), own_at (k := (48 : Int32)) evA AA (by decide) (Cond.before_iff.mp (hsets _ (List.mem_of_getElem? (i := 65) rfl))), own_at (k := (49 : Int32)) evA AA (by decide) (Cond.before_iff.mp (hsets _ (List.mem_of_getElem? (i := 66) rfl))), own_at (k := (50 : Int32)) evA AA (by decide) (Cond.before_iff.mp (hsets _ (List.mem_of_getElem? (i := 67) rfl))), own_at (k := (51 : Int32)) evA AA (by decide) (Cond.before_iff.mp (hsets _ (List.mem_of_getElem? (i := 68) rfl))), own_at (k := (52 : Int32)) evA AA (by decide) (Cond.before_iff.mp (hsets _ (List.mem_of_getElem? (i := 69) rfl))), own_at (k := (53 : Int32)) evA AA (by decide) (Cond.before_iff.mp (hsets _ (List.mem_of_getElem? (i := 70) rfl))), own_at (k := (54 : Int32)) evA AA (by decide) (Cond.before_iff.mp (hsets _ (List.mem_of_getElem? (i := 71) rfl))), own_at (k := (55 : Int32)) evA AA (by decide) (Cond.before_iff.mp (hsets _ (List.mem_of_getElem? (i := 72) rfl))), own_at (k := (56 : Int32)) evA AA (by decide) (Cond.before_iff.mp (hsets _ (List.mem_of_getElem? (i := 73) rfl))), own_at (k := (57 : Int32)) evA AA (by decide) (Cond.before_iff.mp (hsets _ (List.mem_of_getElem? (i := 74) rfl))), own_at (k := (58 : Int32)) evA AA (by decide) (Cond.before_iff.mp (hsets _ (List.mem_of_getElem? (i := 75) rfl))), own_at (k := (59 : Int32)) evA AA (by decide) (Cond.before_iff.mp (hsets _ (List.mem_of_getElem? (i := 76) rfl))), own_at (k := (60 : Int32)) evA AA (by decide) (Cond.before_iff.mp (hsets _ (List.mem_of_getElem? (i := 77) rfl))), own_at (k := (61 : Int32)) evA AA (by decide) (Cond.before_iff.mp (hsets _ (List.mem_of_getElem? (i := 78) rfl))), own_at (k := (62 : Int32)) evA AA (by decide) (Cond.before_iff.mp (hsets _ (List.mem_of_getElem? (i := 79) rfl))), own_at (k := (63 : Int32)) evA AA (by decide) (Cond.before_iff.mp (hsets _ (List.mem_of_getElem? (i := 80) rfl))), own_at (k := (64 : Int32)) evA AA (by decide) (Cond.before_iff.mp (hsets _ (List.mem_of_getElem? (i := 81) rfl))), own_at (k := (65 : Int32)) evA AA (by decide) (Cond.before_iff.mp (hsets _ (List.mem_of_getElem? (i := 82) rfl))), own_at (k := (66 : Int32)) evA AA (by decide) (Cond.before_iff.mp (hsets _ (List.mem_of_getElem? (i := 83) rfl))), own_at (k := (67 : Int32)) evA AA (by decide) (Cond.before_iff.mp (hsets _ (List.mem_of_getElem? (i := 84) rfl))), own_at (k := (68 : Int32)) evA AA (by decide) (Cond.before_iff.mp (hsets _ (List.mem_of_getElem? (i := 85) rfl))), own_at (k := (69 : Int32)) evA AA (by decide) (Cond.before_iff.mp (hsets _ (List.mem_of_getElem? (i := 86) rfl))), own_at (k := (70 : Int32)) evA AA (by decide) (Cond.before_iff.mp (hsets _ (List.mem_of_getElem? (i := 87) rfl))), own_at (k := (71 : Int32)) evA AA (by decide) (Cond.before_iff.mp (hsets _ (List.mem_of_getElem? (i := 88) rfl))), own_at (k := (72 : Int32)) evA AA (by decide) (Cond.before_iff.mp (hsets _ (List.mem_of_getElem? (i := 89) rfl))), own_at (k := (73 : Int32)) evA AA (by decide) (Cond.before_iff.mp (hsets _ (List.mem_of_getElem? (i := 90) rfl))), own_at (k := (74 : Int32)) evA AA (by decide) (Cond.before_iff.mp (hsets _ (List.mem_of_getElem? (i := 91) rfl))), own_at (k := (75 : Int32)) evA AA (by decide) (Cond.before_iff.mp (hsets _ (List.mem_of_getElem? (i := 92) rfl))), own_at (k := (76 : Int32)) evA AA (by decide) (Cond.before_iff.mp (hsets _ (List.mem_of_getElem? (i := 93) rfl))), own_at (k := (77 : Int32)) evA AA (by decide) (Cond.before_iff.mp (hsets _ (List.mem_of_getElem? (i := 94) rfl))), own_at (k := (78 : Int32)) evA AA (by decide) (Cond.before_iff.mp (hsets _ (List.mem_of_getElem? (i := 95) rfl))), own_at (k := (79 : Int32)) evA AA (by decide) (Cond.before_iff.mp (hsets _ (List.mem_of_getElem? (i := 96) rfl))), own_at (k := (80 : Int32)) evA AA (by decide) (Cond.before_iff.mp (hsets _ (List.mem_of_getElem? (i := 97) rfl))), own_at (k := (81 : Int32)) evA AA (by decide) (Cond.before_iff.mp (hsets _ (List.mem_of_getElem? (i := 98) rfl))), own_at (k := (82 : Int32)) evA AA (by decide) (Cond.before_iff.mp (hsets _ (List.mem_of_getElem? (i := 99) rfl))), own_at (k := (83 : Int32)) evA AA (by decide) (Cond.before_iff.mp (hsets _ (List.mem_of_getElem? (i := 100) rfl))), own_at (k := (84 : Int32)) evA AA (by decide) (Cond.before_iff.mp (hsets _ (List.mem_of_getElem? (i := 101) rfl))), own_at (k := (85 : Int32)) evA AA (by decide) (Cond.before_iff.mp (hsets _ (List.mem_of_getElem? (i := 102) rfl))), own_at (k := (86 : Int32)) evA AA (by decide) (Cond.before_iff.mp (hsets _ (List.mem_of_getElem? (i := 103) rfl))), own_at (k := (87 : Int32)) evA AA (by decide) (Cond.before_iff.mp (hsets _ (List.mem_of_getElem? (i := 104) rfl))), own_at (k := (88 : Int32)) evA AA (by decide) (Cond.before_iff.mp (hsets _ (List.mem_of_getElem? (i := 105) rfl))), own_at (k := (89 : Int32)) evA AA (by decide) (Cond.before_iff.mp (hsets _ (List.mem_of_getElem? (i := 106) rfl))), own_at (k := (90 : Int32)) evA AA (by decide) (Cond.before_iff.mp (hsets _ (List.mem_of_getElem? (i := 107) rfl))), own_at (k := (91 : Int32)) evA AA (by decide) (Cond.before_iff.mp (hsets _ (List.mem_of_getElem? (i := 108) rfl))), own_at (k := (92 : Int32)) evA AA (by decide) (Cond.before_iff.mp (hsets _ (List.mem_of_getElem? (i := 109) rfl))), own_at (k := (93 : Int32)) evA AA (by decide) (Cond.before_iff.mp (hsets _ (List.mem_of_getElem? (i := 110) rfl))), own_at (k := (94 : Int32)) evA AA (by decide) (Cond.before_iff.mp (hsets _ (List.mem_of_getElem? (i := 111) rfl))), own_at (k := (95 : Int32)) evA AA (by decide) (Cond.before_iff.mp (hsets _ (List.mem_of_getElem? (i := 112) rfl))), own_at (k := (96 : Int32)) evA AA (by decide) (Cond.before_iff.mp (hsets _ (List.mem_of_getElem? (i := 113) rfl))), own_at (k := (97 : Int32)) evA AA (by decide) (Cond.before_iff.mp (hsets _ (List.mem_of_getElem? (i := 114) rfl))), own_at (k := (98 : Int32)) evA AA (by decide) (Cond.before_iff.mp (hsets _ (List.mem_of_getElem? (i := 115) rfl))), own_at (k := (99 : Int32)) evA AA (by decide) (Cond.before_iff.mp (hsets _ (List.mem_of_getElem? (i := 116) rfl))), own_at (k := (100 : Int32)) evA AA (by decide) (Cond.before_iff.mp (hsets _ (List.mem_of_getElem? (i := 117) rfl))), own_at (k := (101 : Int32)) evA AA (by decide) (Cond.before_iff.mp (hsets _ (List.mem_of_getElem? (i := 118) rfl))), own_at (k := (102 : Int32)) evA AA (by decide) (Cond.before_iff.mp (hsets _ (List.mem_of_getElem? (i := 119) rfl))), own_at (k := (103 : Int32)) evA AA (by decide) (Cond.before_iff.mp (hsets _ (List.mem_of_getElem? (i := 120) rfl))), own_at (k := (104 : Int32)) evA AA (by decide) (Cond.before_iff.mp (hsets _ (List.mem_of_getElem? (i := 121) rfl))), own_at (k := (105 : Int32)) evA AA (by decide) (Cond.before_iff.mp (hsets _ (List.mem_of_getElem? (i := 122) rfl))), own_at (k := (106 : Int32)) evA AA (by decide) (Cond.before_iff.mp (hsets _ (List.mem_of_getElem? (i := 123) rfl))), own_at (k := (107 : Int32)) evA AA (by decide) (Cond.before_iff.mp (hsets _ (List.mem_of_getElem? (i := 124) rfl))), own_at (k := (108 : Int32)) evA AA (by decide) (Cond.before_iff.mp (hsets _ (List.mem_of_getElem? (i := 125) rfl))), own_at (k := (109 : Int32)) evA AA (by decide) (Cond.before_iff.mp (hsets _ (List.mem_of_getElem? (i := 126) rfl))), own_at (k := (110 : Int32)) evA AA (by decide) (Cond.before_iff.mp (hsets _ (List.mem_of_getElem? (i := 127) rfl))), own_at (k := (111 : Int32)) evA AA (by decide) (Cond.before_iff.mp (hsets _ (List.mem_of_getElem? (i := 128) rfl))), own_at (k := (112 : Int32)) evA AA (by decide) (Cond.before_iff.mp (hsets _ (List.mem_of_getElem? (i := 129) rfl))), own_at (k := (113 : Int32)) evA AA (by decide) (Cond.before_iff.mp (hsets _ (List.mem_of_getElem? (i := 130) rfl))), own_at (k := (114 : Int32)) evA AA (by decide) (Cond.before_iff.mp (hsets _ (List.mem_of_getElem? (i := 131) rfl))), own_at (k := (115 : Int32)) evA AA (by decide) (Cond.before_iff.mp (hsets _ (List.mem_of_getElem? (i := 132) rfl))), own_at (k := (116 : Int32)) evA AA (by decide) (Cond.before_iff.mp (hsets _ (List.mem_of_getElem? (i := 133) rfl))), own_at (k := (117 : Int32)) evA AA (by decide) (Cond.before_iff.mp (hsets _ (List.mem_of_getElem? (i := 134) rfl))), own_at (k := (118 : Int32)) evA AA (by decide) (Cond.before_iff.mp (hsets _ (List.mem_of_getElem? (i := 135) rfl))), own_at (k := (119 : Int32)) evA AA (by decide) (Cond.before_iff.mp (hsets _ (List.mem_of_getElem? (i := 136) rfl))), own_at (k := (120 : Int32)) evA AA (by decide) (Cond.before_iff.mp (hsets _ (List.mem_of_getElem? (i := 137) rfl))), own_at (k := (121 : Int32)) evA AA (by decide) (Cond.before_iff.mp (hsets _ (List.mem_of_getElem? (i := 138) rfl))), own_at (k := (122 : Int32)) evA AA (by decide) (Cond.before_iff.mp (hsets _ (List.mem_of_getElem? (i := 139) rfl))), own_at (k := (123 : Int32)) evA AA (by decide) (Cond.before_iff.mp (hsets _ (List.mem_of_getElem? (i := 140) rfl))), own_at (k := (124 : Int32)) evA AA (by decide) (Cond.before_iff.mp (hsets _ (List.mem_of_getElem? (i := 141) rfl))), own_at (k := (125 : Int32)) evA AA (by decide) (Cond.before_iff.mp (hsets _ (List.mem_of_getElem? (i := 142) rfl))), own_at (k := (126 : Int32)) evA AA (by decide) (Cond.before_iff.mp (hsets _ (List.mem_of_getElem? (i := 143) rfl))), own_at (k := (127 : Int32)) evA AA (by decide) (Cond.before_iff.mp (hsets _ (List.mem_of_getElem? (i := 144) rfl))), own_at (k := (128 : Int32)) evA AA (by decide) (Cond.before_iff.mp (hsets _ (List.mem_of_getElem? (i := 145) rfl))), own_at (k := (129 : Int32)) evA AA (by decide) (Cond.before_iff.mp (hsets _ (List.mem_of_getElem? (i := 146) rfl))), own_at (k := (130 : Int32)) evA AA (by decide) (Cond.before_iff.mp (hsets _ (List.mem_of_getElem? (i := 147) rfl))), own_at (k := (131 : Int32)) evA AA (by decide) (Cond.before_iff.mp (hsets _ (List.mem_of_getElem? (i := 148) rfl))), own_at (k := (132 : Int32)) evA AA (by decide) (Cond.before_iff.mp (hsets _ (List.mem_of_getElem? (i := 149) rfl))), own_at (k := (133 : Int32)) evA AA (by decide) (Cond.before_iff.mp (hsets _ (List.mem_of_getElem? (i := 150) rfl))), own_at (k := (134 : Int32)) evA AA (by decide) (Cond.before_iff.mp (hsets _ (List.mem_of_getElem? (i := 151) rfl))), own_at (k := (135 : Int32)) evA AA (by decide) (Cond.before_iff.mp (hsets _ (List.mem_of_getElem? (i := 152) rfl))), own_at (k := (136 : Int32)) evA AA (by decide) (Cond.before_iff.mp (hsets _ (List.mem_of_getElem? (i := 153) rfl))), own_at (k := (137 : Int32)) evA AA (by decide) (Cond.before_iff.mp (hsets _ (List.mem_of_getElem? (i := 154) rfl))), own_at (k := (138 : Int32)) evA AA (by decide) (Cond.before_iff.mp (hsets _ (List.mem_of_getElem? (i := 155) rfl))), own_at (k := (139 : Int32)) evA AA (by decide) (Cond.before_iff.mp (hsets _ (List.mem_of_getElem? (i := 156) rfl))), own_at (k := (140 : Int32)) evA AA (by decide) (Cond.before_iff.mp (hsets _ (List.mem_of_getElem? (i := 157) rfl))), own_at (k := (141 : Int32)) evA AA (by decide) (Cond.before_iff.mp (hsets _ (List.mem_of_getElem? (i := 158) rfl))), own_at (k := (142 : Int32)) evA AA (by decide) (Cond.before_iff.mp (hsets _ (List.mem_of_getElem? (i := 159) rfl))), own_at (k := (143 : Int32)) evA AA (by decide) (Cond.before_iff.mp (hsets _ (List.mem_of_getElem? (i := 160) rfl))), own_at (k := (144 : Int32)) evA AA (by decide) (Cond.before_iff.mp (hsets _ (List.mem_of_getElem? (i := 161) rfl))), own_at (k := (145 : Int32)) evA AA (by decide) (Cond.before_iff.mp (hsets _ (List.mem_of_getElem? (i := 162) rfl))), own_at (k := (146 : Int32)) evA AA (by decide) (Cond.before_iff.mp (hsets _ (List.mem_of_getElem? (i := 163) rfl))), own_at (k := (147 : Int32)) evA AA (by decide) (Cond.before_iff.mp (hsets _ (List.mem_of_getElem? (i := 164) rfl))), own_at (k := (148 : Int32)) evA AA (by decide) (Cond.before_iff.mp (hsets _ (List.mem_of_getElem? (i := 165) rfl))), own_at (k := (149 : Int32)) evA AA (by decide) (Cond.before_iff.mp (hsets _ (List.mem_of_getElem? (i := 166) rfl))), own_at (k := (150 : Int32)) evA AA (by decide) (Cond.before_iff.mp (hsets _ (List.mem_of_getElem? (i := 167) rfl))), own_at (k := (151 : Int32)) evA AA (by decide) (Cond.before_iff.mp (hsets _ (List.mem_of_getElem? (i := 168) rfl))), own_at (k := (152 : Int32)) evA AA (by decide) (Cond.before_iff.mp (hsets _ (List.mem_of_getElem? (i := 169) rfl))), own_at (k := (153 : Int32)) evA AA (by decide) (Cond.before_iff.mp (hsets _ (List.mem_of_getElem? (i := 170) rfl))), own_at (k := (154 : Int32)) evA AA (by decide) (Cond.before_iff.mp (hsets _ (List.mem_of_getElem? (i := 171) rfl))), own_at (k := (155 : Int32)) evA AA (by decide) (Cond.before_iff.mp (hsets _ (List.mem_of_getElem? (i := 172) rfl))), own_at (k := (156 : Int32)) evA AA (by decide) (Cond.before_iff.mp (hsets _ (List.mem_of_getElem? (i := 173) rfl))), own_at (k := (157 : Int32)) evA AA (by decide) (Cond.before_iff.mp (hsets _ (List.mem_of_getElem? (i := 174) rfl))), own_at (k := (158 : Int32)) evA AA (by decide) (Cond.before_iff.mp (hsets _ (List.mem_of_getElem? (i := 175) rfl))), own_at (k := (159 : Int32)) evA AA (by decide) (Cond.before_iff.mp (hsets _ (List.mem_of_getElem? (i := 176) rfl))), own_at (k := (160 : Int32)) evA AA (by decide) (Cond.before_iff.mp (hsets _ (List.mem_of_getElem? (i := 177) rfl))), own_at (k := (161 : Int32)) evA AA (by decide) (Cond.before_iff.mp (hsets _ (List.mem_of_getElem? (i := 178) rfl))), own_at (k := (162 : Int32)) evA AA (by decide) (Cond.before_iff.mp (hsets _ (List.mem_of_getElem? (i := 179) rfl))), own_at (k := (163 : Int32)) evA AA (by decide) (Cond.before_iff.mp (hsets _ (List.mem_of_getElem? (i := 180) rfl))), own_at (k := (164 : Int32)) evA AA (by decide) (Cond.before_iff.mp (hsets _ (List.mem_of_getElem? (i := 181) rfl))), own_at (k := (165 : Int32)) evA AA (by decide) (Cond.before_iff.mp (hsets _ (List.mem_of_getElem? (i := 182) rfl))), own_at (k := (166 : Int32)) evA AA (by decide) (Cond.before_iff.mp (hsets _ (List.mem_of_getElem? (i := 183) rfl))), own_at (k := (167 : Int32)) evA AA (by decide) (Cond.before_iff.mp (hsets _ (List.mem_of_getElem? (i := 184) rfl))), own_at (k := (168 : Int32)) evA AA (by decide) (Cond.before_iff.mp (hsets _ (List.mem_of_getElem? (i := 185) rfl))), own_at (k := (169 : Int32)) evA AA (by decide) (Cond.before_iff.mp (hsets _ (List.mem_of_getElem? (i := 186) rfl))), own_at (k := (170 : Int32)) evA AA (by decide) (Cond.before_iff.mp (hsets _ (List.mem_of_getElem? (i := 187) rfl))), own_at (k := (171 : Int32)) evA AA (by decide) (Cond.before_iff.mp (hsets _ (List.mem_of_getElem? (i := 188) rfl))), own_at (k := (172 : Int32)) evA AA (by decide) (Cond.before_iff.mp (hsets _ (List.mem_of_getElem? (i := 189) rfl))), own_at (k := (173 : Int32)) evA AA (by decide) (Cond.before_iff.mp (hsets _ (List.mem_of_getElem? (i := 190) rfl))), own_at (k := (174 : Int32)) evA AA (by decide) (Cond.before_iff.mp (hsets _ (List.mem_of_getElem? (i := 191) rfl))), own_at (k := (175 : Int32)) evA AA (by decide) (Cond.before_iff.mp (hsets _ (List.mem_of_getElem? (i := 192) rfl))), own_at (k := (176 : Int32)) evA AA (by decide) (Cond.before_iff.mp (hsets _ (List.mem_of_getElem? (i := 193) rfl))), own_at (k := (177 : Int32)) evA AA (by decide) (Cond.before_iff.mp (hsets _ (List.mem_of_getElem? (i := 194) rfl))), own_at (k := (178 : Int32)) evA AA (by decide) (Cond.before_iff.mp (hsets _ (List.mem_of_getElem? (i := 195) rfl))), own_at (k := (179 : Int32)) evA AA (by decide) (Cond.before_iff.mp (hsets _ (List.mem_of_getElem? (i := 196) rfl))), own_at (k := (180 : Int32)) evA AA (by decide) (Cond.before_iff.mp (hsets _ (List.mem_of_getElem? (i := 197) rfl))), own_at (k := (181 : Int32)) evA AA (by decide) (Cond.before_iff.mp (hsets _ (List.mem_of_getElem? (i := 198) rfl))), own_at (k := (182 : Int32)) evA AA (by decide) (Cond.before_iff.mp (hsets _ (List.mem_of_getElem? (i := 199) rfl))), own_at (k := (183 : Int32)) evA AA (by decide) (Cond.before_iff.mp (hsets _ (List.mem_of_getElem? (i := 200) rfl))), own_at (k := (184 : Int32)) evA AA (by decide) (Cond.before_iff.mp (hsets _ (List.mem_of_getElem? (i := 201) rfl))), own_at (k := (185 : Int32)) evA AA (by decide) (Cond.before_iff.mp (hsets _ (List.mem_of_getElem? (i := 202) rfl))), own_at (k := (186 : Int32)) evA AA (by decide) (Cond.before_iff.mp (hsets _ (List.mem_of_getElem? (i := 203) rfl))), own_at (k := (187 : Int32)) evA AA (by decide) (Cond.before_iff.mp (hsets _ (List.mem_of_getElem? (i := 204) rfl))), own_at (k := (188 : Int32)) evA AA (by decide) (Cond.before_iff.mp (hsets _ (List.mem_of_getElem? (i := 205) rfl))), own_at (k := (189 : Int32)) evA AA (by decide) (Cond.before_iff.mp (hsets _ (List.mem_of_getElem? (i := 206) rfl))), own_at (k := (190 : Int32)) evA AA (by decide) (Cond.before_iff.mp (hsets _ (List.mem_of_getElem? (i := 207) rfl))), own_at (k := (191 : Int32)) evA AA (by decide) (Cond.before_iff.mp (hsets _ (List.mem_of_getElem? (i := 208) rfl))), own_at (k := (192 : Int32)) evA AA (by decide) (Cond.before_iff.mp (hsets _ (List.mem_of_getElem? (i := 209) rfl))), own_at (k := (193 : Int32)) evA AA (by decide) (Cond.before_iff.mp (hsets _ (List.mem_of_getElem? (i := 210) rfl))), own_at (k := (194 : Int32)) evA AA (by decide) (Cond.before_iff.mp (hsets _ (List.mem_of_getElem? (i := 211) rfl))), own_at (k := (195 : Int32)) evA AA (by decide) (Cond.before_iff.mp (hsets _ (List.mem_of_getElem? (i := 212) rfl))), own_at (k := (196 : Int32)) evA AA (by decide) (Cond.before_iff.mp (hsets _ (List.mem_of_getElem? (i := 213) rfl))), own_at (k := (197 : Int32)) evA AA (by decide) (Cond.before_iff.mp (hsets _ (List.mem_of_getElem? (i := 214) rfl))), own_at (k := (198 : Int32)) evA AA (by decide) (Cond.before_iff.mp (hsets _ (List.mem_of_getElem? (i := 215) rfl))), own_at (k := (199 : Int32)) evA AA (by decide) (Cond.before_iff.mp (hsets _ (List.mem_of_getElem? (i := 216) rfl))), own_at (k := (200 : Int32)) evA AA (by decide) (Cond.before_iff.mp (hsets _ (List.mem_of_getElem? (i := 217) rfl))), own_at (k := (201 : Int32)) evA AA (by decide) (Cond.before_iff.mp (hsets _ (List.mem_of_getElem? (i := 218) rfl))), own_at (k := (202 : Int32)) evA AA (by decide) (Cond.before_iff.mp (hsets _ (List.mem_of_getElem? (i := 219) rfl))), own_at (k := (203 : Int32)) evA AA (by decide) (Cond.before_iff.mp (hsets _ (List.mem_of_getElem? (i := 220) rfl))), own_at (k := (204 : Int32)) evA AA (by decide) (Cond.before_iff.mp (hsets _ (List.mem_of_getElem? (i := 221) rfl))), own_at (k := (205 : Int32)) evA AA (by decide) (Cond.before_iff.mp (hsets _ (List.mem_of_getElem? (i := 222) rfl))), own_at (k := (206 : Int32)) evA AA (by decide) (Cond.before_iff.mp (hsets _ (List.mem_of_getElem? (i := 223) rfl))), own_at (k := (207 : Int32)) evA AA (by decide) (Cond.before_iff.mp (hsets _ (List.mem_of_getElem? (i := 224) rfl))), own_at (k := (208 : Int32)) evA AA (by decide) (Cond.before_iff.mp (hsets _ (List.mem_of_getElem? (i := 225) rfl))), own_at (k := (209 : Int32)) evA AA (by decide) (Cond.before_iff.mp (hsets _ (List.mem_of_getElem? (i := 226) rfl))), own_at (k := (210 : Int32)) evA AA (by decide) (Cond.before_iff.mp (hsets _ (List.mem_of_getElem? (i := 227) rfl))), own_at (k := (211 : Int32)) evA AA (by decide) (Cond.before_iff.mp (hsets _ (List.mem_of_getElem? (i := 228) rfl))), own_at (k := (212 : Int32)) evA AA (by decide) (Cond.before_iff.mp (hsets _ (List.mem_of_getElem? (i := 229) rfl))), own_at (k := (213 : Int32)) evA AA (by decide) (Cond.before_iff.mp (hsets _ (List.mem_of_getElem? (i := 230) rfl))), own_at (k := (214 : Int32)) evA AA (by decide) (Cond.before_iff.mp (hsets _ (List.mem_of_getElem? (i := 231) rfl))), own_at (k := (215 : Int32)) evA AA (by decide) (Cond.before_iff.mp (hsets _ (List.mem_of_getElem? (i := 232) rfl))), own_at (k := (216 : Int32)) evA AA (by decide) (Cond.before_iff.mp (hsets _ (List.mem_of_getElem? (i := 233) rfl))), own_at (k := (217 : Int32)) evA AA (by decide) (Cond.before_iff.mp (hsets _ (List.mem_of_getElem? (i := 234) rfl))), own_at (k := (218 : Int32)) evA AA (by decide) (Cond.before_iff.mp (hsets _ (List.mem_of_getElem? (i := 235) rfl))), own_at (k := (219 : Int32)) evA AA (by decide) (Cond.before_iff.mp (hsets _ (List.mem_of_getElem? (i := 236) rfl))), own_at (k := (220 : Int32)) evA AA (by decide) (Cond.before_iff.mp (hsets _ (List.mem_of_getElem? (i := 237) rfl))), own_at (k := (221 : Int32)) evA AA (by decide) (Cond.before_iff.mp (hsets _ (List.mem_of_getElem? (i := 238) rfl))), own_at (k := (222 : Int32)) evA AA (by decide) (Cond.before_iff.mp (hsets _ (List.mem_of_getElem? (i := 239) rfl))), own_at (k := (223 : Int32)) evA AA (by decide) (Cond.before_iff.mp (hsets _ (List.mem_of_getElem? (i := 240) rfl))), own_at (k := (224 : Int32)) evA AA (by decide) (Cond.before_iff.mp (hsets _ (List.mem_of_getElem? (i := 241) rfl))), own_at (k := (225 : Int32)) evA AA (by decide) (Cond.before_iff.mp (hsets _ (List.mem_of_getElem? (i := 242) rfl))), own_at (k := (226 : Int32)) evA AA (by decide) (Cond.before_iff.mp (hsets _ (List.mem_of_getElem? (i := 243) rfl))), own_at (k := (227 : Int32)) evA AA (by decide) (Cond.before_iff.mp (hsets _ (List.mem_of_getElem? (i := 244) rfl))), own_at (k := (228 : Int32)) evA AA (by decide) (Cond.before_iff.mp (hsets _ (List.mem_of_getElem? (i := 245) rfl))), own_at (k := (229 : Int32)) evA AA (by decide) (Cond.before_iff.mp (hsets _ (List.mem_of_getElem? (i := 246) rfl))), own_at (k := (230 : Int32)) evA AA (by decide) (Cond.before_iff.mp (hsets _ (List.mem_of_getElem? (i := 247) rfl))), own_at (k := (231 : Int32)) evA AA (by decide) (Cond.before_iff.mp (hsets _ (List.mem_of_getElem? (i := 248) rfl))), own_at (k := (232 : Int32)) evA AA (by decide) (Cond.before_iff.mp (hsets _ (List.mem_of_getElem? (i := 249) rfl))), own_at (k := (233 : Int32)) evA AA (by decide) (Cond.before_iff.mp (hsets _ (List.mem_of_getElem? (i := 250) rfl))), own_at (k := (234 : Int32)) evA AA (by decide) (Cond.before_iff.mp (hsets _ (List.mem_of_getElem? (i := 251) rfl))), own_at (k := (235 : Int32)) evA AA (by decide) (Cond.before_iff.mp (hsets _ (List.mem_of_getElem? (i := 252) rfl))), own_at (k := (236 : Int32)) evA AA (by decide) (Cond.before_iff.mp (hsets _ (List.mem_of_getElem? (i := 253) rfl))), own_at (k := (237 : Int32)) evA AA (by decide) (Cond.before_iff.mp (hsets _ (List.mem_of_getElem? (i := 254) rfl))), own_at (k := (238 : Int32)) evA AA (by decide) (Cond.before_iff.mp (hsets _ (List.mem_of_getElem? (i := 255) rfl))), own_at (k := (239 : Int32)) evA AA (by decide) (Cond.before_iff.mp (hsets _ (List.mem_of_getElem? (i := 256) rfl))), own_at (k := (240 : Int32)) evA AA (by decide) (Cond.before_iff.mp (hsets _ (List.mem_of_getElem? (i := 257) rfl))), own_at (k := (241 : Int32)) evA AA (by decide) (Cond.before_iff.mp (hsets _ (List.mem_of_getElem? (i := 258) rfl))), own_at (k := (242 : Int32)) evA AA (by decide) (Cond.before_iff.mp (hsets _ (List.mem_of_getElem? (i := 259) rfl))), own_at (k := (243 : Int32)) evA AA (by decide) (Cond.before_iff.mp (hsets _ (List.mem_of_getElem? (i := 260) rfl))), own_at (k := (244 : Int32)) evA AA (by decide) (Cond.before_iff.mp (hsets _ (List.mem_of_getElem? (i := 261) rfl))), own_at (k := (245 : Int32)) evA AA (by decide) (Cond.before_iff.mp (hsets _ (List.mem_of_getElem? (i := 262) rfl))), own_at (k := (246 : Int32)) evA AA (by decide) (Cond.before_iff.mp (hsets _ (List.mem_of_getElem? (i := 263) rfl))), own_at (k := (247 : Int32)) evA AA (by decide) (Cond.before_iff.mp (hsets _ (List.mem_of_getElem? (i := 264) rfl))), own_at (k := (248 : Int32)) evA AA (by decide) (Cond.before_iff.mp (hsets _ (List.mem_of_getElem? (i := 265) rfl))), own_at (k := (249 : Int32)) evA AA (by decide) (Cond.before_iff.mp (hsets _ (List.mem_of_getElem? (i := 266) rfl))), own_at (k := (250 : Int32)) evA AA (by decide) (Cond.before_iff.mp (hsets _ (List.mem_of_getElem? (i := 267) rfl))), own_at (k := (251 : Int32)) evA AA (by decide) (Cond.before_iff.mp (hsets _ (List.mem_of_getElem? (i := 268) rfl))), own_at (k := (252 : Int32)) evA AA (by decide) (Cond.before_iff.mp (hsets _ (List.mem_of_getElem? (i := 269) rfl))), own_at (k := (253 : Int32)) evA AA (by decide) (Cond.before_iff.mp (hsets _ (List.mem_of_getElem? (i := 270) rfl))), own_at (k := (254 : Int32)) evA AA (by decide) (Cond.before_iff.mp (hsets _ (List.mem_of_getElem? (i := 271) rfl))), own_at (k := (255 : Int32)) evA AA (by decide) (Cond.before_iff.mp (hsets _ (List.mem_of_getElem? (i := 272) rfl))), trivial⟩
  have hA : own_A s aA := own_Amk AA (own_sz evA AA (Cond.before_iff.mp (hsets _ (List.mem_of_getElem? (i := 16) rfl)))) hHL
  obtain ⟨oi, evi⟩ := exa_v (Cond.before_iff.mp (hsets _ (List.mem_of_getElem? (i := 11) rfl)))
  have SN : Sta s s.heap "java/lang/CharacterDataLatin1" "instance" "Ljava/lang/CharacterDataLatin1;" (.ref oi) := Sta.start evi (Or.inl (hsets _ (List.mem_of_getElem? (i := 10) rfl)))
  have Xi : Exa s s.heap oi "java/lang/CharacterDataLatin1" := Exa.start evi (Cond.before_iff.mp (hsets _ (List.mem_of_getElem? (i := 11) rfl)))
  obtain ⟨n, o, h1, h2, h3, _, L, rfl, ⟨rfl, N, -⟩, hq⟩ := own_law l s _ hw tables_1 i0 i1 i2 i3 cs aA oi s.heap s.heap.size (Nat.le_refl _) S8 (Old.start s) hcs SA hA SN Xi p e ha hc hk s m _ below hf ((Spec.applies_iff_loose hf).mp happ).1 ⟨rfl, State.Warmed39.refl s, rfl, hC0⟩ trivial
  refine ⟨n, _, h1, h2, h3, hpost _ _ _ _ _ _ ⟨Cond.after_iff.mpr rfl, Cond.after_iff.mpr (eq_i res_at (Term.int_eval (1)) rfl), trivial⟩ ⟨hq.1, hq.2.1, hq.2.2.1, (hq.2.2.2.sift fun y hy => Or.inr (N y hy)).mono (by decide) (by decide)⟩⟩
theorem main_1_1 : Claimed_1_1 := comes_1 fun _ _ _ _ _ _ h hF => ⟨h.1, hF⟩
theorem main_1_2 : Claimed_1_2 := comes_1 fun _ _ _ _ _ _ h hF => ⟨h.2.1, hF⟩
end Jvm.Pilot.@@N@@
namespace Jvm.Pilot.@@N@@
open Jvm Jvm.ClassFile Sem Op Lib Jvm.Free Jvm.Stand Jvm.Pilot.@@N@@.Jvm.D
/-! MADE BY PROGRAM (witnessworld.py) out of the Statement's table words and the real class files: 22 classes; the members and pool entries that the words name. The judged class is class 1, her method 2. -/
namespace start1
open Jvm.ClassFile
def u (s : String) : CpInfo := .utf8 (stringToUtf16 s)
/-- a pool by its gaps: so many unusable entries, then the entry; so many at the end -/
def gap : Nat → List CpInfo → List CpInfo
  | 0, r => r
  | n + 1, r => .unusable :: gap n r
def poolList (es : List (Nat × CpInfo)) (last : Nat) : List CpInfo := es.foldr (fun e r => gap e.1 (e.2 :: r)) (gap last [])
def pool (es : List (Nat × CpInfo)) (last : Nat) : Array CpInfo := ⟨poolList es last⟩
def fileOf (pool : Array CpInfo) (this : Nat) (attrs : Array Attribute := #[]) (ms : Array MethodInfo := #[]) (fl : Nat := 33) (sup : Nat := 0) (ifs : Array Nat := #[]) (fds : Array FieldInfo := #[]) : ClassFile where
  minorVersion := 0
  majorVersion := 65
  constantPool := pool
  accessFlags := fl
  thisClass := this
  superClass := sup
  interfaces := ifs
  fields := fds
  methods := ms
  attributes := attrs
def plain (name : String) (sup : Option ClassId) : Class where
  name := name
  kind := .ordinary
  loader := none
  accessFlags := 33
  super := sup
  interfaces := #[]
  cf := none
  fields := #[]
  methods := #[]
  instanceTypes := #[]
  staticTypes := #[]
  resolved := #[]
  callSites := []
  init := .initialized
  statics := none
  mirror := none

def pool0 : Array CpInfo := pool [(5, u "<init>"), (0, u "()V"), (1, .class_ 10), (1, u "java/lang/Object")] 113

def k0c0 : Code := { maxStack := 0, maxLocals := 1, code := object_method_1_code, exceptionTable := #[], attributes := #[] }
def k0m0 : Method := { name := "<init>", desc := "()V", sig := { parameters := [], returnType := none }, accessFlags := 1, code := some k0c0 }
/-- java/lang/Object -/
def k0 : Class := { plain "java/lang/Object" none with
  accessFlags := 33
  interfaces := #[]
  cf := some (fileOf pool0 8 #[] #[{ accessFlags := 1, nameIndex := 5, descriptorIndex := 6, attributes := #[] }] 33 0 #[] #[])
  fields := #[]
  methods := #[k0m0]
  instanceTypes := #[]
  staticTypes := #[]
  resolved := Array.replicate 124 none
  statics := none }

def pool1 : Array CpInfo := pool [(2, .class_ 4), (1, u "java/lang/Object"), (0, u "<init>"), (0, u "()V"), (0, .class_ 8), (0, u "java/lang/String"), (0, .methodref 7 10), (0, .nameAndType 5 11), (0, u "([C)V"), (0, .methodref 13 14), (0, .class_ 15), (0, .nameAndType 16 17), (0, u "com/example/penelope/penelope/RollbackRulesCheckedNamePinLaw"), (0, u "ws"), (0, u "(I)Z"), (0, .methodref 19 20), (0, .class_ 21), (0, .nameAndType 22 23), (0, u "com/example/penelope/penelope/RollbackRules"), (0, u "checkedName"), (0, u "(Ljava/lang/String;)Ljava/lang/String;"), (0, .methodref 7 25), (0, .nameAndType 26 27), (0, u "length"), (0, u "()I"), (0, .methodref 7 29), (0, .nameAndType 30 31), (0, u "equals"), (0, u "(Ljava/lang/Object;)Z"), (3, u "law"), (0, u "(IIII)Z")] 4

def k1m0 : Method := { name := "<init>", desc := "()V", sig := { parameters := [], returnType := none }, accessFlags := 1, code := none }
def k1c1 : Code := { maxStack := 2, maxLocals := 1, code := method_2_code, exceptionTable := #[], attributes := #[] }
def k1m1 : Method := { name := "ws", desc := "(I)Z", sig := { parameters := [.int], returnType := some .boolean }, accessFlags := 10, code := some k1c1 }
def k1c2 : Code := { maxStack := 4, maxLocals := 12, code := code, exceptionTable := #[], attributes := #[] }
def k1m2 : Method := { name := "law", desc := "(IIII)Z", sig := { parameters := [.int, .int, .int, .int], returnType := some .boolean }, accessFlags := 9, code := some k1c2 }
/-- com/example/penelope/penelope/RollbackRulesCheckedNamePinLaw -/
def k1 : Class := { plain "com/example/penelope/penelope/RollbackRulesCheckedNamePinLaw" (some 0) with
  accessFlags := 49
  interfaces := #[]
  cf := some (fileOf pool1 13 #[] #[{ accessFlags := 1, nameIndex := 5, descriptorIndex := 6, attributes := #[] }, { accessFlags := 10, nameIndex := 16, descriptorIndex := 17, attributes := #[] }, { accessFlags := 9, nameIndex := 35, descriptorIndex := 36, attributes := #[] }] 49 2 #[] #[])
  fields := #[]
  methods := #[k1m0, k1m1, k1m2]
  instanceTypes := #[]
  staticTypes := #[]
  resolved := Array.replicate 41 none
  statics := none }

def pool2 : Array CpInfo := pool [(1, .class_ 2), (0, u "java/io/Serializable"), (0, .class_ 4), (0, u "java/lang/Object")] 2

/-- java/io/Serializable -/
def k2 : Class := { plain "java/io/Serializable" (some 0) with
  accessFlags := 1537
  interfaces := #[]
  cf := some (fileOf pool2 1 #[] #[] 1537 3 #[] #[])
  fields := #[]
  methods := #[]
  instanceTypes := #[]
  staticTypes := #[]
  resolved := Array.replicate 7 none
  statics := none }

def pool3 : Array CpInfo := pool [(1, .class_ 2), (0, u "java/lang/Comparable"), (0, .class_ 4), (0, u "java/lang/Object")] 7

/-- java/lang/Comparable -/
def k3 : Class := { plain "java/lang/Comparable" (some 0) with
  accessFlags := 1537
  interfaces := #[]
  cf := some (fileOf pool3 1 #[] #[] 1537 3 #[] #[])
  fields := #[]
  methods := #[]
  instanceTypes := #[]
  staticTypes := #[]
  resolved := Array.replicate 12 none
  statics := none }

def pool4 : Array CpInfo := pool [(2, .class_ 4), (1, u "java/lang/CharSequence"), (42, .class_ 48), (0, u "java/lang/CharSequence$1CodePointIterator"), (10, .class_ 60), (0, u "java/lang/CharSequence$1CharIterator"), (5, .class_ 67), (0, u "java/lang/Object")] 63

/-- java/lang/CharSequence -/
def k4 : Class := { plain "java/lang/CharSequence" (some 0) with
  accessFlags := 1537
  interfaces := #[]
  cf := some (fileOf pool4 2 #[.nestMembers #[47, 59]] #[] 1537 66 #[] #[])
  fields := #[]
  methods := #[]
  instanceTypes := #[]
  staticTypes := #[]
  resolved := Array.replicate 131 none
  statics := none }

def pool5 : Array CpInfo := pool [(1, .class_ 2), (0, u "java/lang/constant/Constable"), (0, .class_ 4), (0, u "java/lang/Object")] 6

/-- java/lang/constant/Constable -/
def k5 : Class := { plain "java/lang/constant/Constable" (some 0) with
  accessFlags := 1537
  interfaces := #[]
  cf := some (fileOf pool5 1 #[] #[] 1537 3 #[] #[])
  fields := #[]
  methods := #[]
  instanceTypes := #[]
  staticTypes := #[]
  resolved := Array.replicate 11 none
  statics := none }

def pool6 : Array CpInfo := pool [(1, .class_ 2), (0, u "java/lang/constant/ConstantDesc"), (0, .class_ 4), (0, u "java/lang/Object")] 32

/-- java/lang/constant/ConstantDesc -/
def k6 : Class := { plain "java/lang/constant/ConstantDesc" (some 0) with
  accessFlags := 1537
  interfaces := #[]
  cf := some (fileOf pool6 1 #[] #[] 1537 3 #[] #[])
  fields := #[]
  methods := #[]
  instanceTypes := #[]
  staticTypes := #[]
  resolved := Array.replicate 37 none
  statics := none }

def pool7 : Array CpInfo := pool [(1, .methodref 2 3), (0, .class_ 4), (0, .nameAndType 5 6), (0, u "java/lang/Object"), (0, u "<init>"), (0, u "()V"), (0, .string 8), (0, u ""), (0, .fieldref 10 11), (0, .class_ 12), (0, .nameAndType 13 14), (0, u "java/lang/String"), (0, u "value"), (0, u "[B"), (0, .fieldref 10 16), (0, .nameAndType 17 18), (0, u "coder"), (0, u "B"), (2, u "hash"), (0, u "I"), (2, u "hashIsZero"), (0, u "Z"), (0, .methodref 10 28), (0, .nameAndType 5 29), (0, u "([CIILjava/lang/Void;)V"), (8, .fieldref 10 39), (0, .nameAndType 40 26), (0, u "COMPACT_STRINGS"), (1, .class_ 44), (1, u "java/lang/StringUTF16"), (0, u "compress"), (1, .methodref 42 48), (0, .nameAndType 49 50), (0, u "coderFromArrayLen"), (0, u "([BI)B"), (56, .class_ 109), (1, u "java/lang/StringLatin1"), (32, u "()Z"), (34, .methodref 42 178), (0, .nameAndType 45 179), (0, u "([CII)[B"), (154, u "()I"), (0, .methodref 10 336), (0, .nameAndType 17 337), (0, u "()B"), (154, .methodref 10 493), (0, .nameAndType 494 142), (0, u "isLatin1"), (10, .methodref 10 506), (0, .nameAndType 507 334), (0, u "length"), (35, u "equals"), (29, u "(Ljava/lang/Object;)Z"), (1, .class_ 576), (0, u "java/lang/CharSequence"), (22, u "CASE_INSENSITIVE_ORDER"), (0, u "Ljava/util/Comparator;"), (30, u "([B)I"), (244, .methodref 10 877), (0, .nameAndType 878 334), (0, u "indexOfNonWhitespace"), (45, .methodref 107 925), (0, .nameAndType 878 631), (26, u "isBlank"), (57, u "([C)V"), (90, u "serialPersistentFields"), (0, u "[Ljava/io/ObjectStreamField;"), (0, .class_ 1104), (0, u "java/lang/String$CaseInsensitiveComparator"), (1, .class_ 1107), (0, u "java/io/Serializable"), (0, .class_ 1109), (0, u "java/lang/Comparable"), (0, .class_ 1111), (0, u "java/lang/constant/Constable"), (0, .class_ 1113), (0, u "java/lang/constant/ConstantDesc"), (2, u "serialVersionUID"), (0, u "J"), (3, u "REPL"), (0, u "C"), (2, u "LATIN1"), (1, u "UTF16")] 323

def k7m0 : Method := { name := "<init>", desc := "()V", sig := { parameters := [], returnType := none }, accessFlags := 1, code := none }
def k7c1 : Code := { maxStack := 5, maxLocals := 2, code := jdk_42_method_3_code, exceptionTable := #[], attributes := #[] }
def k7m1 : Method := { name := "<init>", desc := "([C)V", sig := { parameters := [(.array .char)], returnType := none }, accessFlags := 1, code := some k7c1 }
def k7c2 : Code := { maxStack := 2, maxLocals := 1, code := jdk_42_method_54_code, exceptionTable := #[], attributes := #[] }
def k7m2 : Method := { name := "length", desc := "()I", sig := { parameters := [], returnType := some .int }, accessFlags := 1, code := some k7c2 }
def k7c3 : Code := { maxStack := 2, maxLocals := 3, code := jdk_42_method_66_code, exceptionTable := #[], attributes := #[] }
def k7m3 : Method := { name := "equals", desc := "(Ljava/lang/Object;)Z", sig := { parameters := [(.object "java/lang/Object")], returnType := some .boolean }, accessFlags := 1, code := some k7c3 }
def k7c4 : Code := { maxStack := 2, maxLocals := 1, code := jdk_42_method_117_code, exceptionTable := #[], attributes := #[] }
def k7m4 : Method := { name := "isBlank", desc := "()Z", sig := { parameters := [], returnType := some .boolean }, accessFlags := 1, code := some k7c4 }
def k7c5 : Code := { maxStack := 1, maxLocals := 1, code := jdk_42_method_120_code, exceptionTable := #[], attributes := #[] }
def k7m5 : Method := { name := "indexOfNonWhitespace", desc := "()I", sig := { parameters := [], returnType := some .int }, accessFlags := 2, code := some k7c5 }
def k7c6 : Code := { maxStack := 4, maxLocals := 6, code := jdk_42_method_149_code, exceptionTable := #[], attributes := #[] }
def k7m6 : Method := { name := "<init>", desc := "([CIILjava/lang/Void;)V", sig := { parameters := [(.array .char), .int, .int, (.object "java/lang/Void")], returnType := none }, accessFlags := 2, code := some k7c6 }
def k7c7 : Code := { maxStack := 1, maxLocals := 1, code := jdk_42_method_152_code, exceptionTable := #[], attributes := #[] }
def k7m7 : Method := { name := "coder", desc := "()B", sig := { parameters := [], returnType := some .byte }, accessFlags := 0, code := some k7c7 }
def k7c8 : Code := { maxStack := 1, maxLocals := 1, code := jdk_42_method_154_code, exceptionTable := #[], attributes := #[] }
def k7m8 : Method := { name := "isLatin1", desc := "()Z", sig := { parameters := [], returnType := some .boolean }, accessFlags := 0, code := some k7c8 }
/-- java/lang/String -/
def k7 : Class := { plain "java/lang/String" (some 0) with
  accessFlags := 49
  interfaces := #[2, 3, 4, 5, 6]
  cf := some (fileOf pool7 10 #[.nestMembers #[1103]] #[{ accessFlags := 1, nameIndex := 5, descriptorIndex := 6, attributes := #[] }, { accessFlags := 1, nameIndex := 5, descriptorIndex := 1010, attributes := #[] }, { accessFlags := 1, nameIndex := 507, descriptorIndex := 334, attributes := #[] }, { accessFlags := 1, nameIndex := 543, descriptorIndex := 573, attributes := #[] }, { accessFlags := 1, nameIndex := 952, descriptorIndex := 142, attributes := #[] }, { accessFlags := 2, nameIndex := 878, descriptorIndex := 334, attributes := #[] }, { accessFlags := 2, nameIndex := 5, descriptorIndex := 29, attributes := #[] }, { accessFlags := 0, nameIndex := 17, descriptorIndex := 337, attributes := #[] }, { accessFlags := 0, nameIndex := 494, descriptorIndex := 142, attributes := #[] }] 49 2 #[1106, 1108, 575, 1110, 1112] #[{ accessFlags := 18, nameIndex := 13, descriptorIndex := 14, attributes := #[] }, { accessFlags := 18, nameIndex := 17, descriptorIndex := 18, attributes := #[] }, { accessFlags := 2, nameIndex := 21, descriptorIndex := 22, attributes := #[] }, { accessFlags := 2, nameIndex := 25, descriptorIndex := 26, attributes := #[] }, { accessFlags := 26, nameIndex := 1116, descriptorIndex := 1117, attributes := #[] }, { accessFlags := 24, nameIndex := 40, descriptorIndex := 26, attributes := #[] }, { accessFlags := 26, nameIndex := 1101, descriptorIndex := 1102, attributes := #[] }, { accessFlags := 26, nameIndex := 1121, descriptorIndex := 1122, attributes := #[] }, { accessFlags := 25, nameIndex := 599, descriptorIndex := 600, attributes := #[] }, { accessFlags := 24, nameIndex := 1125, descriptorIndex := 18, attributes := #[] }, { accessFlags := 24, nameIndex := 1127, descriptorIndex := 18, attributes := #[] }])
  fields := #[{ name := "value", type := (.array .byte), accessFlags := 18, slot := 0, constantValue := 0 }, { name := "coder", type := .byte, accessFlags := 18, slot := 1, constantValue := 0 }, { name := "hash", type := .int, accessFlags := 2, slot := 2, constantValue := 0 }, { name := "hashIsZero", type := .boolean, accessFlags := 2, slot := 3, constantValue := 0 }, { name := "serialVersionUID", type := .long, accessFlags := 26, slot := 0, constantValue := 0 }, { name := "COMPACT_STRINGS", type := .boolean, accessFlags := 24, slot := 1, constantValue := 0 }, { name := "serialPersistentFields", type := (.array (.object "java/io/ObjectStreamField")), accessFlags := 26, slot := 2, constantValue := 0 }, { name := "REPL", type := .char, accessFlags := 26, slot := 3, constantValue := 0 }, { name := "CASE_INSENSITIVE_ORDER", type := (.object "java/util/Comparator"), accessFlags := 25, slot := 4, constantValue := 0 }, { name := "LATIN1", type := .byte, accessFlags := 24, slot := 5, constantValue := 0 }, { name := "UTF16", type := .byte, accessFlags := 24, slot := 6, constantValue := 0 }]
  methods := #[k7m0, k7m1, k7m2, k7m3, k7m4, k7m5, k7m6, k7m7, k7m8]
  instanceTypes := #[(.array .byte), .byte, .int, .boolean]
  staticTypes := #[.long, .boolean, (.array (.object "java/io/ObjectStreamField")), .char, (.object "java/util/Comparator"), .byte, .byte]
  resolved := Array.replicate 1451 none
  statics := some 0 }

def pool8 : Array CpInfo := pool [(6, .class_ 8), (1, u "java/lang/Object"), (0, u "<init>"), (0, u "()V"), (1, .class_ 14), (1, u "java/lang/StringUTF16"), (31, u "$assertionsDisabled"), (0, u "Z"), (13, u "HI_BYTE_SHIFT"), (0, u "I"), (2, u "LO_BYTE_SHIFT"), (49, .methodref 12 116), (0, .nameAndType 117 118), (0, u "compress"), (0, u "([CI[BII)I"), (3, u "([CII)[B"), (138, u "coderFromArrayLen"), (0, u "([BI)B"), (106, .class_ 371), (1, u "java/lang/StringUTF16$LinesSpliterator"), (58, u "MAX_LENGTH"), (196, .class_ 628), (0, u "java/lang/StringUTF16$CodePointsSpliterator"), (0, .class_ 630), (0, u "java/lang/StringUTF16$CharsSpliterator")] 4

def k8m0 : Method := { name := "<init>", desc := "()V", sig := { parameters := [], returnType := none }, accessFlags := 0, code := none }
def k8c1 : Code := { maxStack := 2, maxLocals := 2, code := jdk_52_method_15_code, exceptionTable := #[], attributes := #[] }
def k8m1 : Method := { name := "coderFromArrayLen", desc := "([BI)B", sig := { parameters := [(.array .byte), .int], returnType := some .byte }, accessFlags := 8, code := some k8c1 }
def k8c2 : Code := { maxStack := 5, maxLocals := 6, code := jdk_52_method_16_code, exceptionTable := #[], attributes := #[] }
def k8m2 : Method := { name := "compress", desc := "([CII)[B", sig := { parameters := [(.array .char), .int, .int], returnType := some (.array .byte) }, accessFlags := 9, code := some k8c2 }
def k8c3 : Code := { maxStack := 3, maxLocals := 7, code := jdk_52_method_21_code, exceptionTable := #[], attributes := #[] }
def k8m3 : Method := { name := "compress", desc := "([CI[BII)I", sig := { parameters := [(.array .char), .int, (.array .byte), .int, .int], returnType := some .int }, accessFlags := 9, code := some k8c3 }
/-- java/lang/StringUTF16 -/
def k8 : Class := { plain "java/lang/StringUTF16" (some 0) with
  accessFlags := 48
  interfaces := #[]
  cf := some (fileOf pool8 12 #[.nestMembers #[627, 629, 369]] #[{ accessFlags := 0, nameIndex := 9, descriptorIndex := 10, attributes := #[] }, { accessFlags := 8, nameIndex := 261, descriptorIndex := 262, attributes := #[] }, { accessFlags := 9, nameIndex := 117, descriptorIndex := 122, attributes := #[] }, { accessFlags := 9, nameIndex := 117, descriptorIndex := 118, attributes := #[] }] 48 6 #[] #[{ accessFlags := 26, nameIndex := 61, descriptorIndex := 62, attributes := #[] }, { accessFlags := 26, nameIndex := 65, descriptorIndex := 62, attributes := #[] }, { accessFlags := 24, nameIndex := 430, descriptorIndex := 62, attributes := #[] }, { accessFlags := 4120, nameIndex := 46, descriptorIndex := 47, attributes := #[] }])
  fields := #[{ name := "HI_BYTE_SHIFT", type := .int, accessFlags := 26, slot := 0, constantValue := 0 }, { name := "LO_BYTE_SHIFT", type := .int, accessFlags := 26, slot := 1, constantValue := 0 }, { name := "MAX_LENGTH", type := .int, accessFlags := 24, slot := 2, constantValue := 0 }, { name := "$assertionsDisabled", type := .boolean, accessFlags := 4120, slot := 3, constantValue := 0 }]
  methods := #[k8m0, k8m1, k8m2, k8m3]
  instanceTypes := #[]
  staticTypes := #[.int, .int, .int, .boolean]
  resolved := Array.replicate 635 none
  statics := none }

def pool9 : Array CpInfo := pool [(2, .class_ 4), (1, u "java/lang/Object"), (2, .class_ 8), (0, u "com/example/penelope/penelope/RollbackRules$Listed"), (7, .class_ 18), (1, u "com/example/penelope/penelope/RollbackRules"), (7, u "rollbackFor"), (0, u "Lcom/example/penelope/penelope/RollbackRules$Listed;"), (2, u "noRollbackFor"), (8, .methodref 40 41), (0, .class_ 42), (0, .nameAndType 43 44), (0, u "java/lang/String"), (0, u "isBlank"), (0, u "()Z"), (16, .class_ 63), (1, u "com/example/penelope/penelope/RollbackRules$Match"), (21, u "checkedName"), (0, u "(Ljava/lang/String;)Ljava/lang/String;")] 28

def k9c0 : Code := { maxStack := 3, maxLocals := 1, code := prog_16_method_3_code, exceptionTable := #[], attributes := #[] }
def k9m0 : Method := { name := "checkedName", desc := "(Ljava/lang/String;)Ljava/lang/String;", sig := { parameters := [(.object "java/lang/String")], returnType := some (.object "java/lang/String") }, accessFlags := 8, code := some k9c0 }
/-- com/example/penelope/penelope/RollbackRules -/
def k9 : Class := { plain "com/example/penelope/penelope/RollbackRules" (some 0) with
  accessFlags := 48
  interfaces := #[]
  cf := some (fileOf pool9 16 #[.nestMembers #[7, 61]] #[{ accessFlags := 8, nameIndex := 85, descriptorIndex := 86, attributes := #[] }] 48 2 #[] #[{ accessFlags := 18, nameIndex := 26, descriptorIndex := 27, attributes := #[] }, { accessFlags := 18, nameIndex := 30, descriptorIndex := 27, attributes := #[] }])
  fields := #[{ name := "rollbackFor", type := (.object "com/example/penelope/penelope/RollbackRules$Listed"), accessFlags := 18, slot := 0, constantValue := 0 }, { name := "noRollbackFor", type := (.object "com/example/penelope/penelope/RollbackRules$Listed"), accessFlags := 18, slot := 1, constantValue := 0 }]
  methods := #[k9m0]
  instanceTypes := #[(.object "com/example/penelope/penelope/RollbackRules$Listed"), (.object "com/example/penelope/penelope/RollbackRules$Listed")]
  staticTypes := #[]
  resolved := Array.replicate 115 none
  statics := none }

def pool10 : Array CpInfo := pool [(4, .class_ 6), (1, u "java/lang/Object"), (0, u "<init>"), (0, u "()V"), (5, .class_ 16), (1, u "java/lang/StringLatin1"), (33, .methodref 14 51), (0, .nameAndType 52 53), (0, u "getChar"), (0, u "([BI)C"), (3, u "([B)I"), (8, .fieldref 67 68), (0, .class_ 69), (0, .nameAndType 70 71), (0, u "java/lang/CharacterDataLatin1"), (0, u "instance"), (0, u "Ljava/lang/CharacterDataLatin1;"), (19, u "(I)Z"), (29, u "$assertionsDisabled"), (0, u "Z"), (88, .methodref 67 212), (0, .nameAndType 213 91), (0, u "isWhitespace"), (2, u "indexOfNonWhitespace"), (4, .class_ 223), (1, u "java/lang/StringLatin1$LinesSpliterator"), (166, .class_ 391), (0, u "java/lang/StringLatin1$CharsSpliterator")] 3

def k10m0 : Method := { name := "<init>", desc := "()V", sig := { parameters := [], returnType := none }, accessFlags := 0, code := none }
def k10c1 : Code := { maxStack := 2, maxLocals := 4, code := jdk_43_method_37_code, exceptionTable := #[], attributes := #[] }
def k10m1 : Method := { name := "indexOfNonWhitespace", desc := "([B)I", sig := { parameters := [(.array .byte)], returnType := some .int }, accessFlags := 9, code := some k10c1 }
def k10c2 : Code := { maxStack := 2, maxLocals := 2, code := jdk_43_method_44_code, exceptionTable := #[], attributes := #[] }
def k10m2 : Method := { name := "getChar", desc := "([BI)C", sig := { parameters := [(.array .byte), .int], returnType := some .char }, accessFlags := 9, code := some k10c2 }
/-- java/lang/StringLatin1 -/
def k10 : Class := { plain "java/lang/StringLatin1" (some 0) with
  accessFlags := 48
  interfaces := #[]
  cf := some (fileOf pool10 14 #[.nestMembers #[390, 221]] #[{ accessFlags := 0, nameIndex := 7, descriptorIndex := 8, attributes := #[] }, { accessFlags := 9, nameIndex := 216, descriptorIndex := 57, attributes := #[] }, { accessFlags := 9, nameIndex := 52, descriptorIndex := 53, attributes := #[] }] 48 4 #[] #[{ accessFlags := 4120, nameIndex := 121, descriptorIndex := 122, attributes := #[] }])
  fields := #[{ name := "$assertionsDisabled", type := .boolean, accessFlags := 4120, slot := 0, constantValue := 0 }]
  methods := #[k10m0, k10m1, k10m2]
  instanceTypes := #[]
  staticTypes := #[.boolean]
  resolved := Array.replicate 395 none
  statics := none }

def pool11 : Array CpInfo := pool [(2, .class_ 4), (1, u "java/lang/Object"), (0, u "<init>"), (0, u "()V"), (1, .class_ 10), (1, u "java/lang/CharacterData")] 75

def k11m0 : Method := { name := "<init>", desc := "()V", sig := { parameters := [], returnType := none }, accessFlags := 0, code := none }
/-- java/lang/CharacterData -/
def k11 : Class := { plain "java/lang/CharacterData" (some 0) with
  accessFlags := 1056
  interfaces := #[]
  cf := some (fileOf pool11 8 #[] #[{ accessFlags := 0, nameIndex := 5, descriptorIndex := 6, attributes := #[] }] 1056 2 #[] #[])
  fields := #[]
  methods := #[k11m0]
  instanceTypes := #[]
  staticTypes := #[]
  resolved := Array.replicate 86 none
  statics := none }

def pool12 : Array CpInfo := pool [(1, .fieldref 2 3), (0, .class_ 4), (0, .nameAndType 5 6), (0, u "java/lang/CharacterDataLatin1"), (0, u "A"), (0, u "[I"), (2, u "B"), (0, u "[C"), (3, u "(I)I"), (0, .methodref 2 16), (0, .nameAndType 17 14), (0, u "getProperties"), (3, u "(I)Z"), (5, u "DIGITS"), (0, u "[B"), (8, u "sharpsMap"), (1, .class_ 41), (1, u "java/lang/CharacterData"), (0, u "<init>"), (0, u "()V"), (3, u "instance"), (0, u "Ljava/lang/CharacterDataLatin1;"), (78, u "isWhitespace")] 13

def k12c0 : Code := { maxStack := 2, maxLocals := 4, code := jdk_116_method_1_code, exceptionTable := #[], attributes := #[] }
def k12m0 : Method := { name := "getProperties", desc := "(I)I", sig := { parameters := [.int], returnType := some .int }, accessFlags := 0, code := some k12c0 }
def k12c1 : Code := { maxStack := 2, maxLocals := 3, code := jdk_116_method_26_code, exceptionTable := #[], attributes := #[] }
def k12m1 : Method := { name := "isWhitespace", desc := "(I)Z", sig := { parameters := [.int], returnType := some .boolean }, accessFlags := 0, code := some k12c1 }
def k12m2 : Method := { name := "<init>", desc := "()V", sig := { parameters := [], returnType := none }, accessFlags := 2, code := none }
/-- java/lang/CharacterDataLatin1 -/
def k12 : Class := { plain "java/lang/CharacterDataLatin1" (some 11) with
  accessFlags := 32
  interfaces := #[]
  cf := some (fileOf pool12 2 #[] #[{ accessFlags := 0, nameIndex := 17, descriptorIndex := 14, attributes := #[] }, { accessFlags := 0, nameIndex := 127, descriptorIndex := 21, attributes := #[] }, { accessFlags := 2, nameIndex := 42, descriptorIndex := 43, attributes := #[] }] 32 39 #[] #[{ accessFlags := 26, nameIndex := 27, descriptorIndex := 28, attributes := #[] }, { accessFlags := 8, nameIndex := 37, descriptorIndex := 10, attributes := #[] }, { accessFlags := 24, nameIndex := 47, descriptorIndex := 48, attributes := #[] }, { accessFlags := 24, nameIndex := 5, descriptorIndex := 6, attributes := #[] }, { accessFlags := 24, nameIndex := 9, descriptorIndex := 10, attributes := #[] }])
  fields := #[{ name := "DIGITS", type := (.array .byte), accessFlags := 26, slot := 0, constantValue := 0 }, { name := "sharpsMap", type := (.array .char), accessFlags := 8, slot := 1, constantValue := 0 }, { name := "instance", type := (.object "java/lang/CharacterDataLatin1"), accessFlags := 24, slot := 2, constantValue := 0 }, { name := "A", type := (.array .int), accessFlags := 24, slot := 3, constantValue := 0 }, { name := "B", type := (.array .char), accessFlags := 24, slot := 4, constantValue := 0 }]
  methods := #[k12m0, k12m1, k12m2]
  instanceTypes := #[]
  staticTypes := #[(.array .byte), (.array .char), (.object "java/lang/CharacterDataLatin1"), (.array .int), (.array .char)]
  resolved := Array.replicate 141 none
  statics := some 1 }

def pool13 : Array CpInfo := pool [(2, .class_ 4), (1, u "java/lang/Object"), (0, u "<init>"), (0, u "()V"), (17, .class_ 26), (1, u "jdk/internal/util/Preconditions"), (28, .class_ 56), (0, u "jdk/internal/util/Preconditions$4"), (57, .class_ 115), (0, u "jdk/internal/util/Preconditions$1"), (7, u "SIOOBE_FORMATTER"), (0, u "Ljava/util/function/BiFunction;"), (0, .class_ 126), (0, u "jdk/internal/util/Preconditions$2"), (3, u "AIOOBE_FORMATTER"), (0, .class_ 132), (0, u "jdk/internal/util/Preconditions$3"), (3, u "IOOBE_FORMATTER")] 57

def k13m0 : Method := { name := "<init>", desc := "()V", sig := { parameters := [], returnType := none }, accessFlags := 1, code := none }
/-- jdk/internal/util/Preconditions -/
def k13 : Class := { plain "jdk/internal/util/Preconditions" (some 0) with
  accessFlags := 33
  interfaces := #[]
  cf := some (fileOf pool13 24 #[.nestMembers #[55, 131, 125, 114]] #[{ accessFlags := 1, nameIndex := 5, descriptorIndex := 6, attributes := #[] }] 33 2 #[] #[{ accessFlags := 25, nameIndex := 123, descriptorIndex := 124, attributes := #[] }, { accessFlags := 25, nameIndex := 130, descriptorIndex := 124, attributes := #[] }, { accessFlags := 25, nameIndex := 136, descriptorIndex := 124, attributes := #[] }])
  fields := #[{ name := "SIOOBE_FORMATTER", type := (.object "java/util/function/BiFunction"), accessFlags := 25, slot := 0, constantValue := 0 }, { name := "AIOOBE_FORMATTER", type := (.object "java/util/function/BiFunction"), accessFlags := 25, slot := 1, constantValue := 0 }, { name := "IOOBE_FORMATTER", type := (.object "java/util/function/BiFunction"), accessFlags := 25, slot := 2, constantValue := 0 }]
  methods := #[k13m0]
  instanceTypes := #[]
  staticTypes := #[(.object "java/util/function/BiFunction"), (.object "java/util/function/BiFunction"), (.object "java/util/function/BiFunction")]
  resolved := Array.replicate 194 none
  statics := some 2 }

def pool14 : Array CpInfo := pool [(9, u "<init>"), (6, .class_ 18), (1, u "java/lang/Object"), (0, u "()V"), (1, .class_ 23), (1, u "jdk/internal/util/ArraysSupport"), (0, u "LOG2_ARRAY_LONG_INDEX_SCALE"), (0, u "I"), (2, u "U"), (0, u "Ljdk/internal/misc/Unsafe;"), (8, u "BIG_ENDIAN"), (0, u "Z"), (8, u "LOG2_BYTE_BIT_SIZE"), (4, u "LOG2_ARRAY_INT_INDEX_SCALE"), (54, u "JLA"), (0, u "Ljdk/internal/access/JavaLangAccess;"), (11, u "LOG2_ARRAY_BOOLEAN_INDEX_SCALE"), (9, u "LOG2_ARRAY_BYTE_INDEX_SCALE"), (5, u "LOG2_ARRAY_CHAR_INDEX_SCALE"), (5, u "LOG2_ARRAY_SHORT_INDEX_SCALE"), (18, u "LOG2_ARRAY_FLOAT_INDEX_SCALE"), (24, u "LOG2_ARRAY_DOUBLE_INDEX_SCALE"), (89, u "T_BOOLEAN"), (2, u "T_CHAR"), (1, u "T_FLOAT"), (1, u "T_DOUBLE"), (1, u "T_BYTE"), (1, u "T_SHORT"), (1, u "T_INT"), (1, u "T_LONG"), (1, u "SOFT_MAX_ARRAY_LENGTH")] 83

def k14m0 : Method := { name := "<init>", desc := "()V", sig := { parameters := [], returnType := none }, accessFlags := 2, code := none }
/-- jdk/internal/util/ArraysSupport -/
def k14 : Class := { plain "jdk/internal/util/ArraysSupport" (some 0) with
  accessFlags := 33
  interfaces := #[]
  cf := some (fileOf pool14 21 #[] #[{ accessFlags := 2, nameIndex := 9, descriptorIndex := 19, attributes := #[] }] 33 16 #[] #[{ accessFlags := 24, nameIndex := 28, descriptorIndex := 29, attributes := #[] }, { accessFlags := 26, nameIndex := 38, descriptorIndex := 39, attributes := #[] }, { accessFlags := 25, nameIndex := 121, descriptorIndex := 25, attributes := #[] }, { accessFlags := 25, nameIndex := 131, descriptorIndex := 25, attributes := #[] }, { accessFlags := 25, nameIndex := 137, descriptorIndex := 25, attributes := #[] }, { accessFlags := 25, nameIndex := 143, descriptorIndex := 25, attributes := #[] }, { accessFlags := 25, nameIndex := 53, descriptorIndex := 25, attributes := #[] }, { accessFlags := 25, nameIndex := 24, descriptorIndex := 25, attributes := #[] }, { accessFlags := 25, nameIndex := 162, descriptorIndex := 25, attributes := #[] }, { accessFlags := 25, nameIndex := 187, descriptorIndex := 25, attributes := #[] }, { accessFlags := 26, nameIndex := 48, descriptorIndex := 25, attributes := #[] }, { accessFlags := 25, nameIndex := 277, descriptorIndex := 25, attributes := #[] }, { accessFlags := 25, nameIndex := 280, descriptorIndex := 25, attributes := #[] }, { accessFlags := 25, nameIndex := 282, descriptorIndex := 25, attributes := #[] }, { accessFlags := 25, nameIndex := 284, descriptorIndex := 25, attributes := #[] }, { accessFlags := 25, nameIndex := 286, descriptorIndex := 25, attributes := #[] }, { accessFlags := 25, nameIndex := 288, descriptorIndex := 25, attributes := #[] }, { accessFlags := 25, nameIndex := 290, descriptorIndex := 25, attributes := #[] }, { accessFlags := 25, nameIndex := 292, descriptorIndex := 25, attributes := #[] }, { accessFlags := 26, nameIndex := 108, descriptorIndex := 109, attributes := #[] }, { accessFlags := 25, nameIndex := 294, descriptorIndex := 25, attributes := #[] }])
  fields := #[{ name := "U", type := (.object "jdk/internal/misc/Unsafe"), accessFlags := 24, slot := 0, constantValue := 0 }, { name := "BIG_ENDIAN", type := .boolean, accessFlags := 26, slot := 1, constantValue := 0 }, { name := "LOG2_ARRAY_BOOLEAN_INDEX_SCALE", type := .int, accessFlags := 25, slot := 2, constantValue := 0 }, { name := "LOG2_ARRAY_BYTE_INDEX_SCALE", type := .int, accessFlags := 25, slot := 3, constantValue := 0 }, { name := "LOG2_ARRAY_CHAR_INDEX_SCALE", type := .int, accessFlags := 25, slot := 4, constantValue := 0 }, { name := "LOG2_ARRAY_SHORT_INDEX_SCALE", type := .int, accessFlags := 25, slot := 5, constantValue := 0 }, { name := "LOG2_ARRAY_INT_INDEX_SCALE", type := .int, accessFlags := 25, slot := 6, constantValue := 0 }, { name := "LOG2_ARRAY_LONG_INDEX_SCALE", type := .int, accessFlags := 25, slot := 7, constantValue := 0 }, { name := "LOG2_ARRAY_FLOAT_INDEX_SCALE", type := .int, accessFlags := 25, slot := 8, constantValue := 0 }, { name := "LOG2_ARRAY_DOUBLE_INDEX_SCALE", type := .int, accessFlags := 25, slot := 9, constantValue := 0 }, { name := "LOG2_BYTE_BIT_SIZE", type := .int, accessFlags := 26, slot := 10, constantValue := 0 }, { name := "T_BOOLEAN", type := .int, accessFlags := 25, slot := 11, constantValue := 0 }, { name := "T_CHAR", type := .int, accessFlags := 25, slot := 12, constantValue := 0 }, { name := "T_FLOAT", type := .int, accessFlags := 25, slot := 13, constantValue := 0 }, { name := "T_DOUBLE", type := .int, accessFlags := 25, slot := 14, constantValue := 0 }, { name := "T_BYTE", type := .int, accessFlags := 25, slot := 15, constantValue := 0 }, { name := "T_SHORT", type := .int, accessFlags := 25, slot := 16, constantValue := 0 }, { name := "T_INT", type := .int, accessFlags := 25, slot := 17, constantValue := 0 }, { name := "T_LONG", type := .int, accessFlags := 25, slot := 18, constantValue := 0 }, { name := "JLA", type := (.object "jdk/internal/access/JavaLangAccess"), accessFlags := 26, slot := 19, constantValue := 0 }, { name := "SOFT_MAX_ARRAY_LENGTH", type := .int, accessFlags := 25, slot := 20, constantValue := 0 }]
  methods := #[k14m0]
  instanceTypes := #[]
  staticTypes := #[(.object "jdk/internal/misc/Unsafe"), .boolean, .int, .int, .int, .int, .int, .int, .int, .int, .int, .int, .int, .int, .int, .int, .int, .int, .int, (.object "jdk/internal/access/JavaLangAccess"), .int]
  resolved := Array.replicate 378 none
  statics := none }

def pool15 : Array CpInfo := pool [(1, u "java/lang/Cloneable"), (0, .class_ 1), (0, u "java/lang/Object"), (0, .class_ 3)] 3

/-- java/lang/Cloneable -/
def k15 : Class := { plain "java/lang/Cloneable" (some 0) with
  accessFlags := 1537
  interfaces := #[]
  cf := some (fileOf pool15 2 #[] #[] 1537 4 #[] #[])
  fields := #[]
  methods := #[]
  instanceTypes := #[]
  staticTypes := #[]
  resolved := Array.replicate 8 none
  statics := none }

/-- the primitive byte -/
def k16 : Class := { plain "byte" none with kind := .primitive 'B', accessFlags := 0x411 }
/-- [B -/
def k17 : Class := { plain "[B" (some 0) with kind := .array 16 .byte, interfaces := #[15, 2], accessFlags := 1041 }

/-- the primitive char -/
def k18 : Class := { plain "char" none with kind := .primitive 'C', accessFlags := 0x411 }
/-- [C -/
def k19 : Class := { plain "[C" (some 0) with kind := .array 18 .char, interfaces := #[15, 2], accessFlags := 1041 }

/-- the primitive int -/
def k20 : Class := { plain "int" none with kind := .primitive 'I', accessFlags := 0x411 }
/-- [I -/
def k21 : Class := { plain "[I" (some 0) with kind := .array 20 .int, interfaces := #[15, 2], accessFlags := 1041 }

def heap : Heap := #[{ cls := 7, slots := #[.long 0, .int 1, .null, .int 0, .null, .int 0, .int 0], vm := .statics 7 },
  { cls := 12, slots := #[.null, .null, .ref 4, .ref 3, .null], vm := .statics 12 },
  { cls := 13, slots := #[.null, .null, .null], vm := .statics 13 },
  { cls := 21, slots := #[.int 1207963663, .int 1207963663, .int 1207963663, .int 1207963663, .int 1207963663, .int 1207963663, .int 1207963663, .int 1207963663, .int 1207963663, .int 1476411407, .int 1342193679, .int 1476411407, .int 1610629135, .int 1342193679, .int 1207963663, .int 1207963663, .int 1207963663, .int 1207963663, .int 1207963663, .int 1207963663, .int 1207963663, .int 1207963663, .int 1207963663, .int 1207963663, .int 1207963663, .int 1207963663, .int 1207963663, .int 1207963663, .int 1342193679, .int 1342193679, .int 1342193679, .int 1476411407, .int 1610629132, .int 1744830488, .int 1744830488, .int 671088664, .int 671113242, .int 671088664, .int 1744830488, .int 1744830488, .int (-402653163), .int (-402653162), .int 1744830488, .int 536870937, .int 939524120, .int 536870932, .int 939524120, .int 939524120, .int 402667017, .int 402667017, .int 402667017, .int 402667017, .int 402667017, .int 402667017, .int 402667017, .int 402667017, .int 402667017, .int 402667017, .int 939524120, .int 1744830488, .int (-402653159), .int 1744830489, .int (-402653159), .int 1744830488, .int 1744830488, .int 8552417, .int 8552417, .int 8552417, .int 8552417, .int 8552417, .int 8552417, .int 8552417, .int 8552417, .int 8552417, .int 8552417, .int 8552417, .int 8552417, .int 8552417, .int 8552417, .int 8552417, .int 8552417, .int 8552417, .int 8552417, .int 8552417, .int 8552417, .int 8552417, .int 8552417, .int 8552417, .int 8552417, .int 8552417, .int 8552417, .int (-402653163), .int 1744830488, .int (-402653162), .int 1744830491, .int 1744850967, .int 1744830491, .int 8486882, .int 8486882, .int 8486882, .int 8486882, .int 8486882, .int 8486882, .int 8486882, .int 8486882, .int 8486882, .int 8486882, .int 8486882, .int 8486882, .int 8486882, .int 8486882, .int 8486882, .int 8486882, .int 8486882, .int 8486882, .int 8486882, .int 8486882, .int 8486882, .int 8486882, .int 8486882, .int 8486882, .int 8486882, .int 8486882, .int (-402653163), .int 1744830489, .int (-402653162), .int 1744830489, .int 1207963663, .int 1207963663, .int 1207963663, .int 1207963663, .int 1207963663, .int 1207963663, .int 1342181391, .int 1207963663, .int 1207963663, .int 1207963663, .int 1207963663, .int 1207963663, .int 1207963663, .int 1207963663, .int 1207963663, .int 1207963663, .int 1207963663, .int 1207963663, .int 1207963663, .int 1207963663, .int 1207963663, .int 1207963663, .int 1207963663, .int 1207963663, .int 1207963663, .int 1207963663, .int 1207963663, .int 1207963663, .int 1207963663, .int 1207963663, .int 1207963663, .int 1207963663, .int 1207963663, .int 939524108, .int 1744830488, .int 671113242, .int 671113242, .int 671113242, .int 671113242, .int 1744830492, .int 1744830488, .int 1744830491, .int 1744830492, .int 28677, .int (-402653155), .int 1744830489, .int 1207963664, .int 1744830492, .int 1744830491, .int 671088668, .int 671088665, .int 402654731, .int 402654731, .int 1744830491, .int 134049794, .int 1744830488, .int 1744830488, .int 1744830491, .int 402654475, .int 28677, .int (-402653154), .int 1744832523, .int 1744832523, .int 1744832523, .int 1744830488, .int 8548353, .int 8548353, .int 8548353, .int 8548353, .int 8548353, .int 8548353, .int 8548353, .int 8548353, .int 8548353, .int 8548353, .int 8548353, .int 8548353, .int 8548353, .int 8548353, .int 8548353, .int 8548353, .int 8548353, .int 8548353, .int 8548353, .int 8548353, .int 8548353, .int 8548353, .int 8548353, .int 1744830489, .int 8548353, .int 8548353, .int 8548353, .int 8548353, .int 8548353, .int 8548353, .int 8548353, .int 134049794, .int 8482818, .int 8482818, .int 8482818, .int 8482818, .int 8482818, .int 8482818, .int 8482818, .int 8482818, .int 8482818, .int 8482818, .int 8482818, .int 8482818, .int 8482818, .int 8482818, .int 8482818, .int 8482818, .int 8482818, .int 8482818, .int 8482818, .int 8482818, .int 8482818, .int 8482818, .int 8482818, .int 1744830489, .int 8482818, .int 8482818, .int 8482818, .int 8482818, .int 8482818, .int 8482818, .int 8482818, .int 102592514], vm := .none },
  { cls := 12, slots := #[], vm := .none },
  { cls := 14, slots := #[], vm := .none }]
def classes : Array Class := #[k0, k1, k2, k3, k4, k5, k6, k7, k8, k9, k10, k11, k12, k13, k14, k15, k16, k17, k18, k19, k20, k21]
def interned : List (Array UInt16 × Addr) := []
def slotsUsed : Nat := 271
def theMethod : MethodId := ⟨1, 2⟩
def args0 : Array Value := #[.int 5, .int 65, .int 7, .int 8]
def aboutOver (below : List Frame) : State where
  vm := { classes := classes, interned := interned.toArray }
  heap := heap
  slotsUsed := slotsUsed
  threads := #[{ frames := .invoking theMethod args0 :: below }]
def below0 : List Frame := [.native { method := ⟨0, 0⟩, args := #[] }]
def about1 : State := aboutOver below0
def p0 : Program := .bare "" "" ""
def e0 : Env := launch0.env 0 0 0
theorem w_frames : about1.frames = Frame.invoking theMethod args0 :: below0 := rfl
set_option maxRecDepth 65536 in
theorem w_args : argsFit about1.vm theMethod args0 = true := by decide +kernel
set_option maxRecDepth 65536 in
theorem w_heap : heapFits about1 = true := by decide +kernel
set_option maxRecDepth 65536 in
theorem w_runnable : about1.curStatus? = some .runnable := by decide +kernel
set_option maxRecDepth 65536 in
theorem w_alone : about1.alone = true := by decide +kernel
set_option maxRecDepth 65536 in
theorem w_named : about1.methodNamed? x = some theMethod := by decide +kernel
set_option maxRecDepth 65536 in
theorem w_hears : about1.hears theMethod below0 = true := by decide +kernel
set_option maxRecDepth 65536 in
theorem w_ripe : about1.ripe theMethod args0 below0 = true := by decide +kernel
theorem w_running : about1.status = .running := rfl
set_option maxRecDepth 65536 in
theorem w_room : about1.hasRoom e0.platform room_1 = true :=
  launch0.hasRoom_least _ room_1 (by decide +kernel) (by decide +kernel) (by decide +kernel) (by decide +kernel) (by decide +kernel) (by decide +kernel)
theorem allAtoms_all (ts : List Jvm.Cond) (a : Array Jvm.Value) (st : Jvm.State) : (allAtoms ts).before a st = ts.all (fun c => c.before a st) := by
  induction ts with
  | nil => rfl
  | cons c t ih =>
    show (Jvm.Cond.and c (allAtoms t)).before a st = _
    rw [Jvm.Cond.before_and, ih, List.all_cons]
def words1 : List Jvm.Cond := Jvm.Cond.code x code maxLocals ret :: tables_1
/-- a 'code' word, met by the world's own term for the bytes: nothing is compared byte by byte -/
theorem code_word {y : MethodName} {bytes : ByteArray} {mx : Nat} {rt : Option FieldType} {a : Array Value} {s : State} {m : MethodId} {meth : Method} {c : Code} (h1 : s.methodNamed? y = some m) (h2 : s.vm.method? m = some meth) (h3 : meth.code = some c) (h4 : c.code = bytes)
    (h5 : (c.maxLocals == mx && c.exceptionTable.isEmpty && decide (c.maxStack ≤ mostOperands) && decide (meth.sig.returnType = rt) && !meth.locks && decide (parseMethodDescriptor y.desc = some meth.sig)) = true) : (Jvm.Cond.code y bytes mx rt).before a s = true := by
  simp only [Bool.and_eq_true, beq_iff_eq, Bool.not_eq_true', decide_eq_true_eq] at h5
  obtain ⟨⟨⟨⟨⟨g1, g2⟩, g3⟩, g4⟩, g5⟩, g6⟩ := h5
  simp [Cond.before, Cond.holds, Cond.value, h1, h2, h3, h4, g1, g2, g3, g4, g5, g6]
def isCode : Jvm.Cond → Bool
  | .code _ _ _ _ => true
  | _ => false
theorem all_split {L : List Jvm.Cond} {P : Jvm.Cond → Bool} (h1 : L.all (fun c => isCode c || P c) = true) (h2 : ∀ c ∈ L.filter isCode, P c = true) : L.all P = true := by
  refine List.all_eq_true.mpr fun c hc => ?_
  have h := List.all_eq_true.mp h1 c hc
  rcases Bool.eq_false_or_eq_true (isCode c) with hi | hi
  · exact h2 c (List.mem_filter.mpr ⟨hc, hi⟩)
  · simpa [hi] using h
set_option maxRecDepth 65536 in
theorem w_c0 : (Jvm.Cond.code x code maxLocals ret).before args0 about1 = true := code_word (m := ⟨1, 2⟩) (meth := k1m2) (c := k1c2) (by decide +kernel) rfl rfl rfl (by decide +kernel)
set_option maxRecDepth 65536 in
theorem w_c1 : (Jvm.Cond.code ({ cls := "java/lang/String", name := "<init>", desc := "([C)V" } : Jvm.MethodName) jdk_42_method_3_code (2 : Nat) (Option.none : Option Jvm.ClassFile.FieldType)).before args0 about1 = true := code_word (m := ⟨7, 1⟩) (meth := k7m1) (c := k7c1) (by decide +kernel) rfl rfl rfl (by decide +kernel)
set_option maxRecDepth 65536 in
theorem w_c2 : (Jvm.Cond.code ({ cls := "java/lang/String", name := "<init>", desc := "([CIILjava/lang/Void;)V" } : Jvm.MethodName) jdk_42_method_149_code (6 : Nat) (Option.none : Option Jvm.ClassFile.FieldType)).before args0 about1 = true := code_word (m := ⟨7, 6⟩) (meth := k7m6) (c := k7c6) (by decide +kernel) rfl rfl rfl (by decide +kernel)
set_option maxRecDepth 65536 in
theorem w_c3 : (Jvm.Cond.code ({ cls := "java/lang/Object", name := "<init>", desc := "()V" } : Jvm.MethodName) object_method_1_code (1 : Nat) (Option.none : Option Jvm.ClassFile.FieldType)).before args0 about1 = true := code_word (m := ⟨0, 0⟩) (meth := k0m0) (c := k0c0) (by decide +kernel) rfl rfl rfl (by decide +kernel)
set_option maxRecDepth 65536 in
theorem w_c4 : (Jvm.Cond.code ({ cls := "java/lang/StringUTF16", name := "compress", desc := "([CII)[B" } : Jvm.MethodName) jdk_52_method_16_code (6 : Nat) (Option.some (Jvm.ClassFile.FieldType.array Jvm.ClassFile.FieldType.byte))).before args0 about1 = true := code_word (m := ⟨8, 2⟩) (meth := k8m2) (c := k8c2) (by decide +kernel) rfl rfl rfl (by decide +kernel)
set_option maxRecDepth 65536 in
theorem w_c5 : (Jvm.Cond.code ({ cls := "java/lang/StringUTF16", name := "compress", desc := "([CI[BII)I" } : Jvm.MethodName) jdk_52_method_21_code (7 : Nat) (Option.some Jvm.ClassFile.FieldType.int)).before args0 about1 = true := code_word (m := ⟨8, 3⟩) (meth := k8m3) (c := k8c3) (by decide +kernel) rfl rfl rfl (by decide +kernel)
set_option maxRecDepth 65536 in
theorem w_c6 : (Jvm.Cond.code ({ cls := "java/lang/StringUTF16", name := "coderFromArrayLen", desc := "([BI)B" } : Jvm.MethodName) jdk_52_method_15_code (2 : Nat) (Option.some Jvm.ClassFile.FieldType.byte)).before args0 about1 = true := code_word (m := ⟨8, 1⟩) (meth := k8m1) (c := k8c1) (by decide +kernel) rfl rfl rfl (by decide +kernel)
set_option maxRecDepth 65536 in
theorem w_c7 : (Jvm.Cond.code ({ cls := "com/example/penelope/penelope/RollbackRulesCheckedNamePinLaw", name := "ws", desc := "(I)Z" } : Jvm.MethodName) method_2_code (1 : Nat) (Option.some Jvm.ClassFile.FieldType.boolean)).before args0 about1 = true := code_word (m := ⟨1, 1⟩) (meth := k1m1) (c := k1c1) (by decide +kernel) rfl rfl rfl (by decide +kernel)
set_option maxRecDepth 65536 in
theorem w_c8 : (Jvm.Cond.code ({ cls := "com/example/penelope/penelope/RollbackRules", name := "checkedName", desc := "(Ljava/lang/String;)Ljava/lang/String;" } : Jvm.MethodName) prog_16_method_3_code (1 : Nat) (Option.some (Jvm.ClassFile.FieldType.object "java/lang/String"))).before args0 about1 = true := code_word (m := ⟨9, 0⟩) (meth := k9m0) (c := k9c0) (by decide +kernel) rfl rfl rfl (by decide +kernel)
set_option maxRecDepth 65536 in
theorem w_c9 : (Jvm.Cond.code ({ cls := "java/lang/String", name := "isBlank", desc := "()Z" } : Jvm.MethodName) jdk_42_method_117_code (1 : Nat) (Option.some Jvm.ClassFile.FieldType.boolean)).before args0 about1 = true := code_word (m := ⟨7, 4⟩) (meth := k7m4) (c := k7c4) (by decide +kernel) rfl rfl rfl (by decide +kernel)
set_option maxRecDepth 65536 in
theorem w_c10 : (Jvm.Cond.code ({ cls := "java/lang/String", name := "indexOfNonWhitespace", desc := "()I" } : Jvm.MethodName) jdk_42_method_120_code (1 : Nat) (Option.some Jvm.ClassFile.FieldType.int)).before args0 about1 = true := code_word (m := ⟨7, 5⟩) (meth := k7m5) (c := k7c5) (by decide +kernel) rfl rfl rfl (by decide +kernel)
set_option maxRecDepth 65536 in
theorem w_c11 : (Jvm.Cond.code ({ cls := "java/lang/String", name := "isLatin1", desc := "()Z" } : Jvm.MethodName) jdk_42_method_154_code (1 : Nat) (Option.some Jvm.ClassFile.FieldType.boolean)).before args0 about1 = true := code_word (m := ⟨7, 8⟩) (meth := k7m8) (c := k7c8) (by decide +kernel) rfl rfl rfl (by decide +kernel)
set_option maxRecDepth 65536 in
theorem w_c12 : (Jvm.Cond.code ({ cls := "java/lang/StringLatin1", name := "indexOfNonWhitespace", desc := "([B)I" } : Jvm.MethodName) jdk_43_method_37_code (4 : Nat) (Option.some Jvm.ClassFile.FieldType.int)).before args0 about1 = true := code_word (m := ⟨10, 1⟩) (meth := k10m1) (c := k10c1) (by decide +kernel) rfl rfl rfl (by decide +kernel)
set_option maxRecDepth 65536 in
theorem w_c13 : (Jvm.Cond.code ({ cls := "java/lang/StringLatin1", name := "getChar", desc := "([BI)C" } : Jvm.MethodName) jdk_43_method_44_code (2 : Nat) (Option.some Jvm.ClassFile.FieldType.char)).before args0 about1 = true := code_word (m := ⟨10, 2⟩) (meth := k10m2) (c := k10c2) (by decide +kernel) rfl rfl rfl (by decide +kernel)
set_option maxRecDepth 65536 in
theorem w_c14 : (Jvm.Cond.code ({ cls := "java/lang/CharacterDataLatin1", name := "isWhitespace", desc := "(I)Z" } : Jvm.MethodName) jdk_116_method_26_code (3 : Nat) (Option.some Jvm.ClassFile.FieldType.boolean)).before args0 about1 = true := code_word (m := ⟨12, 1⟩) (meth := k12m1) (c := k12c1) (by decide +kernel) rfl rfl rfl (by decide +kernel)
set_option maxRecDepth 65536 in
theorem w_c15 : (Jvm.Cond.code ({ cls := "java/lang/CharacterDataLatin1", name := "getProperties", desc := "(I)I" } : Jvm.MethodName) jdk_116_method_1_code (4 : Nat) (Option.some Jvm.ClassFile.FieldType.int)).before args0 about1 = true := code_word (m := ⟨12, 0⟩) (meth := k12m0) (c := k12c0) (by decide +kernel) rfl rfl rfl (by decide +kernel)
set_option maxRecDepth 65536 in
theorem w_c16 : (Jvm.Cond.code ({ cls := "java/lang/String", name := "length", desc := "()I" } : Jvm.MethodName) jdk_42_method_54_code (1 : Nat) (Option.some Jvm.ClassFile.FieldType.int)).before args0 about1 = true := code_word (m := ⟨7, 2⟩) (meth := k7m2) (c := k7c2) (by decide +kernel) rfl rfl rfl (by decide +kernel)
set_option maxRecDepth 65536 in
theorem w_c17 : (Jvm.Cond.code ({ cls := "java/lang/String", name := "coder", desc := "()B" } : Jvm.MethodName) jdk_42_method_152_code (1 : Nat) (Option.some Jvm.ClassFile.FieldType.byte)).before args0 about1 = true := code_word (m := ⟨7, 7⟩) (meth := k7m7) (c := k7c7) (by decide +kernel) rfl rfl rfl (by decide +kernel)
set_option maxRecDepth 65536 in
theorem w_c18 : (Jvm.Cond.code ({ cls := "java/lang/String", name := "equals", desc := "(Ljava/lang/Object;)Z" } : Jvm.MethodName) jdk_42_method_66_code (3 : Nat) (Option.some Jvm.ClassFile.FieldType.boolean)).before args0 about1 = true := code_word (m := ⟨7, 3⟩) (meth := k7m3) (c := k7c3) (by decide +kernel) rfl rfl rfl (by decide +kernel)
def codes1 : List Jvm.Cond := [Jvm.Cond.code x code maxLocals ret, Jvm.Cond.code ({ cls := "java/lang/String", name := "<init>", desc := "([C)V" } : Jvm.MethodName) jdk_42_method_3_code (2 : Nat) (Option.none : Option Jvm.ClassFile.FieldType), Jvm.Cond.code ({ cls := "java/lang/String", name := "<init>", desc := "([CIILjava/lang/Void;)V" } : Jvm.MethodName) jdk_42_method_149_code (6 : Nat) (Option.none : Option Jvm.ClassFile.FieldType), Jvm.Cond.code ({ cls := "java/lang/Object", name := "<init>", desc := "()V" } : Jvm.MethodName) object_method_1_code (1 : Nat) (Option.none : Option Jvm.ClassFile.FieldType), Jvm.Cond.code ({ cls := "java/lang/StringUTF16", name := "compress", desc := "([CII)[B" } : Jvm.MethodName) jdk_52_method_16_code (6 : Nat) (Option.some (Jvm.ClassFile.FieldType.array Jvm.ClassFile.FieldType.byte)), Jvm.Cond.code ({ cls := "java/lang/StringUTF16", name := "compress", desc := "([CI[BII)I" } : Jvm.MethodName) jdk_52_method_21_code (7 : Nat) (Option.some Jvm.ClassFile.FieldType.int), Jvm.Cond.code ({ cls := "java/lang/StringUTF16", name := "coderFromArrayLen", desc := "([BI)B" } : Jvm.MethodName) jdk_52_method_15_code (2 : Nat) (Option.some Jvm.ClassFile.FieldType.byte), Jvm.Cond.code ({ cls := "com/example/penelope/penelope/RollbackRulesCheckedNamePinLaw", name := "ws", desc := "(I)Z" } : Jvm.MethodName) method_2_code (1 : Nat) (Option.some Jvm.ClassFile.FieldType.boolean), Jvm.Cond.code ({ cls := "com/example/penelope/penelope/RollbackRules", name := "checkedName", desc := "(Ljava/lang/String;)Ljava/lang/String;" } : Jvm.MethodName) prog_16_method_3_code (1 : Nat) (Option.some (Jvm.ClassFile.FieldType.object "java/lang/String")), Jvm.Cond.code ({ cls := "java/lang/String", name := "isBlank", desc := "()Z" } : Jvm.MethodName) jdk_42_method_117_code (1 : Nat) (Option.some Jvm.ClassFile.FieldType.boolean), Jvm.Cond.code ({ cls := "java/lang/String", name := "indexOfNonWhitespace", desc := "()I" } : Jvm.MethodName) jdk_42_method_120_code (1 : Nat) (Option.some Jvm.ClassFile.FieldType.int), Jvm.Cond.code ({ cls := "java/lang/String", name := "isLatin1", desc := "()Z" } : Jvm.MethodName) jdk_42_method_154_code (1 : Nat) (Option.some Jvm.ClassFile.FieldType.boolean), Jvm.Cond.code ({ cls := "java/lang/StringLatin1", name := "indexOfNonWhitespace", desc := "([B)I" } : Jvm.MethodName) jdk_43_method_37_code (4 : Nat) (Option.some Jvm.ClassFile.FieldType.int), Jvm.Cond.code ({ cls := "java/lang/StringLatin1", name := "getChar", desc := "([BI)C" } : Jvm.MethodName) jdk_43_method_44_code (2 : Nat) (Option.some Jvm.ClassFile.FieldType.char), Jvm.Cond.code ({ cls := "java/lang/CharacterDataLatin1", name := "isWhitespace", desc := "(I)Z" } : Jvm.MethodName) jdk_116_method_26_code (3 : Nat) (Option.some Jvm.ClassFile.FieldType.boolean), Jvm.Cond.code ({ cls := "java/lang/CharacterDataLatin1", name := "getProperties", desc := "(I)I" } : Jvm.MethodName) jdk_116_method_1_code (4 : Nat) (Option.some Jvm.ClassFile.FieldType.int), Jvm.Cond.code ({ cls := "java/lang/String", name := "length", desc := "()I" } : Jvm.MethodName) jdk_42_method_54_code (1 : Nat) (Option.some Jvm.ClassFile.FieldType.int), Jvm.Cond.code ({ cls := "java/lang/String", name := "coder", desc := "()B" } : Jvm.MethodName) jdk_42_method_152_code (1 : Nat) (Option.some Jvm.ClassFile.FieldType.byte), Jvm.Cond.code ({ cls := "java/lang/String", name := "equals", desc := "(Ljava/lang/Object;)Z" } : Jvm.MethodName) jdk_42_method_66_code (3 : Nat) (Option.some Jvm.ClassFile.FieldType.boolean)]
set_option maxRecDepth 65536 in
theorem codes_eq : words1.filter isCode = codes1 := rfl
theorem w_codes : ∀ c ∈ words1.filter isCode, c.before args0 about1 = true := by
  rw [codes_eq]
  intro c hc
  simp only [codes1, List.mem_cons, List.not_mem_nil, or_false] at hc
  rcases hc with rfl | rfl | rfl | rfl | rfl | rfl | rfl | rfl | rfl | rfl | rfl | rfl | rfl | rfl | rfl | rfl | rfl | rfl | rfl
  · exact w_c0
  · exact w_c1
  · exact w_c2
  · exact w_c3
  · exact w_c4
  · exact w_c5
  · exact w_c6
  · exact w_c7
  · exact w_c8
  · exact w_c9
  · exact w_c10
  · exact w_c11
  · exact w_c12
  · exact w_c13
  · exact w_c14
  · exact w_c15
  · exact w_c16
  · exact w_c17
  · exact w_c18
set_option maxRecDepth 65536 in
theorem w_t1 : (words1.take 24).all (fun c => isCode c || c.before args0 about1) = true := by decide +kernel
set_option maxRecDepth 65536 in
theorem w_t2 : ((words1.drop 24).take 24).all (fun c => isCode c || c.before args0 about1) = true := by decide +kernel
set_option maxRecDepth 65536 in
theorem w_t3 : (((words1.drop 24).drop 24).take 24).all (fun c => isCode c || c.before args0 about1) = true := by decide +kernel
set_option maxRecDepth 65536 in
theorem w_t4 : (((words1.drop 24).drop 24).drop 24).all (fun c => isCode c || c.before args0 about1) = true := by decide +kernel
theorem w_tables : (allAtoms (Jvm.Cond.code x code maxLocals ret :: tables_1)).before args0 about1 = true := by
  rw [allAtoms_all]
  show words1.all (fun c => c.before args0 about1) = true
  refine all_split ?_ w_codes
  rw [← List.take_append_drop 24 words1, List.all_append, w_t1, ← List.take_append_drop 24 (words1.drop 24), List.all_append, w_t2, ← List.take_append_drop 24 ((words1.drop 24).drop 24), List.all_append, w_t3, w_t4]
  rfl
set_option maxRecDepth 65536 in
theorem w_rest : rest_1_c.before args0 about1 = true := by decide +kernel
set_option maxRecDepth 65536 in
theorem w_case : (Jvm.Cond.and given_1 narrow_1).before args0 about1 = true := by decide +kernel
set_option maxRecDepth 65536 in
theorem w_consts : constsHeld consts_1 about1 := Jvm.Lit.constsHeldB_iff.mp (by decide +kernel)
theorem w_applies : (headSpec (Jvm.Cond.code x code maxLocals ret :: tables_1) room_1).applies x e0.platform about1 = true :=
  (Spec.applies_iff w_frames).mpr ⟨w_running, w_runnable, w_alone, w_named, w_hears, w_ripe, w_room, w_tables⟩
theorem atStart : AtStart classFile x code maxLocals ret World_1 tables_1 room_1 Calls_1 rest_1 Pre_1 launch0 p0 e0 about1 theMethod args0 below0 :=
  ⟨lists_1, trivial, launch0.admits_env _ _ _, launch0.least_env, fairChoices_fair.cas, fairChoices_fair.clock, w_frames, w_args, w_heap, w_applies, ⟨w_consts, trivial⟩, w_rest, w_case⟩
end start1
theorem witness_1 : WitnessClaimed_1 := ⟨start1.p0, start1.e0, start1.about1, start1.theMethod, start1.args0, start1.below0, start1.atStart⟩
end Jvm.Pilot.@@N@@
