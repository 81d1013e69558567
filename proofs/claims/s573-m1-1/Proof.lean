import JvmDerived
import JvmDerived.Pilot.@@N@@Statement
import JvmDerived.Pilot.@@N@@Code
set_option linter.unusedVariables false
set_option linter.unusedSimpArgs false
namespace Jvm.RoadKit
open Sem ClassFile Op Lib Jvm.Stand Jvm.Free Jvm.LawKit
section New
variable {p : Program} {l : Launch} {e : Env} {R : Room} {s : State} {m : MethodId} {args : Array Value} {below : List Frame} {meth : Method} {c : Code} {T : State} {locs : List Loc} {cells slots : Nat}
theorem own_retI (X : Stand p l e R s m args below meth c T locs cells slots) (hx : p.tables.exec = Jvm.exec) {pc : Nat} {Ls : Array Slot} {z : Int32} {rest : List Value} (hret : meth.sig.returnType = some .int) (hd : decode c.code pc = .ok (.ireturn, 1)) {fs : List Frame}
    (hl : ∀ (f : JFrame) (acts : List Action), f.method = m → f.locked = none → f.entered = [] → (doReturn e (T.setTop f) acts (some (.int z))).1 = T.setFrames fs) : Steps p.tables e below (T.setTop (mkF m pc Ls (.int z :: rest))) (T.setFrames fs) :=
  retOut X hx hret rfl (Or.inl ⟨rfl, Or.inl rfl, z, rfl⟩) hd hl
theorem own_retJ (X : Stand p l e R s m args below meth c T locs cells slots) (hx : p.tables.exec = Jvm.exec) {pc : Nat} {Ls : Array Slot} {z : Int64} {rest : List Value} (hret : meth.sig.returnType = some .long) (hd : decode c.code pc = .ok (.lreturn, 1)) {fs : List Frame}
    (hl : ∀ (f : JFrame) (acts : List Action), f.method = m → f.locked = none → f.entered = [] → (doReturn e (T.setTop f) acts (some (.long z))).1 = T.setFrames fs) : Steps p.tables e below (T.setTop (mkF m pc Ls (.long z :: rest))) (T.setFrames fs) :=
  retOut X hx hret rfl (Or.inr (Or.inl ⟨rfl, rfl, z, rfl⟩)) hd hl
theorem own_retA (X : Stand p l e R s m args below meth c T locs cells slots) (hx : p.tables.exec = Jvm.exec) {pc : Nat} {Ls : Array Slot} {w : Value} {t : FieldType} {rest : List Value} (hret : meth.sig.returnType = some t) (hn : narrow t w = w) (ht : t.isReference = true) (hw : w.isRef = true) (hd : decode c.code pc = .ok (.areturn, 1)) {fs : List Frame}
    (hl : ∀ (f : JFrame) (acts : List Action), f.method = m → f.locked = none → f.entered = [] → (doReturn e (T.setTop f) acts (some w)).1 = T.setFrames fs) : Steps p.tables e below (T.setTop (mkF m pc Ls (w :: rest))) (T.setFrames fs) :=
  retOut X hx hret hn (Or.inr (Or.inr (Or.inr (Or.inr ⟨rfl, ht, hw⟩)))) hd hl
end New
abbrev OwnGo (tb : Tables) (e : Env) (below : List Frame) (K : State → Outcome → Prop) (st : State) : Prop := ∃ s₂ o, Steps tb e below st s₂ ∧ s₂.status = .running ∧ Ended s₂ below o ∧ K s₂ o
theorem OwnGo.back {tb : Tables} {e : Env} {below : List Frame} {K : State → Outcome → Prop} {st : State} (st' : State) (h : ∀ t, Steps tb e below st' t → Steps tb e below st t) (g : OwnGo tb e below K st') : OwnGo tb e below K st := by
  obtain ⟨s₂, o, h1, h2⟩ := g
  exact ⟨s₂, o, h _ h1, h2⟩
abbrev OwnMg (tb : Tables) (e : Env) (below : List Frame) (D : State → Prop) (st : State) : Prop := ∃ st', D st' ∧ ∀ t, Steps tb e below st' t → Steps tb e below st t
theorem OwnMg.back {tb : Tables} {e : Env} {below : List Frame} {D : State → Prop} {st : State} (st' : State) (h : ∀ t, Steps tb e below st' t → Steps tb e below st t) (g : OwnMg tb e below D st') : OwnMg tb e below D st := by
  obtain ⟨s₂, h1, h2⟩ := g
  exact ⟨s₂, h1, fun t k => h t (h2 t k)⟩
theorem own_not {P Q : Prop} (h : P ↔ Q) (n : ¬ Q) : ¬ P := fun q => n (h.mp q)
theorem own_ne {a b n : Nat} (h : a < n) (q : b = n) : a ≠ b := Nat.ne_of_lt (q ▸ h)
theorem own_ne' {a b n : Nat} (h : a < n) (q : n ≤ b) : a ≠ b := Nat.ne_of_lt (Nat.lt_of_lt_of_le h q)
end Jvm.RoadKit
namespace Jvm.Pilot.@@N@@
open Jvm Jvm.ClassFile Sem Op Lib Jvm.Free Jvm.Stand Jvm.LawKit Jvm.RoadKit Bundle Jvm.Pilot.@@N@@.Jvm.D
theorem own_pn0 : plainName "java/lang/StringUTF16" = true := by first | (simp [plainName, overriddenIn]; done) | decide +kernel
theorem own_d5_0 : decode jdk_52_method_21_code 0 = .ok (.iconst 0, 1) := by decide +kernel
theorem own_d5_1 : decode jdk_52_method_21_code 1 = .ok (.istore 5, 2) := by decide +kernel
theorem own_d5_3 : decode jdk_52_method_21_code 3 = .ok (.iload 5, 2) := by decide +kernel
theorem own_d5_5 : decode jdk_52_method_21_code 5 = .ok (.iload 4, 2) := by decide +kernel
theorem own_d5_7 : decode jdk_52_method_21_code 7 = .ok (.if_icmp .ge 37, 3) := by decide +kernel
theorem own_d5_10 : decode jdk_52_method_21_code 10 = .ok (.aload_n 0, 1) := by decide +kernel
theorem own_d5_11 : decode jdk_52_method_21_code 11 = .ok (.iload_n 1, 1) := by decide +kernel
theorem own_d5_12 : decode jdk_52_method_21_code 12 = .ok (.caload, 1) := by decide +kernel
theorem own_d5_13 : decode jdk_52_method_21_code 13 = .ok (.istore 6, 2) := by decide +kernel
theorem own_d5_15 : decode jdk_52_method_21_code 15 = .ok (.iload 6, 2) := by decide +kernel
theorem own_d5_17 : decode jdk_52_method_21_code 17 = .ok (.sipush 255, 3) := by decide +kernel
theorem own_d5_20 : decode jdk_52_method_21_code 20 = .ok (.if_icmp .le 6, 3) := by decide +kernel
theorem own_d5_26 : decode jdk_52_method_21_code 26 = .ok (.aload_n 2, 1) := by decide +kernel
theorem own_d5_27 : decode jdk_52_method_21_code 27 = .ok (.iload_n 3, 1) := by decide +kernel
theorem own_d5_28 : decode jdk_52_method_21_code 28 = .ok (.iload 6, 2) := by decide +kernel
theorem own_d5_30 : decode jdk_52_method_21_code 30 = .ok (.i2b, 1) := by decide +kernel
theorem own_d5_31 : decode jdk_52_method_21_code 31 = .ok (.bastore, 1) := by decide +kernel
theorem own_d5_32 : decode jdk_52_method_21_code 32 = .ok (.iinc 1 1, 3) := by decide +kernel
theorem own_d5_35 : decode jdk_52_method_21_code 35 = .ok (.iinc 3 1, 3) := by decide +kernel
theorem own_d5_38 : decode jdk_52_method_21_code 38 = .ok (.iinc 5 1, 3) := by decide +kernel
theorem own_d5_41 : decode jdk_52_method_21_code 41 = .ok (.goto (-38), 3) := by decide +kernel
theorem own_d5_44 : decode jdk_52_method_21_code 44 = .ok (.iload 4, 2) := by decide +kernel
theorem own_d5_46 : decode jdk_52_method_21_code 46 = .ok (.ireturn, 1) := by decide +kernel
theorem own_d4_0 : decode jdk_52_method_16_code 0 = .ok (.iload_n 2, 1) := by decide +kernel
theorem own_d4_1 : decode jdk_52_method_16_code 1 = .ok (.newarray .byte, 2) := by decide +kernel
theorem own_d4_3 : decode jdk_52_method_16_code 3 = .ok (.astore_n 3, 1) := by decide +kernel
theorem own_d4_4 : decode jdk_52_method_16_code 4 = .ok (.aload_n 0, 1) := by decide +kernel
theorem own_d4_5 : decode jdk_52_method_16_code 5 = .ok (.iload_n 1, 1) := by decide +kernel
theorem own_d4_6 : decode jdk_52_method_16_code 6 = .ok (.aload_n 3, 1) := by decide +kernel
theorem own_d4_7 : decode jdk_52_method_16_code 7 = .ok (.iconst 0, 1) := by decide +kernel
theorem own_d4_8 : decode jdk_52_method_16_code 8 = .ok (.iload_n 2, 1) := by decide +kernel
theorem own_d4_9 : decode jdk_52_method_16_code 9 = .ok (.invokestatic 115, 3) := by decide +kernel
theorem own_pd0 : parseMethodDescriptor "([CI[BII)I" = some ⟨[(.array .char), .int, (.array .byte), .int, .int], some .int⟩ := by decide +kernel
theorem own_d4_12 : decode jdk_52_method_16_code 12 = .ok (.istore 4, 2) := by decide +kernel
theorem own_d4_14 : decode jdk_52_method_16_code 14 = .ok (.iload 4, 2) := by decide +kernel
theorem own_d4_16 : decode jdk_52_method_16_code 16 = .ok (.iload_n 2, 1) := by decide +kernel
theorem own_d4_17 : decode jdk_52_method_16_code 17 = .ok (.if_icmp .eq 40, 3) := by decide +kernel
theorem own_d4_57 : decode jdk_52_method_16_code 57 = .ok (.aload_n 3, 1) := by decide +kernel
theorem own_d4_58 : decode jdk_52_method_16_code 58 = .ok (.areturn, 1) := by decide +kernel
theorem own_d6_0 : decode jdk_52_method_15_code 0 = .ok (.iload_n 1, 1) := by decide +kernel
theorem own_d6_1 : decode jdk_52_method_15_code 1 = .ok (.aload_n 0, 1) := by decide +kernel
theorem own_d6_2 : decode jdk_52_method_15_code 2 = .ok (.arraylength, 1) := by decide +kernel
theorem own_d6_3 : decode jdk_52_method_15_code 3 = .ok (.isub, 1) := by decide +kernel
theorem own_d6_4 : decode jdk_52_method_15_code 4 = .ok (.bipush 31, 2) := by decide +kernel
theorem own_d6_6 : decode jdk_52_method_15_code 6 = .ok (.iushr, 1) := by decide +kernel
theorem own_d6_7 : decode jdk_52_method_15_code 7 = .ok (.i2b, 1) := by decide +kernel
theorem own_d6_8 : decode jdk_52_method_15_code 8 = .ok (.ireturn, 1) := by decide +kernel
theorem own_pn1 : plainName "java/lang/String" = true := by first | (simp [plainName, overriddenIn]; done) | decide +kernel
theorem own_d2_0 : decode jdk_42_method_149_code 0 = .ok (.aload_n 0, 1) := by decide +kernel
theorem own_d2_1 : decode jdk_42_method_149_code 1 = .ok (.invokespecial 1, 3) := by decide +kernel
theorem own_d2_4 : decode jdk_42_method_149_code 4 = .ok (.iload_n 3, 1) := by decide +kernel
theorem own_d2_5 : decode jdk_42_method_149_code 5 = .ok (.ifCond .ne 22, 3) := by decide +kernel
theorem own_d2_27 : decode jdk_42_method_149_code 27 = .ok (.getstatic 38, 3) := by decide +kernel
theorem own_d2_30 : decode jdk_42_method_149_code 30 = .ok (.ifCond .eq 28, 3) := by decide +kernel
theorem own_d2_33 : decode jdk_42_method_149_code 33 = .ok (.aload_n 1, 1) := by decide +kernel
theorem own_d2_34 : decode jdk_42_method_149_code 34 = .ok (.iload_n 2, 1) := by decide +kernel
theorem own_d2_35 : decode jdk_42_method_149_code 35 = .ok (.iload_n 3, 1) := by decide +kernel
theorem own_d2_36 : decode jdk_42_method_149_code 36 = .ok (.invokestatic 177, 3) := by decide +kernel
theorem own_pd1 : parseMethodDescriptor "([CII)[B" = some ⟨[(.array .char), .int, .int], some (.array .byte)⟩ := by decide +kernel
theorem own_d2_39 : decode jdk_42_method_149_code 39 = .ok (.astore 5, 2) := by decide +kernel
theorem own_d2_41 : decode jdk_42_method_149_code 41 = .ok (.aload_n 0, 1) := by decide +kernel
theorem own_d2_42 : decode jdk_42_method_149_code 42 = .ok (.aload 5, 2) := by decide +kernel
theorem own_d2_44 : decode jdk_42_method_149_code 44 = .ok (.iload_n 3, 1) := by decide +kernel
theorem own_d2_45 : decode jdk_42_method_149_code 45 = .ok (.invokestatic 47, 3) := by decide +kernel
theorem own_pd2 : parseMethodDescriptor "([BI)B" = some ⟨[(.array .byte), .int], some .byte⟩ := by decide +kernel
theorem own_d2_48 : decode jdk_42_method_149_code 48 = .ok (.putfield 15, 3) := by decide +kernel
theorem own_d2_51 : decode jdk_42_method_149_code 51 = .ok (.aload_n 0, 1) := by decide +kernel
theorem own_d2_52 : decode jdk_42_method_149_code 52 = .ok (.aload 5, 2) := by decide +kernel
theorem own_d2_54 : decode jdk_42_method_149_code 54 = .ok (.putfield 9, 3) := by decide +kernel
theorem own_d2_57 : decode jdk_42_method_149_code 57 = .ok (.return_, 1) := by decide +kernel
theorem own_d1_0 : decode jdk_42_method_3_code 0 = .ok (.aload_n 0, 1) := by decide +kernel
theorem own_d1_1 : decode jdk_42_method_3_code 1 = .ok (.aload_n 1, 1) := by decide +kernel
theorem own_d1_2 : decode jdk_42_method_3_code 2 = .ok (.iconst 0, 1) := by decide +kernel
theorem own_d1_3 : decode jdk_42_method_3_code 3 = .ok (.aload_n 1, 1) := by decide +kernel
theorem own_d1_4 : decode jdk_42_method_3_code 4 = .ok (.arraylength, 1) := by decide +kernel
theorem own_d1_5 : decode jdk_42_method_3_code 5 = .ok (.aconst_null, 1) := by decide +kernel
theorem own_d1_6 : decode jdk_42_method_3_code 6 = .ok (.invokespecial 27, 3) := by decide +kernel
theorem own_pd3 : parseMethodDescriptor "([CIILjava/lang/Void;)V" = some ⟨[(.array .char), .int, .int, (.object "java/lang/Void")], none⟩ := by decide +kernel
theorem own_d1_9 : decode jdk_42_method_3_code 9 = .ok (.return_, 1) := by decide +kernel
theorem own_pn2 : plainName "com/example/lucid_policy/lucidpolicy/parse/SymbolDeclaredPinLaw" = true := by first | (simp [plainName, overriddenIn]; done) | decide +kernel
theorem own_d7_0 : decode method_2_code 0 = .ok (.iload_n 0, 1) := by decide +kernel
theorem own_d7_1 : decode method_2_code 1 = .ok (.ldc 7, 2) := by decide +kernel
theorem own_d7_3 : decode method_2_code 3 = .ok (.iand, 1) := by decide +kernel
theorem own_d7_4 : decode method_2_code 4 = .ok (.bipush 7, 2) := by decide +kernel
theorem own_d7_6 : decode method_2_code 6 = .ok (.irem, 1) := by decide +kernel
theorem own_d7_7 : decode method_2_code 7 = .ok (.istore_n 1, 1) := by decide +kernel
theorem own_d7_8 : decode method_2_code 8 = .ok (.iload_n 1, 1) := by decide +kernel
theorem own_d7_9 : decode method_2_code 9 = .ok (.ifCond .ne 7, 3) := by decide +kernel
theorem own_d7_12 : decode method_2_code 12 = .ok (.getstatic 8, 3) := by decide +kernel
theorem own_d7_15 : decode method_2_code 15 = .ok (.areturn, 1) := by decide +kernel
theorem own_d7_16 : decode method_2_code 16 = .ok (.iload_n 1, 1) := by decide +kernel
theorem own_d7_17 : decode method_2_code 17 = .ok (.iconst 1, 1) := by decide +kernel
theorem own_d7_18 : decode method_2_code 18 = .ok (.if_icmp .ne 7, 3) := by decide +kernel
theorem own_d7_21 : decode method_2_code 21 = .ok (.getstatic 14, 3) := by decide +kernel
theorem own_d7_24 : decode method_2_code 24 = .ok (.areturn, 1) := by decide +kernel
theorem own_d7_25 : decode method_2_code 25 = .ok (.iload_n 1, 1) := by decide +kernel
theorem own_d7_26 : decode method_2_code 26 = .ok (.iconst 2, 1) := by decide +kernel
theorem own_d7_27 : decode method_2_code 27 = .ok (.if_icmp .ne 7, 3) := by decide +kernel
theorem own_d7_30 : decode method_2_code 30 = .ok (.getstatic 17, 3) := by decide +kernel
theorem own_d7_33 : decode method_2_code 33 = .ok (.areturn, 1) := by decide +kernel
theorem own_d7_34 : decode method_2_code 34 = .ok (.iload_n 1, 1) := by decide +kernel
theorem own_d7_35 : decode method_2_code 35 = .ok (.iconst 3, 1) := by decide +kernel
theorem own_d7_36 : decode method_2_code 36 = .ok (.if_icmp .ne 7, 3) := by decide +kernel
theorem own_d7_39 : decode method_2_code 39 = .ok (.getstatic 20, 3) := by decide +kernel
theorem own_d7_42 : decode method_2_code 42 = .ok (.areturn, 1) := by decide +kernel
theorem own_d7_43 : decode method_2_code 43 = .ok (.iload_n 1, 1) := by decide +kernel
theorem own_d7_44 : decode method_2_code 44 = .ok (.iconst 4, 1) := by decide +kernel
theorem own_d7_45 : decode method_2_code 45 = .ok (.if_icmp .ne 7, 3) := by decide +kernel
theorem own_d7_48 : decode method_2_code 48 = .ok (.getstatic 23, 3) := by decide +kernel
theorem own_d7_51 : decode method_2_code 51 = .ok (.areturn, 1) := by decide +kernel
theorem own_d7_52 : decode method_2_code 52 = .ok (.iload_n 1, 1) := by decide +kernel
theorem own_d7_53 : decode method_2_code 53 = .ok (.iconst 5, 1) := by decide +kernel
theorem own_d7_54 : decode method_2_code 54 = .ok (.if_icmp .ne 7, 3) := by decide +kernel
theorem own_d7_57 : decode method_2_code 57 = .ok (.getstatic 26, 3) := by decide +kernel
theorem own_d7_60 : decode method_2_code 60 = .ok (.areturn, 1) := by decide +kernel
theorem own_d7_61 : decode method_2_code 61 = .ok (.getstatic 29, 3) := by decide +kernel
theorem own_d7_64 : decode method_2_code 64 = .ok (.areturn, 1) := by decide +kernel
theorem own_pn3 : plainName "java/util/AbstractCollection" = true := by first | (simp [plainName, overriddenIn]; done) | decide +kernel
theorem own_d11_0 : decode jdk_22_method_1_code 0 = .ok (.aload_n 0, 1) := by decide +kernel
theorem own_d11_1 : decode jdk_22_method_1_code 1 = .ok (.invokespecial 1, 3) := by decide +kernel
theorem own_d11_4 : decode jdk_22_method_1_code 4 = .ok (.return_, 1) := by decide +kernel
theorem own_pn4 : plainName "java/util/AbstractList" = true := by first | (simp [plainName, overriddenIn]; done) | decide +kernel
theorem own_d10_0 : decode jdk_39_method_1_code 0 = .ok (.aload_n 0, 1) := by decide +kernel
theorem own_d10_1 : decode jdk_39_method_1_code 1 = .ok (.invokespecial 1, 3) := by decide +kernel
theorem own_pd4 : parseMethodDescriptor "()V" = some ⟨[], none⟩ := by decide +kernel
theorem own_d10_4 : decode jdk_39_method_1_code 4 = .ok (.aload_n 0, 1) := by decide +kernel
theorem own_d10_5 : decode jdk_39_method_1_code 5 = .ok (.iconst 0, 1) := by decide +kernel
theorem own_d10_6 : decode jdk_39_method_1_code 6 = .ok (.putfield 7, 3) := by decide +kernel
theorem own_d10_9 : decode jdk_39_method_1_code 9 = .ok (.return_, 1) := by decide +kernel
theorem own_pn5 : plainName "java/util/ArrayList" = true := by first | (simp [plainName, overriddenIn]; done) | decide +kernel
theorem own_d9_0 : decode jdk_38_method_1_code 0 = .ok (.aload_n 0, 1) := by decide +kernel
theorem own_d9_1 : decode jdk_38_method_1_code 1 = .ok (.invokespecial 1, 3) := by decide +kernel
theorem own_d9_4 : decode jdk_38_method_1_code 4 = .ok (.iload_n 1, 1) := by decide +kernel
theorem own_d9_5 : decode jdk_38_method_1_code 5 = .ok (.ifCond .le 14, 3) := by decide +kernel
theorem own_d9_8 : decode jdk_38_method_1_code 8 = .ok (.aload_n 0, 1) := by decide +kernel
theorem own_d9_9 : decode jdk_38_method_1_code 9 = .ok (.iload_n 1, 1) := by decide +kernel
theorem own_d9_10 : decode jdk_38_method_1_code 10 = .ok (.anewarray 7, 3) := by decide +kernel
theorem own_d9_13 : decode jdk_38_method_1_code 13 = .ok (.putfield 9, 3) := by decide +kernel
theorem own_d9_16 : decode jdk_38_method_1_code 16 = .ok (.goto 44, 3) := by decide +kernel
theorem own_d9_60 : decode jdk_38_method_1_code 60 = .ok (.return_, 1) := by decide +kernel
theorem own_pn6 : plainName "com/example/lucid_policy/lucidpolicy/parse/Symbol" = true := by first | (simp [plainName, overriddenIn]; done) | decide +kernel
theorem own_d8_0 : decode prog_160_method_1_code 0 = .ok (.aload_n 0, 1) := by decide +kernel
theorem own_d8_1 : decode prog_160_method_1_code 1 = .ok (.invokespecial 1, 3) := by decide +kernel
theorem own_d8_4 : decode prog_160_method_1_code 4 = .ok (.aload_n 0, 1) := by decide +kernel
theorem own_d8_5 : decode prog_160_method_1_code 5 = .ok (.new 7, 3) := by decide +kernel
theorem own_d8_8 : decode prog_160_method_1_code 8 = .ok (.dup, 1) := by decide +kernel
theorem own_d8_9 : decode prog_160_method_1_code 9 = .ok (.iconst 1, 1) := by decide +kernel
theorem own_d8_10 : decode prog_160_method_1_code 10 = .ok (.invokespecial 9, 3) := by decide +kernel
theorem own_pd5 : parseMethodDescriptor "(I)V" = some ⟨[.int], none⟩ := by decide +kernel
theorem own_d8_13 : decode prog_160_method_1_code 13 = .ok (.putfield 12, 3) := by decide +kernel
theorem own_d8_16 : decode prog_160_method_1_code 16 = .ok (.aload_n 0, 1) := by decide +kernel
theorem own_d8_17 : decode prog_160_method_1_code 17 = .ok (.new 7, 3) := by decide +kernel
theorem own_d8_20 : decode prog_160_method_1_code 20 = .ok (.dup, 1) := by decide +kernel
theorem own_d8_21 : decode prog_160_method_1_code 21 = .ok (.iconst 1, 1) := by decide +kernel
theorem own_d8_22 : decode prog_160_method_1_code 22 = .ok (.invokespecial 9, 3) := by decide +kernel
theorem own_d8_25 : decode prog_160_method_1_code 25 = .ok (.putfield 18, 3) := by decide +kernel
theorem own_d8_28 : decode prog_160_method_1_code 28 = .ok (.aload_n 0, 1) := by decide +kernel
theorem own_d8_29 : decode prog_160_method_1_code 29 = .ok (.aload_n 1, 1) := by decide +kernel
theorem own_d8_30 : decode prog_160_method_1_code 30 = .ok (.putfield 21, 3) := by decide +kernel
theorem own_d8_33 : decode prog_160_method_1_code 33 = .ok (.return_, 1) := by decide +kernel
theorem own_d12_0 : decode prog_160_method_5_code 0 = .ok (.aload_n 0, 1) := by decide +kernel
theorem own_d12_1 : decode prog_160_method_5_code 1 = .ok (.getfield 25, 3) := by decide +kernel
theorem own_d12_4 : decode prog_160_method_5_code 4 = .ok (.ifnull 7, 3) := by decide +kernel
theorem own_d12_11 : decode prog_160_method_5_code 11 = .ok (.iconst 0, 1) := by decide +kernel
theorem own_d12_12 : decode prog_160_method_5_code 12 = .ok (.ireturn, 1) := by decide +kernel
theorem own_d12_7 : decode prog_160_method_5_code 7 = .ok (.iconst 1, 1) := by decide +kernel
theorem own_d12_8 : decode prog_160_method_5_code 8 = .ok (.goto 4, 3) := by decide +kernel
theorem own_d13_0 : decode prog_160_method_3_code 0 = .ok (.aload_n 0, 1) := by decide +kernel
theorem own_d13_1 : decode prog_160_method_3_code 1 = .ok (.getfield 25, 3) := by decide +kernel
theorem own_d13_4 : decode prog_160_method_3_code 4 = .ok (.areturn, 1) := by decide +kernel
theorem own_d16_0 : decode jdk_38_method_24_code 0 = .ok (.iload_n 3, 1) := by decide +kernel
theorem own_d16_1 : decode jdk_38_method_24_code 1 = .ok (.aload_n 2, 1) := by decide +kernel
theorem own_d16_2 : decode jdk_38_method_24_code 2 = .ok (.arraylength, 1) := by decide +kernel
theorem own_d16_3 : decode jdk_38_method_24_code 3 = .ok (.if_icmp .ne 8, 3) := by decide +kernel
theorem own_d16_11 : decode jdk_38_method_24_code 11 = .ok (.aload_n 2, 1) := by decide +kernel
theorem own_d16_12 : decode jdk_38_method_24_code 12 = .ok (.iload_n 3, 1) := by decide +kernel
theorem own_d16_13 : decode jdk_38_method_24_code 13 = .ok (.aload_n 1, 1) := by decide +kernel
theorem own_d16_14 : decode jdk_38_method_24_code 14 = .ok (.aastore, 1) := by decide +kernel
theorem own_d16_15 : decode jdk_38_method_24_code 15 = .ok (.aload_n 0, 1) := by decide +kernel
theorem own_d16_16 : decode jdk_38_method_24_code 16 = .ok (.iload_n 3, 1) := by decide +kernel
theorem own_d16_17 : decode jdk_38_method_24_code 17 = .ok (.iconst 1, 1) := by decide +kernel
theorem own_d16_18 : decode jdk_38_method_24_code 18 = .ok (.iadd, 1) := by decide +kernel
theorem own_d16_19 : decode jdk_38_method_24_code 19 = .ok (.putfield 48, 3) := by decide +kernel
theorem own_d16_22 : decode jdk_38_method_24_code 22 = .ok (.return_, 1) := by decide +kernel
theorem own_d15_0 : decode jdk_38_method_25_code 0 = .ok (.aload_n 0, 1) := by decide +kernel
theorem own_d15_1 : decode jdk_38_method_25_code 1 = .ok (.dup, 1) := by decide +kernel
theorem own_d15_2 : decode jdk_38_method_25_code 2 = .ok (.getfield 63, 3) := by decide +kernel
theorem own_d15_5 : decode jdk_38_method_25_code 5 = .ok (.iconst 1, 1) := by decide +kernel
theorem own_d15_6 : decode jdk_38_method_25_code 6 = .ok (.iadd, 1) := by decide +kernel
theorem own_d15_7 : decode jdk_38_method_25_code 7 = .ok (.putfield 63, 3) := by decide +kernel
theorem own_d15_10 : decode jdk_38_method_25_code 10 = .ok (.aload_n 0, 1) := by decide +kernel
theorem own_d15_11 : decode jdk_38_method_25_code 11 = .ok (.aload_n 1, 1) := by decide +kernel
theorem own_d15_12 : decode jdk_38_method_25_code 12 = .ok (.aload_n 0, 1) := by decide +kernel
theorem own_d15_13 : decode jdk_38_method_25_code 13 = .ok (.getfield 9, 3) := by decide +kernel
theorem own_d15_16 : decode jdk_38_method_25_code 16 = .ok (.aload_n 0, 1) := by decide +kernel
theorem own_d15_17 : decode jdk_38_method_25_code 17 = .ok (.getfield 48, 3) := by decide +kernel
theorem own_d15_20 : decode jdk_38_method_25_code 20 = .ok (.invokevirtual 131, 3) := by decide +kernel
theorem own_pd6 : parseMethodDescriptor "(Ljava/lang/Object;[Ljava/lang/Object;I)V" = some ⟨[(.object "java/lang/Object"), (.array (.object "java/lang/Object")), .int], none⟩ := by decide +kernel
theorem own_d15_23 : decode jdk_38_method_25_code 23 = .ok (.iconst 1, 1) := by decide +kernel
theorem own_d15_24 : decode jdk_38_method_25_code 24 = .ok (.ireturn, 1) := by decide +kernel
theorem own_pn7 : plainFor (⟨"java/lang/Math", "max", "(II)I"⟩ : MethodName) = true := by decide +kernel
theorem own_d21_0 : decode jdk_29_method_65_code 0 = .ok (.iload_n 0, 1) := by decide +kernel
theorem own_d21_1 : decode jdk_29_method_65_code 1 = .ok (.iload_n 1, 1) := by decide +kernel
theorem own_d21_2 : decode jdk_29_method_65_code 2 = .ok (.if_icmp .lt 7, 3) := by decide +kernel
theorem own_d21_5 : decode jdk_29_method_65_code 5 = .ok (.iload_n 0, 1) := by decide +kernel
theorem own_d21_6 : decode jdk_29_method_65_code 6 = .ok (.goto 4, 3) := by decide +kernel
theorem own_d21_10 : decode jdk_29_method_65_code 10 = .ok (.ireturn, 1) := by decide +kernel
theorem own_pn8 : plainFor (⟨"java/lang/Math", "min", "(II)I"⟩ : MethodName) = true := by decide +kernel
theorem own_d24_0 : decode jdk_29_method_69_code 0 = .ok (.iload_n 0, 1) := by decide +kernel
theorem own_d24_1 : decode jdk_29_method_69_code 1 = .ok (.iload_n 1, 1) := by decide +kernel
theorem own_d24_2 : decode jdk_29_method_69_code 2 = .ok (.if_icmp .gt 7, 3) := by decide +kernel
theorem own_d24_5 : decode jdk_29_method_69_code 5 = .ok (.iload_n 0, 1) := by decide +kernel
theorem own_d24_6 : decode jdk_29_method_69_code 6 = .ok (.goto 4, 3) := by decide +kernel
theorem own_d24_10 : decode jdk_29_method_69_code 10 = .ok (.ireturn, 1) := by decide +kernel
theorem own_pn9 : plainName "jdk/internal/util/ArraysSupport" = true := by first | (simp [plainName, overriddenIn]; done) | decide +kernel
theorem own_d20_0 : decode jdk_48_method_27_code 0 = .ok (.iload_n 0, 1) := by decide +kernel
theorem own_d20_1 : decode jdk_48_method_27_code 1 = .ok (.iload_n 1, 1) := by decide +kernel
theorem own_d20_2 : decode jdk_48_method_27_code 2 = .ok (.iload_n 2, 1) := by decide +kernel
theorem own_d20_3 : decode jdk_48_method_27_code 3 = .ok (.invokestatic 194, 3) := by decide +kernel
theorem own_pd7 : parseMethodDescriptor "(II)I" = some ⟨[.int, .int], some .int⟩ := by decide +kernel
theorem own_d20_6 : decode jdk_48_method_27_code 6 = .ok (.iadd, 1) := by decide +kernel
theorem own_d20_7 : decode jdk_48_method_27_code 7 = .ok (.istore_n 3, 1) := by decide +kernel
theorem own_d20_8 : decode jdk_48_method_27_code 8 = .ok (.iconst 0, 1) := by decide +kernel
theorem own_d20_9 : decode jdk_48_method_27_code 9 = .ok (.iload_n 3, 1) := by decide +kernel
theorem own_d20_10 : decode jdk_48_method_27_code 10 = .ok (.if_icmp .ge 11, 3) := by decide +kernel
theorem own_d20_13 : decode jdk_48_method_27_code 13 = .ok (.iload_n 3, 1) := by decide +kernel
theorem own_d20_14 : decode jdk_48_method_27_code 14 = .ok (.ldc 200, 2) := by decide +kernel
theorem own_d20_16 : decode jdk_48_method_27_code 16 = .ok (.if_icmp .gt 5, 3) := by decide +kernel
theorem own_d20_19 : decode jdk_48_method_27_code 19 = .ok (.iload_n 3, 1) := by decide +kernel
theorem own_d20_20 : decode jdk_48_method_27_code 20 = .ok (.ireturn, 1) := by decide +kernel
theorem own_pn10 : plainName "java/util/Arrays" = true := by first | (simp [plainName, overriddenIn]; done) | decide +kernel
theorem own_d23_0 : decode jdk_65_method_120_code 0 = .ok (.aload_n 2, 1) := by decide +kernel
theorem own_d23_1 : decode jdk_65_method_120_code 1 = .ok (.ldc 110, 2) := by decide +kernel
theorem own_d23_3 : decode jdk_65_method_120_code 3 = .ok (.if_acmp .ne 10, 3) := by decide +kernel
theorem own_d23_6 : decode jdk_65_method_120_code 6 = .ok (.iload_n 1, 1) := by decide +kernel
theorem own_d23_7 : decode jdk_65_method_120_code 7 = .ok (.anewarray 2, 3) := by decide +kernel
theorem own_d23_10 : decode jdk_65_method_120_code 10 = .ok (.goto 14, 3) := by decide +kernel
theorem own_d23_24 : decode jdk_65_method_120_code 24 = .ok (.astore_n 3, 1) := by decide +kernel
theorem own_d23_25 : decode jdk_65_method_120_code 25 = .ok (.aload_n 0, 1) := by decide +kernel
theorem own_d23_26 : decode jdk_65_method_120_code 26 = .ok (.iconst 0, 1) := by decide +kernel
theorem own_d23_27 : decode jdk_65_method_120_code 27 = .ok (.aload_n 3, 1) := by decide +kernel
theorem own_d23_28 : decode jdk_65_method_120_code 28 = .ok (.iconst 0, 1) := by decide +kernel
theorem own_d23_29 : decode jdk_65_method_120_code 29 = .ok (.aload_n 0, 1) := by decide +kernel
theorem own_d23_30 : decode jdk_65_method_120_code 30 = .ok (.arraylength, 1) := by decide +kernel
theorem own_d23_31 : decode jdk_65_method_120_code 31 = .ok (.iload_n 1, 1) := by decide +kernel
theorem own_d23_32 : decode jdk_65_method_120_code 32 = .ok (.invokestatic 304, 3) := by decide +kernel
theorem own_d23_35 : decode jdk_65_method_120_code 35 = .ok (.invokestatic 150, 3) := by decide +kernel
theorem own_d23_38 : decode jdk_65_method_120_code 38 = .ok (.aload_n 3, 1) := by decide +kernel
theorem own_d23_39 : decode jdk_65_method_120_code 39 = .ok (.areturn, 1) := by decide +kernel
theorem own_d22_0 : decode jdk_65_method_119_code 0 = .ok (.aload_n 0, 1) := by decide +kernel
theorem own_d22_1 : decode jdk_65_method_119_code 1 = .ok (.iload_n 1, 1) := by decide +kernel
theorem own_d22_2 : decode jdk_65_method_119_code 2 = .ok (.aload_n 0, 1) := by decide +kernel
theorem own_d22_3 : decode jdk_65_method_119_code 3 = .ok (.invokevirtual 86, 3) := by decide +kernel
theorem own_d22_6 : decode jdk_65_method_119_code 6 = .ok (.invokestatic 300, 3) := by decide +kernel
theorem own_pd8 : parseMethodDescriptor "([Ljava/lang/Object;ILjava/lang/Class;)[Ljava/lang/Object;" = some ⟨[(.array (.object "java/lang/Object")), .int, (.object "java/lang/Class")], some (.array (.object "java/lang/Object"))⟩ := by decide +kernel
theorem own_d22_9 : decode jdk_65_method_119_code 9 = .ok (.areturn, 1) := by decide +kernel
theorem own_d19_0 : decode jdk_38_method_6_code 0 = .ok (.aload_n 0, 1) := by decide +kernel
theorem own_d19_1 : decode jdk_38_method_6_code 1 = .ok (.getfield 9, 3) := by decide +kernel
theorem own_d19_4 : decode jdk_38_method_6_code 4 = .ok (.arraylength, 1) := by decide +kernel
theorem own_d19_5 : decode jdk_38_method_6_code 5 = .ok (.istore_n 2, 1) := by decide +kernel
theorem own_d19_6 : decode jdk_38_method_6_code 6 = .ok (.iload_n 2, 1) := by decide +kernel
theorem own_d19_7 : decode jdk_38_method_6_code 7 = .ok (.ifCond .gt 13, 3) := by decide +kernel
theorem own_d19_20 : decode jdk_38_method_6_code 20 = .ok (.iload_n 2, 1) := by decide +kernel
theorem own_d19_21 : decode jdk_38_method_6_code 21 = .ok (.iload_n 1, 1) := by decide +kernel
theorem own_d19_22 : decode jdk_38_method_6_code 22 = .ok (.iload_n 2, 1) := by decide +kernel
theorem own_d19_23 : decode jdk_38_method_6_code 23 = .ok (.isub, 1) := by decide +kernel
theorem own_d19_24 : decode jdk_38_method_6_code 24 = .ok (.iload_n 2, 1) := by decide +kernel
theorem own_d19_25 : decode jdk_38_method_6_code 25 = .ok (.iconst 1, 1) := by decide +kernel
theorem own_d19_26 : decode jdk_38_method_6_code 26 = .ok (.ishr, 1) := by decide +kernel
theorem own_d19_27 : decode jdk_38_method_6_code 27 = .ok (.invokestatic 73, 3) := by decide +kernel
theorem own_pd9 : parseMethodDescriptor "(III)I" = some ⟨[.int, .int, .int], some .int⟩ := by decide +kernel
theorem own_d19_30 : decode jdk_38_method_6_code 30 = .ok (.istore_n 3, 1) := by decide +kernel
theorem own_d19_31 : decode jdk_38_method_6_code 31 = .ok (.aload_n 0, 1) := by decide +kernel
theorem own_d19_32 : decode jdk_38_method_6_code 32 = .ok (.aload_n 0, 1) := by decide +kernel
theorem own_d19_33 : decode jdk_38_method_6_code 33 = .ok (.getfield 9, 3) := by decide +kernel
theorem own_d19_36 : decode jdk_38_method_6_code 36 = .ok (.iload_n 3, 1) := by decide +kernel
theorem own_d19_37 : decode jdk_38_method_6_code 37 = .ok (.invokestatic 66, 3) := by decide +kernel
theorem own_pd10 : parseMethodDescriptor "([Ljava/lang/Object;I)[Ljava/lang/Object;" = some ⟨[(.array (.object "java/lang/Object")), .int], some (.array (.object "java/lang/Object"))⟩ := by decide +kernel
theorem own_d19_40 : decode jdk_38_method_6_code 40 = .ok (.dup_x1, 1) := by decide +kernel
theorem own_d19_41 : decode jdk_38_method_6_code 41 = .ok (.putfield 9, 3) := by decide +kernel
theorem own_d19_44 : decode jdk_38_method_6_code 44 = .ok (.areturn, 1) := by decide +kernel
theorem own_d18_0 : decode jdk_38_method_7_code 0 = .ok (.aload_n 0, 1) := by decide +kernel
theorem own_d18_1 : decode jdk_38_method_7_code 1 = .ok (.aload_n 0, 1) := by decide +kernel
theorem own_d18_2 : decode jdk_38_method_7_code 2 = .ok (.getfield 48, 3) := by decide +kernel
theorem own_d18_5 : decode jdk_38_method_7_code 5 = .ok (.iconst 1, 1) := by decide +kernel
theorem own_d18_6 : decode jdk_38_method_7_code 6 = .ok (.iadd, 1) := by decide +kernel
theorem own_d18_7 : decode jdk_38_method_7_code 7 = .ok (.invokevirtual 69, 3) := by decide +kernel
theorem own_pd11 : parseMethodDescriptor "(I)[Ljava/lang/Object;" = some ⟨[.int], some (.array (.object "java/lang/Object"))⟩ := by decide +kernel
theorem own_d18_10 : decode jdk_38_method_7_code 10 = .ok (.areturn, 1) := by decide +kernel
theorem own_d16_6 : decode jdk_38_method_24_code 6 = .ok (.aload_n 0, 1) := by decide +kernel
theorem own_d16_7 : decode jdk_38_method_24_code 7 = .ok (.invokevirtual 129, 3) := by decide +kernel
theorem own_pd12 : parseMethodDescriptor "()[Ljava/lang/Object;" = some ⟨[], some (.array (.object "java/lang/Object"))⟩ := by decide +kernel
theorem own_d16_10 : decode jdk_38_method_24_code 10 = .ok (.astore_n 2, 1) := by decide +kernel
theorem own_d14_0 : decode prog_160_method_7_code 0 = .ok (.aload_n 0, 1) := by decide +kernel
theorem own_d14_1 : decode prog_160_method_7_code 1 = .ok (.getfield 18, 3) := by decide +kernel
theorem own_d14_4 : decode prog_160_method_7_code 4 = .ok (.aload_n 1, 1) := by decide +kernel
theorem own_d14_5 : decode prog_160_method_7_code 5 = .ok (.invokeinterface 33 2, 5) := by decide +kernel
theorem own_pd13 : parseMethodDescriptor "(Ljava/lang/Object;)Z" = some ⟨[(.object "java/lang/Object")], some .boolean⟩ := by decide +kernel
theorem own_d14_10 : decode prog_160_method_7_code 10 = .ok (.pop, 1) := by decide +kernel
theorem own_d14_11 : decode prog_160_method_7_code 11 = .ok (.return_, 1) := by decide +kernel
theorem own_d17_0 : decode prog_160_method_6_code 0 = .ok (.aload_n 0, 1) := by decide +kernel
theorem own_d17_1 : decode prog_160_method_6_code 1 = .ok (.getfield 25, 3) := by decide +kernel
theorem own_d17_4 : decode prog_160_method_6_code 4 = .ok (.ifnonnull 13, 3) := by decide +kernel
theorem own_d17_7 : decode prog_160_method_6_code 7 = .ok (.aload_n 0, 1) := by decide +kernel
theorem own_d17_8 : decode prog_160_method_6_code 8 = .ok (.aload_n 1, 1) := by decide +kernel
theorem own_d17_9 : decode prog_160_method_6_code 9 = .ok (.putfield 25, 3) := by decide +kernel
theorem own_d17_12 : decode prog_160_method_6_code 12 = .ok (.aload_n 0, 1) := by decide +kernel
theorem own_d17_13 : decode prog_160_method_6_code 13 = .ok (.aload_n 2, 1) := by decide +kernel
theorem own_d17_14 : decode prog_160_method_6_code 14 = .ok (.putfield 29, 3) := by decide +kernel
theorem own_d17_17 : decode prog_160_method_6_code 17 = .ok (.aload_n 0, 1) := by decide +kernel
theorem own_d17_18 : decode prog_160_method_6_code 18 = .ok (.getfield 12, 3) := by decide +kernel
theorem own_d17_21 : decode prog_160_method_6_code 21 = .ok (.aload_n 3, 1) := by decide +kernel
theorem own_d17_22 : decode prog_160_method_6_code 22 = .ok (.invokeinterface 33 2, 5) := by decide +kernel
theorem own_d17_27 : decode prog_160_method_6_code 27 = .ok (.pop, 1) := by decide +kernel
theorem own_d17_28 : decode prog_160_method_6_code 28 = .ok (.return_, 1) := by decide +kernel
theorem own_pd14 : parseMethodDescriptor "([C)V" = some ⟨[(.array .char)], none⟩ := by decide +kernel
theorem own_pd15 : parseMethodDescriptor "(I)Lcom/example/lucid_policy/lucidpolicy/parse/SymbolKind;" = some ⟨[.int], some (.object "com/example/lucid_policy/lucidpolicy/parse/SymbolKind")⟩ := by decide +kernel
theorem own_pd16 : parseMethodDescriptor "(Ljava/lang/String;)V" = some ⟨[(.object "java/lang/String")], none⟩ := by decide +kernel
theorem own_pd17 : parseMethodDescriptor "()Z" = some ⟨[], some .boolean⟩ := by decide +kernel
theorem own_pd18 : parseMethodDescriptor "()Lcom/example/lucid_policy/lucidpolicy/parse/SymbolKind;" = some ⟨[], some (.object "com/example/lucid_policy/lucidpolicy/parse/SymbolKind")⟩ := by decide +kernel
theorem own_pd19 : parseMethodDescriptor "(Lcom/example/lucid_policy/lucidpolicy/parse/SymbolKind;Lcom/example/lucid_policy/lucidpolicy/model/SourceLocation;Lcom/example/lucid_policy/lucidpolicy/parse/Block;)V" = some ⟨[(.object "com/example/lucid_policy/lucidpolicy/parse/SymbolKind"), (.object "com/example/lucid_policy/lucidpolicy/model/SourceLocation"), (.object "com/example/lucid_policy/lucidpolicy/parse/Block")], none⟩ := by decide +kernel
theorem own_pd20 : parseMethodDescriptor "(Lcom/example/lucid_policy/lucidpolicy/parse/Block;)V" = some ⟨[(.object "com/example/lucid_policy/lucidpolicy/parse/Block")], none⟩ := by decide +kernel
def own_Mir (Z : State) (C : String) (mr : Addr) : Prop := ∃ (c : ClassId) (k : Class), Z.vm.findClass C = some c ∧ Z.vm.classes[c]? = some k ∧ k.mirror = some mr
section Mirrors
variable {p : Program} {l : Launch} {e : Env} {R : Room} {s : State} {m : MethodId} {args : Array Value} {below : List Frame} {meth : Method} {c : Code} {T : State} {locs : List Loc} {cells slots : Nat} {Z : State} {h : Heap} {a mr : Addr} {a0 : Array Value} {own C : String} {index : Nat}
theorem own_Mir.at (hZ : Z.Warmed39 s.vm) (M : own_Mir Z C mr) : ∃ (c : ClassId) (k : Class), s.vm.findClass C = some c ∧ s.vm.classes[c]? = some k ∧ k.mirror = some mr := by
  obtain ⟨cc, kc, m1, m2, m3⟩ := M
  obtain ⟨k', q, ek⟩ := hZ.alike.2.2 _ _ m2
  exact ⟨cc, k', by rw [hZ.alike.findClass]; exact m1, q, by rw [ek]; exact m3⟩
theorem own_gcls (X : Stand p l e R s m args below meth c T locs cells slots) (hx : p.tables.exec = Jvm.exec) (hZ : Z.Warmed39 s.vm) (hown : s.vm.findClass own = some m.cls)
    (w1 : (Cond.methodLink own index Jvm.Stand.gcN).before a0 Z = true) (w2 : (Cond.declares Jvm.Stand.gcN).before a0 Z = true) (w4 : (Cond.selects C Jvm.Stand.gcN Jvm.Stand.gcN).before a0 Z = true) (w5 : (Cond.instanceMethod Jvm.Stand.gcN).before a0 Z = true) (w6 : (Cond.native Jvm.Stand.gcN).before a0 Z = true) (eT : T.heap = h) (E : Exa Z h a C) (M : own_Mir Z C mr)
    {g : JFrame} (hg : g.method = m) (hsize : g.locals.size = c.maxLocals) {rest : List Value} (hs : g.stack = .ref a :: rest) (hd : decode c.code g.pc = .ok (.invokevirtual index, 3)) (hf : 1 ≤ R.frames) {W : Nat} (hW : 2 * g.monitorRoom + (rest.map fun v => v.category).sum ≤ W) (hl : W + (nativeFrameWords "java/lang/Object" "getClass" 1 + 11) ≤ R.locals) :
    ∃ T', Stand p l e R s m args below meth c T' locs cells slots ∧ T'.heap = h ∧ ∀ target, Steps p.tables e below (T'.setTop { g with pc := g.pc + 3, stack := .ref mr :: rest }) target → Steps p.tables e below (T.setTop g) target := by
  obtain ⟨cB, kB, i1, i2, i3⟩ := isOf hZ eT E
  obtain ⟨cc, kc, m1, m2, m3⟩ := own_Mir.at hZ M
  cases i1.symm.trans m1
  obtain ⟨vm', X', st⟩ := X.getClassOf hx hown (mvT hZ w1) (mvT hZ w2) (notFace_of_selects (args := #[]) (mvT hZ w4)) (mvT hZ w4) (mvT hZ w5) (mvT hZ w6) m1 i3 m2 m3 hg hsize hs hd hf (Nat.le_trans (Nat.add_le_add_right hW _) hl)
  exact ⟨_, X', eT, st⟩
theorem own_ldcC (X : Stand p l e R s m args below meth c T locs cells slots) (hx : p.tables.exec = Jvm.exec) (hZ : Z.Warmed39 s.vm) (hown : s.vm.findClass own = some m.cls) (w : (Cond.classLink own index C).before a0 Z = true) (eT : T.heap = h) (M : own_Mir Z C mr)
    {g : JFrame} (hg : g.method = m) (hd : decode c.code g.pc = .ok (.ldc index, 2)) : ∃ T', Stand p l e R s m args below meth c T' locs cells slots ∧ T'.heap = h ∧ ∀ target, Steps p.tables e below (T'.setTop { g with pc := g.pc + 2, stack := .ref mr :: g.stack }) target → Steps p.tables e below (T.setTop g) target := by
  obtain ⟨cc, kc, m1, m2, m3⟩ := own_Mir.at hZ M
  obtain ⟨vm', X', st⟩ := X.ldcMirror (C := C) (a := mr) hx hown (mv hZ w) (by simp [Term.eval, m1, m2, m3]) hg hd
  exact ⟨_, X', eT, st⟩
end Mirrors
theorem own_nrc (x : Int32) : nar .char (x.toUInt32.toUInt16.toUInt32.toInt32) = x.toUInt32.toUInt16.toUInt32.toInt32 := by
  have h1 := c_i2c x
  have h2 := c_i2c (x.toUInt32.toUInt16.toUInt32.toInt32)
  show x.toUInt32.toUInt16.toUInt32.toInt32.toUInt32.toUInt16.toUInt32.toInt32 = _
  rw [← Int32.toInt_inj]
  omega
theorem own_ch (x : Int32) : ¬ (255 : Int32) < ((x &&& (255 : Int32)).toUInt32.toUInt16.toUInt32.toInt32) := by
  have h := c_mask x 255 8 (by decide) (by decide)
  have h2 := c_i2c (x &&& 255)
  simp only [Int32.lt_iff_toInt_lt, Int32.reduceToInt]
  omega
theorem own_cmp_ef (m : MethodId) (x0 : Addr) (x1 : Int32) (x2 : Addr) (x3 : Int32) (x4 : Int32) : entryFrame m #[(.ref x0), (.int x1), (.ref x2), (.int x3), (.int x4)] 7 = mkF m 0 #[.val (.ref x0), .val (.int x1), .val (.ref x2), .val (.int x3), .val (.int x4), .unset, .unset] [] := by first | (simp [entryFrame, mkF, argsToLocals, Value.category]; done) | rfl
def own_cmp_Q (Z : State) (ca : Addr) (b : Addr) (kc : ClassId) (x0 : Int32) (x1 : Int32) (kb : ClassId) (h0 : Heap) (n0 : Nat) (rv : Option Value) (hN : Heap) (LL : List Loc) : Prop := rv = some (.int (2 : Int32)) ∧ Fr n0 LL ∧ Keep h0 hN [b] ∧ Arv Z hN b kb .byte (2 : Int32) [(.int (nar .byte (x0.toInt8.toInt32))), (.int (nar .byte (x1.toInt8.toInt32)))] (.int (0 : Int32))
set_option maxRecDepth 65536 in
set_option maxHeartbeats 40000000 in
theorem own_cmp (l : Launch) (Z : State) (a0 : Array Value) (hw : ∀ d ∈ tables_1, d.before a0 Z = true) (ws : List Jvm.Cond) (ca : Addr) (b : Addr) (kc : ClassId) (x0 : Int32) (x1 : Int32) (kb : ClassId) (h0 : Heap) (n0 : Nat) (Z0 : n0 ≤ h0.size) (A : Arv Z h0 ca kc .char (2 : Int32) [(.int x0), (.int x1)] (.int (0 : Int32))) (hx0 : ¬ (255 : Int32) < x0) (hx1 : ¬ (255 : Int32) < x1) (B : Arv Z h0 b kb .byte (2 : Int32) [(.int (0 : Int32)), (.int (0 : Int32))] (.int (0 : Int32))) (ne : ca ≠ b) (g : n0 ≤ b) :
    MetFree l (⟨"java/lang/StringUTF16", "compress", "([CI[BII)I"⟩ : MethodName) (head1 (Jvm.Cond.code (⟨"java/lang/StringUTF16", "compress", "([CI[BII)I"⟩ : MethodName) jdk_52_method_21_code 7 (some .int) :: ws) ({ frames := 0, cells := 0, slots := 0, locals := 0 } : Room)) (fun aa UU => aa = #[(.ref ca), (.int (0 : Int32)), (.ref b), (.int (0 : Int32)), (.int (2 : Int32))] ∧ Z.Warmed39 UU.vm ∧ UU.heap = h0) (fun _ _ _ _ _ => True) (fun _ UU oo UU' => ∃ rv LL, oo = .returned rv ∧ own_cmp_Q Z ca b kc x0 x1 kb h0 n0 rv UU'.heap LL ∧ FrameEnd UU oo UU' LL ({ frames := 0, cells := 0, slots := 0, locals := 0 } : Room).cells ({ frames := 0, cells := 0, slots := 0, locals := 0 } : Room).slots) := by
  refine MetFree.of_bodySF (plainFor_of_name own_pn0) hisR ?_
  intro p e s m args below meth c s₁ Bd hml0 hP hK
  obtain ⟨rfl, hZ, hh⟩ := hP
  have hx := Bd.exec
  have hby := Bd.bytes
  have hml : c.maxLocals = 7 := hml0
  have hown : s.vm.findClass "java/lang/StringUTF16" = some m.cls := findClass_of_methodNamed Bd.named
  have hnm := (name_of_methodNamed Bd.named Bd.method).1
  have X0 : Stand p l e ({ frames := 0, cells := 0, slots := 0, locals := 0 } : Room) s m #[(.ref ca), (.int (0 : Int32)), (.ref b), (.int (0 : Int32)), (.int (2 : Int32))] below meth c s₁ [] 0 0 := Stand.of_body Bd
  have e0 : s₁.heap = h0 := by rw [← hh, Bd.state]; rfl
  have N0 := Fr.nil n0
  have K0 : Keep h0 h0 [b] := Keep.refl h0 _
  refine (?_ : OwnGo p.tables e below (fun UU' oo => ∃ rv LL, oo = .returned rv ∧ own_cmp_Q Z ca b kc x0 x1 kb h0 n0 rv UU'.heap LL ∧ FrameEnd s oo UU' LL ({ frames := 0, cells := 0, slots := 0, locals := 0 } : Room).cells ({ frames := 0, cells := 0, slots := 0, locals := 0 } : Room).slots) _)
  refine OwnGo.back (s₁.setTop (mkF m 0 #[.val (.ref ca), .val (.int (0 : Int32)), .val (.ref b), .val (.int (0 : Int32)), .val (.int (2 : Int32)), .unset, .unset] [])) (fun tg kk => castTop (own_cmp_ef m ca (0 : Int32) b (0 : Int32) (2 : Int32)) kk) ?_
  refine OwnGo.back (s₁.setTop (mkF m 1 #[.val (.ref ca), .val (.int (0 : Int32)), .val (.ref b), .val (.int (0 : Int32)), .val (.int (2 : Int32)), .unset, .unset] [(.int (0 : Int32))])) (fun tg kk => XS.iconst X0.here hx rfl (hb hby own_d5_0) kk) ?_
  refine OwnGo.back (s₁.setTop (mkF m 3 #[.val (.ref ca), .val (.int (0 : Int32)), .val (.ref b), .val (.int (0 : Int32)), .val (.int (2 : Int32)), .val (.int (0 : Int32)), .unset] [])) (fun tg kk => XS.istore X0.here hx rfl (hb hby own_d5_1) rfl (l' := #[.val (.ref ca), .val (.int (0 : Int32)), .val (.ref b), .val (.int (0 : Int32)), .val (.int (2 : Int32)), .val (.int (0 : Int32)), .unset]) rfl kk) ?_
  refine OwnGo.back (s₁.setTop (mkF m 5 #[.val (.ref ca), .val (.int (0 : Int32)), .val (.ref b), .val (.int (0 : Int32)), .val (.int (2 : Int32)), .val (.int (0 : Int32)), .unset] [(.int (0 : Int32))])) (fun tg kk => XS.iload X0.here hx rfl (hb hby own_d5_3) rfl kk) ?_
  refine OwnGo.back (s₁.setTop (mkF m 7 #[.val (.ref ca), .val (.int (0 : Int32)), .val (.ref b), .val (.int (0 : Int32)), .val (.int (2 : Int32)), .val (.int (0 : Int32)), .unset] [(.int (2 : Int32)), (.int (0 : Int32))])) (fun tg kk => XS.iload X0.here hx rfl (hb hby own_d5_5) rfl kk) ?_
  refine OwnGo.back (s₁.setTop (mkF m 10 #[.val (.ref ca), .val (.int (0 : Int32)), .val (.ref b), .val (.int (0 : Int32)), .val (.int (2 : Int32)), .val (.int (0 : Int32)), .unset] [])) (fun tg kk => XS.icmpNo X0.here hx rfl (hb hby own_d5_7) rfl (tlt (by decide : (0 : Int32) < (2 : Int32))).2.1 kk) ?_
  refine OwnGo.back (s₁.setTop (mkF m 11 #[.val (.ref ca), .val (.int (0 : Int32)), .val (.ref b), .val (.int (0 : Int32)), .val (.int (2 : Int32)), .val (.int (0 : Int32)), .unset] [(.ref ca)])) (fun tg kk => XS.aloadN X0.here hx rfl (hb hby own_d5_10) rfl rfl kk) ?_
  refine OwnGo.back (s₁.setTop (mkF m 12 #[.val (.ref ca), .val (.int (0 : Int32)), .val (.ref b), .val (.int (0 : Int32)), .val (.int (2 : Int32)), .val (.int (0 : Int32)), .unset] [(.int (0 : Int32)), (.ref ca)])) (fun tg kk => XS.iloadN X0.here hx rfl (hb hby own_d5_11) rfl kk) ?_
  obtain ⟨cl_1, Ar_1, qq_1, Sz_1, Ng_1, Hs_1, Gf_1⟩ := id A
  have hin_1 : ¬ ((0 : Int32) < 0 ∨ cl_1.slots.size ≤ ((0 : Int32)).toNatClampNeg) := inb_of Sz_1 ⟨by decide, by decide⟩
  have hat_1 : cl_1.slots[((0 : Int32)).toNatClampNeg]? = some (.int x0) := Has.at Hs_1 hin_1 rfl
  refine OwnGo.back (s₁.setTop (mkF m 13 #[.val (.ref ca), .val (.int (0 : Int32)), .val (.ref b), .val (.int (0 : Int32)), .val (.int (2 : Int32)), .val (.int (0 : Int32)), .unset] [(.int x0)])) (fun tg kk => X0.caload hx (j := (0 : Int32)) (v := (.int x0)) (by rw [e0]; exact Ar_1.1) (State.isArrayOf_alike hZ.alike Ar_1.2.1) Ar_1.2.2 hin_1 hat_1 (g := (mkF m 12 #[.val (.ref ca), .val (.int (0 : Int32)), .val (.ref b), .val (.int (0 : Int32)), .val (.int (2 : Int32)), .val (.int (0 : Int32)), .unset] [(.int (0 : Int32)), (.ref ca)])) rfl rfl (hb hby own_d5_12) _ kk) ?_
  refine OwnGo.back (s₁.setTop (mkF m 15 #[.val (.ref ca), .val (.int (0 : Int32)), .val (.ref b), .val (.int (0 : Int32)), .val (.int (2 : Int32)), .val (.int (0 : Int32)), .val (.int x0)] [])) (fun tg kk => XS.istore X0.here hx rfl (hb hby own_d5_13) rfl (l' := #[.val (.ref ca), .val (.int (0 : Int32)), .val (.ref b), .val (.int (0 : Int32)), .val (.int (2 : Int32)), .val (.int (0 : Int32)), .val (.int x0)]) rfl kk) ?_
  refine OwnGo.back (s₁.setTop (mkF m 17 #[.val (.ref ca), .val (.int (0 : Int32)), .val (.ref b), .val (.int (0 : Int32)), .val (.int (2 : Int32)), .val (.int (0 : Int32)), .val (.int x0)] [(.int x0)])) (fun tg kk => XS.iload X0.here hx rfl (hb hby own_d5_15) rfl kk) ?_
  refine OwnGo.back (s₁.setTop (mkF m 20 #[.val (.ref ca), .val (.int (0 : Int32)), .val (.ref b), .val (.int (0 : Int32)), .val (.int (2 : Int32)), .val (.int (0 : Int32)), .val (.int x0)] [(.int (255 : Int32)), (.int x0)])) (fun tg kk => XS.sipush X0.here hx rfl (hb hby own_d5_17) kk) ?_
  refine OwnGo.back (s₁.setTop (mkF m 26 #[.val (.ref ca), .val (.int (0 : Int32)), .val (.ref b), .val (.int (0 : Int32)), .val (.int (2 : Int32)), .val (.int (0 : Int32)), .val (.int x0)] [])) (fun tg kk => XS.icmpYes X0.here hx rfl (pc0 := 20) (pc' := 26) rfl (hb hby own_d5_20) rfl (flt (hx0 : ¬ ((255 : Int32) < x0))).2.2.2 (by decide) (by decide) kk) ?_
  refine OwnGo.back (s₁.setTop (mkF m 27 #[.val (.ref ca), .val (.int (0 : Int32)), .val (.ref b), .val (.int (0 : Int32)), .val (.int (2 : Int32)), .val (.int (0 : Int32)), .val (.int x0)] [(.ref b)])) (fun tg kk => XS.aloadN X0.here hx rfl (hb hby own_d5_26) rfl rfl kk) ?_
  refine OwnGo.back (s₁.setTop (mkF m 28 #[.val (.ref ca), .val (.int (0 : Int32)), .val (.ref b), .val (.int (0 : Int32)), .val (.int (2 : Int32)), .val (.int (0 : Int32)), .val (.int x0)] [(.int (0 : Int32)), (.ref b)])) (fun tg kk => XS.iloadN X0.here hx rfl (hb hby own_d5_27) rfl kk) ?_
  refine OwnGo.back (s₁.setTop (mkF m 30 #[.val (.ref ca), .val (.int (0 : Int32)), .val (.ref b), .val (.int (0 : Int32)), .val (.int (2 : Int32)), .val (.int (0 : Int32)), .val (.int x0)] [(.int x0), (.int (0 : Int32)), (.ref b)])) (fun tg kk => XS.iload X0.here hx rfl (hb hby own_d5_28) rfl kk) ?_
  refine OwnGo.back (s₁.setTop (mkF m 31 #[.val (.ref ca), .val (.int (0 : Int32)), .val (.ref b), .val (.int (0 : Int32)), .val (.int (2 : Int32)), .val (.int (0 : Int32)), .val (.int x0)] [(.int (x0.toInt8.toInt32)), (.int (0 : Int32)), (.ref b)])) (fun tg kk => XS.i2b X0.here hx rfl (hb hby own_d5_30) rfl kk) ?_
  obtain ⟨cl_2, Ar_2, qq_2, Sz_2, Ng_2, Hs_2, Gf_2⟩ := id B
  have hin_2 : ¬ ((0 : Int32) < 0 ∨ cl_2.slots.size ≤ ((0 : Int32)).toNatClampNeg) := inb_of Sz_2 ⟨by decide, by decide⟩
  obtain ⟨T3, h3, X3, e3, W3, st3⟩ := stB X0 hx hZ e0 Ar_2 (j := (0 : Int32)) hin_2 (g := (mkF m 31 #[.val (.ref ca), .val (.int (0 : Int32)), .val (.ref b), .val (.int (0 : Int32)), .val (.int (2 : Int32)), .val (.int (0 : Int32)), .val (.int x0)] [(.int (x0.toInt8.toInt32)), (.int (0 : Int32)), (.ref b)])) rfl rfl (hb hby own_d5_31)
  have f4 : Arv Z h3 b kb .byte (2 : Int32) [(.int (nar .byte (x0.toInt8.toInt32))), (.int (0 : Int32))] (.int (0 : Int32)) := Arv.set Ar_2 qq_2 Sz_2 Ng_2 Hs_2 Gf_2 (fits_nar_byte _) W3 0 rfl (Nat.le_of_ble_eq_true rfl)
  have f5 : Arv Z h3 ca kc .char (2 : Int32) [(.int x0), (.int x1)] (.int (0 : Int32)) := A.other W3 ne
  have K6 : Keep h0 h3 [b] := K0.wr W3 (Or.inl (List.mem_of_getElem? (i := 0) rfl))
  have Z7 : n0 ≤ h3.size := Nat.le_trans Z0 (Keep.of_wr W3).1
  have N8 := Fr.snoc X3 N0 g
  refine OwnGo.back (T3.setTop (mkF m 32 #[.val (.ref ca), .val (.int (0 : Int32)), .val (.ref b), .val (.int (0 : Int32)), .val (.int (2 : Int32)), .val (.int (0 : Int32)), .val (.int x0)] [])) (fun tg kk => st3 _ kk) ?_
  refine OwnGo.back (T3.setTop (mkF m 35 #[.val (.ref ca), .val (.int (1 : Int32)), .val (.ref b), .val (.int (0 : Int32)), .val (.int (2 : Int32)), .val (.int (0 : Int32)), .val (.int x0)] [])) (fun tg kk => XS.iinc X3.here hx rfl (hb hby own_d5_32) rfl (l' := #[.val (.ref ca), .val (.int (1 : Int32)), .val (.ref b), .val (.int (0 : Int32)), .val (.int (2 : Int32)), .val (.int (0 : Int32)), .val (.int x0)]) rfl kk) ?_
  refine OwnGo.back (T3.setTop (mkF m 38 #[.val (.ref ca), .val (.int (1 : Int32)), .val (.ref b), .val (.int (1 : Int32)), .val (.int (2 : Int32)), .val (.int (0 : Int32)), .val (.int x0)] [])) (fun tg kk => XS.iinc X3.here hx rfl (hb hby own_d5_35) rfl (l' := #[.val (.ref ca), .val (.int (1 : Int32)), .val (.ref b), .val (.int (1 : Int32)), .val (.int (2 : Int32)), .val (.int (0 : Int32)), .val (.int x0)]) rfl kk) ?_
  refine OwnGo.back (T3.setTop (mkF m 41 #[.val (.ref ca), .val (.int (1 : Int32)), .val (.ref b), .val (.int (1 : Int32)), .val (.int (2 : Int32)), .val (.int (1 : Int32)), .val (.int x0)] [])) (fun tg kk => XS.iinc X3.here hx rfl (hb hby own_d5_38) rfl (l' := #[.val (.ref ca), .val (.int (1 : Int32)), .val (.ref b), .val (.int (1 : Int32)), .val (.int (2 : Int32)), .val (.int (1 : Int32)), .val (.int x0)]) rfl kk) ?_
  refine OwnGo.back (T3.setTop (mkF m 3 #[.val (.ref ca), .val (.int (1 : Int32)), .val (.ref b), .val (.int (1 : Int32)), .val (.int (2 : Int32)), .val (.int (1 : Int32)), .val (.int x0)] [])) (fun tg kk => XS.goto X3.here hx rfl (pc0 := 41) (pc' := 3) rfl (hb hby own_d5_41) (by decide) (by decide) kk) ?_
  refine OwnGo.back (T3.setTop (mkF m 5 #[.val (.ref ca), .val (.int (1 : Int32)), .val (.ref b), .val (.int (1 : Int32)), .val (.int (2 : Int32)), .val (.int (1 : Int32)), .val (.int x0)] [(.int (1 : Int32))])) (fun tg kk => XS.iload X3.here hx rfl (hb hby own_d5_3) rfl kk) ?_
  refine OwnGo.back (T3.setTop (mkF m 7 #[.val (.ref ca), .val (.int (1 : Int32)), .val (.ref b), .val (.int (1 : Int32)), .val (.int (2 : Int32)), .val (.int (1 : Int32)), .val (.int x0)] [(.int (2 : Int32)), (.int (1 : Int32))])) (fun tg kk => XS.iload X3.here hx rfl (hb hby own_d5_5) rfl kk) ?_
  refine OwnGo.back (T3.setTop (mkF m 10 #[.val (.ref ca), .val (.int (1 : Int32)), .val (.ref b), .val (.int (1 : Int32)), .val (.int (2 : Int32)), .val (.int (1 : Int32)), .val (.int x0)] [])) (fun tg kk => XS.icmpNo X3.here hx rfl (hb hby own_d5_7) rfl (tlt (by decide : (1 : Int32) < (2 : Int32))).2.1 kk) ?_
  refine OwnGo.back (T3.setTop (mkF m 11 #[.val (.ref ca), .val (.int (1 : Int32)), .val (.ref b), .val (.int (1 : Int32)), .val (.int (2 : Int32)), .val (.int (1 : Int32)), .val (.int x0)] [(.ref ca)])) (fun tg kk => XS.aloadN X3.here hx rfl (hb hby own_d5_10) rfl rfl kk) ?_
  refine OwnGo.back (T3.setTop (mkF m 12 #[.val (.ref ca), .val (.int (1 : Int32)), .val (.ref b), .val (.int (1 : Int32)), .val (.int (2 : Int32)), .val (.int (1 : Int32)), .val (.int x0)] [(.int (1 : Int32)), (.ref ca)])) (fun tg kk => XS.iloadN X3.here hx rfl (hb hby own_d5_11) rfl kk) ?_
  obtain ⟨cl_9, Ar_9, qq_9, Sz_9, Ng_9, Hs_9, Gf_9⟩ := id f5
  have hin_9 : ¬ ((1 : Int32) < 0 ∨ cl_9.slots.size ≤ ((1 : Int32)).toNatClampNeg) := inb_of Sz_9 ⟨by decide, by decide⟩
  have hat_9 : cl_9.slots[((1 : Int32)).toNatClampNeg]? = some (.int x1) := Has.at Hs_9 hin_9 rfl
  refine OwnGo.back (T3.setTop (mkF m 13 #[.val (.ref ca), .val (.int (1 : Int32)), .val (.ref b), .val (.int (1 : Int32)), .val (.int (2 : Int32)), .val (.int (1 : Int32)), .val (.int x0)] [(.int x1)])) (fun tg kk => X3.caload hx (j := (1 : Int32)) (v := (.int x1)) (by rw [e3]; exact Ar_9.1) (State.isArrayOf_alike hZ.alike Ar_9.2.1) Ar_9.2.2 hin_9 hat_9 (g := (mkF m 12 #[.val (.ref ca), .val (.int (1 : Int32)), .val (.ref b), .val (.int (1 : Int32)), .val (.int (2 : Int32)), .val (.int (1 : Int32)), .val (.int x0)] [(.int (1 : Int32)), (.ref ca)])) rfl rfl (hb hby own_d5_12) _ kk) ?_
  refine OwnGo.back (T3.setTop (mkF m 15 #[.val (.ref ca), .val (.int (1 : Int32)), .val (.ref b), .val (.int (1 : Int32)), .val (.int (2 : Int32)), .val (.int (1 : Int32)), .val (.int x1)] [])) (fun tg kk => XS.istore X3.here hx rfl (hb hby own_d5_13) rfl (l' := #[.val (.ref ca), .val (.int (1 : Int32)), .val (.ref b), .val (.int (1 : Int32)), .val (.int (2 : Int32)), .val (.int (1 : Int32)), .val (.int x1)]) rfl kk) ?_
  refine OwnGo.back (T3.setTop (mkF m 17 #[.val (.ref ca), .val (.int (1 : Int32)), .val (.ref b), .val (.int (1 : Int32)), .val (.int (2 : Int32)), .val (.int (1 : Int32)), .val (.int x1)] [(.int x1)])) (fun tg kk => XS.iload X3.here hx rfl (hb hby own_d5_15) rfl kk) ?_
  refine OwnGo.back (T3.setTop (mkF m 20 #[.val (.ref ca), .val (.int (1 : Int32)), .val (.ref b), .val (.int (1 : Int32)), .val (.int (2 : Int32)), .val (.int (1 : Int32)), .val (.int x1)] [(.int (255 : Int32)), (.int x1)])) (fun tg kk => XS.sipush X3.here hx rfl (hb hby own_d5_17) kk) ?_
  refine OwnGo.back (T3.setTop (mkF m 26 #[.val (.ref ca), .val (.int (1 : Int32)), .val (.ref b), .val (.int (1 : Int32)), .val (.int (2 : Int32)), .val (.int (1 : Int32)), .val (.int x1)] [])) (fun tg kk => XS.icmpYes X3.here hx rfl (pc0 := 20) (pc' := 26) rfl (hb hby own_d5_20) rfl (flt (hx1 : ¬ ((255 : Int32) < x1))).2.2.2 (by decide) (by decide) kk) ?_
  refine OwnGo.back (T3.setTop (mkF m 27 #[.val (.ref ca), .val (.int (1 : Int32)), .val (.ref b), .val (.int (1 : Int32)), .val (.int (2 : Int32)), .val (.int (1 : Int32)), .val (.int x1)] [(.ref b)])) (fun tg kk => XS.aloadN X3.here hx rfl (hb hby own_d5_26) rfl rfl kk) ?_
  refine OwnGo.back (T3.setTop (mkF m 28 #[.val (.ref ca), .val (.int (1 : Int32)), .val (.ref b), .val (.int (1 : Int32)), .val (.int (2 : Int32)), .val (.int (1 : Int32)), .val (.int x1)] [(.int (1 : Int32)), (.ref b)])) (fun tg kk => XS.iloadN X3.here hx rfl (hb hby own_d5_27) rfl kk) ?_
  refine OwnGo.back (T3.setTop (mkF m 30 #[.val (.ref ca), .val (.int (1 : Int32)), .val (.ref b), .val (.int (1 : Int32)), .val (.int (2 : Int32)), .val (.int (1 : Int32)), .val (.int x1)] [(.int x1), (.int (1 : Int32)), (.ref b)])) (fun tg kk => XS.iload X3.here hx rfl (hb hby own_d5_28) rfl kk) ?_
  refine OwnGo.back (T3.setTop (mkF m 31 #[.val (.ref ca), .val (.int (1 : Int32)), .val (.ref b), .val (.int (1 : Int32)), .val (.int (2 : Int32)), .val (.int (1 : Int32)), .val (.int x1)] [(.int (x1.toInt8.toInt32)), (.int (1 : Int32)), (.ref b)])) (fun tg kk => XS.i2b X3.here hx rfl (hb hby own_d5_30) rfl kk) ?_
  obtain ⟨cl_10, Ar_10, qq_10, Sz_10, Ng_10, Hs_10, Gf_10⟩ := id f4
  have hin_10 : ¬ ((1 : Int32) < 0 ∨ cl_10.slots.size ≤ ((1 : Int32)).toNatClampNeg) := inb_of Sz_10 ⟨by decide, by decide⟩
  obtain ⟨T11, h11, X11, e11, W11, st11⟩ := stB X3 hx hZ e3 Ar_10 (j := (1 : Int32)) hin_10 (g := (mkF m 31 #[.val (.ref ca), .val (.int (1 : Int32)), .val (.ref b), .val (.int (1 : Int32)), .val (.int (2 : Int32)), .val (.int (1 : Int32)), .val (.int x1)] [(.int (x1.toInt8.toInt32)), (.int (1 : Int32)), (.ref b)])) rfl rfl (hb hby own_d5_31)
  have f12 : Arv Z h11 b kb .byte (2 : Int32) [(.int (nar .byte (x0.toInt8.toInt32))), (.int (nar .byte (x1.toInt8.toInt32)))] (.int (0 : Int32)) := Arv.set Ar_10 qq_10 Sz_10 Ng_10 Hs_10 Gf_10 (fits_nar_byte _) W11 1 rfl (Nat.le_of_ble_eq_true rfl)
  have f13 : Arv Z h11 ca kc .char (2 : Int32) [(.int x0), (.int x1)] (.int (0 : Int32)) := f5.other W11 ne
  have K14 : Keep h0 h11 [b] := K6.wr W11 (Or.inl (List.mem_of_getElem? (i := 0) rfl))
  have Z15 : n0 ≤ h11.size := Nat.le_trans Z7 (Keep.of_wr W11).1
  have N16 := Fr.snoc X11 N8 g
  refine OwnGo.back (T11.setTop (mkF m 32 #[.val (.ref ca), .val (.int (1 : Int32)), .val (.ref b), .val (.int (1 : Int32)), .val (.int (2 : Int32)), .val (.int (1 : Int32)), .val (.int x1)] [])) (fun tg kk => st11 _ kk) ?_
  refine OwnGo.back (T11.setTop (mkF m 35 #[.val (.ref ca), .val (.int (2 : Int32)), .val (.ref b), .val (.int (1 : Int32)), .val (.int (2 : Int32)), .val (.int (1 : Int32)), .val (.int x1)] [])) (fun tg kk => XS.iinc X11.here hx rfl (hb hby own_d5_32) rfl (l' := #[.val (.ref ca), .val (.int (2 : Int32)), .val (.ref b), .val (.int (1 : Int32)), .val (.int (2 : Int32)), .val (.int (1 : Int32)), .val (.int x1)]) rfl kk) ?_
  refine OwnGo.back (T11.setTop (mkF m 38 #[.val (.ref ca), .val (.int (2 : Int32)), .val (.ref b), .val (.int (2 : Int32)), .val (.int (2 : Int32)), .val (.int (1 : Int32)), .val (.int x1)] [])) (fun tg kk => XS.iinc X11.here hx rfl (hb hby own_d5_35) rfl (l' := #[.val (.ref ca), .val (.int (2 : Int32)), .val (.ref b), .val (.int (2 : Int32)), .val (.int (2 : Int32)), .val (.int (1 : Int32)), .val (.int x1)]) rfl kk) ?_
  refine OwnGo.back (T11.setTop (mkF m 41 #[.val (.ref ca), .val (.int (2 : Int32)), .val (.ref b), .val (.int (2 : Int32)), .val (.int (2 : Int32)), .val (.int (2 : Int32)), .val (.int x1)] [])) (fun tg kk => XS.iinc X11.here hx rfl (hb hby own_d5_38) rfl (l' := #[.val (.ref ca), .val (.int (2 : Int32)), .val (.ref b), .val (.int (2 : Int32)), .val (.int (2 : Int32)), .val (.int (2 : Int32)), .val (.int x1)]) rfl kk) ?_
  refine OwnGo.back (T11.setTop (mkF m 3 #[.val (.ref ca), .val (.int (2 : Int32)), .val (.ref b), .val (.int (2 : Int32)), .val (.int (2 : Int32)), .val (.int (2 : Int32)), .val (.int x1)] [])) (fun tg kk => XS.goto X11.here hx rfl (pc0 := 41) (pc' := 3) rfl (hb hby own_d5_41) (by decide) (by decide) kk) ?_
  refine OwnGo.back (T11.setTop (mkF m 5 #[.val (.ref ca), .val (.int (2 : Int32)), .val (.ref b), .val (.int (2 : Int32)), .val (.int (2 : Int32)), .val (.int (2 : Int32)), .val (.int x1)] [(.int (2 : Int32))])) (fun tg kk => XS.iload X11.here hx rfl (hb hby own_d5_3) rfl kk) ?_
  refine OwnGo.back (T11.setTop (mkF m 7 #[.val (.ref ca), .val (.int (2 : Int32)), .val (.ref b), .val (.int (2 : Int32)), .val (.int (2 : Int32)), .val (.int (2 : Int32)), .val (.int x1)] [(.int (2 : Int32)), (.int (2 : Int32))])) (fun tg kk => XS.iload X11.here hx rfl (hb hby own_d5_5) rfl kk) ?_
  refine OwnGo.back (T11.setTop (mkF m 44 #[.val (.ref ca), .val (.int (2 : Int32)), .val (.ref b), .val (.int (2 : Int32)), .val (.int (2 : Int32)), .val (.int (2 : Int32)), .val (.int x1)] [])) (fun tg kk => XS.icmpYes X11.here hx rfl (pc0 := 7) (pc' := 44) rfl (hb hby own_d5_7) rfl (flt (by decide : ¬ ((2 : Int32) < (2 : Int32)))).2.1 (by decide) (by decide) kk) ?_
  refine OwnGo.back (T11.setTop (mkF m 46 #[.val (.ref ca), .val (.int (2 : Int32)), .val (.ref b), .val (.int (2 : Int32)), .val (.int (2 : Int32)), .val (.int (2 : Int32)), .val (.int x1)] [(.int (2 : Int32))])) (fun tg kk => XS.iload X11.here hx rfl (hb hby own_d5_44) rfl kk) ?_
  obtain ⟨fs, hr, hrun, hended, hW, hsame⟩ := X11.leave (v := some (.int (2 : Int32))) (fun h => by rw [Bd.returns] at h; cases h)
  refine ⟨_, _, ?_, hrun, hended, _, _, rfl, ?_, ⟨_, rfl⟩, hW, hsame.mono (by decide) (by decide)⟩
  · exact own_retI X11 hx Bd.returns (hb hby own_d5_46) hr
  · show own_cmp_Q Z ca b kc x0 x1 kb h0 n0 _ T11.heap _
    rw [e11]
    exact ⟨rfl, N16, K14, f12⟩
theorem own_cmps_ef (m : MethodId) (x0 : Addr) (x1 : Int32) (x2 : Int32) : entryFrame m #[(.ref x0), (.int x1), (.int x2)] 6 = mkF m 0 #[.val (.ref x0), .val (.int x1), .val (.int x2), .unset, .unset, .unset] [] := by first | (simp [entryFrame, mkF, argsToLocals, Value.category]; done) | rfl
def own_cmps_Q (Z : State) (ca : Addr) (kc : ClassId) (x0 : Int32) (x1 : Int32) (h0 : Heap) (n0 : Nat) (rv : Option Value) (hN : Heap) (LL : List Loc) : Prop := ∃ (b : Addr), ∃ (kb : ClassId), rv = some (.ref b) ∧ Fr n0 LL ∧ Keep h0 hN [] ∧ h0.size ≤ b ∧ Arv Z hN b kb .byte (2 : Int32) [(.int (nar .byte (x0.toInt8.toInt32))), (.int (nar .byte (x1.toInt8.toInt32)))] (.int (0 : Int32))
set_option maxRecDepth 65536 in
set_option maxHeartbeats 40000000 in
theorem own_cmps (l : Launch) (Z : State) (a0 : Array Value) (hw : ∀ d ∈ tables_1, d.before a0 Z = true) (ws : List Jvm.Cond) (ca : Addr) (kc : ClassId) (x0 : Int32) (x1 : Int32) (h0 : Heap) (n0 : Nat) (Z0 : n0 ≤ h0.size) (A : Arv Z h0 ca kc .char (2 : Int32) [(.int x0), (.int x1)] (.int (0 : Int32))) (hx0 : ¬ (255 : Int32) < x0) (hx1 : ¬ (255 : Int32) < x1) :
    MetFree l (⟨"java/lang/StringUTF16", "compress", "([CII)[B"⟩ : MethodName) (head1 (Jvm.Cond.code (⟨"java/lang/StringUTF16", "compress", "([CII)[B"⟩ : MethodName) jdk_52_method_16_code 6 (some (.array .byte)) :: ws) ({ frames := 1, cells := 1, slots := 2, locals := 18 } : Room)) (fun aa UU => aa = #[(.ref ca), (.int (0 : Int32)), (.int (2 : Int32))] ∧ Z.Warmed39 UU.vm ∧ UU.heap = h0) (fun _ _ _ _ _ => True) (fun _ UU oo UU' => ∃ rv LL, oo = .returned rv ∧ own_cmps_Q Z ca kc x0 x1 h0 n0 rv UU'.heap LL ∧ FrameEnd UU oo UU' LL ({ frames := 1, cells := 1, slots := 2, locals := 18 } : Room).cells ({ frames := 1, cells := 1, slots := 2, locals := 18 } : Room).slots) := by
  refine MetFree.of_bodySF (plainFor_of_name own_pn0) hisR ?_
  intro p e s m args below meth c s₁ Bd hml0 hP hK
  obtain ⟨rfl, hZ, hh⟩ := hP
  have hx := Bd.exec
  have hby := Bd.bytes
  have hml : c.maxLocals = 6 := hml0
  have hown : s.vm.findClass "java/lang/StringUTF16" = some m.cls := findClass_of_methodNamed Bd.named
  have hnm := (name_of_methodNamed Bd.named Bd.method).1
  have X0 : Stand p l e ({ frames := 1, cells := 1, slots := 2, locals := 18 } : Room) s m #[(.ref ca), (.int (0 : Int32)), (.int (2 : Int32))] below meth c s₁ [] 0 0 := Stand.of_body Bd
  have e0 : s₁.heap = h0 := by rw [← hh, Bd.state]; rfl
  have N0 := Fr.nil n0
  have K0 : Keep h0 h0 [] := Keep.refl h0 _
  refine (?_ : OwnGo p.tables e below (fun UU' oo => ∃ rv LL, oo = .returned rv ∧ own_cmps_Q Z ca kc x0 x1 h0 n0 rv UU'.heap LL ∧ FrameEnd s oo UU' LL ({ frames := 1, cells := 1, slots := 2, locals := 18 } : Room).cells ({ frames := 1, cells := 1, slots := 2, locals := 18 } : Room).slots) _)
  refine OwnGo.back (s₁.setTop (mkF m 0 #[.val (.ref ca), .val (.int (0 : Int32)), .val (.int (2 : Int32)), .unset, .unset, .unset] [])) (fun tg kk => castTop (own_cmps_ef m ca (0 : Int32) (2 : Int32)) kk) ?_
  refine OwnGo.back (s₁.setTop (mkF m 1 #[.val (.ref ca), .val (.int (0 : Int32)), .val (.int (2 : Int32)), .unset, .unset, .unset] [(.int (2 : Int32))])) (fun tg kk => XS.iloadN X0.here hx rfl (hb hby own_d4_0) rfl kk) ?_
  obtain ⟨T1, h1, k1, X1, e1, E1, A1, st1⟩ := newP X0 hx hZ (hw _ (List.mem_of_getElem? (i := 19) rfl)) e0 (g := (mkF m 1 #[.val (.ref ca), .val (.int (0 : Int32)), .val (.int (2 : Int32)), .unset, .unset, .unset] [(.int (2 : Int32))])) rfl (hb hby own_d4_1) rfl (by decide) (cap := 2) (by decide) (by decide) (by decide) (by decide)
  obtain ⟨b1, q1⟩ : ∃ z, z = h0.size := ⟨_, rfl⟩
  rw [← q1] at A1 st1
  have n2 : ca ≠ b1 := own_ne A.lt q1
  have g3 : n0 ≤ b1 := Nat.le_trans Z0 (Nat.le_of_eq q1.symm)
  have s4 : h0.size ≤ b1 := Nat.le_trans K0.1 (Nat.le_of_eq q1.symm)
  have f5 : Arv Z h1 ca kc .char (2 : Int32) [(.int x0), (.int x1)] (.int (0 : Int32)) := A.ext E1
  have K6 : Keep h0 h1 [] := K0.ext E1
  have Z7 : n0 ≤ h1.size := Nat.le_trans Z0 E1.1
  have f8 : Arv Z h1 b1 k1 .byte (2 : Int32) [(.int (0 : Int32)), (.int (0 : Int32))] (.int (0 : Int32)) := (Arv.new A1 (by decide)).pad (pad_rep [] (.int (0 : Int32)) 2)
  refine OwnGo.back (T1.setTop (mkF m 3 #[.val (.ref ca), .val (.int (0 : Int32)), .val (.int (2 : Int32)), .unset, .unset, .unset] [(.ref b1)])) (fun tg kk => st1 _ kk) ?_
  refine OwnGo.back (T1.setTop (mkF m 4 #[.val (.ref ca), .val (.int (0 : Int32)), .val (.int (2 : Int32)), .val (.ref b1), .unset, .unset] [])) (fun tg kk => XS.astoreN X1.here hx rfl (hb hby own_d4_3) rfl rfl (l' := #[.val (.ref ca), .val (.int (0 : Int32)), .val (.int (2 : Int32)), .val (.ref b1), .unset, .unset]) rfl kk) ?_
  refine OwnGo.back (T1.setTop (mkF m 5 #[.val (.ref ca), .val (.int (0 : Int32)), .val (.int (2 : Int32)), .val (.ref b1), .unset, .unset] [(.ref ca)])) (fun tg kk => XS.aloadN X1.here hx rfl (hb hby own_d4_4) rfl rfl kk) ?_
  refine OwnGo.back (T1.setTop (mkF m 6 #[.val (.ref ca), .val (.int (0 : Int32)), .val (.int (2 : Int32)), .val (.ref b1), .unset, .unset] [(.int (0 : Int32)), (.ref ca)])) (fun tg kk => XS.iloadN X1.here hx rfl (hb hby own_d4_5) rfl kk) ?_
  refine OwnGo.back (T1.setTop (mkF m 7 #[.val (.ref ca), .val (.int (0 : Int32)), .val (.int (2 : Int32)), .val (.ref b1), .unset, .unset] [(.ref b1), (.int (0 : Int32)), (.ref ca)])) (fun tg kk => XS.aloadN X1.here hx rfl (hb hby own_d4_6) rfl rfl kk) ?_
  refine OwnGo.back (T1.setTop (mkF m 8 #[.val (.ref ca), .val (.int (0 : Int32)), .val (.int (2 : Int32)), .val (.ref b1), .unset, .unset] [(.int (0 : Int32)), (.ref b1), (.int (0 : Int32)), (.ref ca)])) (fun tg kk => XS.iconst X1.here hx rfl (hb hby own_d4_7) kk) ?_
  refine OwnGo.back (T1.setTop (mkF m 9 #[.val (.ref ca), .val (.int (0 : Int32)), .val (.int (2 : Int32)), .val (.ref b1), .unset, .unset] [(.int (2 : Int32)), (.int (0 : Int32)), (.ref b1), (.int (0 : Int32)), (.ref ca)])) (fun tg kk => XS.iloadN X1.here hx rfl (hb hby own_d4_8) rfl kk) ?_
  obtain ⟨_, _, ⟨T9, L9, k9, n9⟩, -, X9, ⟨Lc9, hQ9, l9, y9, z9⟩, st9⟩ := Jvm.LawKit.callS X1 hx (y := (⟨"java/lang/StringUTF16", "compress", "([CI[BII)I"⟩ : MethodName)) hown (mvT hZ (hw _ (List.mem_of_getElem? (i := 20) rfl))) (mvT hZ (hw _ (List.mem_of_getElem? (i := 21) rfl))) (mvT hZ (hw _ (List.mem_of_getElem? (i := 17) rfl))) (mvT hZ (hw _ (List.mem_of_getElem? (i := 22) rfl))) (by decide) (backOf (W := 0) (own_cmp l Z a0 hw [] ca b1 kc x0 x1 k1 h1 n0 Z7 f5 hx0 hx1 f8 n2 g3) hZ (hw _ (List.mem_of_getElem? (i := 22) rfl)) (hw _ (List.mem_of_getElem? (i := 17) rfl)) (by decide) (by decide)) (g := (mkF m 9 #[.val (.ref ca), .val (.int (0 : Int32)), .val (.int (2 : Int32)), .val (.ref b1), .unset, .unset] [(.int (2 : Int32)), (.int (0 : Int32)), (.ref b1), (.int (0 : Int32)), (.ref ca)])) rfl (by rw [hml]; rfl) (argsL := [(.ref ca), (.int (0 : Int32)), (.ref b1), (.int (0 : Int32)), (.int (2 : Int32))]) (rest := []) (lenOf own_pd0 rfl) rfl (by show 2 * 0 + _ ≤ _; exact Nat.le_of_eq rfl) (hb hby own_d4_9) (fun _ _ => ⟨rfl, e1, (by decide : 1 + 0 ≤ _), (by decide : 2 + 0 ≤ _)⟩)
  dsimp only [Pt.U, Pt.locs, Pt.cells, Pt.slots] at X9 l9 y9 z9 st9 hQ9
  subst l9 y9 z9
  obtain ⟨rfl, N9q, Kc9, po10⟩ := hQ9
  have N9 := Fr.app N0 N9q
  have f11 : Arv Z T9.heap ca kc .char (2 : Int32) [(.int x0), (.int x1)] (.int (0 : Int32)) := f5.keep Kc9 (ninS n2 nin0)
  have K12 : Keep h0 T9.heap [] := K6.trans Kc9 (allS (Or.inr s4) all0)
  have Z13 : n0 ≤ T9.heap.size := Nat.le_trans Z7 Kc9.1
  refine OwnGo.back (T9.setTop (mkF m 12 #[.val (.ref ca), .val (.int (0 : Int32)), .val (.int (2 : Int32)), .val (.ref b1), .unset, .unset] [(.int (2 : Int32))])) (fun tg kk => st9 _ kk) ?_
  refine OwnGo.back (T9.setTop (mkF m 14 #[.val (.ref ca), .val (.int (0 : Int32)), .val (.int (2 : Int32)), .val (.ref b1), .val (.int (2 : Int32)), .unset] [])) (fun tg kk => XS.istore X9.here hx rfl (hb hby own_d4_12) rfl (l' := #[.val (.ref ca), .val (.int (0 : Int32)), .val (.int (2 : Int32)), .val (.ref b1), .val (.int (2 : Int32)), .unset]) rfl kk) ?_
  refine OwnGo.back (T9.setTop (mkF m 16 #[.val (.ref ca), .val (.int (0 : Int32)), .val (.int (2 : Int32)), .val (.ref b1), .val (.int (2 : Int32)), .unset] [(.int (2 : Int32))])) (fun tg kk => XS.iload X9.here hx rfl (hb hby own_d4_14) rfl kk) ?_
  refine OwnGo.back (T9.setTop (mkF m 17 #[.val (.ref ca), .val (.int (0 : Int32)), .val (.int (2 : Int32)), .val (.ref b1), .val (.int (2 : Int32)), .unset] [(.int (2 : Int32)), (.int (2 : Int32))])) (fun tg kk => XS.iloadN X9.here hx rfl (hb hby own_d4_16) rfl kk) ?_
  refine OwnGo.back (T9.setTop (mkF m 57 #[.val (.ref ca), .val (.int (0 : Int32)), .val (.int (2 : Int32)), .val (.ref b1), .val (.int (2 : Int32)), .unset] [])) (fun tg kk => XS.icmpYes X9.here hx rfl (pc0 := 17) (pc' := 57) rfl (hb hby own_d4_17) rfl (teq (by decide : (2 : Int32) = (2 : Int32))).1 (by decide) (by decide) kk) ?_
  refine OwnGo.back (T9.setTop (mkF m 58 #[.val (.ref ca), .val (.int (0 : Int32)), .val (.int (2 : Int32)), .val (.ref b1), .val (.int (2 : Int32)), .unset] [(.ref b1)])) (fun tg kk => XS.aloadN X9.here hx rfl (hb hby own_d4_57) rfl rfl kk) ?_
  obtain ⟨fs, hr, hrun, hended, hW, hsame⟩ := X9.leave (v := some (.ref b1)) (fun h => by rw [Bd.returns] at h; cases h)
  refine ⟨_, _, ?_, hrun, hended, _, _, rfl, ?_, ⟨_, rfl⟩, hW, hsame.mono (by decide) (by decide)⟩
  · exact own_retA X9 hx Bd.returns rfl rfl rfl (hb hby own_d4_58) hr
  · show own_cmps_Q Z ca kc x0 x1 h0 n0 _ T9.heap _
    exact ⟨b1, k1, rfl, N9, K12, s4, po10⟩
theorem own_cfl_ef (m : MethodId) (x0 : Addr) (x1 : Int32) : entryFrame m #[(.ref x0), (.int x1)] 2 = mkF m 0 #[.val (.ref x0), .val (.int x1)] [] := by first | (simp [entryFrame, mkF, argsToLocals, Value.category]; done) | rfl
def own_cfl_Q (Z : State) (b : Addr) (kb : ClassId) (v0 : Value) (v1 : Value) (h0 : Heap) (n0 : Nat) (rv : Option Value) (hN : Heap) (LL : List Loc) : Prop := rv = some (.int (0 : Int32)) ∧ Fr n0 LL ∧ hN = h0
set_option maxRecDepth 65536 in
set_option maxHeartbeats 40000000 in
theorem own_cfl (l : Launch) (Z : State) (a0 : Array Value) (hw : ∀ d ∈ tables_1, d.before a0 Z = true) (ws : List Jvm.Cond) (b : Addr) (kb : ClassId) (v0 : Value) (v1 : Value) (h0 : Heap) (n0 : Nat) (Z0 : n0 ≤ h0.size) (B : Arv Z h0 b kb .byte (2 : Int32) [v0, v1] (.int (0 : Int32))) :
    MetFree l (⟨"java/lang/StringUTF16", "coderFromArrayLen", "([BI)B"⟩ : MethodName) (head1 (Jvm.Cond.code (⟨"java/lang/StringUTF16", "coderFromArrayLen", "([BI)B"⟩ : MethodName) jdk_52_method_15_code 2 (some .byte) :: ws) ({ frames := 0, cells := 0, slots := 0, locals := 0 } : Room)) (fun aa UU => aa = #[(.ref b), (.int (2 : Int32))] ∧ Z.Warmed39 UU.vm ∧ UU.heap = h0) (fun _ _ _ _ _ => True) (fun _ UU oo UU' => ∃ rv LL, oo = .returned rv ∧ own_cfl_Q Z b kb v0 v1 h0 n0 rv UU'.heap LL ∧ FrameEnd UU oo UU' LL ({ frames := 0, cells := 0, slots := 0, locals := 0 } : Room).cells ({ frames := 0, cells := 0, slots := 0, locals := 0 } : Room).slots) := by
  refine MetFree.of_bodySF (plainFor_of_name own_pn0) hisR ?_
  intro p e s m args below meth c s₁ Bd hml0 hP hK
  obtain ⟨rfl, hZ, hh⟩ := hP
  have hx := Bd.exec
  have hby := Bd.bytes
  have hml : c.maxLocals = 2 := hml0
  have hown : s.vm.findClass "java/lang/StringUTF16" = some m.cls := findClass_of_methodNamed Bd.named
  have hnm := (name_of_methodNamed Bd.named Bd.method).1
  have X0 : Stand p l e ({ frames := 0, cells := 0, slots := 0, locals := 0 } : Room) s m #[(.ref b), (.int (2 : Int32))] below meth c s₁ [] 0 0 := Stand.of_body Bd
  have e0 : s₁.heap = h0 := by rw [← hh, Bd.state]; rfl
  have N0 := Fr.nil n0
  have K0 : Keep h0 h0 [] := Keep.refl h0 _
  refine (?_ : OwnGo p.tables e below (fun UU' oo => ∃ rv LL, oo = .returned rv ∧ own_cfl_Q Z b kb v0 v1 h0 n0 rv UU'.heap LL ∧ FrameEnd s oo UU' LL ({ frames := 0, cells := 0, slots := 0, locals := 0 } : Room).cells ({ frames := 0, cells := 0, slots := 0, locals := 0 } : Room).slots) _)
  refine OwnGo.back (s₁.setTop (mkF m 0 #[.val (.ref b), .val (.int (2 : Int32))] [])) (fun tg kk => castTop (own_cfl_ef m b (2 : Int32)) kk) ?_
  refine OwnGo.back (s₁.setTop (mkF m 1 #[.val (.ref b), .val (.int (2 : Int32))] [(.int (2 : Int32))])) (fun tg kk => XS.iloadN X0.here hx rfl (hb hby own_d6_0) rfl kk) ?_
  refine OwnGo.back (s₁.setTop (mkF m 2 #[.val (.ref b), .val (.int (2 : Int32))] [(.ref b), (.int (2 : Int32))])) (fun tg kk => XS.aloadN X0.here hx rfl (hb hby own_d6_1) rfl rfl kk) ?_
  obtain ⟨cl_1, Ar_1, -, Sz_1, Ng_1, -, -⟩ := id B
  refine OwnGo.back (s₁.setTop (mkF m 3 #[.val (.ref b), .val (.int (2 : Int32))] [(.int (2 : Int32)), (.int (2 : Int32))])) (fun tg kk => X0.arraylength hx (by rw [e0]; exact Ar_1.1) (State.isArrayOf_alike hZ.alike Ar_1.2.1) (g := (mkF m 2 #[.val (.ref b), .val (.int (2 : Int32))] [(.ref b), (.int (2 : Int32))])) rfl rfl (hb hby own_d6_2) _ (by rw [len_of Sz_1 Ng_1]; exact kk)) ?_
  refine OwnGo.back (s₁.setTop (mkF m 4 #[.val (.ref b), .val (.int (2 : Int32))] [(.int (0 : Int32))])) (fun tg kk => XS.isub X0.here hx rfl (hb hby own_d6_3) rfl kk) ?_
  refine OwnGo.back (s₁.setTop (mkF m 6 #[.val (.ref b), .val (.int (2 : Int32))] [(.int (31 : Int32)), (.int (0 : Int32))])) (fun tg kk => XS.bipush X0.here hx rfl (hb hby own_d6_4) kk) ?_
  refine OwnGo.back (s₁.setTop (mkF m 7 #[.val (.ref b), .val (.int (2 : Int32))] [(.int (0 : Int32))])) (fun tg kk => XS.iushr X0.here hx rfl (hb hby own_d6_6) rfl kk) ?_
  refine OwnGo.back (s₁.setTop (mkF m 8 #[.val (.ref b), .val (.int (2 : Int32))] [(.int (0 : Int32))])) (fun tg kk => XS.i2b X0.here hx rfl (hb hby own_d6_7) rfl kk) ?_
  obtain ⟨fs, hr, hrun, hended, hW, hsame⟩ := X0.leave (v := some (.int (0 : Int32))) (fun h => by rw [Bd.returns] at h; cases h)
  refine ⟨_, _, ?_, hrun, hended, _, _, rfl, ?_, ⟨_, rfl⟩, hW, hsame.mono (by decide) (by decide)⟩
  · exact retN X0 hx (t := .byte) Bd.returns (by simp) (hb hby own_d6_8) hr
  · show own_cfl_Q Z b kb v0 v1 h0 n0 _ s₁.heap _
    rw [e0]
    exact ⟨rfl, N0, rfl⟩
theorem own_sin4_ef (m : MethodId) (x0 : Addr) (x1 : Addr) (x2 : Int32) (x3 : Int32) : entryFrame m #[(.ref x0), (.ref x1), (.int x2), (.int x3), .null] 6 = mkF m 0 #[.val (.ref x0), .val (.ref x1), .val (.int x2), .val (.int x3), .val .null, .unset] [] := by first | (simp [entryFrame, mkF, argsToLocals, Value.category]; done) | rfl
def own_sin4_Q (Z : State) (a : Addr) (ca : Addr) (kc : ClassId) (x0 : Int32) (x1 : Int32) (cs : Int32) (h0 : Heap) (n0 : Nat) (rv : Option Value) (hN : Heap) (LL : List Loc) : Prop := rv = none ∧ Fr n0 LL ∧ Keep h0 hN [a] ∧ Exa Z hN a "java/lang/String"
set_option maxRecDepth 65536 in
set_option maxHeartbeats 40000000 in
theorem own_sin4 (l : Launch) (Z : State) (a0 : Array Value) (hw : ∀ d ∈ tables_1, d.before a0 Z = true) (ws : List Jvm.Cond) (a : Addr) (ca : Addr) (kc : ClassId) (x0 : Int32) (x1 : Int32) (cs : Int32) (h0 : Heap) (n0 : Nat) (Z0 : n0 ≤ h0.size) (A : Arv Z h0 ca kc .char (2 : Int32) [(.int x0), (.int x1)] (.int (0 : Int32))) (hx0 : ¬ (255 : Int32) < x0) (hx1 : ¬ (255 : Int32) < x1) (S : Sta Z Z.heap "java/lang/String" "COMPACT_STRINGS" "Z" (.int cs)) (old : Old Z n0 h0) (hcs : ¬ cs = 0) (H0 : Exa Z h0 a "java/lang/String") (H1 : Fld Z h0 a "java/lang/String" "value" "[B" .null) (H2 : Fld Z h0 a "java/lang/String" "coder" "B" (.int (0 : Int32))) (H3 : n0 ≤ a) (H4 : a ≠ ca) :
    MetFree l (⟨"java/lang/String", "<init>", "([CIILjava/lang/Void;)V"⟩ : MethodName) (head1 (Jvm.Cond.code (⟨"java/lang/String", "<init>", "([CIILjava/lang/Void;)V"⟩ : MethodName) jdk_42_method_149_code 6 none :: ws) ({ frames := 2, cells := 1, slots := 2, locals := 35 } : Room)) (fun aa UU => aa = #[(.ref a), (.ref ca), (.int (0 : Int32)), (.int (2 : Int32)), .null] ∧ Z.Warmed39 UU.vm ∧ UU.heap = h0) (fun _ _ _ _ _ => True) (fun _ UU oo UU' => ∃ rv LL, oo = .returned rv ∧ own_sin4_Q Z a ca kc x0 x1 cs h0 n0 rv UU'.heap LL ∧ FrameEnd UU oo UU' LL ({ frames := 2, cells := 1, slots := 2, locals := 35 } : Room).cells ({ frames := 2, cells := 1, slots := 2, locals := 35 } : Room).slots) := by
  refine MetFree.of_bodySF (plainFor_of_name own_pn1) hisR ?_
  intro p e s m args below meth c s₁ Bd hml0 hP hK
  obtain ⟨rfl, hZ, hh⟩ := hP
  have hx := Bd.exec
  have hby := Bd.bytes
  have hml : c.maxLocals = 6 := hml0
  have hown : s.vm.findClass "java/lang/String" = some m.cls := findClass_of_methodNamed Bd.named
  have hnm := (name_of_methodNamed Bd.named Bd.method).1
  have X0 : Stand p l e ({ frames := 2, cells := 1, slots := 2, locals := 35 } : Room) s m #[(.ref a), (.ref ca), (.int (0 : Int32)), (.int (2 : Int32)), .null] below meth c s₁ [] 0 0 := Stand.of_body Bd
  have e0 : s₁.heap = h0 := by rw [← hh, Bd.state]; rfl
  have N0 := Fr.nil n0
  have K0 : Keep h0 h0 [a] := Keep.refl h0 _
  refine (?_ : OwnGo p.tables e below (fun UU' oo => ∃ rv LL, oo = .returned rv ∧ own_sin4_Q Z a ca kc x0 x1 cs h0 n0 rv UU'.heap LL ∧ FrameEnd s oo UU' LL ({ frames := 2, cells := 1, slots := 2, locals := 35 } : Room).cells ({ frames := 2, cells := 1, slots := 2, locals := 35 } : Room).slots) _)
  refine OwnGo.back (s₁.setTop (mkF m 0 #[.val (.ref a), .val (.ref ca), .val (.int (0 : Int32)), .val (.int (2 : Int32)), .val .null, .unset] [])) (fun tg kk => castTop (own_sin4_ef m a ca (0 : Int32) (2 : Int32)) kk) ?_
  refine OwnGo.back (s₁.setTop (mkF m 1 #[.val (.ref a), .val (.ref ca), .val (.int (0 : Int32)), .val (.int (2 : Int32)), .val .null, .unset] [(.ref a)])) (fun tg kk => XS.aloadN X0.here hx rfl (hb hby own_d2_0) rfl rfl kk) ?_
  obtain ⟨T1, X1, e1, st1⟩ := initO X0 hx hZ hown (hw _ (List.mem_of_getElem? (i := 11) rfl)) (hw _ (List.mem_of_getElem? (i := 12) rfl)) (hw _ (List.mem_of_getElem? (i := 13) rfl)) e0 (g := (mkF m 1 #[.val (.ref a), .val (.ref ca), .val (.int (0 : Int32)), .val (.int (2 : Int32)), .val .null, .unset] [(.ref a)])) rfl (by rw [hml]; rfl) rfl (hb hby own_d2_1) (by decide) (W := 0) (by show 2 * 0 + _ ≤ _; exact Nat.le_of_eq rfl) (by decide)
  refine OwnGo.back (T1.setTop (mkF m 4 #[.val (.ref a), .val (.ref ca), .val (.int (0 : Int32)), .val (.int (2 : Int32)), .val .null, .unset] [])) (fun tg kk => st1 _ kk) ?_
  refine OwnGo.back (T1.setTop (mkF m 5 #[.val (.ref a), .val (.ref ca), .val (.int (0 : Int32)), .val (.int (2 : Int32)), .val .null, .unset] [(.int (2 : Int32))])) (fun tg kk => XS.iloadN X1.here hx rfl (hb hby own_d2_4) rfl kk) ?_
  refine OwnGo.back (T1.setTop (mkF m 27 #[.val (.ref a), .val (.ref ca), .val (.int (0 : Int32)), .val (.int (2 : Int32)), .val .null, .unset] [])) (fun tg kk => XS.ifYes X1.here hx rfl (pc0 := 5) (pc' := 27) rfl (hb hby own_d2_5) rfl ((if0 _ _).trans (feq (by decide : ¬ ((2 : Int32) = (0 : Int32)))).2) (by decide) (by decide) kk) ?_
  obtain ⟨T2, X2, e2, st2⟩ := getS2 X1 hx hZ hown (host := "") (Or.inl (hw _ (List.mem_of_getElem? (i := 14) rfl))) Via.refl e1 (S.ext old.2) (g := (mkF m 27 #[.val (.ref a), .val (.ref ca), .val (.int (0 : Int32)), .val (.int (2 : Int32)), .val .null, .unset] [])) rfl (hb hby own_d2_27)
  refine OwnGo.back (T2.setTop (mkF m 30 #[.val (.ref a), .val (.ref ca), .val (.int (0 : Int32)), .val (.int (2 : Int32)), .val .null, .unset] [(.int cs)])) (fun tg kk => st2 _ kk) ?_
  refine OwnGo.back (T2.setTop (mkF m 33 #[.val (.ref a), .val (.ref ca), .val (.int (0 : Int32)), .val (.int (2 : Int32)), .val .null, .unset] [])) (fun tg kk => XS.ifNo X2.here hx rfl (hb hby own_d2_30) rfl ((if0 _ _).trans (feq (hcs : ¬ (cs = (0 : Int32)))).1) kk) ?_
  refine OwnGo.back (T2.setTop (mkF m 34 #[.val (.ref a), .val (.ref ca), .val (.int (0 : Int32)), .val (.int (2 : Int32)), .val .null, .unset] [(.ref ca)])) (fun tg kk => XS.aloadN X2.here hx rfl (hb hby own_d2_33) rfl rfl kk) ?_
  refine OwnGo.back (T2.setTop (mkF m 35 #[.val (.ref a), .val (.ref ca), .val (.int (0 : Int32)), .val (.int (2 : Int32)), .val .null, .unset] [(.int (0 : Int32)), (.ref ca)])) (fun tg kk => XS.iloadN X2.here hx rfl (hb hby own_d2_34) rfl kk) ?_
  refine OwnGo.back (T2.setTop (mkF m 36 #[.val (.ref a), .val (.ref ca), .val (.int (0 : Int32)), .val (.int (2 : Int32)), .val .null, .unset] [(.int (2 : Int32)), (.int (0 : Int32)), (.ref ca)])) (fun tg kk => XS.iloadN X2.here hx rfl (hb hby own_d2_35) rfl kk) ?_
  obtain ⟨_, _, ⟨T3, L3, k3, n3⟩, -, X3, ⟨Lc3, hQ3, l3, y3, z3⟩, st3⟩ := Jvm.LawKit.callS X2 hx (y := (⟨"java/lang/StringUTF16", "compress", "([CII)[B"⟩ : MethodName)) hown (mvT hZ (hw _ (List.mem_of_getElem? (i := 15) rfl))) (mvT hZ (hw _ (List.mem_of_getElem? (i := 16) rfl))) (mvT hZ (hw _ (List.mem_of_getElem? (i := 17) rfl))) (mvT hZ (hw _ (List.mem_of_getElem? (i := 18) rfl))) (by decide) (backOf (W := 0) (own_cmps l Z a0 hw [] ca kc x0 x1 h0 n0 Z0 A hx0 hx1) hZ (hw _ (List.mem_of_getElem? (i := 18) rfl)) (hw _ (List.mem_of_getElem? (i := 17) rfl)) (by decide) (by decide)) (g := (mkF m 36 #[.val (.ref a), .val (.ref ca), .val (.int (0 : Int32)), .val (.int (2 : Int32)), .val .null, .unset] [(.int (2 : Int32)), (.int (0 : Int32)), (.ref ca)])) rfl (by rw [hml]; rfl) (argsL := [(.ref ca), (.int (0 : Int32)), (.int (2 : Int32))]) (rest := []) (lenOf own_pd1 rfl) rfl (by show 2 * 0 + _ ≤ _; exact Nat.le_of_eq rfl) (hb hby own_d2_36) (fun _ _ => ⟨rfl, e2, (by decide : 0 + 1 ≤ _), (by decide : 0 + 2 ≤ _)⟩)
  dsimp only [Pt.U, Pt.locs, Pt.cells, Pt.slots] at X3 l3 y3 z3 st3 hQ3
  subst l3 y3 z3
  obtain ⟨b_4, kb_5, rfl, N3q, Kc3, po6, po7⟩ := hQ3
  have N3 := Fr.app N0 N3q
  have f8 : Arv Z T3.heap ca kc .char (2 : Int32) [(.int x0), (.int x1)] (.int (0 : Int32)) := A.keep Kc3 nin0
  have f9 : Old Z n0 T3.heap := old.keep Kc3 all0
  have f10 : Exa Z T3.heap a "java/lang/String" := H0.keep Kc3
  have f11 : Fld Z T3.heap a "java/lang/String" "value" "[B" .null := H1.keep Kc3 nin0
  have f12 : Fld Z T3.heap a "java/lang/String" "coder" "B" (.int (0 : Int32)) := H2.keep Kc3 nin0
  have K13 : Keep h0 T3.heap [a] := K0.trans Kc3 all0
  have Z14 : n0 ≤ T3.heap.size := Nat.le_trans Z0 Kc3.1
  have n15 : a ≠ b_4 := own_ne' H0.lt po6
  have n16 : ca ≠ b_4 := own_ne' A.lt po6
  have g17 : n0 ≤ b_4 := Nat.le_trans Z0 po6
  have s18 : h0.size ≤ b_4 := Nat.le_trans K0.1 po6
  refine OwnGo.back (T3.setTop (mkF m 39 #[.val (.ref a), .val (.ref ca), .val (.int (0 : Int32)), .val (.int (2 : Int32)), .val .null, .unset] [(.ref b_4)])) (fun tg kk => st3 _ kk) ?_
  refine OwnGo.back (T3.setTop (mkF m 41 #[.val (.ref a), .val (.ref ca), .val (.int (0 : Int32)), .val (.int (2 : Int32)), .val .null, .val (.ref b_4)] [])) (fun tg kk => XS.astore X3.here hx rfl (hb hby own_d2_39) rfl rfl (l' := #[.val (.ref a), .val (.ref ca), .val (.int (0 : Int32)), .val (.int (2 : Int32)), .val .null, .val (.ref b_4)]) rfl kk) ?_
  refine OwnGo.back (T3.setTop (mkF m 42 #[.val (.ref a), .val (.ref ca), .val (.int (0 : Int32)), .val (.int (2 : Int32)), .val .null, .val (.ref b_4)] [(.ref a)])) (fun tg kk => XS.aloadN X3.here hx rfl (hb hby own_d2_41) rfl rfl kk) ?_
  refine OwnGo.back (T3.setTop (mkF m 44 #[.val (.ref a), .val (.ref ca), .val (.int (0 : Int32)), .val (.int (2 : Int32)), .val .null, .val (.ref b_4)] [(.ref b_4), (.ref a)])) (fun tg kk => XS.aload X3.here hx rfl (hb hby own_d2_42) rfl rfl kk) ?_
  refine OwnGo.back (T3.setTop (mkF m 45 #[.val (.ref a), .val (.ref ca), .val (.int (0 : Int32)), .val (.int (2 : Int32)), .val .null, .val (.ref b_4)] [(.int (2 : Int32)), (.ref b_4), (.ref a)])) (fun tg kk => XS.iloadN X3.here hx rfl (hb hby own_d2_44) rfl kk) ?_
  obtain ⟨_, _, ⟨T19, L19, k19, n19⟩, -, X19, ⟨Lc19, hQ19, l19, y19, z19⟩, st19⟩ := Jvm.LawKit.callS X3 hx (y := (⟨"java/lang/StringUTF16", "coderFromArrayLen", "([BI)B"⟩ : MethodName)) hown (mvT hZ (hw _ (List.mem_of_getElem? (i := 23) rfl))) (mvT hZ (hw _ (List.mem_of_getElem? (i := 24) rfl))) (mvT hZ (hw _ (List.mem_of_getElem? (i := 17) rfl))) (mvT hZ (hw _ (List.mem_of_getElem? (i := 25) rfl))) (by decide) (backOf (W := 1) (own_cfl l Z a0 hw [] b_4 kb_5 (.int (nar .byte (x0.toInt8.toInt32))) (.int (nar .byte (x1.toInt8.toInt32))) T3.heap n0 Z14 po7) hZ (hw _ (List.mem_of_getElem? (i := 25) rfl)) (hw _ (List.mem_of_getElem? (i := 17) rfl)) (by decide) (by decide)) (g := (mkF m 45 #[.val (.ref a), .val (.ref ca), .val (.int (0 : Int32)), .val (.int (2 : Int32)), .val .null, .val (.ref b_4)] [(.int (2 : Int32)), (.ref b_4), (.ref a)])) rfl (by rw [hml]; rfl) (argsL := [(.ref b_4), (.int (2 : Int32))]) (rest := [(.ref a)]) (lenOf own_pd2 rfl) rfl (by show 2 * 0 + _ ≤ _; exact Nat.le_of_eq rfl) (hb hby own_d2_45) (fun _ _ => ⟨rfl, rfl, (by decide : 1 + 0 ≤ _), (by decide : 2 + 0 ≤ _)⟩)
  dsimp only [Pt.U, Pt.locs, Pt.cells, Pt.slots] at X19 l19 y19 z19 st19 hQ19
  subst l19 y19 z19
  obtain ⟨rfl, N19q, e19⟩ := hQ19
  have N19 := Fr.app N3 N19q
  refine OwnGo.back (T19.setTop (mkF m 48 #[.val (.ref a), .val (.ref ca), .val (.int (0 : Int32)), .val (.int (2 : Int32)), .val .null, .val (.ref b_4)] [(.int (0 : Int32)), (.ref a)])) (fun tg kk => st19 _ kk) ?_
  obtain ⟨T20, h20, X20, e20, W20, st20⟩ := putF X19 hx hZ hown (host := "") (Or.inl (hw _ (List.mem_of_getElem? (i := 26) rfl))) Via.refl e19 f12 f10 (Or.inr ⟨(hw _ (List.mem_of_getElem? (i := 27) rfl)), rfl, hnm⟩) (hw _ (List.mem_of_getElem? (i := 2) rfl)) (ty := .byte) (by decide) rfl rfl (g := (mkF m 48 #[.val (.ref a), .val (.ref ca), .val (.int (0 : Int32)), .val (.int (2 : Int32)), .val .null, .val (.ref b_4)] [(.int (0 : Int32)), (.ref a)])) rfl rfl (hb hby own_d2_48)
  have f21 : Fld Z h20 a "java/lang/String" "coder" "B" (.int (0 : Int32)) := f12.same W20
  have f22 : Arv Z h20 ca kc .char (2 : Int32) [(.int x0), (.int x1)] (.int (0 : Int32)) := f8.other W20 (Ne.symm H4)
  have f23 : Old Z n0 h20 := f9.wr W20 H3
  have f24 : Exa Z h20 a "java/lang/String" := f10.wr W20
  have f25 : Fld Z h20 a "java/lang/String" "value" "[B" .null := f11.other W20 (Or.inr (slot_ne (Or.inr (hw _ (List.mem_of_getElem? (i := 29) rfl))) (Or.inr (hw _ (List.mem_of_getElem? (i := 27) rfl))) (by decide) (t := (.array .byte)) (t' := .byte) (by decide) (by decide)))
  have f26 : Arv Z h20 b_4 kb_5 .byte (2 : Int32) [(.int (nar .byte (x0.toInt8.toInt32))), (.int (nar .byte (x1.toInt8.toInt32)))] (.int (0 : Int32)) := po7.other W20 (Ne.symm n15)
  have K27 : Keep h0 h20 [a] := K13.wr W20 (Or.inl (List.mem_of_getElem? (i := 0) rfl))
  have Z28 : n0 ≤ h20.size := Nat.le_trans Z14 (Keep.of_wr W20).1
  have N29 := Fr.snoc X20 N19 H3
  refine OwnGo.back (T20.setTop (mkF m 51 #[.val (.ref a), .val (.ref ca), .val (.int (0 : Int32)), .val (.int (2 : Int32)), .val .null, .val (.ref b_4)] [])) (fun tg kk => st20 _ kk) ?_
  refine OwnGo.back (T20.setTop (mkF m 52 #[.val (.ref a), .val (.ref ca), .val (.int (0 : Int32)), .val (.int (2 : Int32)), .val .null, .val (.ref b_4)] [(.ref a)])) (fun tg kk => XS.aloadN X20.here hx rfl (hb hby own_d2_51) rfl rfl kk) ?_
  refine OwnGo.back (T20.setTop (mkF m 54 #[.val (.ref a), .val (.ref ca), .val (.int (0 : Int32)), .val (.int (2 : Int32)), .val .null, .val (.ref b_4)] [(.ref b_4), (.ref a)])) (fun tg kk => XS.aload X20.here hx rfl (hb hby own_d2_52) rfl rfl kk) ?_
  obtain ⟨T30, h30, X30, e30, W30, st30⟩ := putF X20 hx hZ hown (host := "") (Or.inl (hw _ (List.mem_of_getElem? (i := 28) rfl))) Via.refl e20 f25 f24 (Or.inr ⟨(hw _ (List.mem_of_getElem? (i := 29) rfl)), rfl, hnm⟩) (hw _ (List.mem_of_getElem? (i := 2) rfl)) (ty := (.array .byte)) (by decide) rfl rfl (g := (mkF m 54 #[.val (.ref a), .val (.ref ca), .val (.int (0 : Int32)), .val (.int (2 : Int32)), .val .null, .val (.ref b_4)] [(.ref b_4), (.ref a)])) rfl rfl (hb hby own_d2_54)
  have f31 : Fld Z h30 a "java/lang/String" "value" "[B" (.ref b_4) := f25.same W30
  have f32 : Arv Z h30 ca kc .char (2 : Int32) [(.int x0), (.int x1)] (.int (0 : Int32)) := f22.other W30 (Ne.symm H4)
  have f33 : Old Z n0 h30 := f23.wr W30 H3
  have f34 : Exa Z h30 a "java/lang/String" := f24.wr W30
  have f35 : Arv Z h30 b_4 kb_5 .byte (2 : Int32) [(.int (nar .byte (x0.toInt8.toInt32))), (.int (nar .byte (x1.toInt8.toInt32)))] (.int (0 : Int32)) := f26.other W30 (Ne.symm n15)
  have f36 : Fld Z h30 a "java/lang/String" "coder" "B" (.int (0 : Int32)) := f21.other W30 (Or.inr (slot_ne (Or.inr (hw _ (List.mem_of_getElem? (i := 27) rfl))) (Or.inr (hw _ (List.mem_of_getElem? (i := 29) rfl))) (by decide) (t := .byte) (t' := (.array .byte)) (by decide) (by decide)))
  have K37 : Keep h0 h30 [a] := K27.wr W30 (Or.inl (List.mem_of_getElem? (i := 0) rfl))
  have Z38 : n0 ≤ h30.size := Nat.le_trans Z28 (Keep.of_wr W30).1
  have N39 := Fr.snoc X30 N29 H3
  refine OwnGo.back (T30.setTop (mkF m 57 #[.val (.ref a), .val (.ref ca), .val (.int (0 : Int32)), .val (.int (2 : Int32)), .val .null, .val (.ref b_4)] [])) (fun tg kk => st30 _ kk) ?_
  obtain ⟨fs, hr, hrun, hended, hW, hsame⟩ := X30.leave (v := none) (fun _ => rfl)
  refine ⟨_, _, ?_, hrun, hended, _, _, rfl, ?_, ⟨_, rfl⟩, hW, hsame.mono (by decide) (by decide)⟩
  · exact X30.returnOut hx Bd.returns (hb hby own_d2_57) hr
  · show own_sin4_Q Z a ca kc x0 x1 cs h0 n0 _ T30.heap _
    rw [e30]
    exact ⟨rfl, N39, K37, f34⟩
theorem own_sin1_ef (m : MethodId) (x0 : Addr) (x1 : Addr) : entryFrame m #[(.ref x0), (.ref x1)] 2 = mkF m 0 #[.val (.ref x0), .val (.ref x1)] [] := by first | (simp [entryFrame, mkF, argsToLocals, Value.category]; done) | rfl
def own_sin1_Q (Z : State) (a : Addr) (ca : Addr) (kc : ClassId) (x0 : Int32) (x1 : Int32) (cs : Int32) (h0 : Heap) (n0 : Nat) (rv : Option Value) (hN : Heap) (LL : List Loc) : Prop := rv = none ∧ Fr n0 LL ∧ Keep h0 hN [a] ∧ Exa Z hN a "java/lang/String"
set_option maxRecDepth 65536 in
set_option maxHeartbeats 40000000 in
theorem own_sin1 (l : Launch) (Z : State) (a0 : Array Value) (hw : ∀ d ∈ tables_1, d.before a0 Z = true) (ws : List Jvm.Cond) (a : Addr) (ca : Addr) (kc : ClassId) (x0 : Int32) (x1 : Int32) (cs : Int32) (h0 : Heap) (n0 : Nat) (Z0 : n0 ≤ h0.size) (A : Arv Z h0 ca kc .char (2 : Int32) [(.int x0), (.int x1)] (.int (0 : Int32))) (hx0 : ¬ (255 : Int32) < x0) (hx1 : ¬ (255 : Int32) < x1) (S : Sta Z Z.heap "java/lang/String" "COMPACT_STRINGS" "Z" (.int cs)) (old : Old Z n0 h0) (hcs : ¬ cs = 0) (H0 : Exa Z h0 a "java/lang/String") (H1 : Fld Z h0 a "java/lang/String" "value" "[B" .null) (H2 : Fld Z h0 a "java/lang/String" "coder" "B" (.int (0 : Int32))) (H3 : n0 ≤ a) (H4 : a ≠ ca) :
    MetFree l (⟨"java/lang/String", "<init>", "([C)V"⟩ : MethodName) (head1 (Jvm.Cond.code (⟨"java/lang/String", "<init>", "([C)V"⟩ : MethodName) jdk_42_method_3_code 2 none :: ws) ({ frames := 3, cells := 1, slots := 2, locals := 52 } : Room)) (fun aa UU => aa = #[(.ref a), (.ref ca)] ∧ Z.Warmed39 UU.vm ∧ UU.heap = h0) (fun _ _ _ _ _ => True) (fun _ UU oo UU' => ∃ rv LL, oo = .returned rv ∧ own_sin1_Q Z a ca kc x0 x1 cs h0 n0 rv UU'.heap LL ∧ FrameEnd UU oo UU' LL ({ frames := 3, cells := 1, slots := 2, locals := 52 } : Room).cells ({ frames := 3, cells := 1, slots := 2, locals := 52 } : Room).slots) := by
  refine MetFree.of_bodySF (plainFor_of_name own_pn1) hisR ?_
  intro p e s m args below meth c s₁ Bd hml0 hP hK
  obtain ⟨rfl, hZ, hh⟩ := hP
  have hx := Bd.exec
  have hby := Bd.bytes
  have hml : c.maxLocals = 2 := hml0
  have hown : s.vm.findClass "java/lang/String" = some m.cls := findClass_of_methodNamed Bd.named
  have hnm := (name_of_methodNamed Bd.named Bd.method).1
  have X0 : Stand p l e ({ frames := 3, cells := 1, slots := 2, locals := 52 } : Room) s m #[(.ref a), (.ref ca)] below meth c s₁ [] 0 0 := Stand.of_body Bd
  have e0 : s₁.heap = h0 := by rw [← hh, Bd.state]; rfl
  have N0 := Fr.nil n0
  have K0 : Keep h0 h0 [a] := Keep.refl h0 _
  refine (?_ : OwnGo p.tables e below (fun UU' oo => ∃ rv LL, oo = .returned rv ∧ own_sin1_Q Z a ca kc x0 x1 cs h0 n0 rv UU'.heap LL ∧ FrameEnd s oo UU' LL ({ frames := 3, cells := 1, slots := 2, locals := 52 } : Room).cells ({ frames := 3, cells := 1, slots := 2, locals := 52 } : Room).slots) _)
  refine OwnGo.back (s₁.setTop (mkF m 0 #[.val (.ref a), .val (.ref ca)] [])) (fun tg kk => castTop (own_sin1_ef m a ca) kk) ?_
  refine OwnGo.back (s₁.setTop (mkF m 1 #[.val (.ref a), .val (.ref ca)] [(.ref a)])) (fun tg kk => XS.aloadN X0.here hx rfl (hb hby own_d1_0) rfl rfl kk) ?_
  refine OwnGo.back (s₁.setTop (mkF m 2 #[.val (.ref a), .val (.ref ca)] [(.ref ca), (.ref a)])) (fun tg kk => XS.aloadN X0.here hx rfl (hb hby own_d1_1) rfl rfl kk) ?_
  refine OwnGo.back (s₁.setTop (mkF m 3 #[.val (.ref a), .val (.ref ca)] [(.int (0 : Int32)), (.ref ca), (.ref a)])) (fun tg kk => XS.iconst X0.here hx rfl (hb hby own_d1_2) kk) ?_
  refine OwnGo.back (s₁.setTop (mkF m 4 #[.val (.ref a), .val (.ref ca)] [(.ref ca), (.int (0 : Int32)), (.ref ca), (.ref a)])) (fun tg kk => XS.aloadN X0.here hx rfl (hb hby own_d1_3) rfl rfl kk) ?_
  obtain ⟨cl_1, Ar_1, -, Sz_1, Ng_1, -, -⟩ := id A
  refine OwnGo.back (s₁.setTop (mkF m 5 #[.val (.ref a), .val (.ref ca)] [(.int (2 : Int32)), (.int (0 : Int32)), (.ref ca), (.ref a)])) (fun tg kk => X0.arraylength hx (by rw [e0]; exact Ar_1.1) (State.isArrayOf_alike hZ.alike Ar_1.2.1) (g := (mkF m 4 #[.val (.ref a), .val (.ref ca)] [(.ref ca), (.int (0 : Int32)), (.ref ca), (.ref a)])) rfl rfl (hb hby own_d1_4) _ (by rw [len_of Sz_1 Ng_1]; exact kk)) ?_
  refine OwnGo.back (s₁.setTop (mkF m 6 #[.val (.ref a), .val (.ref ca)] [.null, (.int (2 : Int32)), (.int (0 : Int32)), (.ref ca), (.ref a)])) (fun tg kk => XS.aconstNull X0.here hx rfl (hb hby own_d1_5) kk) ?_
  obtain ⟨_, _, ⟨T2, L2, k2, n2⟩, -, X2, ⟨Lc2, hQ2, l2, y2, z2⟩, st2⟩ := X0.specialBack hx (y := (⟨"java/lang/String", "<init>", "([CIILjava/lang/Void;)V"⟩ : MethodName)) rfl hown (mvT hZ (hw _ (List.mem_of_getElem? (i := 7) rfl))) (mvT hZ (hw _ (List.mem_of_getElem? (i := 8) rfl))) (mvT hZ (hw _ (List.mem_of_getElem? (i := 10) rfl))) (by decide) (backOf (W := 0) (own_sin4 l Z a0 hw [] a ca kc x0 x1 cs h0 n0 Z0 A hx0 hx1 S old hcs H0 H1 H2 H3 H4) hZ (hw _ (List.mem_of_getElem? (i := 10) rfl)) (hw _ (List.mem_of_getElem? (i := 3) rfl)) (by decide) (by decide)) (g := (mkF m 6 #[.val (.ref a), .val (.ref ca)] [.null, (.int (2 : Int32)), (.int (0 : Int32)), (.ref ca), (.ref a)])) rfl (by rw [hml]; rfl) (Steps.refl _) (a := a) (argsL := [(.ref ca), (.int (0 : Int32)), (.int (2 : Int32)), .null]) (rest := []) (lenOf own_pd3 rfl) rfl (by show 2 * 0 + _ ≤ _; exact Nat.le_of_eq rfl) (hb hby own_d1_6) (fun _ _ => ⟨rfl, e0, (by decide : 0 + 1 ≤ _), (by decide : 0 + 2 ≤ _)⟩)
  dsimp only [Pt.U, Pt.locs, Pt.cells, Pt.slots] at X2 l2 y2 z2 st2 hQ2
  subst l2 y2 z2
  obtain ⟨rfl, N2q, Kc2, po3⟩ := hQ2
  have N2 := Fr.app N0 N2q
  have f4 : Arv Z T2.heap ca kc .char (2 : Int32) [(.int x0), (.int x1)] (.int (0 : Int32)) := A.keep Kc2 (ninS (Ne.symm H4) nin0)
  have f5 : Old Z n0 T2.heap := old.keep Kc2 (allS H3 all0)
  have f6 : Exa Z T2.heap a "java/lang/String" := H0.keep Kc2
  have K7 : Keep h0 T2.heap [a] := K0.trans Kc2 (allS (Or.inl (List.mem_of_getElem? (i := 0) rfl)) all0)
  have Z8 : n0 ≤ T2.heap.size := Nat.le_trans Z0 Kc2.1
  refine OwnGo.back (T2.setTop (mkF m 9 #[.val (.ref a), .val (.ref ca)] [])) (fun tg kk => st2.trans kk) ?_
  obtain ⟨fs, hr, hrun, hended, hW, hsame⟩ := X2.leave (v := none) (fun _ => rfl)
  refine ⟨_, _, ?_, hrun, hended, _, _, rfl, ?_, ⟨_, rfl⟩, hW, hsame.mono (by decide) (by decide)⟩
  · exact X2.returnOut hx Bd.returns (hb hby own_d1_9) hr
  · show own_sin1_Q Z a ca kc x0 x1 cs h0 n0 _ T2.heap _
    exact ⟨rfl, N2, K7, po3⟩
theorem own_kind_ef (m : MethodId) (x0 : Int32) : entryFrame m #[(.int x0)] 2 = mkF m 0 #[.val (.int x0), .unset] [] := by first | (simp [entryFrame, mkF, argsToLocals, Value.category]; done) | rfl
def own_kind_Q (Z : State) (x : Int32) (y0 : Addr) (y1 : Addr) (y2 : Addr) (y3 : Addr) (y4 : Addr) (y5 : Addr) (y6 : Addr) (h0 : Heap) (n0 : Nat) (rv : Option Value) (hN : Heap) (LL : List Loc) : Prop := ∃ (r : Addr), rv = some (.ref r) ∧ Fr n0 LL ∧ hN = h0
set_option maxRecDepth 65536 in
set_option maxHeartbeats 40000000 in
theorem own_kind (l : Launch) (Z : State) (a0 : Array Value) (hw : ∀ d ∈ tables_1, d.before a0 Z = true) (ws : List Jvm.Cond) (x : Int32) (y0 : Addr) (y1 : Addr) (y2 : Addr) (y3 : Addr) (y4 : Addr) (y5 : Addr) (y6 : Addr) (h0 : Heap) (n0 : Nat) (Z0 : n0 ≤ h0.size) (SK0 : Sta Z Z.heap "com/example/lucid_policy/lucidpolicy/parse/SymbolKind" "TYPE" "Lcom/example/lucid_policy/lucidpolicy/parse/SymbolKind;" (.ref y0)) (SK1 : Sta Z Z.heap "com/example/lucid_policy/lucidpolicy/parse/SymbolKind" "ATTRIBUTE" "Lcom/example/lucid_policy/lucidpolicy/parse/SymbolKind;" (.ref y1)) (SK2 : Sta Z Z.heap "com/example/lucid_policy/lucidpolicy/parse/SymbolKind" "ALIAS" "Lcom/example/lucid_policy/lucidpolicy/parse/SymbolKind;" (.ref y2)) (SK3 : Sta Z Z.heap "com/example/lucid_policy/lucidpolicy/parse/SymbolKind" "ROLE" "Lcom/example/lucid_policy/lucidpolicy/parse/SymbolKind;" (.ref y3)) (SK4 : Sta Z Z.heap "com/example/lucid_policy/lucidpolicy/parse/SymbolKind" "ROLE_ATTRIBUTE" "Lcom/example/lucid_policy/lucidpolicy/parse/SymbolKind;" (.ref y4)) (SK5 : Sta Z Z.heap "com/example/lucid_policy/lucidpolicy/parse/SymbolKind" "BOOLEAN" "Lcom/example/lucid_policy/lucidpolicy/parse/SymbolKind;" (.ref y5)) (SK6 : Sta Z Z.heap "com/example/lucid_policy/lucidpolicy/parse/SymbolKind" "USER" "Lcom/example/lucid_policy/lucidpolicy/parse/SymbolKind;" (.ref y6)) (old : Old Z n0 h0) :
    MetFree l (⟨"com/example/lucid_policy/lucidpolicy/parse/SymbolDeclaredPinLaw", "kindOf", "(I)Lcom/example/lucid_policy/lucidpolicy/parse/SymbolKind;"⟩ : MethodName) (head1 (Jvm.Cond.code (⟨"com/example/lucid_policy/lucidpolicy/parse/SymbolDeclaredPinLaw", "kindOf", "(I)Lcom/example/lucid_policy/lucidpolicy/parse/SymbolKind;"⟩ : MethodName) method_2_code 2 (some (.object "com/example/lucid_policy/lucidpolicy/parse/SymbolKind")) :: ws) ({ frames := 0, cells := 0, slots := 0, locals := 0 } : Room)) (fun aa UU => aa = #[(.int x)] ∧ Z.Warmed39 UU.vm ∧ UU.heap = h0) (fun _ _ _ _ _ => True) (fun _ UU oo UU' => ∃ rv LL, oo = .returned rv ∧ own_kind_Q Z x y0 y1 y2 y3 y4 y5 y6 h0 n0 rv UU'.heap LL ∧ FrameEnd UU oo UU' LL ({ frames := 0, cells := 0, slots := 0, locals := 0 } : Room).cells ({ frames := 0, cells := 0, slots := 0, locals := 0 } : Room).slots) := by
  refine MetFree.of_bodySF (plainFor_of_name own_pn2) hisR ?_
  intro p e s m args below meth c s₁ Bd hml0 hP hK
  obtain ⟨rfl, hZ, hh⟩ := hP
  have hx := Bd.exec
  have hby := Bd.bytes
  have hml : c.maxLocals = 2 := hml0
  have hown : s.vm.findClass "com/example/lucid_policy/lucidpolicy/parse/SymbolDeclaredPinLaw" = some m.cls := findClass_of_methodNamed Bd.named
  have hnm := (name_of_methodNamed Bd.named Bd.method).1
  have X0 : Stand p l e ({ frames := 0, cells := 0, slots := 0, locals := 0 } : Room) s m #[(.int x)] below meth c s₁ [] 0 0 := Stand.of_body Bd
  have e0 : s₁.heap = h0 := by rw [← hh, Bd.state]; rfl
  have N0 := Fr.nil n0
  have K0 : Keep h0 h0 [] := Keep.refl h0 _
  refine (?_ : OwnGo p.tables e below (fun UU' oo => ∃ rv LL, oo = .returned rv ∧ own_kind_Q Z x y0 y1 y2 y3 y4 y5 y6 h0 n0 rv UU'.heap LL ∧ FrameEnd s oo UU' LL ({ frames := 0, cells := 0, slots := 0, locals := 0 } : Room).cells ({ frames := 0, cells := 0, slots := 0, locals := 0 } : Room).slots) _)
  refine OwnGo.back (s₁.setTop (mkF m 0 #[.val (.int x), .unset] [])) (fun tg kk => castTop (own_kind_ef m x) kk) ?_
  refine OwnGo.back (s₁.setTop (mkF m 1 #[.val (.int x), .unset] [(.int x)])) (fun tg kk => XS.iloadN X0.here hx rfl (hb hby own_d7_0) rfl kk) ?_
  refine OwnGo.back (s₁.setTop (mkF m 3 #[.val (.int x), .unset] [(.int (2147483647 : Int32)), (.int x)])) (fun tg kk => Jvm.Stand.ldcI X0 hx hown (mvT hZ (hw _ (List.mem_of_getElem? (i := 34) rfl))) rfl (hb hby own_d7_1) kk) ?_
  refine OwnGo.back (s₁.setTop (mkF m 4 #[.val (.int x), .unset] [(.int (x &&& (2147483647 : Int32)))])) (fun tg kk => XS.iand X0.here hx rfl (hb hby own_d7_3) rfl kk) ?_
  refine OwnGo.back (s₁.setTop (mkF m 6 #[.val (.int x), .unset] [(.int (7 : Int32)), (.int (x &&& (2147483647 : Int32)))])) (fun tg kk => XS.bipush X0.here hx rfl (hb hby own_d7_4) kk) ?_
  refine OwnGo.back (s₁.setTop (mkF m 7 #[.val (.int x), .unset] [(.int ((x &&& (2147483647 : Int32)) % (7 : Int32)))])) (fun tg kk => iremM X0 hx rfl (hb hby own_d7_6) rfl (by decide) kk) ?_
  refine OwnGo.back (s₁.setTop (mkF m 8 #[.val (.int x), .val (.int ((x &&& (2147483647 : Int32)) % (7 : Int32)))] [])) (fun tg kk => XS.istoreN X0.here hx rfl (hb hby own_d7_7) rfl (l' := #[.val (.int x), .val (.int ((x &&& (2147483647 : Int32)) % (7 : Int32)))]) rfl kk) ?_
  refine OwnGo.back (s₁.setTop (mkF m 9 #[.val (.int x), .val (.int ((x &&& (2147483647 : Int32)) % (7 : Int32)))] [(.int ((x &&& (2147483647 : Int32)) % (7 : Int32)))])) (fun tg kk => XS.iloadN X0.here hx rfl (hb hby own_d7_8) rfl kk) ?_
  by_cases hc1 : ((x &&& (2147483647 : Int32)) % (7 : Int32)) = (0 : Int32)
  ·
    refine OwnGo.back (s₁.setTop (mkF m 12 #[.val (.int x), .val (.int ((x &&& (2147483647 : Int32)) % (7 : Int32)))] [])) (fun tg kk => XS.ifNo X0.here hx rfl (hb hby own_d7_9) rfl ((if0 _ _).trans (teq hc1).2) kk) ?_
    obtain ⟨T2, X2, e2, st2⟩ := getS2 X0 hx hZ hown (host := "") (Or.inl (hw _ (List.mem_of_getElem? (i := 165) rfl))) Via.refl e0 (SK0.ext old.2) (g := (mkF m 12 #[.val (.int x), .val (.int ((x &&& (2147483647 : Int32)) % (7 : Int32)))] [])) rfl (hb hby own_d7_12)
    refine OwnGo.back (T2.setTop (mkF m 15 #[.val (.int x), .val (.int ((x &&& (2147483647 : Int32)) % (7 : Int32)))] [(.ref y0)])) (fun tg kk => st2 _ kk) ?_
    obtain ⟨fs, hr, hrun, hended, hW, hsame⟩ := X2.leave (v := some (.ref y0)) (fun h => by rw [Bd.returns] at h; cases h)
    refine ⟨_, _, ?_, hrun, hended, _, _, rfl, ?_, ⟨_, rfl⟩, hW, hsame.mono (by decide) (by decide)⟩
    · exact own_retA X2 hx Bd.returns rfl rfl rfl (hb hby own_d7_15) hr
    · show own_kind_Q Z x y0 y1 y2 y3 y4 y5 y6 h0 n0 _ T2.heap _
      rw [e2]
      exact ⟨y0, rfl, N0, rfl⟩
  ·
    refine OwnGo.back (s₁.setTop (mkF m 16 #[.val (.int x), .val (.int ((x &&& (2147483647 : Int32)) % (7 : Int32)))] [])) (fun tg kk => XS.ifYes X0.here hx rfl (pc0 := 9) (pc' := 16) rfl (hb hby own_d7_9) rfl ((if0 _ _).trans (feq hc1).2) (by decide) (by decide) kk) ?_
    refine OwnGo.back (s₁.setTop (mkF m 17 #[.val (.int x), .val (.int ((x &&& (2147483647 : Int32)) % (7 : Int32)))] [(.int ((x &&& (2147483647 : Int32)) % (7 : Int32)))])) (fun tg kk => XS.iloadN X0.here hx rfl (hb hby own_d7_16) rfl kk) ?_
    refine OwnGo.back (s₁.setTop (mkF m 18 #[.val (.int x), .val (.int ((x &&& (2147483647 : Int32)) % (7 : Int32)))] [(.int (1 : Int32)), (.int ((x &&& (2147483647 : Int32)) % (7 : Int32)))])) (fun tg kk => XS.iconst X0.here hx rfl (hb hby own_d7_17) kk) ?_
    by_cases hc3 : ((x &&& (2147483647 : Int32)) % (7 : Int32)) = (1 : Int32)
    ·
      refine OwnGo.back (s₁.setTop (mkF m 21 #[.val (.int x), .val (.int ((x &&& (2147483647 : Int32)) % (7 : Int32)))] [])) (fun tg kk => XS.icmpNo X0.here hx rfl (hb hby own_d7_18) rfl (teq hc3).2 kk) ?_
      obtain ⟨T4, X4, e4, st4⟩ := getS2 X0 hx hZ hown (host := "") (Or.inl (hw _ (List.mem_of_getElem? (i := 38) rfl))) Via.refl e0 (SK1.ext old.2) (g := (mkF m 21 #[.val (.int x), .val (.int ((x &&& (2147483647 : Int32)) % (7 : Int32)))] [])) rfl (hb hby own_d7_21)
      refine OwnGo.back (T4.setTop (mkF m 24 #[.val (.int x), .val (.int ((x &&& (2147483647 : Int32)) % (7 : Int32)))] [(.ref y1)])) (fun tg kk => st4 _ kk) ?_
      obtain ⟨fs, hr, hrun, hended, hW, hsame⟩ := X4.leave (v := some (.ref y1)) (fun h => by rw [Bd.returns] at h; cases h)
      refine ⟨_, _, ?_, hrun, hended, _, _, rfl, ?_, ⟨_, rfl⟩, hW, hsame.mono (by decide) (by decide)⟩
      · exact own_retA X4 hx Bd.returns rfl rfl rfl (hb hby own_d7_24) hr
      · show own_kind_Q Z x y0 y1 y2 y3 y4 y5 y6 h0 n0 _ T4.heap _
        rw [e4]
        exact ⟨y1, rfl, N0, rfl⟩
    ·
      refine OwnGo.back (s₁.setTop (mkF m 25 #[.val (.int x), .val (.int ((x &&& (2147483647 : Int32)) % (7 : Int32)))] [])) (fun tg kk => XS.icmpYes X0.here hx rfl (pc0 := 18) (pc' := 25) rfl (hb hby own_d7_18) rfl (feq hc3).2 (by decide) (by decide) kk) ?_
      refine OwnGo.back (s₁.setTop (mkF m 26 #[.val (.int x), .val (.int ((x &&& (2147483647 : Int32)) % (7 : Int32)))] [(.int ((x &&& (2147483647 : Int32)) % (7 : Int32)))])) (fun tg kk => XS.iloadN X0.here hx rfl (hb hby own_d7_25) rfl kk) ?_
      refine OwnGo.back (s₁.setTop (mkF m 27 #[.val (.int x), .val (.int ((x &&& (2147483647 : Int32)) % (7 : Int32)))] [(.int (2 : Int32)), (.int ((x &&& (2147483647 : Int32)) % (7 : Int32)))])) (fun tg kk => XS.iconst X0.here hx rfl (hb hby own_d7_26) kk) ?_
      by_cases hc5 : ((x &&& (2147483647 : Int32)) % (7 : Int32)) = (2 : Int32)
      ·
        refine OwnGo.back (s₁.setTop (mkF m 30 #[.val (.int x), .val (.int ((x &&& (2147483647 : Int32)) % (7 : Int32)))] [])) (fun tg kk => XS.icmpNo X0.here hx rfl (hb hby own_d7_27) rfl (teq hc5).2 kk) ?_
        obtain ⟨T6, X6, e6, st6⟩ := getS2 X0 hx hZ hown (host := "") (Or.inl (hw _ (List.mem_of_getElem? (i := 35) rfl))) Via.refl e0 (SK2.ext old.2) (g := (mkF m 30 #[.val (.int x), .val (.int ((x &&& (2147483647 : Int32)) % (7 : Int32)))] [])) rfl (hb hby own_d7_30)
        refine OwnGo.back (T6.setTop (mkF m 33 #[.val (.int x), .val (.int ((x &&& (2147483647 : Int32)) % (7 : Int32)))] [(.ref y2)])) (fun tg kk => st6 _ kk) ?_
        obtain ⟨fs, hr, hrun, hended, hW, hsame⟩ := X6.leave (v := some (.ref y2)) (fun h => by rw [Bd.returns] at h; cases h)
        refine ⟨_, _, ?_, hrun, hended, _, _, rfl, ?_, ⟨_, rfl⟩, hW, hsame.mono (by decide) (by decide)⟩
        · exact own_retA X6 hx Bd.returns rfl rfl rfl (hb hby own_d7_33) hr
        · show own_kind_Q Z x y0 y1 y2 y3 y4 y5 y6 h0 n0 _ T6.heap _
          rw [e6]
          exact ⟨y2, rfl, N0, rfl⟩
      ·
        refine OwnGo.back (s₁.setTop (mkF m 34 #[.val (.int x), .val (.int ((x &&& (2147483647 : Int32)) % (7 : Int32)))] [])) (fun tg kk => XS.icmpYes X0.here hx rfl (pc0 := 27) (pc' := 34) rfl (hb hby own_d7_27) rfl (feq hc5).2 (by decide) (by decide) kk) ?_
        refine OwnGo.back (s₁.setTop (mkF m 35 #[.val (.int x), .val (.int ((x &&& (2147483647 : Int32)) % (7 : Int32)))] [(.int ((x &&& (2147483647 : Int32)) % (7 : Int32)))])) (fun tg kk => XS.iloadN X0.here hx rfl (hb hby own_d7_34) rfl kk) ?_
        refine OwnGo.back (s₁.setTop (mkF m 36 #[.val (.int x), .val (.int ((x &&& (2147483647 : Int32)) % (7 : Int32)))] [(.int (3 : Int32)), (.int ((x &&& (2147483647 : Int32)) % (7 : Int32)))])) (fun tg kk => XS.iconst X0.here hx rfl (hb hby own_d7_35) kk) ?_
        by_cases hc7 : ((x &&& (2147483647 : Int32)) % (7 : Int32)) = (3 : Int32)
        ·
          refine OwnGo.back (s₁.setTop (mkF m 39 #[.val (.int x), .val (.int ((x &&& (2147483647 : Int32)) % (7 : Int32)))] [])) (fun tg kk => XS.icmpNo X0.here hx rfl (hb hby own_d7_36) rfl (teq hc7).2 kk) ?_
          obtain ⟨T8, X8, e8, st8⟩ := getS2 X0 hx hZ hown (host := "") (Or.inl (hw _ (List.mem_of_getElem? (i := 90) rfl))) Via.refl e0 (SK3.ext old.2) (g := (mkF m 39 #[.val (.int x), .val (.int ((x &&& (2147483647 : Int32)) % (7 : Int32)))] [])) rfl (hb hby own_d7_39)
          refine OwnGo.back (T8.setTop (mkF m 42 #[.val (.int x), .val (.int ((x &&& (2147483647 : Int32)) % (7 : Int32)))] [(.ref y3)])) (fun tg kk => st8 _ kk) ?_
          obtain ⟨fs, hr, hrun, hended, hW, hsame⟩ := X8.leave (v := some (.ref y3)) (fun h => by rw [Bd.returns] at h; cases h)
          refine ⟨_, _, ?_, hrun, hended, _, _, rfl, ?_, ⟨_, rfl⟩, hW, hsame.mono (by decide) (by decide)⟩
          · exact own_retA X8 hx Bd.returns rfl rfl rfl (hb hby own_d7_42) hr
          · show own_kind_Q Z x y0 y1 y2 y3 y4 y5 y6 h0 n0 _ T8.heap _
            rw [e8]
            exact ⟨y3, rfl, N0, rfl⟩
        ·
          refine OwnGo.back (s₁.setTop (mkF m 43 #[.val (.int x), .val (.int ((x &&& (2147483647 : Int32)) % (7 : Int32)))] [])) (fun tg kk => XS.icmpYes X0.here hx rfl (pc0 := 36) (pc' := 43) rfl (hb hby own_d7_36) rfl (feq hc7).2 (by decide) (by decide) kk) ?_
          refine OwnGo.back (s₁.setTop (mkF m 44 #[.val (.int x), .val (.int ((x &&& (2147483647 : Int32)) % (7 : Int32)))] [(.int ((x &&& (2147483647 : Int32)) % (7 : Int32)))])) (fun tg kk => XS.iloadN X0.here hx rfl (hb hby own_d7_43) rfl kk) ?_
          refine OwnGo.back (s₁.setTop (mkF m 45 #[.val (.int x), .val (.int ((x &&& (2147483647 : Int32)) % (7 : Int32)))] [(.int (4 : Int32)), (.int ((x &&& (2147483647 : Int32)) % (7 : Int32)))])) (fun tg kk => XS.iconst X0.here hx rfl (hb hby own_d7_44) kk) ?_
          by_cases hc9 : ((x &&& (2147483647 : Int32)) % (7 : Int32)) = (4 : Int32)
          ·
            refine OwnGo.back (s₁.setTop (mkF m 48 #[.val (.int x), .val (.int ((x &&& (2147483647 : Int32)) % (7 : Int32)))] [])) (fun tg kk => XS.icmpNo X0.here hx rfl (hb hby own_d7_45) rfl (teq hc9).2 kk) ?_
            obtain ⟨T10, X10, e10, st10⟩ := getS2 X0 hx hZ hown (host := "") (Or.inl (hw _ (List.mem_of_getElem? (i := 167) rfl))) Via.refl e0 (SK4.ext old.2) (g := (mkF m 48 #[.val (.int x), .val (.int ((x &&& (2147483647 : Int32)) % (7 : Int32)))] [])) rfl (hb hby own_d7_48)
            refine OwnGo.back (T10.setTop (mkF m 51 #[.val (.int x), .val (.int ((x &&& (2147483647 : Int32)) % (7 : Int32)))] [(.ref y4)])) (fun tg kk => st10 _ kk) ?_
            obtain ⟨fs, hr, hrun, hended, hW, hsame⟩ := X10.leave (v := some (.ref y4)) (fun h => by rw [Bd.returns] at h; cases h)
            refine ⟨_, _, ?_, hrun, hended, _, _, rfl, ?_, ⟨_, rfl⟩, hW, hsame.mono (by decide) (by decide)⟩
            · exact own_retA X10 hx Bd.returns rfl rfl rfl (hb hby own_d7_51) hr
            · show own_kind_Q Z x y0 y1 y2 y3 y4 y5 y6 h0 n0 _ T10.heap _
              rw [e10]
              exact ⟨y4, rfl, N0, rfl⟩
          ·
            refine OwnGo.back (s₁.setTop (mkF m 52 #[.val (.int x), .val (.int ((x &&& (2147483647 : Int32)) % (7 : Int32)))] [])) (fun tg kk => XS.icmpYes X0.here hx rfl (pc0 := 45) (pc' := 52) rfl (hb hby own_d7_45) rfl (feq hc9).2 (by decide) (by decide) kk) ?_
            refine OwnGo.back (s₁.setTop (mkF m 53 #[.val (.int x), .val (.int ((x &&& (2147483647 : Int32)) % (7 : Int32)))] [(.int ((x &&& (2147483647 : Int32)) % (7 : Int32)))])) (fun tg kk => XS.iloadN X0.here hx rfl (hb hby own_d7_52) rfl kk) ?_
            refine OwnGo.back (s₁.setTop (mkF m 54 #[.val (.int x), .val (.int ((x &&& (2147483647 : Int32)) % (7 : Int32)))] [(.int (5 : Int32)), (.int ((x &&& (2147483647 : Int32)) % (7 : Int32)))])) (fun tg kk => XS.iconst X0.here hx rfl (hb hby own_d7_53) kk) ?_
            by_cases hc11 : ((x &&& (2147483647 : Int32)) % (7 : Int32)) = (5 : Int32)
            ·
              refine OwnGo.back (s₁.setTop (mkF m 57 #[.val (.int x), .val (.int ((x &&& (2147483647 : Int32)) % (7 : Int32)))] [])) (fun tg kk => XS.icmpNo X0.here hx rfl (hb hby own_d7_54) rfl (teq hc11).2 kk) ?_
              obtain ⟨T12, X12, e12, st12⟩ := getS2 X0 hx hZ hown (host := "") (Or.inl (hw _ (List.mem_of_getElem? (i := 163) rfl))) Via.refl e0 (SK5.ext old.2) (g := (mkF m 57 #[.val (.int x), .val (.int ((x &&& (2147483647 : Int32)) % (7 : Int32)))] [])) rfl (hb hby own_d7_57)
              refine OwnGo.back (T12.setTop (mkF m 60 #[.val (.int x), .val (.int ((x &&& (2147483647 : Int32)) % (7 : Int32)))] [(.ref y5)])) (fun tg kk => st12 _ kk) ?_
              obtain ⟨fs, hr, hrun, hended, hW, hsame⟩ := X12.leave (v := some (.ref y5)) (fun h => by rw [Bd.returns] at h; cases h)
              refine ⟨_, _, ?_, hrun, hended, _, _, rfl, ?_, ⟨_, rfl⟩, hW, hsame.mono (by decide) (by decide)⟩
              · exact own_retA X12 hx Bd.returns rfl rfl rfl (hb hby own_d7_60) hr
              · show own_kind_Q Z x y0 y1 y2 y3 y4 y5 y6 h0 n0 _ T12.heap _
                rw [e12]
                exact ⟨y5, rfl, N0, rfl⟩
            ·
              refine OwnGo.back (s₁.setTop (mkF m 61 #[.val (.int x), .val (.int ((x &&& (2147483647 : Int32)) % (7 : Int32)))] [])) (fun tg kk => XS.icmpYes X0.here hx rfl (pc0 := 54) (pc' := 61) rfl (hb hby own_d7_54) rfl (feq hc11).2 (by decide) (by decide) kk) ?_
              obtain ⟨T13, X13, e13, st13⟩ := getS2 X0 hx hZ hown (host := "") (Or.inl (hw _ (List.mem_of_getElem? (i := 169) rfl))) Via.refl e0 (SK6.ext old.2) (g := (mkF m 61 #[.val (.int x), .val (.int ((x &&& (2147483647 : Int32)) % (7 : Int32)))] [])) rfl (hb hby own_d7_61)
              refine OwnGo.back (T13.setTop (mkF m 64 #[.val (.int x), .val (.int ((x &&& (2147483647 : Int32)) % (7 : Int32)))] [(.ref y6)])) (fun tg kk => st13 _ kk) ?_
              obtain ⟨fs, hr, hrun, hended, hW, hsame⟩ := X13.leave (v := some (.ref y6)) (fun h => by rw [Bd.returns] at h; cases h)
              refine ⟨_, _, ?_, hrun, hended, _, _, rfl, ?_, ⟨_, rfl⟩, hW, hsame.mono (by decide) (by decide)⟩
              · exact own_retA X13 hx Bd.returns rfl rfl rfl (hb hby own_d7_64) hr
              · show own_kind_Q Z x y0 y1 y2 y3 y4 y5 y6 h0 n0 _ T13.heap _
                rw [e13]
                exact ⟨y6, rfl, N0, rfl⟩
theorem own_ac_ef (m : MethodId) (x0 : Addr) : entryFrame m #[(.ref x0)] 1 = mkF m 0 #[.val (.ref x0)] [] := by first | (simp [entryFrame, mkF, argsToLocals, Value.category]; done) | rfl
def own_ac_Q (Z : State) (a : Addr) (h0 : Heap) (n0 : Nat) (rv : Option Value) (hN : Heap) (LL : List Loc) : Prop := rv = none ∧ Fr n0 LL ∧ hN = h0
set_option maxRecDepth 65536 in
set_option maxHeartbeats 40000000 in
theorem own_ac (l : Launch) (Z : State) (a0 : Array Value) (hw : ∀ d ∈ tables_1, d.before a0 Z = true) (ws : List Jvm.Cond) (a : Addr) (h0 : Heap) (n0 : Nat) (Z0 : n0 ≤ h0.size) :
    MetFree l (⟨"java/util/AbstractCollection", "<init>", "()V"⟩ : MethodName) (head1 (Jvm.Cond.code (⟨"java/util/AbstractCollection", "<init>", "()V"⟩ : MethodName) jdk_22_method_1_code 1 none :: ws) ({ frames := 1, cells := 0, slots := 0, locals := 12 } : Room)) (fun aa UU => aa = #[(.ref a)] ∧ Z.Warmed39 UU.vm ∧ UU.heap = h0) (fun _ _ _ _ _ => True) (fun _ UU oo UU' => ∃ rv LL, oo = .returned rv ∧ own_ac_Q Z a h0 n0 rv UU'.heap LL ∧ FrameEnd UU oo UU' LL ({ frames := 1, cells := 0, slots := 0, locals := 12 } : Room).cells ({ frames := 1, cells := 0, slots := 0, locals := 12 } : Room).slots) := by
  refine MetFree.of_bodySF (plainFor_of_name own_pn3) hisR ?_
  intro p e s m args below meth c s₁ Bd hml0 hP hK
  obtain ⟨rfl, hZ, hh⟩ := hP
  have hx := Bd.exec
  have hby := Bd.bytes
  have hml : c.maxLocals = 1 := hml0
  have hown : s.vm.findClass "java/util/AbstractCollection" = some m.cls := findClass_of_methodNamed Bd.named
  have hnm := (name_of_methodNamed Bd.named Bd.method).1
  have X0 : Stand p l e ({ frames := 1, cells := 0, slots := 0, locals := 12 } : Room) s m #[(.ref a)] below meth c s₁ [] 0 0 := Stand.of_body Bd
  have e0 : s₁.heap = h0 := by rw [← hh, Bd.state]; rfl
  have N0 := Fr.nil n0
  have K0 : Keep h0 h0 [] := Keep.refl h0 _
  refine (?_ : OwnGo p.tables e below (fun UU' oo => ∃ rv LL, oo = .returned rv ∧ own_ac_Q Z a h0 n0 rv UU'.heap LL ∧ FrameEnd s oo UU' LL ({ frames := 1, cells := 0, slots := 0, locals := 12 } : Room).cells ({ frames := 1, cells := 0, slots := 0, locals := 12 } : Room).slots) _)
  refine OwnGo.back (s₁.setTop (mkF m 0 #[.val (.ref a)] [])) (fun tg kk => castTop (own_ac_ef m a) kk) ?_
  refine OwnGo.back (s₁.setTop (mkF m 1 #[.val (.ref a)] [(.ref a)])) (fun tg kk => XS.aloadN X0.here hx rfl (hb hby own_d11_0) rfl rfl kk) ?_
  obtain ⟨T1, X1, e1, st1⟩ := initO X0 hx hZ hown (hw _ (List.mem_of_getElem? (i := 65) rfl)) (hw _ (List.mem_of_getElem? (i := 12) rfl)) (hw _ (List.mem_of_getElem? (i := 13) rfl)) e0 (g := (mkF m 1 #[.val (.ref a)] [(.ref a)])) rfl (by rw [hml]; rfl) rfl (hb hby own_d11_1) (by decide) (W := 0) (by show 2 * 0 + _ ≤ _; exact Nat.le_of_eq rfl) (by decide)
  refine OwnGo.back (T1.setTop (mkF m 4 #[.val (.ref a)] [])) (fun tg kk => st1 _ kk) ?_
  obtain ⟨fs, hr, hrun, hended, hW, hsame⟩ := X1.leave (v := none) (fun _ => rfl)
  refine ⟨_, _, ?_, hrun, hended, _, _, rfl, ?_, ⟨_, rfl⟩, hW, hsame.mono (by decide) (by decide)⟩
  · exact X1.returnOut hx Bd.returns (hb hby own_d11_4) hr
  · show own_ac_Q Z a h0 n0 _ T1.heap _
    rw [e1]
    exact ⟨rfl, N0, rfl⟩
theorem own_ab_ef (m : MethodId) (x0 : Addr) : entryFrame m #[(.ref x0)] 1 = mkF m 0 #[.val (.ref x0)] [] := by first | (simp [entryFrame, mkF, argsToLocals, Value.category]; done) | rfl
def own_ab_Q (Z : State) (a : Addr) (h0 : Heap) (n0 : Nat) (rv : Option Value) (hN : Heap) (LL : List Loc) : Prop := rv = none ∧ Fr n0 LL ∧ Keep h0 hN [a] ∧ Exa Z hN a "java/util/ArrayList" ∧ Fld Z hN a "java/util/AbstractList" "modCount" "I" (.int (0 : Int32)) ∧ Fld Z hN a "java/util/ArrayList" "elementData" "[Ljava/lang/Object;" .null ∧ Fld Z hN a "java/util/ArrayList" "size" "I" (.int (0 : Int32))
set_option maxRecDepth 65536 in
set_option maxHeartbeats 40000000 in
theorem own_ab (l : Launch) (Z : State) (a0 : Array Value) (hw : ∀ d ∈ tables_1, d.before a0 Z = true) (ws : List Jvm.Cond) (a : Addr) (h0 : Heap) (n0 : Nat) (Z0 : n0 ≤ h0.size) (H0 : Exa Z h0 a "java/util/ArrayList") (H1 : Fld Z h0 a "java/util/AbstractList" "modCount" "I" (.int (0 : Int32))) (H2 : Fld Z h0 a "java/util/ArrayList" "elementData" "[Ljava/lang/Object;" .null) (H3 : Fld Z h0 a "java/util/ArrayList" "size" "I" (.int (0 : Int32))) (H4 : n0 ≤ a) :
    MetFree l (⟨"java/util/AbstractList", "<init>", "()V"⟩ : MethodName) (head1 (Jvm.Cond.code (⟨"java/util/AbstractList", "<init>", "()V"⟩ : MethodName) jdk_39_method_1_code 1 none :: ws) ({ frames := 2, cells := 0, slots := 0, locals := 24 } : Room)) (fun aa UU => aa = #[(.ref a)] ∧ Z.Warmed39 UU.vm ∧ UU.heap = h0) (fun _ _ _ _ _ => True) (fun _ UU oo UU' => ∃ rv LL, oo = .returned rv ∧ own_ab_Q Z a h0 n0 rv UU'.heap LL ∧ FrameEnd UU oo UU' LL ({ frames := 2, cells := 0, slots := 0, locals := 24 } : Room).cells ({ frames := 2, cells := 0, slots := 0, locals := 24 } : Room).slots) := by
  refine MetFree.of_bodySF (plainFor_of_name own_pn4) hisR ?_
  intro p e s m args below meth c s₁ Bd hml0 hP hK
  obtain ⟨rfl, hZ, hh⟩ := hP
  have hx := Bd.exec
  have hby := Bd.bytes
  have hml : c.maxLocals = 1 := hml0
  have hown : s.vm.findClass "java/util/AbstractList" = some m.cls := findClass_of_methodNamed Bd.named
  have hnm := (name_of_methodNamed Bd.named Bd.method).1
  have X0 : Stand p l e ({ frames := 2, cells := 0, slots := 0, locals := 24 } : Room) s m #[(.ref a)] below meth c s₁ [] 0 0 := Stand.of_body Bd
  have e0 : s₁.heap = h0 := by rw [← hh, Bd.state]; rfl
  have N0 := Fr.nil n0
  have K0 : Keep h0 h0 [a] := Keep.refl h0 _
  refine (?_ : OwnGo p.tables e below (fun UU' oo => ∃ rv LL, oo = .returned rv ∧ own_ab_Q Z a h0 n0 rv UU'.heap LL ∧ FrameEnd s oo UU' LL ({ frames := 2, cells := 0, slots := 0, locals := 24 } : Room).cells ({ frames := 2, cells := 0, slots := 0, locals := 24 } : Room).slots) _)
  refine OwnGo.back (s₁.setTop (mkF m 0 #[.val (.ref a)] [])) (fun tg kk => castTop (own_ab_ef m a) kk) ?_
  refine OwnGo.back (s₁.setTop (mkF m 1 #[.val (.ref a)] [(.ref a)])) (fun tg kk => XS.aloadN X0.here hx rfl (hb hby own_d10_0) rfl rfl kk) ?_
  obtain ⟨_, _, ⟨T1, L1, k1, n1⟩, -, X1, ⟨Lc1, hQ1, l1, y1, z1⟩, st1⟩ := X0.specialBack hx (y := (⟨"java/util/AbstractCollection", "<init>", "()V"⟩ : MethodName)) rfl hown (mvT hZ (hw _ (List.mem_of_getElem? (i := 59) rfl))) (mvT hZ (hw _ (List.mem_of_getElem? (i := 60) rfl))) (mvT hZ (hw _ (List.mem_of_getElem? (i := 64) rfl))) (by decide) (backOf (W := 0) (own_ac l Z a0 hw [] a h0 n0 Z0 ) hZ (hw _ (List.mem_of_getElem? (i := 64) rfl)) (hw _ (List.mem_of_getElem? (i := 63) rfl)) (by decide) (by decide)) (g := (mkF m 1 #[.val (.ref a)] [(.ref a)])) rfl (by rw [hml]; rfl) (Steps.refl _) (a := a) (argsL := []) (rest := []) (lenOf own_pd4 rfl) rfl (by show 2 * 0 + _ ≤ _; exact Nat.le_of_eq rfl) (hb hby own_d10_1) (fun _ _ => ⟨rfl, e0, (by decide : 0 + 0 ≤ _), (by decide : 0 + 0 ≤ _)⟩)
  dsimp only [Pt.U, Pt.locs, Pt.cells, Pt.slots] at X1 l1 y1 z1 st1 hQ1
  subst l1 y1 z1
  obtain ⟨rfl, N1q, e1⟩ := hQ1
  have N1 := Fr.app N0 N1q
  refine OwnGo.back (T1.setTop (mkF m 4 #[.val (.ref a)] [])) (fun tg kk => st1.trans kk) ?_
  refine OwnGo.back (T1.setTop (mkF m 5 #[.val (.ref a)] [(.ref a)])) (fun tg kk => XS.aloadN X1.here hx rfl (hb hby own_d10_4) rfl rfl kk) ?_
  refine OwnGo.back (T1.setTop (mkF m 6 #[.val (.ref a)] [(.int (0 : Int32)), (.ref a)])) (fun tg kk => XS.iconst X1.here hx rfl (hb hby own_d10_5) kk) ?_
  obtain ⟨T2, h2, X2, e2, W2, st2⟩ := putF X1 hx hZ hown (host := "") (Or.inl (hw _ (List.mem_of_getElem? (i := 66) rfl))) Via.refl e1 H1 H0 (Or.inl (hw _ (List.mem_of_getElem? (i := 67) rfl))) (hw _ (List.mem_of_getElem? (i := 48) rfl)) (ty := .int) (by decide) rfl rfl (g := (mkF m 6 #[.val (.ref a)] [(.int (0 : Int32)), (.ref a)])) rfl rfl (hb hby own_d10_6)
  have f3 : Fld Z h2 a "java/util/AbstractList" "modCount" "I" (.int (0 : Int32)) := H1.same W2
  have f4 : Exa Z h2 a "java/util/ArrayList" := H0.wr W2
  have f5 : Fld Z h2 a "java/util/ArrayList" "elementData" "[Ljava/lang/Object;" .null := H2.other W2 (Or.inr (slot_ne (Or.inl (hw _ (List.mem_of_getElem? (i := 71) rfl))) (Or.inl (hw _ (List.mem_of_getElem? (i := 67) rfl))) (by decide) (t := (.array (.object "java/lang/Object"))) (t' := .int) (by decide) (by decide)))
  have f6 : Fld Z h2 a "java/util/ArrayList" "size" "I" (.int (0 : Int32)) := H3.other W2 (Or.inr (slot_ne (Or.inl (hw _ (List.mem_of_getElem? (i := 109) rfl))) (Or.inl (hw _ (List.mem_of_getElem? (i := 67) rfl))) (by decide) (t := .int) (t' := .int) (by decide) (by decide)))
  have K7 : Keep h0 h2 [a] := K0.wr W2 (Or.inl (List.mem_of_getElem? (i := 0) rfl))
  have Z8 : n0 ≤ h2.size := Nat.le_trans Z0 (Keep.of_wr W2).1
  have N9 := Fr.snoc X2 N1 H4
  refine OwnGo.back (T2.setTop (mkF m 9 #[.val (.ref a)] [])) (fun tg kk => st2 _ kk) ?_
  obtain ⟨fs, hr, hrun, hended, hW, hsame⟩ := X2.leave (v := none) (fun _ => rfl)
  refine ⟨_, _, ?_, hrun, hended, _, _, rfl, ?_, ⟨_, rfl⟩, hW, hsame.mono (by decide) (by decide)⟩
  · exact X2.returnOut hx Bd.returns (hb hby own_d10_9) hr
  · show own_ab_Q Z a h0 n0 _ T2.heap _
    rw [e2]
    exact ⟨rfl, N9, K7, f4, f3, f5, f6⟩
theorem own_al_ef (m : MethodId) (x0 : Addr) (x1 : Int32) : entryFrame m #[(.ref x0), (.int x1)] 2 = mkF m 0 #[.val (.ref x0), .val (.int x1)] [] := by first | (simp [entryFrame, mkF, argsToLocals, Value.category]; done) | rfl
def own_al_Q (Z : State) (a : Addr) (h0 : Heap) (n0 : Nat) (rv : Option Value) (hN : Heap) (LL : List Loc) : Prop := ∃ (b : Addr), ∃ (kb : ClassId), rv = none ∧ Fr n0 LL ∧ Keep h0 hN [a] ∧ h0.size ≤ b ∧ Exa Z hN a "java/util/ArrayList" ∧ Fld Z hN a "java/util/AbstractList" "modCount" "I" (.int (0 : Int32)) ∧ Fld Z hN a "java/util/ArrayList" "elementData" "[Ljava/lang/Object;" (.ref b) ∧ Fld Z hN a "java/util/ArrayList" "size" "I" (.int (0 : Int32)) ∧ Exa Z hN b "[Ljava/lang/Object;" ∧ Arv Z hN b kb (.object "java/lang/Object") (1 : Int32) [.null] .null
set_option maxRecDepth 65536 in
set_option maxHeartbeats 40000000 in
theorem own_al (l : Launch) (Z : State) (a0 : Array Value) (hw : ∀ d ∈ tables_1, d.before a0 Z = true) (ws : List Jvm.Cond) (a : Addr) (h0 : Heap) (n0 : Nat) (Z0 : n0 ≤ h0.size) (H0 : Exa Z h0 a "java/util/ArrayList") (H1 : Fld Z h0 a "java/util/AbstractList" "modCount" "I" (.int (0 : Int32))) (H2 : Fld Z h0 a "java/util/ArrayList" "elementData" "[Ljava/lang/Object;" .null) (H3 : Fld Z h0 a "java/util/ArrayList" "size" "I" (.int (0 : Int32))) (H4 : n0 ≤ a) :
    MetFree l (⟨"java/util/ArrayList", "<init>", "(I)V"⟩ : MethodName) (head1 (Jvm.Cond.code (⟨"java/util/ArrayList", "<init>", "(I)V"⟩ : MethodName) jdk_38_method_1_code 2 none :: ws) ({ frames := 3, cells := 1, slots := 1, locals := 36 } : Room)) (fun aa UU => aa = #[(.ref a), (.int (1 : Int32))] ∧ Z.Warmed39 UU.vm ∧ UU.heap = h0) (fun _ _ _ _ _ => True) (fun _ UU oo UU' => ∃ rv LL, oo = .returned rv ∧ own_al_Q Z a h0 n0 rv UU'.heap LL ∧ FrameEnd UU oo UU' LL ({ frames := 3, cells := 1, slots := 1, locals := 36 } : Room).cells ({ frames := 3, cells := 1, slots := 1, locals := 36 } : Room).slots) := by
  refine MetFree.of_bodySF (plainFor_of_name own_pn5) hisR ?_
  intro p e s m args below meth c s₁ Bd hml0 hP hK
  obtain ⟨rfl, hZ, hh⟩ := hP
  have hx := Bd.exec
  have hby := Bd.bytes
  have hml : c.maxLocals = 2 := hml0
  have hown : s.vm.findClass "java/util/ArrayList" = some m.cls := findClass_of_methodNamed Bd.named
  have hnm := (name_of_methodNamed Bd.named Bd.method).1
  have X0 : Stand p l e ({ frames := 3, cells := 1, slots := 1, locals := 36 } : Room) s m #[(.ref a), (.int (1 : Int32))] below meth c s₁ [] 0 0 := Stand.of_body Bd
  have e0 : s₁.heap = h0 := by rw [← hh, Bd.state]; rfl
  have N0 := Fr.nil n0
  have K0 : Keep h0 h0 [a] := Keep.refl h0 _
  refine (?_ : OwnGo p.tables e below (fun UU' oo => ∃ rv LL, oo = .returned rv ∧ own_al_Q Z a h0 n0 rv UU'.heap LL ∧ FrameEnd s oo UU' LL ({ frames := 3, cells := 1, slots := 1, locals := 36 } : Room).cells ({ frames := 3, cells := 1, slots := 1, locals := 36 } : Room).slots) _)
  refine OwnGo.back (s₁.setTop (mkF m 0 #[.val (.ref a), .val (.int (1 : Int32))] [])) (fun tg kk => castTop (own_al_ef m a (1 : Int32)) kk) ?_
  refine OwnGo.back (s₁.setTop (mkF m 1 #[.val (.ref a), .val (.int (1 : Int32))] [(.ref a)])) (fun tg kk => XS.aloadN X0.here hx rfl (hb hby own_d9_0) rfl rfl kk) ?_
  obtain ⟨_, _, ⟨T1, L1, k1, n1⟩, -, X1, ⟨Lc1, hQ1, l1, y1, z1⟩, st1⟩ := X0.specialBack hx (y := (⟨"java/util/AbstractList", "<init>", "()V"⟩ : MethodName)) rfl hown (mvT hZ (hw _ (List.mem_of_getElem? (i := 53) rfl))) (mvT hZ (hw _ (List.mem_of_getElem? (i := 54) rfl))) (mvT hZ (hw _ (List.mem_of_getElem? (i := 58) rfl))) (by decide) (backOf (W := 0) (own_ab l Z a0 hw [] a h0 n0 Z0 H0 H1 H2 H3 H4) hZ (hw _ (List.mem_of_getElem? (i := 58) rfl)) (hw _ (List.mem_of_getElem? (i := 57) rfl)) (by decide) (by decide)) (g := (mkF m 1 #[.val (.ref a), .val (.int (1 : Int32))] [(.ref a)])) rfl (by rw [hml]; rfl) (Steps.refl _) (a := a) (argsL := []) (rest := []) (lenOf own_pd4 rfl) rfl (by show 2 * 0 + _ ≤ _; exact Nat.le_of_eq rfl) (hb hby own_d9_1) (fun _ _ => ⟨rfl, e0, (by decide : 0 + 0 ≤ _), (by decide : 0 + 0 ≤ _)⟩)
  dsimp only [Pt.U, Pt.locs, Pt.cells, Pt.slots] at X1 l1 y1 z1 st1 hQ1
  subst l1 y1 z1
  obtain ⟨rfl, N1q, Kc1, po2, po3, po4, po5⟩ := hQ1
  have N1 := Fr.app N0 N1q
  have f6 : Exa Z T1.heap a "java/util/ArrayList" := H0.keep Kc1
  have K7 : Keep h0 T1.heap [a] := K0.trans Kc1 (allS (Or.inl (List.mem_of_getElem? (i := 0) rfl)) all0)
  have Z8 : n0 ≤ T1.heap.size := Nat.le_trans Z0 Kc1.1
  refine OwnGo.back (T1.setTop (mkF m 4 #[.val (.ref a), .val (.int (1 : Int32))] [])) (fun tg kk => st1.trans kk) ?_
  refine OwnGo.back (T1.setTop (mkF m 5 #[.val (.ref a), .val (.int (1 : Int32))] [(.int (1 : Int32))])) (fun tg kk => XS.iloadN X1.here hx rfl (hb hby own_d9_4) rfl kk) ?_
  refine OwnGo.back (T1.setTop (mkF m 8 #[.val (.ref a), .val (.int (1 : Int32))] [])) (fun tg kk => XS.ifNo X1.here hx rfl (hb hby own_d9_5) rfl ((if0 _ _).trans (tlt (by decide : (0 : Int32) < (1 : Int32))).2.2.2) kk) ?_
  refine OwnGo.back (T1.setTop (mkF m 9 #[.val (.ref a), .val (.int (1 : Int32))] [(.ref a)])) (fun tg kk => XS.aloadN X1.here hx rfl (hb hby own_d9_8) rfl rfl kk) ?_
  refine OwnGo.back (T1.setTop (mkF m 10 #[.val (.ref a), .val (.int (1 : Int32))] [(.int (1 : Int32)), (.ref a)])) (fun tg kk => XS.iloadN X1.here hx rfl (hb hby own_d9_9) rfl kk) ?_
  obtain ⟨T9, h9, k9, X9, e9, E9, A9, Ex9, O9, st9⟩ := newRE X1 hx hZ hown (hw _ (List.mem_of_getElem? (i := 68) rfl)) (hw _ (List.mem_of_getElem? (i := 69) rfl)) rfl (g := (mkF m 10 #[.val (.ref a), .val (.int (1 : Int32))] [(.int (1 : Int32)), (.ref a)])) rfl (hb hby own_d9_10) rfl (by decide) (cap := 1) (by decide) (by decide) (by decide) (by decide) (ad := "[Ljava/lang/Object;") rfl
  obtain ⟨b9, q9⟩ : ∃ z, z = T1.heap.size := ⟨_, rfl⟩
  rw [← q9] at A9 st9 Ex9
  have n10 : a ≠ b9 := own_ne po2.lt q9
  have g11 : n0 ≤ b9 := Nat.le_trans Z8 (Nat.le_of_eq q9.symm)
  have s12 : h0.size ≤ b9 := Nat.le_trans K7.1 (Nat.le_of_eq q9.symm)
  have f13 : Exa Z h9 a "java/util/ArrayList" := po2.ext E9
  have f14 : Fld Z h9 a "java/util/AbstractList" "modCount" "I" (.int (0 : Int32)) := po3.ext E9
  have f15 : Fld Z h9 a "java/util/ArrayList" "elementData" "[Ljava/lang/Object;" .null := po4.ext E9
  have f16 : Fld Z h9 a "java/util/ArrayList" "size" "I" (.int (0 : Int32)) := po5.ext E9
  have K17 : Keep h0 h9 [a] := K7.ext E9
  have Z18 : n0 ≤ h9.size := Nat.le_trans Z8 E9.1
  have f19 : Arv Z h9 b9 k9 (.object "java/lang/Object") (1 : Int32) [.null] .null := (Arv.new A9 (by decide)).pad (pad_rep [] .null 1)
  refine OwnGo.back (T9.setTop (mkF m 13 #[.val (.ref a), .val (.int (1 : Int32))] [(.ref b9), (.ref a)])) (fun tg kk => st9 _ kk) ?_
  obtain ⟨T20, h20, X20, e20, W20, st20⟩ := putF X9 hx hZ hown (host := "") (Or.inl (hw _ (List.mem_of_getElem? (i := 70) rfl))) Via.refl e9 f15 f13 (Or.inl (hw _ (List.mem_of_getElem? (i := 71) rfl))) (hw _ (List.mem_of_getElem? (i := 48) rfl)) (ty := (.array (.object "java/lang/Object"))) (by decide) rfl rfl (g := (mkF m 13 #[.val (.ref a), .val (.int (1 : Int32))] [(.ref b9), (.ref a)])) rfl rfl (hb hby own_d9_13)
  have f21 : Fld Z h20 a "java/util/ArrayList" "elementData" "[Ljava/lang/Object;" (.ref b9) := f15.same W20
  have f22 : Exa Z h20 a "java/util/ArrayList" := f13.wr W20
  have f23 : Fld Z h20 a "java/util/AbstractList" "modCount" "I" (.int (0 : Int32)) := f14.other W20 (Or.inr (slot_ne (Or.inl (hw _ (List.mem_of_getElem? (i := 67) rfl))) (Or.inl (hw _ (List.mem_of_getElem? (i := 71) rfl))) (by decide) (t := .int) (t' := (.array (.object "java/lang/Object"))) (by decide) (by decide)))
  have f24 : Fld Z h20 a "java/util/ArrayList" "size" "I" (.int (0 : Int32)) := f16.other W20 (Or.inr (slot_ne (Or.inl (hw _ (List.mem_of_getElem? (i := 109) rfl))) (Or.inl (hw _ (List.mem_of_getElem? (i := 71) rfl))) (by decide) (t := .int) (t' := (.array (.object "java/lang/Object"))) (by decide) (by decide)))
  have f25 : Exa Z h20 b9 "[Ljava/lang/Object;" := Ex9.wr W20
  have f26 : Arv Z h20 b9 k9 (.object "java/lang/Object") (1 : Int32) [.null] .null := f19.other W20 (Ne.symm n10)
  have K27 : Keep h0 h20 [a] := K17.wr W20 (Or.inl (List.mem_of_getElem? (i := 0) rfl))
  have Z28 : n0 ≤ h20.size := Nat.le_trans Z18 (Keep.of_wr W20).1
  have N29 := Fr.snoc X20 N1 H4
  refine OwnGo.back (T20.setTop (mkF m 16 #[.val (.ref a), .val (.int (1 : Int32))] [])) (fun tg kk => st20 _ kk) ?_
  refine OwnGo.back (T20.setTop (mkF m 60 #[.val (.ref a), .val (.int (1 : Int32))] [])) (fun tg kk => XS.goto X20.here hx rfl (pc0 := 16) (pc' := 60) rfl (hb hby own_d9_16) (by decide) (by decide) kk) ?_
  obtain ⟨fs, hr, hrun, hended, hW, hsame⟩ := X20.leave (v := none) (fun _ => rfl)
  refine ⟨_, _, ?_, hrun, hended, _, _, rfl, ?_, ⟨_, rfl⟩, hW, hsame.mono (by decide) (by decide)⟩
  · exact X20.returnOut hx Bd.returns (hb hby own_d9_60) hr
  · show own_al_Q Z a h0 n0 _ T20.heap _
    rw [e20]
    exact ⟨b9, k9, rfl, N29, K27, s12, f22, f23, f21, f24, f25, f26⟩
theorem own_sy_ef (m : MethodId) (x0 : Addr) (x1 : Addr) : entryFrame m #[(.ref x0), (.ref x1)] 2 = mkF m 0 #[.val (.ref x0), .val (.ref x1)] [] := by first | (simp [entryFrame, mkF, argsToLocals, Value.category]; done) | rfl
def own_sy_Q (Z : State) (a : Addr) (n : Addr) (h0 : Heap) (n0 : Nat) (rv : Option Value) (hN : Heap) (LL : List Loc) : Prop := ∃ (d : Addr), ∃ (da : Addr), ∃ (r : Addr), ∃ (ra : Addr), ∃ (kd : ClassId), ∃ (kr : ClassId), rv = none ∧ Fr n0 LL ∧ Keep h0 hN [a] ∧ h0.size ≤ d ∧ h0.size ≤ da ∧ h0.size ≤ r ∧ h0.size ≤ ra ∧ Exa Z hN a "com/example/lucid_policy/lucidpolicy/parse/Symbol" ∧ Fld Z hN a "com/example/lucid_policy/lucidpolicy/parse/Symbol" "declaredIn" "Ljava/util/List;" (.ref d) ∧ Fld Z hN a "com/example/lucid_policy/lucidpolicy/parse/Symbol" "requiredIn" "Ljava/util/List;" (.ref r) ∧ Fld Z hN a "com/example/lucid_policy/lucidpolicy/parse/Symbol" "kind" "Lcom/example/lucid_policy/lucidpolicy/parse/SymbolKind;" .null ∧ Fld Z hN a "com/example/lucid_policy/lucidpolicy/parse/Symbol" "location" "Lcom/example/lucid_policy/lucidpolicy/model/SourceLocation;" .null ∧ Exa Z hN d "java/util/ArrayList" ∧ Fld Z hN d "java/util/AbstractList" "modCount" "I" (.int (0 : Int32)) ∧ Fld Z hN d "java/util/ArrayList" "elementData" "[Ljava/lang/Object;" (.ref da) ∧ Fld Z hN d "java/util/ArrayList" "size" "I" (.int (0 : Int32)) ∧ Exa Z hN da "[Ljava/lang/Object;" ∧ Arv Z hN da kd (.object "java/lang/Object") (1 : Int32) [.null] .null ∧ Exa Z hN r "java/util/ArrayList" ∧ Fld Z hN r "java/util/AbstractList" "modCount" "I" (.int (0 : Int32)) ∧ Fld Z hN r "java/util/ArrayList" "elementData" "[Ljava/lang/Object;" (.ref ra) ∧ Fld Z hN r "java/util/ArrayList" "size" "I" (.int (0 : Int32)) ∧ Exa Z hN ra "[Ljava/lang/Object;" ∧ Arv Z hN ra kr (.object "java/lang/Object") (1 : Int32) [.null] .null ∧ d ≠ da ∧ d ≠ r ∧ d ≠ ra ∧ da ≠ r ∧ da ≠ ra ∧ r ≠ ra
set_option maxRecDepth 65536 in
set_option maxHeartbeats 40000000 in
theorem own_sy (l : Launch) (Z : State) (a0 : Array Value) (hw : ∀ d ∈ tables_1, d.before a0 Z = true) (ws : List Jvm.Cond) (a : Addr) (n : Addr) (h0 : Heap) (n0 : Nat) (Z0 : n0 ≤ h0.size) (H0 : Exa Z h0 a "com/example/lucid_policy/lucidpolicy/parse/Symbol") (H1 : Fld Z h0 a "com/example/lucid_policy/lucidpolicy/parse/Symbol" "declaredIn" "Ljava/util/List;" .null) (H2 : Fld Z h0 a "com/example/lucid_policy/lucidpolicy/parse/Symbol" "requiredIn" "Ljava/util/List;" .null) (H3 : Fld Z h0 a "com/example/lucid_policy/lucidpolicy/parse/Symbol" "kind" "Lcom/example/lucid_policy/lucidpolicy/parse/SymbolKind;" .null) (H4 : Fld Z h0 a "com/example/lucid_policy/lucidpolicy/parse/Symbol" "location" "Lcom/example/lucid_policy/lucidpolicy/model/SourceLocation;" .null) (H5 : Fld Z h0 a "com/example/lucid_policy/lucidpolicy/parse/Symbol" "name" "Ljava/lang/String;" .null) (H6 : n0 ≤ a) :
    MetFree l (⟨"com/example/lucid_policy/lucidpolicy/parse/Symbol", "<init>", "(Ljava/lang/String;)V"⟩ : MethodName) (head1 (Jvm.Cond.code (⟨"com/example/lucid_policy/lucidpolicy/parse/Symbol", "<init>", "(Ljava/lang/String;)V"⟩ : MethodName) prog_160_method_1_code 2 none :: ws) ({ frames := 4, cells := 4, slots := 8, locals := 51 } : Room)) (fun aa UU => aa = #[(.ref a), (.ref n)] ∧ Z.Warmed39 UU.vm ∧ UU.heap = h0) (fun _ _ _ _ _ => True) (fun _ UU oo UU' => ∃ rv LL, oo = .returned rv ∧ own_sy_Q Z a n h0 n0 rv UU'.heap LL ∧ FrameEnd UU oo UU' LL ({ frames := 4, cells := 4, slots := 8, locals := 51 } : Room).cells ({ frames := 4, cells := 4, slots := 8, locals := 51 } : Room).slots) := by
  refine MetFree.of_bodySF (plainFor_of_name own_pn6) hisR ?_
  intro p e s m args below meth c s₁ Bd hml0 hP hK
  obtain ⟨rfl, hZ, hh⟩ := hP
  have hx := Bd.exec
  have hby := Bd.bytes
  have hml : c.maxLocals = 2 := hml0
  have hown : s.vm.findClass "com/example/lucid_policy/lucidpolicy/parse/Symbol" = some m.cls := findClass_of_methodNamed Bd.named
  have hnm := (name_of_methodNamed Bd.named Bd.method).1
  have X0 : Stand p l e ({ frames := 4, cells := 4, slots := 8, locals := 51 } : Room) s m #[(.ref a), (.ref n)] below meth c s₁ [] 0 0 := Stand.of_body Bd
  have e0 : s₁.heap = h0 := by rw [← hh, Bd.state]; rfl
  have N0 := Fr.nil n0
  have K0 : Keep h0 h0 [a] := Keep.refl h0 _
  refine (?_ : OwnGo p.tables e below (fun UU' oo => ∃ rv LL, oo = .returned rv ∧ own_sy_Q Z a n h0 n0 rv UU'.heap LL ∧ FrameEnd s oo UU' LL ({ frames := 4, cells := 4, slots := 8, locals := 51 } : Room).cells ({ frames := 4, cells := 4, slots := 8, locals := 51 } : Room).slots) _)
  refine OwnGo.back (s₁.setTop (mkF m 0 #[.val (.ref a), .val (.ref n)] [])) (fun tg kk => castTop (own_sy_ef m a n) kk) ?_
  refine OwnGo.back (s₁.setTop (mkF m 1 #[.val (.ref a), .val (.ref n)] [(.ref a)])) (fun tg kk => XS.aloadN X0.here hx rfl (hb hby own_d8_0) rfl rfl kk) ?_
  obtain ⟨T1, X1, e1, st1⟩ := initO X0 hx hZ hown (hw _ (List.mem_of_getElem? (i := 46) rfl)) (hw _ (List.mem_of_getElem? (i := 12) rfl)) (hw _ (List.mem_of_getElem? (i := 13) rfl)) e0 (g := (mkF m 1 #[.val (.ref a), .val (.ref n)] [(.ref a)])) rfl (by rw [hml]; rfl) rfl (hb hby own_d8_1) (by decide) (W := 0) (by show 2 * 0 + _ ≤ _; exact Nat.le_of_eq rfl) (by decide)
  refine OwnGo.back (T1.setTop (mkF m 4 #[.val (.ref a), .val (.ref n)] [])) (fun tg kk => st1 _ kk) ?_
  refine OwnGo.back (T1.setTop (mkF m 5 #[.val (.ref a), .val (.ref n)] [(.ref a)])) (fun tg kk => XS.aloadN X1.here hx rfl (hb hby own_d8_4) rfl rfl kk) ?_
  obtain ⟨T2, h2, X2, e2, E2, A2, D2, -, st2⟩ := newO X1 hx hZ hown (hw _ (List.mem_of_getElem? (i := 47) rfl)) (hw _ (List.mem_of_getElem? (i := 48) rfl)) (hw _ (List.mem_of_getElem? (i := 49) rfl)) e1 (g := (mkF m 5 #[.val (.ref a), .val (.ref n)] [(.ref a)])) rfl (hb hby own_d8_5) (by decide) (by decide)
  obtain ⟨b2, q2⟩ : ∃ z, z = h0.size := ⟨_, rfl⟩
  rw [← q2] at A2 D2 st2
  have n3 : a ≠ b2 := own_ne H0.lt q2
  have g4 : n0 ≤ b2 := Nat.le_trans Z0 (Nat.le_of_eq q2.symm)
  have s5 : h0.size ≤ b2 := Nat.le_trans K0.1 (Nat.le_of_eq q2.symm)
  have f6 : Exa Z h2 a "com/example/lucid_policy/lucidpolicy/parse/Symbol" := H0.ext E2
  have f7 : Fld Z h2 a "com/example/lucid_policy/lucidpolicy/parse/Symbol" "declaredIn" "Ljava/util/List;" .null := H1.ext E2
  have f8 : Fld Z h2 a "com/example/lucid_policy/lucidpolicy/parse/Symbol" "requiredIn" "Ljava/util/List;" .null := H2.ext E2
  have f9 : Fld Z h2 a "com/example/lucid_policy/lucidpolicy/parse/Symbol" "kind" "Lcom/example/lucid_policy/lucidpolicy/parse/SymbolKind;" .null := H3.ext E2
  have f10 : Fld Z h2 a "com/example/lucid_policy/lucidpolicy/parse/Symbol" "location" "Lcom/example/lucid_policy/lucidpolicy/model/SourceLocation;" .null := H4.ext E2
  have f11 : Fld Z h2 a "com/example/lucid_policy/lucidpolicy/parse/Symbol" "name" "Ljava/lang/String;" .null := H5.ext E2
  have K12 : Keep h0 h2 [a] := K0.ext E2
  have Z13 : n0 ≤ h2.size := Nat.le_trans Z0 E2.1
  have f14 : Fld Z h2 b2 "java/util/AbstractList" "modCount" "I" (.int (0 : Int32)) := D2 (Or.inl (hw _ (List.mem_of_getElem? (i := 67) rfl))) (ty := .int) (by decide)
  have f15 : Fld Z h2 b2 "java/util/ArrayList" "elementData" "[Ljava/lang/Object;" .null := D2 (Or.inl (hw _ (List.mem_of_getElem? (i := 71) rfl))) (ty := (.array (.object "java/lang/Object"))) (by decide)
  have f16 : Fld Z h2 b2 "java/util/ArrayList" "size" "I" (.int (0 : Int32)) := D2 (Or.inl (hw _ (List.mem_of_getElem? (i := 109) rfl))) (ty := .int) (by decide)
  refine OwnGo.back (T2.setTop (mkF m 8 #[.val (.ref a), .val (.ref n)] [(.ref b2), (.ref a)])) (fun tg kk => st2 _ kk) ?_
  refine OwnGo.back (T2.setTop (mkF m 9 #[.val (.ref a), .val (.ref n)] [(.ref b2), (.ref b2), (.ref a)])) (fun tg kk => XS.dup X2.here hx rfl (hb hby own_d8_8) rfl rfl kk) ?_
  refine OwnGo.back (T2.setTop (mkF m 10 #[.val (.ref a), .val (.ref n)] [(.int (1 : Int32)), (.ref b2), (.ref b2), (.ref a)])) (fun tg kk => XS.iconst X2.here hx rfl (hb hby own_d8_9) kk) ?_
  obtain ⟨_, _, ⟨T17, L17, k17, n17⟩, -, X17, ⟨Lc17, hQ17, l17, y17, z17⟩, st17⟩ := X2.specialBack hx (y := (⟨"java/util/ArrayList", "<init>", "(I)V"⟩ : MethodName)) rfl hown (mvT hZ (hw _ (List.mem_of_getElem? (i := 50) rfl))) (mvT hZ (hw _ (List.mem_of_getElem? (i := 51) rfl))) (mvT hZ (hw _ (List.mem_of_getElem? (i := 52) rfl))) (by decide) (backOf (W := 2) (own_al l Z a0 hw [] b2 h2 n0 Z13 A2 f14 f15 f16 g4) hZ (hw _ (List.mem_of_getElem? (i := 52) rfl)) (hw _ (List.mem_of_getElem? (i := 49) rfl)) (by decide) (by decide)) (g := (mkF m 10 #[.val (.ref a), .val (.ref n)] [(.int (1 : Int32)), (.ref b2), (.ref b2), (.ref a)])) rfl (by rw [hml]; rfl) (Steps.refl _) (a := b2) (argsL := [(.int (1 : Int32))]) (rest := [(.ref b2), (.ref a)]) (lenOf own_pd5 rfl) rfl (by show 2 * 0 + _ ≤ _; exact Nat.le_of_eq rfl) (hb hby own_d8_10) (fun _ _ => ⟨rfl, e2, (by decide : 1 + 1 ≤ _), (by decide : 3 + 1 ≤ _)⟩)
  dsimp only [Pt.U, Pt.locs, Pt.cells, Pt.slots] at X17 l17 y17 z17 st17 hQ17
  subst l17 y17 z17
  obtain ⟨b_18, kb_19, rfl, N17q, Kc17, po20, po21, po22, po23, po24, po25, po26⟩ := hQ17
  have N17 := Fr.app N0 N17q
  have f27 : Exa Z T17.heap a "com/example/lucid_policy/lucidpolicy/parse/Symbol" := f6.keep Kc17
  have f28 : Fld Z T17.heap a "com/example/lucid_policy/lucidpolicy/parse/Symbol" "declaredIn" "Ljava/util/List;" .null := f7.keep Kc17 (ninS n3 nin0)
  have f29 : Fld Z T17.heap a "com/example/lucid_policy/lucidpolicy/parse/Symbol" "requiredIn" "Ljava/util/List;" .null := f8.keep Kc17 (ninS n3 nin0)
  have f30 : Fld Z T17.heap a "com/example/lucid_policy/lucidpolicy/parse/Symbol" "kind" "Lcom/example/lucid_policy/lucidpolicy/parse/SymbolKind;" .null := f9.keep Kc17 (ninS n3 nin0)
  have f31 : Fld Z T17.heap a "com/example/lucid_policy/lucidpolicy/parse/Symbol" "location" "Lcom/example/lucid_policy/lucidpolicy/model/SourceLocation;" .null := f10.keep Kc17 (ninS n3 nin0)
  have f32 : Fld Z T17.heap a "com/example/lucid_policy/lucidpolicy/parse/Symbol" "name" "Ljava/lang/String;" .null := f11.keep Kc17 (ninS n3 nin0)
  have f33 : Exa Z T17.heap b2 "java/util/ArrayList" := A2.keep Kc17
  have K34 : Keep h0 T17.heap [a] := K12.trans Kc17 (allS (Or.inr s5) all0)
  have Z35 : n0 ≤ T17.heap.size := Nat.le_trans Z13 Kc17.1
  have n36 : a ≠ b_18 := own_ne' f6.lt po20
  have n37 : b2 ≠ b_18 := own_ne' A2.lt po20
  have g38 : n0 ≤ b_18 := Nat.le_trans Z13 po20
  have s39 : h0.size ≤ b_18 := Nat.le_trans K12.1 po20
  refine OwnGo.back (T17.setTop (mkF m 13 #[.val (.ref a), .val (.ref n)] [(.ref b2), (.ref a)])) (fun tg kk => st17.trans kk) ?_
  obtain ⟨T40, h40, X40, e40, W40, st40⟩ := putF X17 hx hZ hown (host := "") (Or.inl (hw _ (List.mem_of_getElem? (i := 72) rfl))) Via.refl rfl f28 f27 (Or.inr ⟨(hw _ (List.mem_of_getElem? (i := 73) rfl)), rfl, hnm⟩) (hw _ (List.mem_of_getElem? (i := 41) rfl)) (ty := (.object "java/util/List")) (by decide) rfl rfl (g := (mkF m 13 #[.val (.ref a), .val (.ref n)] [(.ref b2), (.ref a)])) rfl rfl (hb hby own_d8_13)
  have f41 : Fld Z h40 a "com/example/lucid_policy/lucidpolicy/parse/Symbol" "declaredIn" "Ljava/util/List;" (.ref b2) := f28.same W40
  have f42 : Exa Z h40 a "com/example/lucid_policy/lucidpolicy/parse/Symbol" := f27.wr W40
  have f43 : Fld Z h40 a "com/example/lucid_policy/lucidpolicy/parse/Symbol" "requiredIn" "Ljava/util/List;" .null := f29.other W40 (Or.inr (slot_ne (Or.inr (hw _ (List.mem_of_getElem? (i := 75) rfl))) (Or.inr (hw _ (List.mem_of_getElem? (i := 73) rfl))) (by decide) (t := (.object "java/util/List")) (t' := (.object "java/util/List")) (by decide) (by decide)))
  have f44 : Fld Z h40 a "com/example/lucid_policy/lucidpolicy/parse/Symbol" "kind" "Lcom/example/lucid_policy/lucidpolicy/parse/SymbolKind;" .null := f30.other W40 (Or.inr (slot_ne (Or.inl (hw _ (List.mem_of_getElem? (i := 84) rfl))) (Or.inr (hw _ (List.mem_of_getElem? (i := 73) rfl))) (by decide) (t := (.object "com/example/lucid_policy/lucidpolicy/parse/SymbolKind")) (t' := (.object "java/util/List")) (by decide) (by decide)))
  have f45 : Fld Z h40 a "com/example/lucid_policy/lucidpolicy/parse/Symbol" "location" "Lcom/example/lucid_policy/lucidpolicy/model/SourceLocation;" .null := f31.other W40 (Or.inr (slot_ne (Or.inl (hw _ (List.mem_of_getElem? (i := 121) rfl))) (Or.inr (hw _ (List.mem_of_getElem? (i := 73) rfl))) (by decide) (t := (.object "com/example/lucid_policy/lucidpolicy/model/SourceLocation")) (t' := (.object "java/util/List")) (by decide) (by decide)))
  have f46 : Fld Z h40 a "com/example/lucid_policy/lucidpolicy/parse/Symbol" "name" "Ljava/lang/String;" .null := f32.other W40 (Or.inr (slot_ne (Or.inr (hw _ (List.mem_of_getElem? (i := 77) rfl))) (Or.inr (hw _ (List.mem_of_getElem? (i := 73) rfl))) (by decide) (t := (.object "java/lang/String")) (t' := (.object "java/util/List")) (by decide) (by decide)))
  have f47 : Exa Z h40 b2 "java/util/ArrayList" := po21.wr W40
  have f48 : Fld Z h40 b2 "java/util/AbstractList" "modCount" "I" (.int (0 : Int32)) := po22.other W40 (Or.inl (Ne.symm n3))
  have f49 : Fld Z h40 b2 "java/util/ArrayList" "elementData" "[Ljava/lang/Object;" (.ref b_18) := po23.other W40 (Or.inl (Ne.symm n3))
  have f50 : Fld Z h40 b2 "java/util/ArrayList" "size" "I" (.int (0 : Int32)) := po24.other W40 (Or.inl (Ne.symm n3))
  have f51 : Exa Z h40 b_18 "[Ljava/lang/Object;" := po25.wr W40
  have f52 : Arv Z h40 b_18 kb_19 (.object "java/lang/Object") (1 : Int32) [.null] .null := po26.other W40 (Ne.symm n36)
  have K53 : Keep h0 h40 [a] := K34.wr W40 (Or.inl (List.mem_of_getElem? (i := 0) rfl))
  have Z54 : n0 ≤ h40.size := Nat.le_trans Z35 (Keep.of_wr W40).1
  have N55 := Fr.snoc X40 N17 H6
  refine OwnGo.back (T40.setTop (mkF m 16 #[.val (.ref a), .val (.ref n)] [])) (fun tg kk => st40 _ kk) ?_
  refine OwnGo.back (T40.setTop (mkF m 17 #[.val (.ref a), .val (.ref n)] [(.ref a)])) (fun tg kk => XS.aloadN X40.here hx rfl (hb hby own_d8_16) rfl rfl kk) ?_
  obtain ⟨T56, h56, X56, e56, E56, A56, D56, -, st56⟩ := newO X40 hx hZ hown (hw _ (List.mem_of_getElem? (i := 47) rfl)) (hw _ (List.mem_of_getElem? (i := 48) rfl)) (hw _ (List.mem_of_getElem? (i := 49) rfl)) e40 (g := (mkF m 17 #[.val (.ref a), .val (.ref n)] [(.ref a)])) rfl (hb hby own_d8_17) (by decide) (by decide)
  obtain ⟨b56, q56⟩ : ∃ z, z = h40.size := ⟨_, rfl⟩
  rw [← q56] at A56 D56 st56
  have n57 : a ≠ b56 := own_ne f42.lt q56
  have n58 : b2 ≠ b56 := own_ne f47.lt q56
  have n59 : b_18 ≠ b56 := own_ne f51.lt q56
  have g60 : n0 ≤ b56 := Nat.le_trans Z54 (Nat.le_of_eq q56.symm)
  have s61 : h0.size ≤ b56 := Nat.le_trans K53.1 (Nat.le_of_eq q56.symm)
  have f62 : Exa Z h56 a "com/example/lucid_policy/lucidpolicy/parse/Symbol" := f42.ext E56
  have f63 : Fld Z h56 a "com/example/lucid_policy/lucidpolicy/parse/Symbol" "requiredIn" "Ljava/util/List;" .null := f43.ext E56
  have f64 : Fld Z h56 a "com/example/lucid_policy/lucidpolicy/parse/Symbol" "kind" "Lcom/example/lucid_policy/lucidpolicy/parse/SymbolKind;" .null := f44.ext E56
  have f65 : Fld Z h56 a "com/example/lucid_policy/lucidpolicy/parse/Symbol" "location" "Lcom/example/lucid_policy/lucidpolicy/model/SourceLocation;" .null := f45.ext E56
  have f66 : Fld Z h56 a "com/example/lucid_policy/lucidpolicy/parse/Symbol" "name" "Ljava/lang/String;" .null := f46.ext E56
  have f67 : Exa Z h56 b2 "java/util/ArrayList" := f47.ext E56
  have f68 : Fld Z h56 b2 "java/util/AbstractList" "modCount" "I" (.int (0 : Int32)) := f48.ext E56
  have f69 : Fld Z h56 b2 "java/util/ArrayList" "elementData" "[Ljava/lang/Object;" (.ref b_18) := f49.ext E56
  have f70 : Fld Z h56 b2 "java/util/ArrayList" "size" "I" (.int (0 : Int32)) := f50.ext E56
  have f71 : Exa Z h56 b_18 "[Ljava/lang/Object;" := f51.ext E56
  have f72 : Arv Z h56 b_18 kb_19 (.object "java/lang/Object") (1 : Int32) [.null] .null := f52.ext E56
  have f73 : Fld Z h56 a "com/example/lucid_policy/lucidpolicy/parse/Symbol" "declaredIn" "Ljava/util/List;" (.ref b2) := f41.ext E56
  have K74 : Keep h0 h56 [a] := K53.ext E56
  have Z75 : n0 ≤ h56.size := Nat.le_trans Z54 E56.1
  have f76 : Fld Z h56 b56 "java/util/AbstractList" "modCount" "I" (.int (0 : Int32)) := D56 (Or.inl (hw _ (List.mem_of_getElem? (i := 67) rfl))) (ty := .int) (by decide)
  have f77 : Fld Z h56 b56 "java/util/ArrayList" "elementData" "[Ljava/lang/Object;" .null := D56 (Or.inl (hw _ (List.mem_of_getElem? (i := 71) rfl))) (ty := (.array (.object "java/lang/Object"))) (by decide)
  have f78 : Fld Z h56 b56 "java/util/ArrayList" "size" "I" (.int (0 : Int32)) := D56 (Or.inl (hw _ (List.mem_of_getElem? (i := 109) rfl))) (ty := .int) (by decide)
  refine OwnGo.back (T56.setTop (mkF m 20 #[.val (.ref a), .val (.ref n)] [(.ref b56), (.ref a)])) (fun tg kk => st56 _ kk) ?_
  refine OwnGo.back (T56.setTop (mkF m 21 #[.val (.ref a), .val (.ref n)] [(.ref b56), (.ref b56), (.ref a)])) (fun tg kk => XS.dup X56.here hx rfl (hb hby own_d8_20) rfl rfl kk) ?_
  refine OwnGo.back (T56.setTop (mkF m 22 #[.val (.ref a), .val (.ref n)] [(.int (1 : Int32)), (.ref b56), (.ref b56), (.ref a)])) (fun tg kk => XS.iconst X56.here hx rfl (hb hby own_d8_21) kk) ?_
  obtain ⟨_, _, ⟨T79, L79, k79, n79⟩, -, X79, ⟨Lc79, hQ79, l79, y79, z79⟩, st79⟩ := X56.specialBack hx (y := (⟨"java/util/ArrayList", "<init>", "(I)V"⟩ : MethodName)) rfl hown (mvT hZ (hw _ (List.mem_of_getElem? (i := 50) rfl))) (mvT hZ (hw _ (List.mem_of_getElem? (i := 51) rfl))) (mvT hZ (hw _ (List.mem_of_getElem? (i := 52) rfl))) (by decide) (backOf (W := 2) (own_al l Z a0 hw [] b56 h56 n0 Z75 A56 f76 f77 f78 g60) hZ (hw _ (List.mem_of_getElem? (i := 52) rfl)) (hw _ (List.mem_of_getElem? (i := 49) rfl)) (by decide) (by decide)) (g := (mkF m 22 #[.val (.ref a), .val (.ref n)] [(.int (1 : Int32)), (.ref b56), (.ref b56), (.ref a)])) rfl (by rw [hml]; rfl) (Steps.refl _) (a := b56) (argsL := [(.int (1 : Int32))]) (rest := [(.ref b56), (.ref a)]) (lenOf own_pd5 rfl) rfl (by show 2 * 0 + _ ≤ _; exact Nat.le_of_eq rfl) (hb hby own_d8_22) (fun _ _ => ⟨rfl, e56, (by decide : 3 + 1 ≤ _), (by decide : 7 + 1 ≤ _)⟩)
  dsimp only [Pt.U, Pt.locs, Pt.cells, Pt.slots] at X79 l79 y79 z79 st79 hQ79
  subst l79 y79 z79
  obtain ⟨b_80, kb_81, rfl, N79q, Kc79, po82, po83, po84, po85, po86, po87, po88⟩ := hQ79
  have N79 := Fr.app N55 N79q
  have f89 : Exa Z T79.heap a "com/example/lucid_policy/lucidpolicy/parse/Symbol" := f62.keep Kc79
  have f90 : Fld Z T79.heap a "com/example/lucid_policy/lucidpolicy/parse/Symbol" "requiredIn" "Ljava/util/List;" .null := f63.keep Kc79 (ninS n57 nin0)
  have f91 : Fld Z T79.heap a "com/example/lucid_policy/lucidpolicy/parse/Symbol" "kind" "Lcom/example/lucid_policy/lucidpolicy/parse/SymbolKind;" .null := f64.keep Kc79 (ninS n57 nin0)
  have f92 : Fld Z T79.heap a "com/example/lucid_policy/lucidpolicy/parse/Symbol" "location" "Lcom/example/lucid_policy/lucidpolicy/model/SourceLocation;" .null := f65.keep Kc79 (ninS n57 nin0)
  have f93 : Fld Z T79.heap a "com/example/lucid_policy/lucidpolicy/parse/Symbol" "name" "Ljava/lang/String;" .null := f66.keep Kc79 (ninS n57 nin0)
  have f94 : Exa Z T79.heap b2 "java/util/ArrayList" := f67.keep Kc79
  have f95 : Fld Z T79.heap b2 "java/util/AbstractList" "modCount" "I" (.int (0 : Int32)) := f68.keep Kc79 (ninS n58 nin0)
  have f96 : Fld Z T79.heap b2 "java/util/ArrayList" "elementData" "[Ljava/lang/Object;" (.ref b_18) := f69.keep Kc79 (ninS n58 nin0)
  have f97 : Fld Z T79.heap b2 "java/util/ArrayList" "size" "I" (.int (0 : Int32)) := f70.keep Kc79 (ninS n58 nin0)
  have f98 : Exa Z T79.heap b_18 "[Ljava/lang/Object;" := f71.keep Kc79
  have f99 : Arv Z T79.heap b_18 kb_19 (.object "java/lang/Object") (1 : Int32) [.null] .null := f72.keep Kc79 (ninS n59 nin0)
  have f100 : Fld Z T79.heap a "com/example/lucid_policy/lucidpolicy/parse/Symbol" "declaredIn" "Ljava/util/List;" (.ref b2) := f73.keep Kc79 (ninS n57 nin0)
  have f101 : Exa Z T79.heap b56 "java/util/ArrayList" := A56.keep Kc79
  have K102 : Keep h0 T79.heap [a] := K74.trans Kc79 (allS (Or.inr s61) all0)
  have Z103 : n0 ≤ T79.heap.size := Nat.le_trans Z75 Kc79.1
  have n104 : a ≠ b_80 := own_ne' f62.lt po82
  have n105 : b2 ≠ b_80 := own_ne' f67.lt po82
  have n106 : b_18 ≠ b_80 := own_ne' f71.lt po82
  have n107 : b56 ≠ b_80 := own_ne' A56.lt po82
  have g108 : n0 ≤ b_80 := Nat.le_trans Z75 po82
  have s109 : h0.size ≤ b_80 := Nat.le_trans K74.1 po82
  refine OwnGo.back (T79.setTop (mkF m 25 #[.val (.ref a), .val (.ref n)] [(.ref b56), (.ref a)])) (fun tg kk => st79.trans kk) ?_
  obtain ⟨T110, h110, X110, e110, W110, st110⟩ := putF X79 hx hZ hown (host := "") (Or.inl (hw _ (List.mem_of_getElem? (i := 74) rfl))) Via.refl rfl f90 f89 (Or.inr ⟨(hw _ (List.mem_of_getElem? (i := 75) rfl)), rfl, hnm⟩) (hw _ (List.mem_of_getElem? (i := 41) rfl)) (ty := (.object "java/util/List")) (by decide) rfl rfl (g := (mkF m 25 #[.val (.ref a), .val (.ref n)] [(.ref b56), (.ref a)])) rfl rfl (hb hby own_d8_25)
  have f111 : Fld Z h110 a "com/example/lucid_policy/lucidpolicy/parse/Symbol" "requiredIn" "Ljava/util/List;" (.ref b56) := f90.same W110
  have f112 : Exa Z h110 a "com/example/lucid_policy/lucidpolicy/parse/Symbol" := f89.wr W110
  have f113 : Fld Z h110 a "com/example/lucid_policy/lucidpolicy/parse/Symbol" "kind" "Lcom/example/lucid_policy/lucidpolicy/parse/SymbolKind;" .null := f91.other W110 (Or.inr (slot_ne (Or.inl (hw _ (List.mem_of_getElem? (i := 84) rfl))) (Or.inr (hw _ (List.mem_of_getElem? (i := 75) rfl))) (by decide) (t := (.object "com/example/lucid_policy/lucidpolicy/parse/SymbolKind")) (t' := (.object "java/util/List")) (by decide) (by decide)))
  have f114 : Fld Z h110 a "com/example/lucid_policy/lucidpolicy/parse/Symbol" "location" "Lcom/example/lucid_policy/lucidpolicy/model/SourceLocation;" .null := f92.other W110 (Or.inr (slot_ne (Or.inl (hw _ (List.mem_of_getElem? (i := 121) rfl))) (Or.inr (hw _ (List.mem_of_getElem? (i := 75) rfl))) (by decide) (t := (.object "com/example/lucid_policy/lucidpolicy/model/SourceLocation")) (t' := (.object "java/util/List")) (by decide) (by decide)))
  have f115 : Fld Z h110 a "com/example/lucid_policy/lucidpolicy/parse/Symbol" "name" "Ljava/lang/String;" .null := f93.other W110 (Or.inr (slot_ne (Or.inr (hw _ (List.mem_of_getElem? (i := 77) rfl))) (Or.inr (hw _ (List.mem_of_getElem? (i := 75) rfl))) (by decide) (t := (.object "java/lang/String")) (t' := (.object "java/util/List")) (by decide) (by decide)))
  have f116 : Exa Z h110 b2 "java/util/ArrayList" := f94.wr W110
  have f117 : Fld Z h110 b2 "java/util/AbstractList" "modCount" "I" (.int (0 : Int32)) := f95.other W110 (Or.inl (Ne.symm n3))
  have f118 : Fld Z h110 b2 "java/util/ArrayList" "elementData" "[Ljava/lang/Object;" (.ref b_18) := f96.other W110 (Or.inl (Ne.symm n3))
  have f119 : Fld Z h110 b2 "java/util/ArrayList" "size" "I" (.int (0 : Int32)) := f97.other W110 (Or.inl (Ne.symm n3))
  have f120 : Exa Z h110 b_18 "[Ljava/lang/Object;" := f98.wr W110
  have f121 : Arv Z h110 b_18 kb_19 (.object "java/lang/Object") (1 : Int32) [.null] .null := f99.other W110 (Ne.symm n36)
  have f122 : Fld Z h110 a "com/example/lucid_policy/lucidpolicy/parse/Symbol" "declaredIn" "Ljava/util/List;" (.ref b2) := f100.other W110 (Or.inr (slot_ne (Or.inr (hw _ (List.mem_of_getElem? (i := 73) rfl))) (Or.inr (hw _ (List.mem_of_getElem? (i := 75) rfl))) (by decide) (t := (.object "java/util/List")) (t' := (.object "java/util/List")) (by decide) (by decide)))
  have f123 : Exa Z h110 b56 "java/util/ArrayList" := po83.wr W110
  have f124 : Fld Z h110 b56 "java/util/AbstractList" "modCount" "I" (.int (0 : Int32)) := po84.other W110 (Or.inl (Ne.symm n57))
  have f125 : Fld Z h110 b56 "java/util/ArrayList" "elementData" "[Ljava/lang/Object;" (.ref b_80) := po85.other W110 (Or.inl (Ne.symm n57))
  have f126 : Fld Z h110 b56 "java/util/ArrayList" "size" "I" (.int (0 : Int32)) := po86.other W110 (Or.inl (Ne.symm n57))
  have f127 : Exa Z h110 b_80 "[Ljava/lang/Object;" := po87.wr W110
  have f128 : Arv Z h110 b_80 kb_81 (.object "java/lang/Object") (1 : Int32) [.null] .null := po88.other W110 (Ne.symm n104)
  have K129 : Keep h0 h110 [a] := K102.wr W110 (Or.inl (List.mem_of_getElem? (i := 0) rfl))
  have Z130 : n0 ≤ h110.size := Nat.le_trans Z103 (Keep.of_wr W110).1
  have N131 := Fr.snoc X110 N79 H6
  refine OwnGo.back (T110.setTop (mkF m 28 #[.val (.ref a), .val (.ref n)] [])) (fun tg kk => st110 _ kk) ?_
  refine OwnGo.back (T110.setTop (mkF m 29 #[.val (.ref a), .val (.ref n)] [(.ref a)])) (fun tg kk => XS.aloadN X110.here hx rfl (hb hby own_d8_28) rfl rfl kk) ?_
  refine OwnGo.back (T110.setTop (mkF m 30 #[.val (.ref a), .val (.ref n)] [(.ref n), (.ref a)])) (fun tg kk => XS.aloadN X110.here hx rfl (hb hby own_d8_29) rfl rfl kk) ?_
  obtain ⟨T132, h132, X132, e132, W132, st132⟩ := putF X110 hx hZ hown (host := "") (Or.inl (hw _ (List.mem_of_getElem? (i := 76) rfl))) Via.refl e110 f115 f112 (Or.inr ⟨(hw _ (List.mem_of_getElem? (i := 77) rfl)), rfl, hnm⟩) (hw _ (List.mem_of_getElem? (i := 41) rfl)) (ty := (.object "java/lang/String")) (by decide) rfl rfl (g := (mkF m 30 #[.val (.ref a), .val (.ref n)] [(.ref n), (.ref a)])) rfl rfl (hb hby own_d8_30)
  have f133 : Fld Z h132 a "com/example/lucid_policy/lucidpolicy/parse/Symbol" "name" "Ljava/lang/String;" (.ref n) := f115.same W132
  have f134 : Exa Z h132 a "com/example/lucid_policy/lucidpolicy/parse/Symbol" := f112.wr W132
  have f135 : Fld Z h132 a "com/example/lucid_policy/lucidpolicy/parse/Symbol" "kind" "Lcom/example/lucid_policy/lucidpolicy/parse/SymbolKind;" .null := f113.other W132 (Or.inr (slot_ne (Or.inl (hw _ (List.mem_of_getElem? (i := 84) rfl))) (Or.inr (hw _ (List.mem_of_getElem? (i := 77) rfl))) (by decide) (t := (.object "com/example/lucid_policy/lucidpolicy/parse/SymbolKind")) (t' := (.object "java/lang/String")) (by decide) (by decide)))
  have f136 : Fld Z h132 a "com/example/lucid_policy/lucidpolicy/parse/Symbol" "location" "Lcom/example/lucid_policy/lucidpolicy/model/SourceLocation;" .null := f114.other W132 (Or.inr (slot_ne (Or.inl (hw _ (List.mem_of_getElem? (i := 121) rfl))) (Or.inr (hw _ (List.mem_of_getElem? (i := 77) rfl))) (by decide) (t := (.object "com/example/lucid_policy/lucidpolicy/model/SourceLocation")) (t' := (.object "java/lang/String")) (by decide) (by decide)))
  have f137 : Exa Z h132 b2 "java/util/ArrayList" := f116.wr W132
  have f138 : Fld Z h132 b2 "java/util/AbstractList" "modCount" "I" (.int (0 : Int32)) := f117.other W132 (Or.inl (Ne.symm n3))
  have f139 : Fld Z h132 b2 "java/util/ArrayList" "elementData" "[Ljava/lang/Object;" (.ref b_18) := f118.other W132 (Or.inl (Ne.symm n3))
  have f140 : Fld Z h132 b2 "java/util/ArrayList" "size" "I" (.int (0 : Int32)) := f119.other W132 (Or.inl (Ne.symm n3))
  have f141 : Exa Z h132 b_18 "[Ljava/lang/Object;" := f120.wr W132
  have f142 : Arv Z h132 b_18 kb_19 (.object "java/lang/Object") (1 : Int32) [.null] .null := f121.other W132 (Ne.symm n36)
  have f143 : Fld Z h132 a "com/example/lucid_policy/lucidpolicy/parse/Symbol" "declaredIn" "Ljava/util/List;" (.ref b2) := f122.other W132 (Or.inr (slot_ne (Or.inr (hw _ (List.mem_of_getElem? (i := 73) rfl))) (Or.inr (hw _ (List.mem_of_getElem? (i := 77) rfl))) (by decide) (t := (.object "java/util/List")) (t' := (.object "java/lang/String")) (by decide) (by decide)))
  have f144 : Exa Z h132 b56 "java/util/ArrayList" := f123.wr W132
  have f145 : Fld Z h132 b56 "java/util/AbstractList" "modCount" "I" (.int (0 : Int32)) := f124.other W132 (Or.inl (Ne.symm n57))
  have f146 : Fld Z h132 b56 "java/util/ArrayList" "elementData" "[Ljava/lang/Object;" (.ref b_80) := f125.other W132 (Or.inl (Ne.symm n57))
  have f147 : Fld Z h132 b56 "java/util/ArrayList" "size" "I" (.int (0 : Int32)) := f126.other W132 (Or.inl (Ne.symm n57))
  have f148 : Exa Z h132 b_80 "[Ljava/lang/Object;" := f127.wr W132
  have f149 : Arv Z h132 b_80 kb_81 (.object "java/lang/Object") (1 : Int32) [.null] .null := f128.other W132 (Ne.symm n104)
  have f150 : Fld Z h132 a "com/example/lucid_policy/lucidpolicy/parse/Symbol" "requiredIn" "Ljava/util/List;" (.ref b56) := f111.other W132 (Or.inr (slot_ne (Or.inr (hw _ (List.mem_of_getElem? (i := 75) rfl))) (Or.inr (hw _ (List.mem_of_getElem? (i := 77) rfl))) (by decide) (t := (.object "java/util/List")) (t' := (.object "java/lang/String")) (by decide) (by decide)))
  have K151 : Keep h0 h132 [a] := K129.wr W132 (Or.inl (List.mem_of_getElem? (i := 0) rfl))
  have Z152 : n0 ≤ h132.size := Nat.le_trans Z130 (Keep.of_wr W132).1
  have N153 := Fr.snoc X132 N131 H6
  refine OwnGo.back (T132.setTop (mkF m 33 #[.val (.ref a), .val (.ref n)] [])) (fun tg kk => st132 _ kk) ?_
  obtain ⟨fs, hr, hrun, hended, hW, hsame⟩ := X132.leave (v := none) (fun _ => rfl)
  refine ⟨_, _, ?_, hrun, hended, _, _, rfl, ?_, ⟨_, rfl⟩, hW, hsame.mono (by decide) (by decide)⟩
  · exact X132.returnOut hx Bd.returns (hb hby own_d8_33) hr
  · show own_sy_Q Z a n h0 n0 _ T132.heap _
    rw [e132]
    exact ⟨b2, b_18, b56, b_80, kb_19, kb_81, rfl, N153, K151, s5, s39, s61, s109, f134, f143, f150, f135, f136, f137, f138, f139, f140, f141, f142, f144, f145, f146, f147, f148, f149, n37, n58, n105, n59, n106, n107⟩
theorem own_den_ef (m : MethodId) (x0 : Addr) : entryFrame m #[(.ref x0)] 1 = mkF m 0 #[.val (.ref x0)] [] := by first | (simp [entryFrame, mkF, argsToLocals, Value.category]; done) | rfl
def own_den_Q (Z : State) (a : Addr) (h0 : Heap) (n0 : Nat) (rv : Option Value) (hN : Heap) (LL : List Loc) : Prop := rv = some (.int (0 : Int32)) ∧ Fr n0 LL ∧ hN = h0
set_option maxRecDepth 65536 in
set_option maxHeartbeats 40000000 in
theorem own_den (l : Launch) (Z : State) (a0 : Array Value) (hw : ∀ d ∈ tables_1, d.before a0 Z = true) (ws : List Jvm.Cond) (a : Addr) (h0 : Heap) (n0 : Nat) (Z0 : n0 ≤ h0.size) (H0 : Fld Z h0 a "com/example/lucid_policy/lucidpolicy/parse/Symbol" "kind" "Lcom/example/lucid_policy/lucidpolicy/parse/SymbolKind;" .null) :
    MetFree l (⟨"com/example/lucid_policy/lucidpolicy/parse/Symbol", "declared", "()Z"⟩ : MethodName) (head1 (Jvm.Cond.code (⟨"com/example/lucid_policy/lucidpolicy/parse/Symbol", "declared", "()Z"⟩ : MethodName) prog_160_method_5_code 1 (some .boolean) :: ws) ({ frames := 0, cells := 0, slots := 0, locals := 0 } : Room)) (fun aa UU => aa = #[(.ref a)] ∧ Z.Warmed39 UU.vm ∧ UU.heap = h0) (fun _ _ _ _ _ => True) (fun _ UU oo UU' => ∃ rv LL, oo = .returned rv ∧ own_den_Q Z a h0 n0 rv UU'.heap LL ∧ FrameEnd UU oo UU' LL ({ frames := 0, cells := 0, slots := 0, locals := 0 } : Room).cells ({ frames := 0, cells := 0, slots := 0, locals := 0 } : Room).slots) := by
  refine MetFree.of_bodySF (plainFor_of_name own_pn6) hisR ?_
  intro p e s m args below meth c s₁ Bd hml0 hP hK
  obtain ⟨rfl, hZ, hh⟩ := hP
  have hx := Bd.exec
  have hby := Bd.bytes
  have hml : c.maxLocals = 1 := hml0
  have hown : s.vm.findClass "com/example/lucid_policy/lucidpolicy/parse/Symbol" = some m.cls := findClass_of_methodNamed Bd.named
  have hnm := (name_of_methodNamed Bd.named Bd.method).1
  have X0 : Stand p l e ({ frames := 0, cells := 0, slots := 0, locals := 0 } : Room) s m #[(.ref a)] below meth c s₁ [] 0 0 := Stand.of_body Bd
  have e0 : s₁.heap = h0 := by rw [← hh, Bd.state]; rfl
  have N0 := Fr.nil n0
  have K0 : Keep h0 h0 [] := Keep.refl h0 _
  refine (?_ : OwnGo p.tables e below (fun UU' oo => ∃ rv LL, oo = .returned rv ∧ own_den_Q Z a h0 n0 rv UU'.heap LL ∧ FrameEnd s oo UU' LL ({ frames := 0, cells := 0, slots := 0, locals := 0 } : Room).cells ({ frames := 0, cells := 0, slots := 0, locals := 0 } : Room).slots) _)
  refine OwnGo.back (s₁.setTop (mkF m 0 #[.val (.ref a)] [])) (fun tg kk => castTop (own_den_ef m a) kk) ?_
  refine OwnGo.back (s₁.setTop (mkF m 1 #[.val (.ref a)] [(.ref a)])) (fun tg kk => XS.aloadN X0.here hx rfl (hb hby own_d12_0) rfl rfl kk) ?_
  obtain ⟨T1, X1, e1, st1⟩ := getF X0 hx hZ hown (host := "") (Or.inl (hw _ (List.mem_of_getElem? (i := 83) rfl))) Via.refl e0 H0 (g := (mkF m 1 #[.val (.ref a)] [(.ref a)])) rfl rfl (hb hby own_d12_1)
  refine OwnGo.back (T1.setTop (mkF m 4 #[.val (.ref a)] [.null])) (fun tg kk => st1 _ kk) ?_
  refine OwnGo.back (T1.setTop (mkF m 11 #[.val (.ref a)] [])) (fun tg kk => XS.ifnullYes X1.here hx rfl (pc0 := 4) (pc' := 11) rfl (hb hby own_d12_4) rfl (by decide) (by decide) kk) ?_
  refine OwnGo.back (T1.setTop (mkF m 12 #[.val (.ref a)] [(.int (0 : Int32))])) (fun tg kk => XS.iconst X1.here hx rfl (hb hby own_d12_11) kk) ?_
  obtain ⟨fs, hr, hrun, hended, hW, hsame⟩ := X1.leave (v := some (.int (0 : Int32))) (fun h => by rw [Bd.returns] at h; cases h)
  refine ⟨_, _, ?_, hrun, hended, _, _, rfl, ?_, ⟨_, rfl⟩, hW, hsame.mono (by decide) (by decide)⟩
  · exact retN X1 hx (t := .boolean) Bd.returns (by simp) (hb hby own_d12_12) hr
  · show own_den_Q Z a h0 n0 _ T1.heap _
    rw [e1]
    exact ⟨rfl, N0, rfl⟩
theorem own_der_ef (m : MethodId) (x0 : Addr) : entryFrame m #[(.ref x0)] 1 = mkF m 0 #[.val (.ref x0)] [] := by first | (simp [entryFrame, mkF, argsToLocals, Value.category]; done) | rfl
def own_der_Q (Z : State) (a : Addr) (y : Addr) (h0 : Heap) (n0 : Nat) (rv : Option Value) (hN : Heap) (LL : List Loc) : Prop := rv = some (.int (1 : Int32)) ∧ Fr n0 LL ∧ hN = h0
set_option maxRecDepth 65536 in
set_option maxHeartbeats 40000000 in
theorem own_der (l : Launch) (Z : State) (a0 : Array Value) (hw : ∀ d ∈ tables_1, d.before a0 Z = true) (ws : List Jvm.Cond) (a : Addr) (y : Addr) (h0 : Heap) (n0 : Nat) (Z0 : n0 ≤ h0.size) (H0 : Fld Z h0 a "com/example/lucid_policy/lucidpolicy/parse/Symbol" "kind" "Lcom/example/lucid_policy/lucidpolicy/parse/SymbolKind;" (.ref y)) :
    MetFree l (⟨"com/example/lucid_policy/lucidpolicy/parse/Symbol", "declared", "()Z"⟩ : MethodName) (head1 (Jvm.Cond.code (⟨"com/example/lucid_policy/lucidpolicy/parse/Symbol", "declared", "()Z"⟩ : MethodName) prog_160_method_5_code 1 (some .boolean) :: ws) ({ frames := 0, cells := 0, slots := 0, locals := 0 } : Room)) (fun aa UU => aa = #[(.ref a)] ∧ Z.Warmed39 UU.vm ∧ UU.heap = h0) (fun _ _ _ _ _ => True) (fun _ UU oo UU' => ∃ rv LL, oo = .returned rv ∧ own_der_Q Z a y h0 n0 rv UU'.heap LL ∧ FrameEnd UU oo UU' LL ({ frames := 0, cells := 0, slots := 0, locals := 0 } : Room).cells ({ frames := 0, cells := 0, slots := 0, locals := 0 } : Room).slots) := by
  refine MetFree.of_bodySF (plainFor_of_name own_pn6) hisR ?_
  intro p e s m args below meth c s₁ Bd hml0 hP hK
  obtain ⟨rfl, hZ, hh⟩ := hP
  have hx := Bd.exec
  have hby := Bd.bytes
  have hml : c.maxLocals = 1 := hml0
  have hown : s.vm.findClass "com/example/lucid_policy/lucidpolicy/parse/Symbol" = some m.cls := findClass_of_methodNamed Bd.named
  have hnm := (name_of_methodNamed Bd.named Bd.method).1
  have X0 : Stand p l e ({ frames := 0, cells := 0, slots := 0, locals := 0 } : Room) s m #[(.ref a)] below meth c s₁ [] 0 0 := Stand.of_body Bd
  have e0 : s₁.heap = h0 := by rw [← hh, Bd.state]; rfl
  have N0 := Fr.nil n0
  have K0 : Keep h0 h0 [] := Keep.refl h0 _
  refine (?_ : OwnGo p.tables e below (fun UU' oo => ∃ rv LL, oo = .returned rv ∧ own_der_Q Z a y h0 n0 rv UU'.heap LL ∧ FrameEnd s oo UU' LL ({ frames := 0, cells := 0, slots := 0, locals := 0 } : Room).cells ({ frames := 0, cells := 0, slots := 0, locals := 0 } : Room).slots) _)
  refine OwnGo.back (s₁.setTop (mkF m 0 #[.val (.ref a)] [])) (fun tg kk => castTop (own_der_ef m a) kk) ?_
  refine OwnGo.back (s₁.setTop (mkF m 1 #[.val (.ref a)] [(.ref a)])) (fun tg kk => XS.aloadN X0.here hx rfl (hb hby own_d12_0) rfl rfl kk) ?_
  obtain ⟨T1, X1, e1, st1⟩ := getF X0 hx hZ hown (host := "") (Or.inl (hw _ (List.mem_of_getElem? (i := 83) rfl))) Via.refl e0 H0 (g := (mkF m 1 #[.val (.ref a)] [(.ref a)])) rfl rfl (hb hby own_d12_1)
  refine OwnGo.back (T1.setTop (mkF m 4 #[.val (.ref a)] [(.ref y)])) (fun tg kk => st1 _ kk) ?_
  refine OwnGo.back (T1.setTop (mkF m 7 #[.val (.ref a)] [])) (fun tg kk => XS.ifnullNo X1.here hx rfl (hb hby own_d12_4) rfl kk) ?_
  refine OwnGo.back (T1.setTop (mkF m 8 #[.val (.ref a)] [(.int (1 : Int32))])) (fun tg kk => XS.iconst X1.here hx rfl (hb hby own_d12_7) kk) ?_
  refine OwnGo.back (T1.setTop (mkF m 12 #[.val (.ref a)] [(.int (1 : Int32))])) (fun tg kk => XS.goto X1.here hx rfl (pc0 := 8) (pc' := 12) rfl (hb hby own_d12_8) (by decide) (by decide) kk) ?_
  obtain ⟨fs, hr, hrun, hended, hW, hsame⟩ := X1.leave (v := some (.int (1 : Int32))) (fun h => by rw [Bd.returns] at h; cases h)
  refine ⟨_, _, ?_, hrun, hended, _, _, rfl, ?_, ⟨_, rfl⟩, hW, hsame.mono (by decide) (by decide)⟩
  · exact retN X1 hx (t := .boolean) Bd.returns (by simp) (hb hby own_d12_12) hr
  · show own_der_Q Z a y h0 n0 _ T1.heap _
    rw [e1]
    exact ⟨rfl, N0, rfl⟩
theorem own_kin_ef (m : MethodId) (x0 : Addr) : entryFrame m #[(.ref x0)] 1 = mkF m 0 #[.val (.ref x0)] [] := by first | (simp [entryFrame, mkF, argsToLocals, Value.category]; done) | rfl
def own_kin_Q (Z : State) (a : Addr) (h0 : Heap) (n0 : Nat) (rv : Option Value) (hN : Heap) (LL : List Loc) : Prop := rv = some .null ∧ Fr n0 LL ∧ hN = h0
set_option maxRecDepth 65536 in
set_option maxHeartbeats 40000000 in
theorem own_kin (l : Launch) (Z : State) (a0 : Array Value) (hw : ∀ d ∈ tables_1, d.before a0 Z = true) (ws : List Jvm.Cond) (a : Addr) (h0 : Heap) (n0 : Nat) (Z0 : n0 ≤ h0.size) (H0 : Fld Z h0 a "com/example/lucid_policy/lucidpolicy/parse/Symbol" "kind" "Lcom/example/lucid_policy/lucidpolicy/parse/SymbolKind;" .null) :
    MetFree l (⟨"com/example/lucid_policy/lucidpolicy/parse/Symbol", "kind", "()Lcom/example/lucid_policy/lucidpolicy/parse/SymbolKind;"⟩ : MethodName) (head1 (Jvm.Cond.code (⟨"com/example/lucid_policy/lucidpolicy/parse/Symbol", "kind", "()Lcom/example/lucid_policy/lucidpolicy/parse/SymbolKind;"⟩ : MethodName) prog_160_method_3_code 1 (some (.object "com/example/lucid_policy/lucidpolicy/parse/SymbolKind")) :: ws) ({ frames := 0, cells := 0, slots := 0, locals := 0 } : Room)) (fun aa UU => aa = #[(.ref a)] ∧ Z.Warmed39 UU.vm ∧ UU.heap = h0) (fun _ _ _ _ _ => True) (fun _ UU oo UU' => ∃ rv LL, oo = .returned rv ∧ own_kin_Q Z a h0 n0 rv UU'.heap LL ∧ FrameEnd UU oo UU' LL ({ frames := 0, cells := 0, slots := 0, locals := 0 } : Room).cells ({ frames := 0, cells := 0, slots := 0, locals := 0 } : Room).slots) := by
  refine MetFree.of_bodySF (plainFor_of_name own_pn6) hisR ?_
  intro p e s m args below meth c s₁ Bd hml0 hP hK
  obtain ⟨rfl, hZ, hh⟩ := hP
  have hx := Bd.exec
  have hby := Bd.bytes
  have hml : c.maxLocals = 1 := hml0
  have hown : s.vm.findClass "com/example/lucid_policy/lucidpolicy/parse/Symbol" = some m.cls := findClass_of_methodNamed Bd.named
  have hnm := (name_of_methodNamed Bd.named Bd.method).1
  have X0 : Stand p l e ({ frames := 0, cells := 0, slots := 0, locals := 0 } : Room) s m #[(.ref a)] below meth c s₁ [] 0 0 := Stand.of_body Bd
  have e0 : s₁.heap = h0 := by rw [← hh, Bd.state]; rfl
  have N0 := Fr.nil n0
  have K0 : Keep h0 h0 [] := Keep.refl h0 _
  refine (?_ : OwnGo p.tables e below (fun UU' oo => ∃ rv LL, oo = .returned rv ∧ own_kin_Q Z a h0 n0 rv UU'.heap LL ∧ FrameEnd s oo UU' LL ({ frames := 0, cells := 0, slots := 0, locals := 0 } : Room).cells ({ frames := 0, cells := 0, slots := 0, locals := 0 } : Room).slots) _)
  refine OwnGo.back (s₁.setTop (mkF m 0 #[.val (.ref a)] [])) (fun tg kk => castTop (own_kin_ef m a) kk) ?_
  refine OwnGo.back (s₁.setTop (mkF m 1 #[.val (.ref a)] [(.ref a)])) (fun tg kk => XS.aloadN X0.here hx rfl (hb hby own_d13_0) rfl rfl kk) ?_
  obtain ⟨T1, X1, e1, st1⟩ := getF X0 hx hZ hown (host := "") (Or.inl (hw _ (List.mem_of_getElem? (i := 83) rfl))) Via.refl e0 H0 (g := (mkF m 1 #[.val (.ref a)] [(.ref a)])) rfl rfl (hb hby own_d13_1)
  refine OwnGo.back (T1.setTop (mkF m 4 #[.val (.ref a)] [.null])) (fun tg kk => st1 _ kk) ?_
  obtain ⟨fs, hr, hrun, hended, hW, hsame⟩ := X1.leave (v := some .null) (fun h => by rw [Bd.returns] at h; cases h)
  refine ⟨_, _, ?_, hrun, hended, _, _, rfl, ?_, ⟨_, rfl⟩, hW, hsame.mono (by decide) (by decide)⟩
  · exact own_retA X1 hx Bd.returns rfl rfl rfl (hb hby own_d13_4) hr
  · show own_kin_Q Z a h0 n0 _ T1.heap _
    rw [e1]
    exact ⟨rfl, N0, rfl⟩
theorem own_kir_ef (m : MethodId) (x0 : Addr) : entryFrame m #[(.ref x0)] 1 = mkF m 0 #[.val (.ref x0)] [] := by first | (simp [entryFrame, mkF, argsToLocals, Value.category]; done) | rfl
def own_kir_Q (Z : State) (a : Addr) (y : Addr) (h0 : Heap) (n0 : Nat) (rv : Option Value) (hN : Heap) (LL : List Loc) : Prop := rv = some (.ref y) ∧ Fr n0 LL ∧ hN = h0
set_option maxRecDepth 65536 in
set_option maxHeartbeats 40000000 in
theorem own_kir (l : Launch) (Z : State) (a0 : Array Value) (hw : ∀ d ∈ tables_1, d.before a0 Z = true) (ws : List Jvm.Cond) (a : Addr) (y : Addr) (h0 : Heap) (n0 : Nat) (Z0 : n0 ≤ h0.size) (H0 : Fld Z h0 a "com/example/lucid_policy/lucidpolicy/parse/Symbol" "kind" "Lcom/example/lucid_policy/lucidpolicy/parse/SymbolKind;" (.ref y)) :
    MetFree l (⟨"com/example/lucid_policy/lucidpolicy/parse/Symbol", "kind", "()Lcom/example/lucid_policy/lucidpolicy/parse/SymbolKind;"⟩ : MethodName) (head1 (Jvm.Cond.code (⟨"com/example/lucid_policy/lucidpolicy/parse/Symbol", "kind", "()Lcom/example/lucid_policy/lucidpolicy/parse/SymbolKind;"⟩ : MethodName) prog_160_method_3_code 1 (some (.object "com/example/lucid_policy/lucidpolicy/parse/SymbolKind")) :: ws) ({ frames := 0, cells := 0, slots := 0, locals := 0 } : Room)) (fun aa UU => aa = #[(.ref a)] ∧ Z.Warmed39 UU.vm ∧ UU.heap = h0) (fun _ _ _ _ _ => True) (fun _ UU oo UU' => ∃ rv LL, oo = .returned rv ∧ own_kir_Q Z a y h0 n0 rv UU'.heap LL ∧ FrameEnd UU oo UU' LL ({ frames := 0, cells := 0, slots := 0, locals := 0 } : Room).cells ({ frames := 0, cells := 0, slots := 0, locals := 0 } : Room).slots) := by
  refine MetFree.of_bodySF (plainFor_of_name own_pn6) hisR ?_
  intro p e s m args below meth c s₁ Bd hml0 hP hK
  obtain ⟨rfl, hZ, hh⟩ := hP
  have hx := Bd.exec
  have hby := Bd.bytes
  have hml : c.maxLocals = 1 := hml0
  have hown : s.vm.findClass "com/example/lucid_policy/lucidpolicy/parse/Symbol" = some m.cls := findClass_of_methodNamed Bd.named
  have hnm := (name_of_methodNamed Bd.named Bd.method).1
  have X0 : Stand p l e ({ frames := 0, cells := 0, slots := 0, locals := 0 } : Room) s m #[(.ref a)] below meth c s₁ [] 0 0 := Stand.of_body Bd
  have e0 : s₁.heap = h0 := by rw [← hh, Bd.state]; rfl
  have N0 := Fr.nil n0
  have K0 : Keep h0 h0 [] := Keep.refl h0 _
  refine (?_ : OwnGo p.tables e below (fun UU' oo => ∃ rv LL, oo = .returned rv ∧ own_kir_Q Z a y h0 n0 rv UU'.heap LL ∧ FrameEnd s oo UU' LL ({ frames := 0, cells := 0, slots := 0, locals := 0 } : Room).cells ({ frames := 0, cells := 0, slots := 0, locals := 0 } : Room).slots) _)
  refine OwnGo.back (s₁.setTop (mkF m 0 #[.val (.ref a)] [])) (fun tg kk => castTop (own_kir_ef m a) kk) ?_
  refine OwnGo.back (s₁.setTop (mkF m 1 #[.val (.ref a)] [(.ref a)])) (fun tg kk => XS.aloadN X0.here hx rfl (hb hby own_d13_0) rfl rfl kk) ?_
  obtain ⟨T1, X1, e1, st1⟩ := getF X0 hx hZ hown (host := "") (Or.inl (hw _ (List.mem_of_getElem? (i := 83) rfl))) Via.refl e0 H0 (g := (mkF m 1 #[.val (.ref a)] [(.ref a)])) rfl rfl (hb hby own_d13_1)
  refine OwnGo.back (T1.setTop (mkF m 4 #[.val (.ref a)] [(.ref y)])) (fun tg kk => st1 _ kk) ?_
  obtain ⟨fs, hr, hrun, hended, hW, hsame⟩ := X1.leave (v := some (.ref y)) (fun h => by rw [Bd.returns] at h; cases h)
  refine ⟨_, _, ?_, hrun, hended, _, _, rfl, ?_, ⟨_, rfl⟩, hW, hsame.mono (by decide) (by decide)⟩
  · exact own_retA X1 hx Bd.returns rfl rfl rfl (hb hby own_d13_4) hr
  · show own_kir_Q Z a y h0 n0 _ T1.heap _
    rw [e1]
    exact ⟨rfl, N0, rfl⟩
theorem own_pa1_ef (m : MethodId) (x0 : Addr) (x2 : Addr) (x3 : Int32) : entryFrame m #[(.ref x0), .null, (.ref x2), (.int x3)] 4 = mkF m 0 #[.val (.ref x0), .val .null, .val (.ref x2), .val (.int x3)] [] := by first | (simp [entryFrame, mkF, argsToLocals, Value.category]; done) | rfl
def own_pa1_Q (Z : State) (a : Addr) (b : Addr) (kb : ClassId) (h0 : Heap) (n0 : Nat) (rv : Option Value) (hN : Heap) (LL : List Loc) : Prop := rv = none ∧ Fr n0 LL ∧ Keep h0 hN [a, b] ∧ Exa Z hN a "java/util/ArrayList" ∧ Fld Z hN a "java/util/AbstractList" "modCount" "I" (.int (1 : Int32)) ∧ Fld Z hN a "java/util/ArrayList" "elementData" "[Ljava/lang/Object;" (.ref b) ∧ Fld Z hN a "java/util/ArrayList" "size" "I" (.int (1 : Int32)) ∧ Exa Z hN b "[Ljava/lang/Object;" ∧ Arv Z hN b kb (.object "java/lang/Object") (1 : Int32) [.null] .null
set_option maxRecDepth 65536 in
set_option maxHeartbeats 40000000 in
theorem own_pa1 (l : Launch) (Z : State) (a0 : Array Value) (hw : ∀ d ∈ tables_1, d.before a0 Z = true) (ws : List Jvm.Cond) (a : Addr) (b : Addr) (kb : ClassId) (h0 : Heap) (n0 : Nat) (Z0 : n0 ≤ h0.size) (H0 : Exa Z h0 a "java/util/ArrayList") (H1 : Fld Z h0 a "java/util/AbstractList" "modCount" "I" (.int (1 : Int32))) (H2 : Fld Z h0 a "java/util/ArrayList" "elementData" "[Ljava/lang/Object;" (.ref b)) (H3 : Fld Z h0 a "java/util/ArrayList" "size" "I" (.int (0 : Int32))) (H4 : Exa Z h0 b "[Ljava/lang/Object;") (H5 : Arv Z h0 b kb (.object "java/lang/Object") (1 : Int32) [.null] .null) (H6 : n0 ≤ a) (H7 : n0 ≤ b) (H8 : a ≠ b) :
    MetFree l (⟨"java/util/ArrayList", "add", "(Ljava/lang/Object;[Ljava/lang/Object;I)V"⟩ : MethodName) (head1 (Jvm.Cond.code (⟨"java/util/ArrayList", "add", "(Ljava/lang/Object;[Ljava/lang/Object;I)V"⟩ : MethodName) jdk_38_method_24_code 4 none :: ws) ({ frames := 0, cells := 0, slots := 0, locals := 0 } : Room)) (fun aa UU => aa = #[(.ref a), .null, (.ref b), (.int (0 : Int32))] ∧ Z.Warmed39 UU.vm ∧ UU.heap = h0) (fun _ _ _ _ _ => True) (fun _ UU oo UU' => ∃ rv LL, oo = .returned rv ∧ own_pa1_Q Z a b kb h0 n0 rv UU'.heap LL ∧ FrameEnd UU oo UU' LL ({ frames := 0, cells := 0, slots := 0, locals := 0 } : Room).cells ({ frames := 0, cells := 0, slots := 0, locals := 0 } : Room).slots) := by
  refine MetFree.of_bodySF (plainFor_of_name own_pn5) hisR ?_
  intro p e s m args below meth c s₁ Bd hml0 hP hK
  obtain ⟨rfl, hZ, hh⟩ := hP
  have hx := Bd.exec
  have hby := Bd.bytes
  have hml : c.maxLocals = 4 := hml0
  have hown : s.vm.findClass "java/util/ArrayList" = some m.cls := findClass_of_methodNamed Bd.named
  have hnm := (name_of_methodNamed Bd.named Bd.method).1
  have X0 : Stand p l e ({ frames := 0, cells := 0, slots := 0, locals := 0 } : Room) s m #[(.ref a), .null, (.ref b), (.int (0 : Int32))] below meth c s₁ [] 0 0 := Stand.of_body Bd
  have e0 : s₁.heap = h0 := by rw [← hh, Bd.state]; rfl
  have N0 := Fr.nil n0
  have K0 : Keep h0 h0 [a, b] := Keep.refl h0 _
  refine (?_ : OwnGo p.tables e below (fun UU' oo => ∃ rv LL, oo = .returned rv ∧ own_pa1_Q Z a b kb h0 n0 rv UU'.heap LL ∧ FrameEnd s oo UU' LL ({ frames := 0, cells := 0, slots := 0, locals := 0 } : Room).cells ({ frames := 0, cells := 0, slots := 0, locals := 0 } : Room).slots) _)
  refine OwnGo.back (s₁.setTop (mkF m 0 #[.val (.ref a), .val .null, .val (.ref b), .val (.int (0 : Int32))] [])) (fun tg kk => castTop (own_pa1_ef m a b (0 : Int32)) kk) ?_
  refine OwnGo.back (s₁.setTop (mkF m 1 #[.val (.ref a), .val .null, .val (.ref b), .val (.int (0 : Int32))] [(.int (0 : Int32))])) (fun tg kk => XS.iloadN X0.here hx rfl (hb hby own_d16_0) rfl kk) ?_
  refine OwnGo.back (s₁.setTop (mkF m 2 #[.val (.ref a), .val .null, .val (.ref b), .val (.int (0 : Int32))] [(.ref b), (.int (0 : Int32))])) (fun tg kk => XS.aloadN X0.here hx rfl (hb hby own_d16_1) rfl rfl kk) ?_
  obtain ⟨cl_1, Ar_1, -, Sz_1, Ng_1, -, -⟩ := id H5
  refine OwnGo.back (s₁.setTop (mkF m 3 #[.val (.ref a), .val .null, .val (.ref b), .val (.int (0 : Int32))] [(.int (1 : Int32)), (.int (0 : Int32))])) (fun tg kk => X0.arraylength hx (by rw [e0]; exact Ar_1.1) (State.isArrayOf_alike hZ.alike Ar_1.2.1) (g := (mkF m 2 #[.val (.ref a), .val .null, .val (.ref b), .val (.int (0 : Int32))] [(.ref b), (.int (0 : Int32))])) rfl rfl (hb hby own_d16_2) _ (by rw [len_of Sz_1 Ng_1]; exact kk)) ?_
  refine OwnGo.back (s₁.setTop (mkF m 11 #[.val (.ref a), .val .null, .val (.ref b), .val (.int (0 : Int32))] [])) (fun tg kk => XS.icmpYes X0.here hx rfl (pc0 := 3) (pc' := 11) rfl (hb hby own_d16_3) rfl (feq (by decide : ¬ ((0 : Int32) = (1 : Int32)))).2 (by decide) (by decide) kk) ?_
  refine OwnGo.back (s₁.setTop (mkF m 12 #[.val (.ref a), .val .null, .val (.ref b), .val (.int (0 : Int32))] [(.ref b)])) (fun tg kk => XS.aloadN X0.here hx rfl (hb hby own_d16_11) rfl rfl kk) ?_
  refine OwnGo.back (s₁.setTop (mkF m 13 #[.val (.ref a), .val .null, .val (.ref b), .val (.int (0 : Int32))] [(.int (0 : Int32)), (.ref b)])) (fun tg kk => XS.iloadN X0.here hx rfl (hb hby own_d16_12) rfl kk) ?_
  refine OwnGo.back (s₁.setTop (mkF m 14 #[.val (.ref a), .val .null, .val (.ref b), .val (.int (0 : Int32))] [.null, (.int (0 : Int32)), (.ref b)])) (fun tg kk => XS.aloadN X0.here hx rfl (hb hby own_d16_13) rfl rfl kk) ?_
  obtain ⟨cl_2, Ar_2, qq_2, Sz_2, Ng_2, Hs_2, Gf_2⟩ := id H5
  have hin_2 : ¬ ((0 : Int32) < 0 ∨ cl_2.slots.size ≤ ((0 : Int32)).toNatClampNeg) := inb_of Sz_2 ⟨by decide, by decide⟩
  obtain ⟨T3, h3, X3, e3, W3, st3⟩ := stR X0 hx hZ e0 Ar_2 (j := (0 : Int32)) hin_2 rfl (Or.inl rfl) (g := (mkF m 14 #[.val (.ref a), .val .null, .val (.ref b), .val (.int (0 : Int32))] [.null, (.int (0 : Int32)), (.ref b)])) rfl rfl (hb hby own_d16_14)
  have f4 : Arv Z h3 b kb (.object "java/lang/Object") (1 : Int32) [.null] .null := Arv.set Ar_2 qq_2 Sz_2 Ng_2 Hs_2 Gf_2 rfl W3 0 rfl (Nat.le_of_ble_eq_true rfl)
  have f5 : Exa Z h3 a "java/util/ArrayList" := H0.wr W3
  have f6 : Fld Z h3 a "java/util/AbstractList" "modCount" "I" (.int (1 : Int32)) := H1.other W3 (Or.inl H8)
  have f7 : Fld Z h3 a "java/util/ArrayList" "elementData" "[Ljava/lang/Object;" (.ref b) := H2.other W3 (Or.inl H8)
  have f8 : Fld Z h3 a "java/util/ArrayList" "size" "I" (.int (0 : Int32)) := H3.other W3 (Or.inl H8)
  have f9 : Exa Z h3 b "[Ljava/lang/Object;" := H4.wr W3
  have K10 : Keep h0 h3 [a, b] := K0.wr W3 (Or.inl (List.mem_of_getElem? (i := 1) rfl))
  have Z11 : n0 ≤ h3.size := Nat.le_trans Z0 (Keep.of_wr W3).1
  have N12 := Fr.snoc X3 N0 H7
  refine OwnGo.back (T3.setTop (mkF m 15 #[.val (.ref a), .val .null, .val (.ref b), .val (.int (0 : Int32))] [])) (fun tg kk => st3 _ kk) ?_
  refine OwnGo.back (T3.setTop (mkF m 16 #[.val (.ref a), .val .null, .val (.ref b), .val (.int (0 : Int32))] [(.ref a)])) (fun tg kk => XS.aloadN X3.here hx rfl (hb hby own_d16_15) rfl rfl kk) ?_
  refine OwnGo.back (T3.setTop (mkF m 17 #[.val (.ref a), .val .null, .val (.ref b), .val (.int (0 : Int32))] [(.int (0 : Int32)), (.ref a)])) (fun tg kk => XS.iloadN X3.here hx rfl (hb hby own_d16_16) rfl kk) ?_
  refine OwnGo.back (T3.setTop (mkF m 18 #[.val (.ref a), .val .null, .val (.ref b), .val (.int (0 : Int32))] [(.int (1 : Int32)), (.int (0 : Int32)), (.ref a)])) (fun tg kk => XS.iconst X3.here hx rfl (hb hby own_d16_17) kk) ?_
  refine OwnGo.back (T3.setTop (mkF m 19 #[.val (.ref a), .val .null, .val (.ref b), .val (.int (0 : Int32))] [(.int (1 : Int32)), (.ref a)])) (fun tg kk => XS.iadd X3.here hx rfl (hb hby own_d16_18) rfl kk) ?_
  obtain ⟨T13, h13, X13, e13, W13, st13⟩ := putF X3 hx hZ hown (host := "") (Or.inl (hw _ (List.mem_of_getElem? (i := 108) rfl))) Via.refl e3 f8 f5 (Or.inl (hw _ (List.mem_of_getElem? (i := 109) rfl))) (hw _ (List.mem_of_getElem? (i := 48) rfl)) (ty := .int) (by decide) rfl rfl (g := (mkF m 19 #[.val (.ref a), .val .null, .val (.ref b), .val (.int (0 : Int32))] [(.int (1 : Int32)), (.ref a)])) rfl rfl (hb hby own_d16_19)
  have f14 : Fld Z h13 a "java/util/ArrayList" "size" "I" (.int (1 : Int32)) := f8.same W13
  have f15 : Exa Z h13 a "java/util/ArrayList" := f5.wr W13
  have f16 : Fld Z h13 a "java/util/AbstractList" "modCount" "I" (.int (1 : Int32)) := f6.other W13 (Or.inr (slot_ne (Or.inl (hw _ (List.mem_of_getElem? (i := 67) rfl))) (Or.inl (hw _ (List.mem_of_getElem? (i := 109) rfl))) (by decide) (t := .int) (t' := .int) (by decide) (by decide)))
  have f17 : Fld Z h13 a "java/util/ArrayList" "elementData" "[Ljava/lang/Object;" (.ref b) := f7.other W13 (Or.inr (slot_ne (Or.inl (hw _ (List.mem_of_getElem? (i := 71) rfl))) (Or.inl (hw _ (List.mem_of_getElem? (i := 109) rfl))) (by decide) (t := (.array (.object "java/lang/Object"))) (t' := .int) (by decide) (by decide)))
  have f18 : Exa Z h13 b "[Ljava/lang/Object;" := f9.wr W13
  have f19 : Arv Z h13 b kb (.object "java/lang/Object") (1 : Int32) [.null] .null := f4.other W13 (Ne.symm H8)
  have K20 : Keep h0 h13 [a, b] := K10.wr W13 (Or.inl (List.mem_of_getElem? (i := 0) rfl))
  have Z21 : n0 ≤ h13.size := Nat.le_trans Z11 (Keep.of_wr W13).1
  have N22 := Fr.snoc X13 N12 H6
  refine OwnGo.back (T13.setTop (mkF m 22 #[.val (.ref a), .val .null, .val (.ref b), .val (.int (0 : Int32))] [])) (fun tg kk => st13 _ kk) ?_
  obtain ⟨fs, hr, hrun, hended, hW, hsame⟩ := X13.leave (v := none) (fun _ => rfl)
  refine ⟨_, _, ?_, hrun, hended, _, _, rfl, ?_, ⟨_, rfl⟩, hW, hsame.mono (by decide) (by decide)⟩
  · exact X13.returnOut hx Bd.returns (hb hby own_d16_22) hr
  · show own_pa1_Q Z a b kb h0 n0 _ T13.heap _
    rw [e13]
    exact ⟨rfl, N22, K20, f15, f16, f17, f14, f18, f19⟩
theorem own_ad1_ef (m : MethodId) (x0 : Addr) : entryFrame m #[(.ref x0), .null] 2 = mkF m 0 #[.val (.ref x0), .val .null] [] := by first | (simp [entryFrame, mkF, argsToLocals, Value.category]; done) | rfl
def own_ad1_Q (Z : State) (a : Addr) (b : Addr) (kb : ClassId) (h0 : Heap) (n0 : Nat) (rv : Option Value) (hN : Heap) (LL : List Loc) : Prop := rv = some (.int (1 : Int32)) ∧ Fr n0 LL ∧ Keep h0 hN [a, b] ∧ Exa Z hN a "java/util/ArrayList" ∧ Fld Z hN a "java/util/AbstractList" "modCount" "I" (.int (1 : Int32)) ∧ Fld Z hN a "java/util/ArrayList" "elementData" "[Ljava/lang/Object;" (.ref b) ∧ Fld Z hN a "java/util/ArrayList" "size" "I" (.int (1 : Int32)) ∧ Exa Z hN b "[Ljava/lang/Object;" ∧ Arv Z hN b kb (.object "java/lang/Object") (1 : Int32) [.null] .null
set_option maxRecDepth 65536 in
set_option maxHeartbeats 40000000 in
theorem own_ad1 (l : Launch) (Z : State) (a0 : Array Value) (hw : ∀ d ∈ tables_1, d.before a0 Z = true) (ws : List Jvm.Cond) (a : Addr) (b : Addr) (kb : ClassId) (h0 : Heap) (n0 : Nat) (Z0 : n0 ≤ h0.size) (H0 : Exa Z h0 a "java/util/ArrayList") (H1 : Fld Z h0 a "java/util/AbstractList" "modCount" "I" (.int (0 : Int32))) (H2 : Fld Z h0 a "java/util/ArrayList" "elementData" "[Ljava/lang/Object;" (.ref b)) (H3 : Fld Z h0 a "java/util/ArrayList" "size" "I" (.int (0 : Int32))) (H4 : Exa Z h0 b "[Ljava/lang/Object;") (H5 : Arv Z h0 b kb (.object "java/lang/Object") (1 : Int32) [.null] .null) (H6 : n0 ≤ a) (H7 : n0 ≤ b) (H8 : a ≠ b) :
    MetFree l (⟨"java/util/ArrayList", "add", "(Ljava/lang/Object;)Z"⟩ : MethodName) (head1 (Jvm.Cond.code (⟨"java/util/ArrayList", "add", "(Ljava/lang/Object;)Z"⟩ : MethodName) jdk_38_method_25_code 2 (some .boolean) :: ws) ({ frames := 1, cells := 0, slots := 0, locals := 15 } : Room)) (fun aa UU => aa = #[(.ref a), .null] ∧ Z.Warmed39 UU.vm ∧ UU.heap = h0) (fun _ _ _ _ _ => True) (fun _ UU oo UU' => ∃ rv LL, oo = .returned rv ∧ own_ad1_Q Z a b kb h0 n0 rv UU'.heap LL ∧ FrameEnd UU oo UU' LL ({ frames := 1, cells := 0, slots := 0, locals := 15 } : Room).cells ({ frames := 1, cells := 0, slots := 0, locals := 15 } : Room).slots) := by
  refine MetFree.of_bodySF (plainFor_of_name own_pn5) hisR ?_
  intro p e s m args below meth c s₁ Bd hml0 hP hK
  obtain ⟨rfl, hZ, hh⟩ := hP
  have hx := Bd.exec
  have hby := Bd.bytes
  have hml : c.maxLocals = 2 := hml0
  have hown : s.vm.findClass "java/util/ArrayList" = some m.cls := findClass_of_methodNamed Bd.named
  have hnm := (name_of_methodNamed Bd.named Bd.method).1
  have X0 : Stand p l e ({ frames := 1, cells := 0, slots := 0, locals := 15 } : Room) s m #[(.ref a), .null] below meth c s₁ [] 0 0 := Stand.of_body Bd
  have e0 : s₁.heap = h0 := by rw [← hh, Bd.state]; rfl
  have N0 := Fr.nil n0
  have K0 : Keep h0 h0 [a, b] := Keep.refl h0 _
  refine (?_ : OwnGo p.tables e below (fun UU' oo => ∃ rv LL, oo = .returned rv ∧ own_ad1_Q Z a b kb h0 n0 rv UU'.heap LL ∧ FrameEnd s oo UU' LL ({ frames := 1, cells := 0, slots := 0, locals := 15 } : Room).cells ({ frames := 1, cells := 0, slots := 0, locals := 15 } : Room).slots) _)
  refine OwnGo.back (s₁.setTop (mkF m 0 #[.val (.ref a), .val .null] [])) (fun tg kk => castTop (own_ad1_ef m a) kk) ?_
  refine OwnGo.back (s₁.setTop (mkF m 1 #[.val (.ref a), .val .null] [(.ref a)])) (fun tg kk => XS.aloadN X0.here hx rfl (hb hby own_d15_0) rfl rfl kk) ?_
  refine OwnGo.back (s₁.setTop (mkF m 2 #[.val (.ref a), .val .null] [(.ref a), (.ref a)])) (fun tg kk => XS.dup X0.here hx rfl (hb hby own_d15_1) rfl rfl kk) ?_
  obtain ⟨T1, X1, e1, st1⟩ := getF X0 hx hZ hown (host := "") (Or.inl (hw _ (List.mem_of_getElem? (i := 106) rfl))) (Via.of (hw _ (List.mem_of_getElem? (i := 107) rfl))) e0 H1 (g := (mkF m 2 #[.val (.ref a), .val .null] [(.ref a), (.ref a)])) rfl rfl (hb hby own_d15_2)
  refine OwnGo.back (T1.setTop (mkF m 5 #[.val (.ref a), .val .null] [(.int (0 : Int32)), (.ref a)])) (fun tg kk => st1 _ kk) ?_
  refine OwnGo.back (T1.setTop (mkF m 6 #[.val (.ref a), .val .null] [(.int (1 : Int32)), (.int (0 : Int32)), (.ref a)])) (fun tg kk => XS.iconst X1.here hx rfl (hb hby own_d15_5) kk) ?_
  refine OwnGo.back (T1.setTop (mkF m 7 #[.val (.ref a), .val .null] [(.int (1 : Int32)), (.ref a)])) (fun tg kk => XS.iadd X1.here hx rfl (hb hby own_d15_6) rfl kk) ?_
  obtain ⟨T2, h2, X2, e2, W2, st2⟩ := putF X1 hx hZ hown (host := "") (Or.inl (hw _ (List.mem_of_getElem? (i := 106) rfl))) (Via.of (hw _ (List.mem_of_getElem? (i := 107) rfl))) e1 H1 H0 (Or.inl (hw _ (List.mem_of_getElem? (i := 67) rfl))) (hw _ (List.mem_of_getElem? (i := 48) rfl)) (ty := .int) (by decide) rfl rfl (g := (mkF m 7 #[.val (.ref a), .val .null] [(.int (1 : Int32)), (.ref a)])) rfl rfl (hb hby own_d15_7)
  have f3 : Fld Z h2 a "java/util/AbstractList" "modCount" "I" (.int (1 : Int32)) := H1.same W2
  have f4 : Exa Z h2 a "java/util/ArrayList" := H0.wr W2
  have f5 : Fld Z h2 a "java/util/ArrayList" "elementData" "[Ljava/lang/Object;" (.ref b) := H2.other W2 (Or.inr (slot_ne (Or.inl (hw _ (List.mem_of_getElem? (i := 71) rfl))) (Or.inl (hw _ (List.mem_of_getElem? (i := 67) rfl))) (by decide) (t := (.array (.object "java/lang/Object"))) (t' := .int) (by decide) (by decide)))
  have f6 : Fld Z h2 a "java/util/ArrayList" "size" "I" (.int (0 : Int32)) := H3.other W2 (Or.inr (slot_ne (Or.inl (hw _ (List.mem_of_getElem? (i := 109) rfl))) (Or.inl (hw _ (List.mem_of_getElem? (i := 67) rfl))) (by decide) (t := .int) (t' := .int) (by decide) (by decide)))
  have f7 : Exa Z h2 b "[Ljava/lang/Object;" := H4.wr W2
  have f8 : Arv Z h2 b kb (.object "java/lang/Object") (1 : Int32) [.null] .null := H5.other W2 (Ne.symm H8)
  have K9 : Keep h0 h2 [a, b] := K0.wr W2 (Or.inl (List.mem_of_getElem? (i := 0) rfl))
  have Z10 : n0 ≤ h2.size := Nat.le_trans Z0 (Keep.of_wr W2).1
  have N11 := Fr.snoc X2 N0 H6
  refine OwnGo.back (T2.setTop (mkF m 10 #[.val (.ref a), .val .null] [])) (fun tg kk => st2 _ kk) ?_
  refine OwnGo.back (T2.setTop (mkF m 11 #[.val (.ref a), .val .null] [(.ref a)])) (fun tg kk => XS.aloadN X2.here hx rfl (hb hby own_d15_10) rfl rfl kk) ?_
  refine OwnGo.back (T2.setTop (mkF m 12 #[.val (.ref a), .val .null] [.null, (.ref a)])) (fun tg kk => XS.aloadN X2.here hx rfl (hb hby own_d15_11) rfl rfl kk) ?_
  refine OwnGo.back (T2.setTop (mkF m 13 #[.val (.ref a), .val .null] [(.ref a), .null, (.ref a)])) (fun tg kk => XS.aloadN X2.here hx rfl (hb hby own_d15_12) rfl rfl kk) ?_
  obtain ⟨T12, X12, e12, st12⟩ := getF X2 hx hZ hown (host := "") (Or.inl (hw _ (List.mem_of_getElem? (i := 70) rfl))) Via.refl e2 f5 (g := (mkF m 13 #[.val (.ref a), .val .null] [(.ref a), .null, (.ref a)])) rfl rfl (hb hby own_d15_13)
  refine OwnGo.back (T12.setTop (mkF m 16 #[.val (.ref a), .val .null] [(.ref b), .null, (.ref a)])) (fun tg kk => st12 _ kk) ?_
  refine OwnGo.back (T12.setTop (mkF m 17 #[.val (.ref a), .val .null] [(.ref a), (.ref b), .null, (.ref a)])) (fun tg kk => XS.aloadN X12.here hx rfl (hb hby own_d15_16) rfl rfl kk) ?_
  obtain ⟨T13, X13, e13, st13⟩ := getF X12 hx hZ hown (host := "") (Or.inl (hw _ (List.mem_of_getElem? (i := 108) rfl))) Via.refl e12 f6 (g := (mkF m 17 #[.val (.ref a), .val .null] [(.ref a), (.ref b), .null, (.ref a)])) rfl rfl (hb hby own_d15_17)
  refine OwnGo.back (T13.setTop (mkF m 20 #[.val (.ref a), .val .null] [(.int (0 : Int32)), (.ref b), .null, (.ref a)])) (fun tg kk => st13 _ kk) ?_
  obtain ⟨cq14, q14, q14'⟩ := f4.cell
  obtain ⟨_, _, ⟨T14, L14, k14, n14⟩, -, X14, ⟨Lc14, hQ14, l14, y14, z14⟩, st14⟩ := X13.privateBack hx (y := (⟨"java/util/ArrayList", "add", "(Ljava/lang/Object;[Ljava/lang/Object;I)V"⟩ : MethodName)) hown (mvT hZ (hw _ (List.mem_of_getElem? (i := 110) rfl))) (mvT hZ (hw _ (List.mem_of_getElem? (i := 111) rfl))) (mvT hZ (hw _ (List.mem_of_getElem? (i := 113) rfl))) (Cond.privateMethod_at (mvP hZ (hw _ (List.mem_of_getElem? (i := 112) rfl)) (args := #[]))) (mvT hZ (hw _ (List.mem_of_getElem? (i := 114) rfl))) (by decide) (backOf (W := 0) (own_pa1 l Z a0 hw [] a b kb h2 n0 Z10 f4 f3 f5 f6 f7 f8 H6 H7 H8) hZ (hw _ (List.mem_of_getElem? (i := 114) rfl)) (hw _ (List.mem_of_getElem? (i := 49) rfl)) (by decide) (by decide)) (g := (mkF m 20 #[.val (.ref a), .val .null] [(.int (0 : Int32)), (.ref b), .null, (.ref a)])) rfl (by rw [hml]; rfl) (Steps.refl _) (a := a) (by rw [e13]; exact q14) q14' (argsL := [.null, (.ref b), (.int (0 : Int32))]) (rest := []) (lenOf own_pd6 rfl) rfl (by show 2 * 0 + _ ≤ _; exact Nat.le_of_eq rfl) (hb hby own_d15_20) (fun _ _ => ⟨rfl, e13, (by decide : 0 + 0 ≤ _), (by decide : 0 + 0 ≤ _)⟩)
  dsimp only [Pt.U, Pt.locs, Pt.cells, Pt.slots] at X14 l14 y14 z14 st14 hQ14
  subst l14 y14 z14
  obtain ⟨rfl, N14q, Kc14, po15, po16, po17, po18, po19, po20⟩ := hQ14
  have N14 := Fr.app N11 N14q
  have f21 : Exa Z T14.heap a "java/util/ArrayList" := f4.keep Kc14
  have f22 : Exa Z T14.heap b "[Ljava/lang/Object;" := f7.keep Kc14
  have K23 : Keep h0 T14.heap [a, b] := K9.trans Kc14 (allS (Or.inl (List.mem_of_getElem? (i := 0) rfl)) (allS (Or.inl (List.mem_of_getElem? (i := 1) rfl)) all0))
  have Z24 : n0 ≤ T14.heap.size := Nat.le_trans Z10 Kc14.1
  refine OwnGo.back (T14.setTop (mkF m 23 #[.val (.ref a), .val .null] [])) (fun tg kk => st14.trans kk) ?_
  refine OwnGo.back (T14.setTop (mkF m 24 #[.val (.ref a), .val .null] [(.int (1 : Int32))])) (fun tg kk => XS.iconst X14.here hx rfl (hb hby own_d15_23) kk) ?_
  obtain ⟨fs, hr, hrun, hended, hW, hsame⟩ := X14.leave (v := some (.int (1 : Int32))) (fun h => by rw [Bd.returns] at h; cases h)
  refine ⟨_, _, ?_, hrun, hended, _, _, rfl, ?_, ⟨_, rfl⟩, hW, hsame.mono (by decide) (by decide)⟩
  · exact retN X14 hx (t := .boolean) Bd.returns (by simp) (hb hby own_d15_24) hr
  · show own_ad1_Q Z a b kb h0 n0 _ T14.heap _
    exact ⟨rfl, N14, K23, po15, po16, po17, po18, po19, po20⟩
theorem own_max_ef (m : MethodId) (x0 : Int32) (x1 : Int32) : entryFrame m #[(.int x0), (.int x1)] 2 = mkF m 0 #[.val (.int x0), .val (.int x1)] [] := by first | (simp [entryFrame, mkF, argsToLocals, Value.category]; done) | rfl
def own_max_Q (Z : State)  (h0 : Heap) (n0 : Nat) (rv : Option Value) (hN : Heap) (LL : List Loc) : Prop := rv = some (.int (1 : Int32)) ∧ Fr n0 LL ∧ hN = h0
set_option maxRecDepth 65536 in
set_option maxHeartbeats 40000000 in
theorem own_max (l : Launch) (Z : State) (a0 : Array Value) (hw : ∀ d ∈ tables_1, d.before a0 Z = true) (ws : List Jvm.Cond)  (h0 : Heap) (n0 : Nat) (Z0 : n0 ≤ h0.size) :
    MetFree l (⟨"java/lang/Math", "max", "(II)I"⟩ : MethodName) (head1 (Jvm.Cond.code (⟨"java/lang/Math", "max", "(II)I"⟩ : MethodName) jdk_29_method_65_code 2 (some .int) :: ws) ({ frames := 0, cells := 0, slots := 0, locals := 0 } : Room)) (fun aa UU => aa = #[(.int (1 : Int32)), (.int (0 : Int32))] ∧ Z.Warmed39 UU.vm ∧ UU.heap = h0) (fun _ _ _ _ _ => True) (fun _ UU oo UU' => ∃ rv LL, oo = .returned rv ∧ own_max_Q Z  h0 n0 rv UU'.heap LL ∧ FrameEnd UU oo UU' LL ({ frames := 0, cells := 0, slots := 0, locals := 0 } : Room).cells ({ frames := 0, cells := 0, slots := 0, locals := 0 } : Room).slots) := by
  refine MetFree.of_bodySF own_pn7 hisR ?_
  intro p e s m args below meth c s₁ Bd hml0 hP hK
  obtain ⟨rfl, hZ, hh⟩ := hP
  have hx := Bd.exec
  have hby := Bd.bytes
  have hml : c.maxLocals = 2 := hml0
  have hown : s.vm.findClass "java/lang/Math" = some m.cls := findClass_of_methodNamed Bd.named
  have hnm := (name_of_methodNamed Bd.named Bd.method).1
  have X0 : Stand p l e ({ frames := 0, cells := 0, slots := 0, locals := 0 } : Room) s m #[(.int (1 : Int32)), (.int (0 : Int32))] below meth c s₁ [] 0 0 := Stand.of_body Bd
  have e0 : s₁.heap = h0 := by rw [← hh, Bd.state]; rfl
  have N0 := Fr.nil n0
  have K0 : Keep h0 h0 [] := Keep.refl h0 _
  refine (?_ : OwnGo p.tables e below (fun UU' oo => ∃ rv LL, oo = .returned rv ∧ own_max_Q Z  h0 n0 rv UU'.heap LL ∧ FrameEnd s oo UU' LL ({ frames := 0, cells := 0, slots := 0, locals := 0 } : Room).cells ({ frames := 0, cells := 0, slots := 0, locals := 0 } : Room).slots) _)
  refine OwnGo.back (s₁.setTop (mkF m 0 #[.val (.int (1 : Int32)), .val (.int (0 : Int32))] [])) (fun tg kk => castTop (own_max_ef m (1 : Int32) (0 : Int32)) kk) ?_
  refine OwnGo.back (s₁.setTop (mkF m 1 #[.val (.int (1 : Int32)), .val (.int (0 : Int32))] [(.int (1 : Int32))])) (fun tg kk => XS.iloadN X0.here hx rfl (hb hby own_d21_0) rfl kk) ?_
  refine OwnGo.back (s₁.setTop (mkF m 2 #[.val (.int (1 : Int32)), .val (.int (0 : Int32))] [(.int (0 : Int32)), (.int (1 : Int32))])) (fun tg kk => XS.iloadN X0.here hx rfl (hb hby own_d21_1) rfl kk) ?_
  refine OwnGo.back (s₁.setTop (mkF m 5 #[.val (.int (1 : Int32)), .val (.int (0 : Int32))] [])) (fun tg kk => XS.icmpNo X0.here hx rfl (hb hby own_d21_2) rfl (flt (by decide : ¬ ((1 : Int32) < (0 : Int32)))).1 kk) ?_
  refine OwnGo.back (s₁.setTop (mkF m 6 #[.val (.int (1 : Int32)), .val (.int (0 : Int32))] [(.int (1 : Int32))])) (fun tg kk => XS.iloadN X0.here hx rfl (hb hby own_d21_5) rfl kk) ?_
  refine OwnGo.back (s₁.setTop (mkF m 10 #[.val (.int (1 : Int32)), .val (.int (0 : Int32))] [(.int (1 : Int32))])) (fun tg kk => XS.goto X0.here hx rfl (pc0 := 6) (pc' := 10) rfl (hb hby own_d21_6) (by decide) (by decide) kk) ?_
  obtain ⟨fs, hr, hrun, hended, hW, hsame⟩ := X0.leave (v := some (.int (1 : Int32))) (fun h => by rw [Bd.returns] at h; cases h)
  refine ⟨_, _, ?_, hrun, hended, _, _, rfl, ?_, ⟨_, rfl⟩, hW, hsame.mono (by decide) (by decide)⟩
  · exact own_retI X0 hx Bd.returns (hb hby own_d21_10) hr
  · show own_max_Q Z  h0 n0 _ s₁.heap _
    rw [e0]
    exact ⟨rfl, N0, rfl⟩
theorem own_min_ef (m : MethodId) (x0 : Int32) (x1 : Int32) : entryFrame m #[(.int x0), (.int x1)] 2 = mkF m 0 #[.val (.int x0), .val (.int x1)] [] := by first | (simp [entryFrame, mkF, argsToLocals, Value.category]; done) | rfl
def own_min_Q (Z : State)  (h0 : Heap) (n0 : Nat) (rv : Option Value) (hN : Heap) (LL : List Loc) : Prop := rv = some (.int (1 : Int32)) ∧ Fr n0 LL ∧ hN = h0
set_option maxRecDepth 65536 in
set_option maxHeartbeats 40000000 in
theorem own_min (l : Launch) (Z : State) (a0 : Array Value) (hw : ∀ d ∈ tables_1, d.before a0 Z = true) (ws : List Jvm.Cond)  (h0 : Heap) (n0 : Nat) (Z0 : n0 ≤ h0.size) :
    MetFree l (⟨"java/lang/Math", "min", "(II)I"⟩ : MethodName) (head1 (Jvm.Cond.code (⟨"java/lang/Math", "min", "(II)I"⟩ : MethodName) jdk_29_method_69_code 2 (some .int) :: ws) ({ frames := 0, cells := 0, slots := 0, locals := 0 } : Room)) (fun aa UU => aa = #[(.int (1 : Int32)), (.int (2 : Int32))] ∧ Z.Warmed39 UU.vm ∧ UU.heap = h0) (fun _ _ _ _ _ => True) (fun _ UU oo UU' => ∃ rv LL, oo = .returned rv ∧ own_min_Q Z  h0 n0 rv UU'.heap LL ∧ FrameEnd UU oo UU' LL ({ frames := 0, cells := 0, slots := 0, locals := 0 } : Room).cells ({ frames := 0, cells := 0, slots := 0, locals := 0 } : Room).slots) := by
  refine MetFree.of_bodySF own_pn8 hisR ?_
  intro p e s m args below meth c s₁ Bd hml0 hP hK
  obtain ⟨rfl, hZ, hh⟩ := hP
  have hx := Bd.exec
  have hby := Bd.bytes
  have hml : c.maxLocals = 2 := hml0
  have hown : s.vm.findClass "java/lang/Math" = some m.cls := findClass_of_methodNamed Bd.named
  have hnm := (name_of_methodNamed Bd.named Bd.method).1
  have X0 : Stand p l e ({ frames := 0, cells := 0, slots := 0, locals := 0 } : Room) s m #[(.int (1 : Int32)), (.int (2 : Int32))] below meth c s₁ [] 0 0 := Stand.of_body Bd
  have e0 : s₁.heap = h0 := by rw [← hh, Bd.state]; rfl
  have N0 := Fr.nil n0
  have K0 : Keep h0 h0 [] := Keep.refl h0 _
  refine (?_ : OwnGo p.tables e below (fun UU' oo => ∃ rv LL, oo = .returned rv ∧ own_min_Q Z  h0 n0 rv UU'.heap LL ∧ FrameEnd s oo UU' LL ({ frames := 0, cells := 0, slots := 0, locals := 0 } : Room).cells ({ frames := 0, cells := 0, slots := 0, locals := 0 } : Room).slots) _)
  refine OwnGo.back (s₁.setTop (mkF m 0 #[.val (.int (1 : Int32)), .val (.int (2 : Int32))] [])) (fun tg kk => castTop (own_min_ef m (1 : Int32) (2 : Int32)) kk) ?_
  refine OwnGo.back (s₁.setTop (mkF m 1 #[.val (.int (1 : Int32)), .val (.int (2 : Int32))] [(.int (1 : Int32))])) (fun tg kk => XS.iloadN X0.here hx rfl (hb hby own_d24_0) rfl kk) ?_
  refine OwnGo.back (s₁.setTop (mkF m 2 #[.val (.int (1 : Int32)), .val (.int (2 : Int32))] [(.int (2 : Int32)), (.int (1 : Int32))])) (fun tg kk => XS.iloadN X0.here hx rfl (hb hby own_d24_1) rfl kk) ?_
  refine OwnGo.back (s₁.setTop (mkF m 5 #[.val (.int (1 : Int32)), .val (.int (2 : Int32))] [])) (fun tg kk => XS.icmpNo X0.here hx rfl (hb hby own_d24_2) rfl (flt (by decide : ¬ ((2 : Int32) < (1 : Int32)))).2.2.1 kk) ?_
  refine OwnGo.back (s₁.setTop (mkF m 6 #[.val (.int (1 : Int32)), .val (.int (2 : Int32))] [(.int (1 : Int32))])) (fun tg kk => XS.iloadN X0.here hx rfl (hb hby own_d24_5) rfl kk) ?_
  refine OwnGo.back (s₁.setTop (mkF m 10 #[.val (.int (1 : Int32)), .val (.int (2 : Int32))] [(.int (1 : Int32))])) (fun tg kk => XS.goto X0.here hx rfl (pc0 := 6) (pc' := 10) rfl (hb hby own_d24_6) (by decide) (by decide) kk) ?_
  obtain ⟨fs, hr, hrun, hended, hW, hsame⟩ := X0.leave (v := some (.int (1 : Int32))) (fun h => by rw [Bd.returns] at h; cases h)
  refine ⟨_, _, ?_, hrun, hended, _, _, rfl, ?_, ⟨_, rfl⟩, hW, hsame.mono (by decide) (by decide)⟩
  · exact own_retI X0 hx Bd.returns (hb hby own_d24_10) hr
  · show own_min_Q Z  h0 n0 _ s₁.heap _
    rw [e0]
    exact ⟨rfl, N0, rfl⟩
theorem own_nl_ef (m : MethodId) (x0 : Int32) (x1 : Int32) (x2 : Int32) : entryFrame m #[(.int x0), (.int x1), (.int x2)] 4 = mkF m 0 #[.val (.int x0), .val (.int x1), .val (.int x2), .unset] [] := by first | (simp [entryFrame, mkF, argsToLocals, Value.category]; done) | rfl
def own_nl_Q (Z : State)  (h0 : Heap) (n0 : Nat) (rv : Option Value) (hN : Heap) (LL : List Loc) : Prop := rv = some (.int (2 : Int32)) ∧ Fr n0 LL ∧ hN = h0
set_option maxRecDepth 65536 in
set_option maxHeartbeats 40000000 in
theorem own_nl (l : Launch) (Z : State) (a0 : Array Value) (hw : ∀ d ∈ tables_1, d.before a0 Z = true) (ws : List Jvm.Cond)  (h0 : Heap) (n0 : Nat) (Z0 : n0 ≤ h0.size) :
    MetFree l (⟨"jdk/internal/util/ArraysSupport", "newLength", "(III)I"⟩ : MethodName) (head1 (Jvm.Cond.code (⟨"jdk/internal/util/ArraysSupport", "newLength", "(III)I"⟩ : MethodName) jdk_48_method_27_code 4 (some .int) :: ws) ({ frames := 1, cells := 0, slots := 0, locals := 14 } : Room)) (fun aa UU => aa = #[(.int (1 : Int32)), (.int (1 : Int32)), (.int (0 : Int32))] ∧ Z.Warmed39 UU.vm ∧ UU.heap = h0) (fun _ _ _ _ _ => True) (fun _ UU oo UU' => ∃ rv LL, oo = .returned rv ∧ own_nl_Q Z  h0 n0 rv UU'.heap LL ∧ FrameEnd UU oo UU' LL ({ frames := 1, cells := 0, slots := 0, locals := 14 } : Room).cells ({ frames := 1, cells := 0, slots := 0, locals := 14 } : Room).slots) := by
  refine MetFree.of_bodySF (plainFor_of_name own_pn9) hisR ?_
  intro p e s m args below meth c s₁ Bd hml0 hP hK
  obtain ⟨rfl, hZ, hh⟩ := hP
  have hx := Bd.exec
  have hby := Bd.bytes
  have hml : c.maxLocals = 4 := hml0
  have hown : s.vm.findClass "jdk/internal/util/ArraysSupport" = some m.cls := findClass_of_methodNamed Bd.named
  have hnm := (name_of_methodNamed Bd.named Bd.method).1
  have X0 : Stand p l e ({ frames := 1, cells := 0, slots := 0, locals := 14 } : Room) s m #[(.int (1 : Int32)), (.int (1 : Int32)), (.int (0 : Int32))] below meth c s₁ [] 0 0 := Stand.of_body Bd
  have e0 : s₁.heap = h0 := by rw [← hh, Bd.state]; rfl
  have N0 := Fr.nil n0
  have K0 : Keep h0 h0 [] := Keep.refl h0 _
  refine (?_ : OwnGo p.tables e below (fun UU' oo => ∃ rv LL, oo = .returned rv ∧ own_nl_Q Z  h0 n0 rv UU'.heap LL ∧ FrameEnd s oo UU' LL ({ frames := 1, cells := 0, slots := 0, locals := 14 } : Room).cells ({ frames := 1, cells := 0, slots := 0, locals := 14 } : Room).slots) _)
  refine OwnGo.back (s₁.setTop (mkF m 0 #[.val (.int (1 : Int32)), .val (.int (1 : Int32)), .val (.int (0 : Int32)), .unset] [])) (fun tg kk => castTop (own_nl_ef m (1 : Int32) (1 : Int32) (0 : Int32)) kk) ?_
  refine OwnGo.back (s₁.setTop (mkF m 1 #[.val (.int (1 : Int32)), .val (.int (1 : Int32)), .val (.int (0 : Int32)), .unset] [(.int (1 : Int32))])) (fun tg kk => XS.iloadN X0.here hx rfl (hb hby own_d20_0) rfl kk) ?_
  refine OwnGo.back (s₁.setTop (mkF m 2 #[.val (.int (1 : Int32)), .val (.int (1 : Int32)), .val (.int (0 : Int32)), .unset] [(.int (1 : Int32)), (.int (1 : Int32))])) (fun tg kk => XS.iloadN X0.here hx rfl (hb hby own_d20_1) rfl kk) ?_
  refine OwnGo.back (s₁.setTop (mkF m 3 #[.val (.int (1 : Int32)), .val (.int (1 : Int32)), .val (.int (0 : Int32)), .unset] [(.int (0 : Int32)), (.int (1 : Int32)), (.int (1 : Int32))])) (fun tg kk => XS.iloadN X0.here hx rfl (hb hby own_d20_2) rfl kk) ?_
  obtain ⟨_, _, ⟨T1, L1, k1, n1⟩, -, X1, ⟨Lc1, hQ1, l1, y1, z1⟩, st1⟩ := Jvm.LawKit.callS X0 hx (y := (⟨"java/lang/Math", "max", "(II)I"⟩ : MethodName)) hown (mvT hZ (hw _ (List.mem_of_getElem? (i := 136) rfl))) (mvT hZ (hw _ (List.mem_of_getElem? (i := 137) rfl))) (mvT hZ (hw _ (List.mem_of_getElem? (i := 138) rfl))) (mvT hZ (hw _ (List.mem_of_getElem? (i := 139) rfl))) (by decide) (backOf (W := 1) (own_max l Z a0 hw []  h0 n0 Z0 ) hZ (hw _ (List.mem_of_getElem? (i := 139) rfl)) (hw _ (List.mem_of_getElem? (i := 138) rfl)) (by decide) (by decide)) (g := (mkF m 3 #[.val (.int (1 : Int32)), .val (.int (1 : Int32)), .val (.int (0 : Int32)), .unset] [(.int (0 : Int32)), (.int (1 : Int32)), (.int (1 : Int32))])) rfl (by rw [hml]; rfl) (argsL := [(.int (1 : Int32)), (.int (0 : Int32))]) (rest := [(.int (1 : Int32))]) (lenOf own_pd7 rfl) rfl (by show 2 * 0 + _ ≤ _; exact Nat.le_of_eq rfl) (hb hby own_d20_3) (fun _ _ => ⟨rfl, e0, (by decide : 0 + 0 ≤ _), (by decide : 0 + 0 ≤ _)⟩)
  dsimp only [Pt.U, Pt.locs, Pt.cells, Pt.slots] at X1 l1 y1 z1 st1 hQ1
  subst l1 y1 z1
  obtain ⟨rfl, N1q, e1⟩ := hQ1
  have N1 := Fr.app N0 N1q
  refine OwnGo.back (T1.setTop (mkF m 6 #[.val (.int (1 : Int32)), .val (.int (1 : Int32)), .val (.int (0 : Int32)), .unset] [(.int (1 : Int32)), (.int (1 : Int32))])) (fun tg kk => st1 _ kk) ?_
  refine OwnGo.back (T1.setTop (mkF m 7 #[.val (.int (1 : Int32)), .val (.int (1 : Int32)), .val (.int (0 : Int32)), .unset] [(.int (2 : Int32))])) (fun tg kk => XS.iadd X1.here hx rfl (hb hby own_d20_6) rfl kk) ?_
  refine OwnGo.back (T1.setTop (mkF m 8 #[.val (.int (1 : Int32)), .val (.int (1 : Int32)), .val (.int (0 : Int32)), .val (.int (2 : Int32))] [])) (fun tg kk => XS.istoreN X1.here hx rfl (hb hby own_d20_7) rfl (l' := #[.val (.int (1 : Int32)), .val (.int (1 : Int32)), .val (.int (0 : Int32)), .val (.int (2 : Int32))]) rfl kk) ?_
  refine OwnGo.back (T1.setTop (mkF m 9 #[.val (.int (1 : Int32)), .val (.int (1 : Int32)), .val (.int (0 : Int32)), .val (.int (2 : Int32))] [(.int (0 : Int32))])) (fun tg kk => XS.iconst X1.here hx rfl (hb hby own_d20_8) kk) ?_
  refine OwnGo.back (T1.setTop (mkF m 10 #[.val (.int (1 : Int32)), .val (.int (1 : Int32)), .val (.int (0 : Int32)), .val (.int (2 : Int32))] [(.int (2 : Int32)), (.int (0 : Int32))])) (fun tg kk => XS.iloadN X1.here hx rfl (hb hby own_d20_9) rfl kk) ?_
  refine OwnGo.back (T1.setTop (mkF m 13 #[.val (.int (1 : Int32)), .val (.int (1 : Int32)), .val (.int (0 : Int32)), .val (.int (2 : Int32))] [])) (fun tg kk => XS.icmpNo X1.here hx rfl (hb hby own_d20_10) rfl (tlt (by decide : (0 : Int32) < (2 : Int32))).2.1 kk) ?_
  refine OwnGo.back (T1.setTop (mkF m 14 #[.val (.int (1 : Int32)), .val (.int (1 : Int32)), .val (.int (0 : Int32)), .val (.int (2 : Int32))] [(.int (2 : Int32))])) (fun tg kk => XS.iloadN X1.here hx rfl (hb hby own_d20_13) rfl kk) ?_
  refine OwnGo.back (T1.setTop (mkF m 16 #[.val (.int (1 : Int32)), .val (.int (1 : Int32)), .val (.int (0 : Int32)), .val (.int (2 : Int32))] [(.int (2147483639 : Int32)), (.int (2 : Int32))])) (fun tg kk => Jvm.Stand.ldcI X1 hx hown (mvT hZ (hw _ (List.mem_of_getElem? (i := 140) rfl))) rfl (hb hby own_d20_14) kk) ?_
  refine OwnGo.back (T1.setTop (mkF m 19 #[.val (.int (1 : Int32)), .val (.int (1 : Int32)), .val (.int (0 : Int32)), .val (.int (2 : Int32))] [])) (fun tg kk => XS.icmpNo X1.here hx rfl (hb hby own_d20_16) rfl (flt (by decide : ¬ ((2147483639 : Int32) < (2 : Int32)))).2.2.1 kk) ?_
  refine OwnGo.back (T1.setTop (mkF m 20 #[.val (.int (1 : Int32)), .val (.int (1 : Int32)), .val (.int (0 : Int32)), .val (.int (2 : Int32))] [(.int (2 : Int32))])) (fun tg kk => XS.iloadN X1.here hx rfl (hb hby own_d20_19) rfl kk) ?_
  obtain ⟨fs, hr, hrun, hended, hW, hsame⟩ := X1.leave (v := some (.int (2 : Int32))) (fun h => by rw [Bd.returns] at h; cases h)
  refine ⟨_, _, ?_, hrun, hended, _, _, rfl, ?_, ⟨_, rfl⟩, hW, hsame.mono (by decide) (by decide)⟩
  · exact own_retI X1 hx Bd.returns (hb hby own_d20_20) hr
  · show own_nl_Q Z  h0 n0 _ T1.heap _
    rw [e1]
    exact ⟨rfl, N1, rfl⟩
theorem own_co3_ef (m : MethodId) (x0 : Addr) (x1 : Int32) (x2 : Addr) : entryFrame m #[(.ref x0), (.int x1), (.ref x2)] 4 = mkF m 0 #[.val (.ref x0), .val (.int x1), .val (.ref x2), .unset] [] := by first | (simp [entryFrame, mkF, argsToLocals, Value.category]; done) | rfl
def own_co3_Q (Z : State) (b : Addr) (mr : Addr) (kb : ClassId) (h0 : Heap) (n0 : Nat) (rv : Option Value) (hN : Heap) (LL : List Loc) : Prop := ∃ (r : Addr), ∃ (kr : ClassId), rv = some (.ref r) ∧ Fr n0 LL ∧ Keep h0 hN [] ∧ h0.size ≤ r ∧ Exa Z hN r "[Ljava/lang/Object;" ∧ Arv Z hN r kr (.object "java/lang/Object") (2 : Int32) [.null, .null] .null
set_option maxRecDepth 65536 in
set_option maxHeartbeats 40000000 in
theorem own_co3 (l : Launch) (Z : State) (a0 : Array Value) (hw : ∀ d ∈ tables_1, d.before a0 Z = true) (ws : List Jvm.Cond) (b : Addr) (mr : Addr) (kb : ClassId) (h0 : Heap) (n0 : Nat) (Z0 : n0 ≤ h0.size) (hM : own_Mir Z "[Ljava/lang/Object;" mr) (H0 : Exa Z h0 b "[Ljava/lang/Object;") (H1 : Arv Z h0 b kb (.object "java/lang/Object") (1 : Int32) [.null] .null) :
    MetFree l (⟨"java/util/Arrays", "copyOf", "([Ljava/lang/Object;ILjava/lang/Class;)[Ljava/lang/Object;"⟩ : MethodName) (head1 (Jvm.Cond.code (⟨"java/util/Arrays", "copyOf", "([Ljava/lang/Object;ILjava/lang/Class;)[Ljava/lang/Object;"⟩ : MethodName) jdk_65_method_120_code 4 (some (.array (.object "java/lang/Object"))) :: ws) ({ frames := 1, cells := 1, slots := 2, locals := 18 } : Room)) (fun aa UU => aa = #[(.ref b), (.int (2 : Int32)), (.ref mr)] ∧ Z.Warmed39 UU.vm ∧ UU.heap = h0) (fun _ _ _ _ _ => True) (fun _ UU oo UU' => ∃ rv LL, oo = .returned rv ∧ own_co3_Q Z b mr kb h0 n0 rv UU'.heap LL ∧ FrameEnd UU oo UU' LL ({ frames := 1, cells := 1, slots := 2, locals := 18 } : Room).cells ({ frames := 1, cells := 1, slots := 2, locals := 18 } : Room).slots) := by
  refine MetFree.of_bodySF (plainFor_of_name own_pn10) hisR ?_
  intro p e s m args below meth c s₁ Bd hml0 hP hK
  obtain ⟨rfl, hZ, hh⟩ := hP
  have hx := Bd.exec
  have hby := Bd.bytes
  have hml : c.maxLocals = 4 := hml0
  have hown : s.vm.findClass "java/util/Arrays" = some m.cls := findClass_of_methodNamed Bd.named
  have hnm := (name_of_methodNamed Bd.named Bd.method).1
  have X0 : Stand p l e ({ frames := 1, cells := 1, slots := 2, locals := 18 } : Room) s m #[(.ref b), (.int (2 : Int32)), (.ref mr)] below meth c s₁ [] 0 0 := Stand.of_body Bd
  have e0 : s₁.heap = h0 := by rw [← hh, Bd.state]; rfl
  have N0 := Fr.nil n0
  have K0 : Keep h0 h0 [] := Keep.refl h0 _
  refine (?_ : OwnGo p.tables e below (fun UU' oo => ∃ rv LL, oo = .returned rv ∧ own_co3_Q Z b mr kb h0 n0 rv UU'.heap LL ∧ FrameEnd s oo UU' LL ({ frames := 1, cells := 1, slots := 2, locals := 18 } : Room).cells ({ frames := 1, cells := 1, slots := 2, locals := 18 } : Room).slots) _)
  refine OwnGo.back (s₁.setTop (mkF m 0 #[.val (.ref b), .val (.int (2 : Int32)), .val (.ref mr), .unset] [])) (fun tg kk => castTop (own_co3_ef m b (2 : Int32) mr) kk) ?_
  refine OwnGo.back (s₁.setTop (mkF m 1 #[.val (.ref b), .val (.int (2 : Int32)), .val (.ref mr), .unset] [(.ref mr)])) (fun tg kk => XS.aloadN X0.here hx rfl (hb hby own_d23_0) rfl rfl kk) ?_
  obtain ⟨T1, X1, e1, st1⟩ := own_ldcC X0 hx hZ hown (hw _ (List.mem_of_getElem? (i := 154) rfl)) e0 hM (g := (mkF m 1 #[.val (.ref b), .val (.int (2 : Int32)), .val (.ref mr), .unset] [(.ref mr)])) rfl (hb hby own_d23_1)
  refine OwnGo.back (T1.setTop (mkF m 3 #[.val (.ref b), .val (.int (2 : Int32)), .val (.ref mr), .unset] [(.ref mr), (.ref mr)])) (fun tg kk => st1 _ kk) ?_
  refine OwnGo.back (T1.setTop (mkF m 6 #[.val (.ref b), .val (.int (2 : Int32)), .val (.ref mr), .unset] [])) (fun tg kk => Jvm.RoadKit.acmp (g := (mkF m 3 #[.val (.ref b), .val (.int (2 : Int32)), .val (.ref mr), .unset] [(.ref mr), (.ref mr)])) X1 hx rfl rfl rfl (pc0 := 3) (pc' := 6) (same := true) rfl (hb hby own_d23_3) rfl (decide_eq_true rfl) (by decide) (by decide) kk) ?_
  refine OwnGo.back (T1.setTop (mkF m 7 #[.val (.ref b), .val (.int (2 : Int32)), .val (.ref mr), .unset] [(.int (2 : Int32))])) (fun tg kk => XS.iloadN X1.here hx rfl (hb hby own_d23_6) rfl kk) ?_
  obtain ⟨T2, h2, k2, X2, e2, E2, A2, Ex2, O2, st2⟩ := newRE X1 hx hZ hown (hw _ (List.mem_of_getElem? (i := 155) rfl)) (hw _ (List.mem_of_getElem? (i := 69) rfl)) e1 (g := (mkF m 7 #[.val (.ref b), .val (.int (2 : Int32)), .val (.ref mr), .unset] [(.int (2 : Int32))])) rfl (hb hby own_d23_7) rfl (by decide) (cap := 2) (by decide) (by decide) (by decide) (by decide) (ad := "[Ljava/lang/Object;") rfl
  obtain ⟨b2, q2⟩ : ∃ z, z = h0.size := ⟨_, rfl⟩
  rw [← q2] at A2 st2 Ex2
  have n3 : b ≠ b2 := own_ne H0.lt q2
  have g4 : n0 ≤ b2 := Nat.le_trans Z0 (Nat.le_of_eq q2.symm)
  have s5 : h0.size ≤ b2 := Nat.le_trans K0.1 (Nat.le_of_eq q2.symm)
  have f6 : Exa Z h2 b "[Ljava/lang/Object;" := H0.ext E2
  have f7 : Arv Z h2 b kb (.object "java/lang/Object") (1 : Int32) [.null] .null := H1.ext E2
  have K8 : Keep h0 h2 [] := K0.ext E2
  have Z9 : n0 ≤ h2.size := Nat.le_trans Z0 E2.1
  have f10 : Arv Z h2 b2 k2 (.object "java/lang/Object") (2 : Int32) [.null, .null] .null := (Arv.new A2 (by decide)).pad (pad_rep [] .null 2)
  refine OwnGo.back (T2.setTop (mkF m 10 #[.val (.ref b), .val (.int (2 : Int32)), .val (.ref mr), .unset] [(.ref b2)])) (fun tg kk => st2 _ kk) ?_
  refine OwnGo.back (T2.setTop (mkF m 24 #[.val (.ref b), .val (.int (2 : Int32)), .val (.ref mr), .unset] [(.ref b2)])) (fun tg kk => XS.goto X2.here hx rfl (pc0 := 10) (pc' := 24) rfl (hb hby own_d23_10) (by decide) (by decide) kk) ?_
  refine OwnGo.back (T2.setTop (mkF m 25 #[.val (.ref b), .val (.int (2 : Int32)), .val (.ref mr), .val (.ref b2)] [])) (fun tg kk => XS.astoreN X2.here hx rfl (hb hby own_d23_24) rfl rfl (l' := #[.val (.ref b), .val (.int (2 : Int32)), .val (.ref mr), .val (.ref b2)]) rfl kk) ?_
  refine OwnGo.back (T2.setTop (mkF m 26 #[.val (.ref b), .val (.int (2 : Int32)), .val (.ref mr), .val (.ref b2)] [(.ref b)])) (fun tg kk => XS.aloadN X2.here hx rfl (hb hby own_d23_25) rfl rfl kk) ?_
  refine OwnGo.back (T2.setTop (mkF m 27 #[.val (.ref b), .val (.int (2 : Int32)), .val (.ref mr), .val (.ref b2)] [(.int (0 : Int32)), (.ref b)])) (fun tg kk => XS.iconst X2.here hx rfl (hb hby own_d23_26) kk) ?_
  refine OwnGo.back (T2.setTop (mkF m 28 #[.val (.ref b), .val (.int (2 : Int32)), .val (.ref mr), .val (.ref b2)] [(.ref b2), (.int (0 : Int32)), (.ref b)])) (fun tg kk => XS.aloadN X2.here hx rfl (hb hby own_d23_27) rfl rfl kk) ?_
  refine OwnGo.back (T2.setTop (mkF m 29 #[.val (.ref b), .val (.int (2 : Int32)), .val (.ref mr), .val (.ref b2)] [(.int (0 : Int32)), (.ref b2), (.int (0 : Int32)), (.ref b)])) (fun tg kk => XS.iconst X2.here hx rfl (hb hby own_d23_28) kk) ?_
  refine OwnGo.back (T2.setTop (mkF m 30 #[.val (.ref b), .val (.int (2 : Int32)), .val (.ref mr), .val (.ref b2)] [(.ref b), (.int (0 : Int32)), (.ref b2), (.int (0 : Int32)), (.ref b)])) (fun tg kk => XS.aloadN X2.here hx rfl (hb hby own_d23_29) rfl rfl kk) ?_
  obtain ⟨cl_11, Ar_11, -, Sz_11, Ng_11, -, -⟩ := id f7
  refine OwnGo.back (T2.setTop (mkF m 31 #[.val (.ref b), .val (.int (2 : Int32)), .val (.ref mr), .val (.ref b2)] [(.int (1 : Int32)), (.int (0 : Int32)), (.ref b2), (.int (0 : Int32)), (.ref b)])) (fun tg kk => X2.arraylength hx (by rw [e2]; exact Ar_11.1) (State.isArrayOf_alike hZ.alike Ar_11.2.1) (g := (mkF m 30 #[.val (.ref b), .val (.int (2 : Int32)), .val (.ref mr), .val (.ref b2)] [(.ref b), (.int (0 : Int32)), (.ref b2), (.int (0 : Int32)), (.ref b)])) rfl rfl (hb hby own_d23_30) _ (by rw [len_of Sz_11 Ng_11]; exact kk)) ?_
  refine OwnGo.back (T2.setTop (mkF m 32 #[.val (.ref b), .val (.int (2 : Int32)), .val (.ref mr), .val (.ref b2)] [(.int (2 : Int32)), (.int (1 : Int32)), (.int (0 : Int32)), (.ref b2), (.int (0 : Int32)), (.ref b)])) (fun tg kk => XS.iloadN X2.here hx rfl (hb hby own_d23_31) rfl kk) ?_
  obtain ⟨_, _, ⟨T12, L12, k12, n12⟩, -, X12, ⟨Lc12, hQ12, l12, y12, z12⟩, st12⟩ := Jvm.LawKit.callS X2 hx (y := (⟨"java/lang/Math", "min", "(II)I"⟩ : MethodName)) hown (mvT hZ (hw _ (List.mem_of_getElem? (i := 156) rfl))) (mvT hZ (hw _ (List.mem_of_getElem? (i := 157) rfl))) (mvT hZ (hw _ (List.mem_of_getElem? (i := 138) rfl))) (mvT hZ (hw _ (List.mem_of_getElem? (i := 158) rfl))) (by decide) (backOf (W := 4) (own_min l Z a0 hw []  h2 n0 Z9 ) hZ (hw _ (List.mem_of_getElem? (i := 158) rfl)) (hw _ (List.mem_of_getElem? (i := 138) rfl)) (by decide) (by decide)) (g := (mkF m 32 #[.val (.ref b), .val (.int (2 : Int32)), .val (.ref mr), .val (.ref b2)] [(.int (2 : Int32)), (.int (1 : Int32)), (.int (0 : Int32)), (.ref b2), (.int (0 : Int32)), (.ref b)])) rfl (by rw [hml]; rfl) (argsL := [(.int (1 : Int32)), (.int (2 : Int32))]) (rest := [(.int (0 : Int32)), (.ref b2), (.int (0 : Int32)), (.ref b)]) (lenOf own_pd7 rfl) rfl (by show 2 * 0 + _ ≤ _; exact Nat.le_of_eq rfl) (hb hby own_d23_32) (fun _ _ => ⟨rfl, e2, (by decide : 1 + 0 ≤ _), (by decide : 2 + 0 ≤ _)⟩)
  dsimp only [Pt.U, Pt.locs, Pt.cells, Pt.slots] at X12 l12 y12 z12 st12 hQ12
  subst l12 y12 z12
  obtain ⟨rfl, N12q, e12⟩ := hQ12
  have N12 := Fr.app N0 N12q
  refine OwnGo.back (T12.setTop (mkF m 35 #[.val (.ref b), .val (.int (2 : Int32)), .val (.ref mr), .val (.ref b2)] [(.int (1 : Int32)), (.int (0 : Int32)), (.ref b2), (.int (0 : Int32)), (.ref b)])) (fun tg kk => st12 _ kk) ?_
  obtain ⟨T13, h13, L13, X13, e13, N13, Kc13, B13, st13⟩ := cpA X12 hx hZ hown (hw _ (List.mem_of_getElem? (i := 159) rfl)) (hw _ (List.mem_of_getElem? (i := 162) rfl)) (hw _ (List.mem_of_getElem? (i := 160) rfl)) (hw _ (List.mem_of_getElem? (i := 161) rfl)) e12 f7 f10 (us := [.null]) (Or.inr ⟨rfl, rfl, ⟨Or.inl rfl, trivial⟩⟩) (by decide) (by decide) (by decide) (by decide) (by decide) rfl (by decide) N12 g4 (g := (mkF m 35 #[.val (.ref b), .val (.int (2 : Int32)), .val (.ref mr), .val (.ref b2)] [(.int (1 : Int32)), (.int (0 : Int32)), (.ref b2), (.int (0 : Int32)), (.ref b)])) rfl (by rw [hml]; rfl) rfl (hb hby own_d23_35) (by decide) (W := 0) (by show 2 * 0 + _ ≤ _; exact Nat.le_of_eq rfl) (by decide)
  have f14 : Exa Z h13 b "[Ljava/lang/Object;" := f6.keep Kc13
  have f15 : Arv Z h13 b kb (.object "java/lang/Object") (1 : Int32) [.null] .null := f7.keep Kc13 (ninS n3 nin0)
  have f16 : Exa Z h13 b2 "[Ljava/lang/Object;" := Ex2.keep Kc13
  have K17 : Keep h0 h13 [] := K8.trans Kc13 (allS (Or.inr s5) all0)
  have Z18 : n0 ≤ h13.size := Nat.le_trans Z9 Kc13.1
  have f19 : Arv Z h13 b2 k2 (.object "java/lang/Object") (2 : Int32) [.null, .null] .null := B13
  refine OwnGo.back (T13.setTop (mkF m 38 #[.val (.ref b), .val (.int (2 : Int32)), .val (.ref mr), .val (.ref b2)] [])) (fun tg kk => st13 _ kk) ?_
  refine OwnGo.back (T13.setTop (mkF m 39 #[.val (.ref b), .val (.int (2 : Int32)), .val (.ref mr), .val (.ref b2)] [(.ref b2)])) (fun tg kk => XS.aloadN X13.here hx rfl (hb hby own_d23_38) rfl rfl kk) ?_
  obtain ⟨fs, hr, hrun, hended, hW, hsame⟩ := X13.leave (v := some (.ref b2)) (fun h => by rw [Bd.returns] at h; cases h)
  refine ⟨_, _, ?_, hrun, hended, _, _, rfl, ?_, ⟨_, rfl⟩, hW, hsame.mono (by decide) (by decide)⟩
  · exact own_retA X13 hx Bd.returns rfl rfl rfl (hb hby own_d23_39) hr
  · show own_co3_Q Z b mr kb h0 n0 _ T13.heap _
    rw [e13]
    exact ⟨b2, k2, rfl, N13, K17, s5, f16, f19⟩
theorem own_co2_ef (m : MethodId) (x0 : Addr) (x1 : Int32) : entryFrame m #[(.ref x0), (.int x1)] 2 = mkF m 0 #[.val (.ref x0), .val (.int x1)] [] := by first | (simp [entryFrame, mkF, argsToLocals, Value.category]; done) | rfl
def own_co2_Q (Z : State) (b : Addr) (kb : ClassId) (mr : Addr) (h0 : Heap) (n0 : Nat) (rv : Option Value) (hN : Heap) (LL : List Loc) : Prop := ∃ (r : Addr), ∃ (kr : ClassId), rv = some (.ref r) ∧ Fr n0 LL ∧ Keep h0 hN [] ∧ h0.size ≤ r ∧ Exa Z hN r "[Ljava/lang/Object;" ∧ Arv Z hN r kr (.object "java/lang/Object") (2 : Int32) [.null, .null] .null
set_option maxRecDepth 65536 in
set_option maxHeartbeats 40000000 in
theorem own_co2 (l : Launch) (Z : State) (a0 : Array Value) (hw : ∀ d ∈ tables_1, d.before a0 Z = true) (ws : List Jvm.Cond) (b : Addr) (kb : ClassId) (mr : Addr) (h0 : Heap) (n0 : Nat) (Z0 : n0 ≤ h0.size) (hM : own_Mir Z "[Ljava/lang/Object;" mr) (H0 : Exa Z h0 b "[Ljava/lang/Object;") (H1 : Arv Z h0 b kb (.object "java/lang/Object") (1 : Int32) [.null] .null) :
    MetFree l (⟨"java/util/Arrays", "copyOf", "([Ljava/lang/Object;I)[Ljava/lang/Object;"⟩ : MethodName) (head1 (Jvm.Cond.code (⟨"java/util/Arrays", "copyOf", "([Ljava/lang/Object;I)[Ljava/lang/Object;"⟩ : MethodName) jdk_65_method_119_code 2 (some (.array (.object "java/lang/Object"))) :: ws) ({ frames := 2, cells := 1, slots := 2, locals := 33 } : Room)) (fun aa UU => aa = #[(.ref b), (.int (2 : Int32))] ∧ Z.Warmed39 UU.vm ∧ UU.heap = h0) (fun _ _ _ _ _ => True) (fun _ UU oo UU' => ∃ rv LL, oo = .returned rv ∧ own_co2_Q Z b kb mr h0 n0 rv UU'.heap LL ∧ FrameEnd UU oo UU' LL ({ frames := 2, cells := 1, slots := 2, locals := 33 } : Room).cells ({ frames := 2, cells := 1, slots := 2, locals := 33 } : Room).slots) := by
  refine MetFree.of_bodySF (plainFor_of_name own_pn10) hisR ?_
  intro p e s m args below meth c s₁ Bd hml0 hP hK
  obtain ⟨rfl, hZ, hh⟩ := hP
  have hx := Bd.exec
  have hby := Bd.bytes
  have hml : c.maxLocals = 2 := hml0
  have hown : s.vm.findClass "java/util/Arrays" = some m.cls := findClass_of_methodNamed Bd.named
  have hnm := (name_of_methodNamed Bd.named Bd.method).1
  have X0 : Stand p l e ({ frames := 2, cells := 1, slots := 2, locals := 33 } : Room) s m #[(.ref b), (.int (2 : Int32))] below meth c s₁ [] 0 0 := Stand.of_body Bd
  have e0 : s₁.heap = h0 := by rw [← hh, Bd.state]; rfl
  have N0 := Fr.nil n0
  have K0 : Keep h0 h0 [] := Keep.refl h0 _
  refine (?_ : OwnGo p.tables e below (fun UU' oo => ∃ rv LL, oo = .returned rv ∧ own_co2_Q Z b kb mr h0 n0 rv UU'.heap LL ∧ FrameEnd s oo UU' LL ({ frames := 2, cells := 1, slots := 2, locals := 33 } : Room).cells ({ frames := 2, cells := 1, slots := 2, locals := 33 } : Room).slots) _)
  refine OwnGo.back (s₁.setTop (mkF m 0 #[.val (.ref b), .val (.int (2 : Int32))] [])) (fun tg kk => castTop (own_co2_ef m b (2 : Int32)) kk) ?_
  refine OwnGo.back (s₁.setTop (mkF m 1 #[.val (.ref b), .val (.int (2 : Int32))] [(.ref b)])) (fun tg kk => XS.aloadN X0.here hx rfl (hb hby own_d22_0) rfl rfl kk) ?_
  refine OwnGo.back (s₁.setTop (mkF m 2 #[.val (.ref b), .val (.int (2 : Int32))] [(.int (2 : Int32)), (.ref b)])) (fun tg kk => XS.iloadN X0.here hx rfl (hb hby own_d22_1) rfl kk) ?_
  refine OwnGo.back (s₁.setTop (mkF m 3 #[.val (.ref b), .val (.int (2 : Int32))] [(.ref b), (.int (2 : Int32)), (.ref b)])) (fun tg kk => XS.aloadN X0.here hx rfl (hb hby own_d22_2) rfl rfl kk) ?_
  obtain ⟨T1, X1, e1, st1⟩ := own_gcls X0 hx hZ hown (hw _ (List.mem_of_getElem? (i := 145) rfl)) (hw _ (List.mem_of_getElem? (i := 146) rfl)) (hw _ (List.mem_of_getElem? (i := 148) rfl)) (hw _ (List.mem_of_getElem? (i := 147) rfl)) (hw _ (List.mem_of_getElem? (i := 149) rfl)) e0 H0 hM (g := (mkF m 3 #[.val (.ref b), .val (.int (2 : Int32))] [(.ref b), (.int (2 : Int32)), (.ref b)])) rfl (by rw [hml]; rfl) rfl (hb hby own_d22_3) (by decide) (W := 2) (by show 2 * 0 + _ ≤ _; exact Nat.le_of_eq rfl) (by decide)
  refine OwnGo.back (T1.setTop (mkF m 6 #[.val (.ref b), .val (.int (2 : Int32))] [(.ref mr), (.int (2 : Int32)), (.ref b)])) (fun tg kk => st1 _ kk) ?_
  obtain ⟨_, _, ⟨T2, L2, k2, n2⟩, -, X2, ⟨Lc2, hQ2, l2, y2, z2⟩, st2⟩ := Jvm.LawKit.callS X1 hx (y := (⟨"java/util/Arrays", "copyOf", "([Ljava/lang/Object;ILjava/lang/Class;)[Ljava/lang/Object;"⟩ : MethodName)) hown (mvT hZ (hw _ (List.mem_of_getElem? (i := 151) rfl))) (mvT hZ (hw _ (List.mem_of_getElem? (i := 152) rfl))) (mvT hZ (hw _ (List.mem_of_getElem? (i := 143) rfl))) (mvT hZ (hw _ (List.mem_of_getElem? (i := 153) rfl))) (by decide) (backOf (W := 0) (own_co3 l Z a0 hw [] b mr kb h0 n0 Z0 hM H0 H1) hZ (hw _ (List.mem_of_getElem? (i := 153) rfl)) (hw _ (List.mem_of_getElem? (i := 143) rfl)) (by decide) (by decide)) (g := (mkF m 6 #[.val (.ref b), .val (.int (2 : Int32))] [(.ref mr), (.int (2 : Int32)), (.ref b)])) rfl (by rw [hml]; rfl) (argsL := [(.ref b), (.int (2 : Int32)), (.ref mr)]) (rest := []) (lenOf own_pd8 rfl) rfl (by show 2 * 0 + _ ≤ _; exact Nat.le_of_eq rfl) (hb hby own_d22_6) (fun _ _ => ⟨rfl, e1, (by decide : 0 + 1 ≤ _), (by decide : 0 + 2 ≤ _)⟩)
  dsimp only [Pt.U, Pt.locs, Pt.cells, Pt.slots] at X2 l2 y2 z2 st2 hQ2
  subst l2 y2 z2
  obtain ⟨r_3, kr_4, rfl, N2q, Kc2, po5, po6, po7⟩ := hQ2
  have N2 := Fr.app N0 N2q
  have f8 : Exa Z T2.heap b "[Ljava/lang/Object;" := H0.keep Kc2
  have f9 : Arv Z T2.heap b kb (.object "java/lang/Object") (1 : Int32) [.null] .null := H1.keep Kc2 nin0
  have K10 : Keep h0 T2.heap [] := K0.trans Kc2 all0
  have Z11 : n0 ≤ T2.heap.size := Nat.le_trans Z0 Kc2.1
  have n12 : b ≠ r_3 := own_ne' H0.lt po5
  have g13 : n0 ≤ r_3 := Nat.le_trans Z0 po5
  have s14 : h0.size ≤ r_3 := Nat.le_trans K0.1 po5
  refine OwnGo.back (T2.setTop (mkF m 9 #[.val (.ref b), .val (.int (2 : Int32))] [(.ref r_3)])) (fun tg kk => st2 _ kk) ?_
  obtain ⟨fs, hr, hrun, hended, hW, hsame⟩ := X2.leave (v := some (.ref r_3)) (fun h => by rw [Bd.returns] at h; cases h)
  refine ⟨_, _, ?_, hrun, hended, _, _, rfl, ?_, ⟨_, rfl⟩, hW, hsame.mono (by decide) (by decide)⟩
  · exact own_retA X2 hx Bd.returns rfl rfl rfl (hb hby own_d22_9) hr
  · show own_co2_Q Z b kb mr h0 n0 _ T2.heap _
    exact ⟨r_3, kr_4, rfl, N2, K10, s14, po6, po7⟩
theorem own_gr1_ef (m : MethodId) (x0 : Addr) (x1 : Int32) : entryFrame m #[(.ref x0), (.int x1)] 4 = mkF m 0 #[.val (.ref x0), .val (.int x1), .unset, .unset] [] := by first | (simp [entryFrame, mkF, argsToLocals, Value.category]; done) | rfl
def own_gr1_Q (Z : State) (a : Addr) (b : Addr) (kb : ClassId) (mr : Addr) (h0 : Heap) (n0 : Nat) (rv : Option Value) (hN : Heap) (LL : List Loc) : Prop := ∃ (r : Addr), ∃ (kr : ClassId), rv = some (.ref r) ∧ Fr n0 LL ∧ Keep h0 hN [a] ∧ h0.size ≤ r ∧ Exa Z hN r "[Ljava/lang/Object;" ∧ Arv Z hN r kr (.object "java/lang/Object") (2 : Int32) [.null, .null] .null ∧ Exa Z hN a "java/util/ArrayList" ∧ Fld Z hN a "java/util/AbstractList" "modCount" "I" (.int (2 : Int32)) ∧ Fld Z hN a "java/util/ArrayList" "elementData" "[Ljava/lang/Object;" (.ref r) ∧ Fld Z hN a "java/util/ArrayList" "size" "I" (.int (1 : Int32))
set_option maxRecDepth 65536 in
set_option maxHeartbeats 40000000 in
theorem own_gr1 (l : Launch) (Z : State) (a0 : Array Value) (hw : ∀ d ∈ tables_1, d.before a0 Z = true) (ws : List Jvm.Cond) (a : Addr) (b : Addr) (kb : ClassId) (mr : Addr) (h0 : Heap) (n0 : Nat) (Z0 : n0 ≤ h0.size) (hM : own_Mir Z "[Ljava/lang/Object;" mr) (H0 : Exa Z h0 a "java/util/ArrayList") (H1 : Fld Z h0 a "java/util/AbstractList" "modCount" "I" (.int (2 : Int32))) (H2 : Fld Z h0 a "java/util/ArrayList" "elementData" "[Ljava/lang/Object;" (.ref b)) (H3 : Fld Z h0 a "java/util/ArrayList" "size" "I" (.int (1 : Int32))) (H4 : Exa Z h0 b "[Ljava/lang/Object;") (H5 : Arv Z h0 b kb (.object "java/lang/Object") (1 : Int32) [.null] .null) (H6 : n0 ≤ a) (H7 : a ≠ b) :
    MetFree l (⟨"java/util/ArrayList", "grow", "(I)[Ljava/lang/Object;"⟩ : MethodName) (head1 (Jvm.Cond.code (⟨"java/util/ArrayList", "grow", "(I)[Ljava/lang/Object;"⟩ : MethodName) jdk_38_method_6_code 4 (some (.array (.object "java/lang/Object"))) :: ws) ({ frames := 3, cells := 1, slots := 2, locals := 47 } : Room)) (fun aa UU => aa = #[(.ref a), (.int (2 : Int32))] ∧ Z.Warmed39 UU.vm ∧ UU.heap = h0) (fun _ _ _ _ _ => True) (fun _ UU oo UU' => ∃ rv LL, oo = .returned rv ∧ own_gr1_Q Z a b kb mr h0 n0 rv UU'.heap LL ∧ FrameEnd UU oo UU' LL ({ frames := 3, cells := 1, slots := 2, locals := 47 } : Room).cells ({ frames := 3, cells := 1, slots := 2, locals := 47 } : Room).slots) := by
  refine MetFree.of_bodySF (plainFor_of_name own_pn5) hisR ?_
  intro p e s m args below meth c s₁ Bd hml0 hP hK
  obtain ⟨rfl, hZ, hh⟩ := hP
  have hx := Bd.exec
  have hby := Bd.bytes
  have hml : c.maxLocals = 4 := hml0
  have hown : s.vm.findClass "java/util/ArrayList" = some m.cls := findClass_of_methodNamed Bd.named
  have hnm := (name_of_methodNamed Bd.named Bd.method).1
  have X0 : Stand p l e ({ frames := 3, cells := 1, slots := 2, locals := 47 } : Room) s m #[(.ref a), (.int (2 : Int32))] below meth c s₁ [] 0 0 := Stand.of_body Bd
  have e0 : s₁.heap = h0 := by rw [← hh, Bd.state]; rfl
  have N0 := Fr.nil n0
  have K0 : Keep h0 h0 [a] := Keep.refl h0 _
  refine (?_ : OwnGo p.tables e below (fun UU' oo => ∃ rv LL, oo = .returned rv ∧ own_gr1_Q Z a b kb mr h0 n0 rv UU'.heap LL ∧ FrameEnd s oo UU' LL ({ frames := 3, cells := 1, slots := 2, locals := 47 } : Room).cells ({ frames := 3, cells := 1, slots := 2, locals := 47 } : Room).slots) _)
  refine OwnGo.back (s₁.setTop (mkF m 0 #[.val (.ref a), .val (.int (2 : Int32)), .unset, .unset] [])) (fun tg kk => castTop (own_gr1_ef m a (2 : Int32)) kk) ?_
  refine OwnGo.back (s₁.setTop (mkF m 1 #[.val (.ref a), .val (.int (2 : Int32)), .unset, .unset] [(.ref a)])) (fun tg kk => XS.aloadN X0.here hx rfl (hb hby own_d19_0) rfl rfl kk) ?_
  obtain ⟨T1, X1, e1, st1⟩ := getF X0 hx hZ hown (host := "") (Or.inl (hw _ (List.mem_of_getElem? (i := 70) rfl))) Via.refl e0 H2 (g := (mkF m 1 #[.val (.ref a), .val (.int (2 : Int32)), .unset, .unset] [(.ref a)])) rfl rfl (hb hby own_d19_1)
  refine OwnGo.back (T1.setTop (mkF m 4 #[.val (.ref a), .val (.int (2 : Int32)), .unset, .unset] [(.ref b)])) (fun tg kk => st1 _ kk) ?_
  obtain ⟨cl_2, Ar_2, -, Sz_2, Ng_2, -, -⟩ := id H5
  refine OwnGo.back (T1.setTop (mkF m 5 #[.val (.ref a), .val (.int (2 : Int32)), .unset, .unset] [(.int (1 : Int32))])) (fun tg kk => X1.arraylength hx (by rw [e1]; exact Ar_2.1) (State.isArrayOf_alike hZ.alike Ar_2.2.1) (g := (mkF m 4 #[.val (.ref a), .val (.int (2 : Int32)), .unset, .unset] [(.ref b)])) rfl rfl (hb hby own_d19_4) _ (by rw [len_of Sz_2 Ng_2]; exact kk)) ?_
  refine OwnGo.back (T1.setTop (mkF m 6 #[.val (.ref a), .val (.int (2 : Int32)), .val (.int (1 : Int32)), .unset] [])) (fun tg kk => XS.istoreN X1.here hx rfl (hb hby own_d19_5) rfl (l' := #[.val (.ref a), .val (.int (2 : Int32)), .val (.int (1 : Int32)), .unset]) rfl kk) ?_
  refine OwnGo.back (T1.setTop (mkF m 7 #[.val (.ref a), .val (.int (2 : Int32)), .val (.int (1 : Int32)), .unset] [(.int (1 : Int32))])) (fun tg kk => XS.iloadN X1.here hx rfl (hb hby own_d19_6) rfl kk) ?_
  refine OwnGo.back (T1.setTop (mkF m 20 #[.val (.ref a), .val (.int (2 : Int32)), .val (.int (1 : Int32)), .unset] [])) (fun tg kk => XS.ifYes X1.here hx rfl (pc0 := 7) (pc' := 20) rfl (hb hby own_d19_7) rfl ((if0 _ _).trans (tlt (by decide : (0 : Int32) < (1 : Int32))).2.2.1) (by decide) (by decide) kk) ?_
  refine OwnGo.back (T1.setTop (mkF m 21 #[.val (.ref a), .val (.int (2 : Int32)), .val (.int (1 : Int32)), .unset] [(.int (1 : Int32))])) (fun tg kk => XS.iloadN X1.here hx rfl (hb hby own_d19_20) rfl kk) ?_
  refine OwnGo.back (T1.setTop (mkF m 22 #[.val (.ref a), .val (.int (2 : Int32)), .val (.int (1 : Int32)), .unset] [(.int (2 : Int32)), (.int (1 : Int32))])) (fun tg kk => XS.iloadN X1.here hx rfl (hb hby own_d19_21) rfl kk) ?_
  refine OwnGo.back (T1.setTop (mkF m 23 #[.val (.ref a), .val (.int (2 : Int32)), .val (.int (1 : Int32)), .unset] [(.int (1 : Int32)), (.int (2 : Int32)), (.int (1 : Int32))])) (fun tg kk => XS.iloadN X1.here hx rfl (hb hby own_d19_22) rfl kk) ?_
  refine OwnGo.back (T1.setTop (mkF m 24 #[.val (.ref a), .val (.int (2 : Int32)), .val (.int (1 : Int32)), .unset] [(.int (1 : Int32)), (.int (1 : Int32))])) (fun tg kk => XS.isub X1.here hx rfl (hb hby own_d19_23) rfl kk) ?_
  refine OwnGo.back (T1.setTop (mkF m 25 #[.val (.ref a), .val (.int (2 : Int32)), .val (.int (1 : Int32)), .unset] [(.int (1 : Int32)), (.int (1 : Int32)), (.int (1 : Int32))])) (fun tg kk => XS.iloadN X1.here hx rfl (hb hby own_d19_24) rfl kk) ?_
  refine OwnGo.back (T1.setTop (mkF m 26 #[.val (.ref a), .val (.int (2 : Int32)), .val (.int (1 : Int32)), .unset] [(.int (1 : Int32)), (.int (1 : Int32)), (.int (1 : Int32)), (.int (1 : Int32))])) (fun tg kk => XS.iconst X1.here hx rfl (hb hby own_d19_25) kk) ?_
  refine OwnGo.back (T1.setTop (mkF m 27 #[.val (.ref a), .val (.int (2 : Int32)), .val (.int (1 : Int32)), .unset] [(.int (0 : Int32)), (.int (1 : Int32)), (.int (1 : Int32))])) (fun tg kk => XS.ishr X1.here hx rfl (hb hby own_d19_26) rfl kk) ?_
  obtain ⟨_, _, ⟨T3, L3, k3, n3⟩, -, X3, ⟨Lc3, hQ3, l3, y3, z3⟩, st3⟩ := Jvm.LawKit.callS X1 hx (y := (⟨"jdk/internal/util/ArraysSupport", "newLength", "(III)I"⟩ : MethodName)) hown (mvT hZ (hw _ (List.mem_of_getElem? (i := 132) rfl))) (mvT hZ (hw _ (List.mem_of_getElem? (i := 133) rfl))) (mvT hZ (hw _ (List.mem_of_getElem? (i := 134) rfl))) (mvT hZ (hw _ (List.mem_of_getElem? (i := 135) rfl))) (by decide) (backOf (W := 0) (own_nl l Z a0 hw []  h0 n0 Z0 ) hZ (hw _ (List.mem_of_getElem? (i := 135) rfl)) (hw _ (List.mem_of_getElem? (i := 134) rfl)) (by decide) (by decide)) (g := (mkF m 27 #[.val (.ref a), .val (.int (2 : Int32)), .val (.int (1 : Int32)), .unset] [(.int (0 : Int32)), (.int (1 : Int32)), (.int (1 : Int32))])) rfl (by rw [hml]; rfl) (argsL := [(.int (1 : Int32)), (.int (1 : Int32)), (.int (0 : Int32))]) (rest := []) (lenOf own_pd9 rfl) rfl (by show 2 * 0 + _ ≤ _; exact Nat.le_of_eq rfl) (hb hby own_d19_27) (fun _ _ => ⟨rfl, e1, (by decide : 0 + 0 ≤ _), (by decide : 0 + 0 ≤ _)⟩)
  dsimp only [Pt.U, Pt.locs, Pt.cells, Pt.slots] at X3 l3 y3 z3 st3 hQ3
  subst l3 y3 z3
  obtain ⟨rfl, N3q, e3⟩ := hQ3
  have N3 := Fr.app N0 N3q
  refine OwnGo.back (T3.setTop (mkF m 30 #[.val (.ref a), .val (.int (2 : Int32)), .val (.int (1 : Int32)), .unset] [(.int (2 : Int32))])) (fun tg kk => st3 _ kk) ?_
  refine OwnGo.back (T3.setTop (mkF m 31 #[.val (.ref a), .val (.int (2 : Int32)), .val (.int (1 : Int32)), .val (.int (2 : Int32))] [])) (fun tg kk => XS.istoreN X3.here hx rfl (hb hby own_d19_30) rfl (l' := #[.val (.ref a), .val (.int (2 : Int32)), .val (.int (1 : Int32)), .val (.int (2 : Int32))]) rfl kk) ?_
  refine OwnGo.back (T3.setTop (mkF m 32 #[.val (.ref a), .val (.int (2 : Int32)), .val (.int (1 : Int32)), .val (.int (2 : Int32))] [(.ref a)])) (fun tg kk => XS.aloadN X3.here hx rfl (hb hby own_d19_31) rfl rfl kk) ?_
  refine OwnGo.back (T3.setTop (mkF m 33 #[.val (.ref a), .val (.int (2 : Int32)), .val (.int (1 : Int32)), .val (.int (2 : Int32))] [(.ref a), (.ref a)])) (fun tg kk => XS.aloadN X3.here hx rfl (hb hby own_d19_32) rfl rfl kk) ?_
  obtain ⟨T4, X4, e4, st4⟩ := getF X3 hx hZ hown (host := "") (Or.inl (hw _ (List.mem_of_getElem? (i := 70) rfl))) Via.refl e3 H2 (g := (mkF m 33 #[.val (.ref a), .val (.int (2 : Int32)), .val (.int (1 : Int32)), .val (.int (2 : Int32))] [(.ref a), (.ref a)])) rfl rfl (hb hby own_d19_33)
  refine OwnGo.back (T4.setTop (mkF m 36 #[.val (.ref a), .val (.int (2 : Int32)), .val (.int (1 : Int32)), .val (.int (2 : Int32))] [(.ref b), (.ref a)])) (fun tg kk => st4 _ kk) ?_
  refine OwnGo.back (T4.setTop (mkF m 37 #[.val (.ref a), .val (.int (2 : Int32)), .val (.int (1 : Int32)), .val (.int (2 : Int32))] [(.int (2 : Int32)), (.ref b), (.ref a)])) (fun tg kk => XS.iloadN X4.here hx rfl (hb hby own_d19_36) rfl kk) ?_
  obtain ⟨_, _, ⟨T5, L5, k5, n5⟩, -, X5, ⟨Lc5, hQ5, l5, y5, z5⟩, st5⟩ := Jvm.LawKit.callS X4 hx (y := (⟨"java/util/Arrays", "copyOf", "([Ljava/lang/Object;I)[Ljava/lang/Object;"⟩ : MethodName)) hown (mvT hZ (hw _ (List.mem_of_getElem? (i := 141) rfl))) (mvT hZ (hw _ (List.mem_of_getElem? (i := 142) rfl))) (mvT hZ (hw _ (List.mem_of_getElem? (i := 143) rfl))) (mvT hZ (hw _ (List.mem_of_getElem? (i := 144) rfl))) (by decide) (backOf (W := 1) (own_co2 l Z a0 hw [] b kb mr h0 n0 Z0 hM H4 H5) hZ (hw _ (List.mem_of_getElem? (i := 144) rfl)) (hw _ (List.mem_of_getElem? (i := 143) rfl)) (by decide) (by decide)) (g := (mkF m 37 #[.val (.ref a), .val (.int (2 : Int32)), .val (.int (1 : Int32)), .val (.int (2 : Int32))] [(.int (2 : Int32)), (.ref b), (.ref a)])) rfl (by rw [hml]; rfl) (argsL := [(.ref b), (.int (2 : Int32))]) (rest := [(.ref a)]) (lenOf own_pd10 rfl) rfl (by show 2 * 0 + _ ≤ _; exact Nat.le_of_eq rfl) (hb hby own_d19_37) (fun _ _ => ⟨rfl, e4, (by decide : 0 + 1 ≤ _), (by decide : 0 + 2 ≤ _)⟩)
  dsimp only [Pt.U, Pt.locs, Pt.cells, Pt.slots] at X5 l5 y5 z5 st5 hQ5
  subst l5 y5 z5
  obtain ⟨r_6, kr_7, rfl, N5q, Kc5, po8, po9, po10⟩ := hQ5
  have N5 := Fr.app N3 N5q
  have f11 : Exa Z T5.heap a "java/util/ArrayList" := H0.keep Kc5
  have f12 : Fld Z T5.heap a "java/util/AbstractList" "modCount" "I" (.int (2 : Int32)) := H1.keep Kc5 nin0
  have f13 : Fld Z T5.heap a "java/util/ArrayList" "elementData" "[Ljava/lang/Object;" (.ref b) := H2.keep Kc5 nin0
  have f14 : Fld Z T5.heap a "java/util/ArrayList" "size" "I" (.int (1 : Int32)) := H3.keep Kc5 nin0
  have f15 : Exa Z T5.heap b "[Ljava/lang/Object;" := H4.keep Kc5
  have f16 : Arv Z T5.heap b kb (.object "java/lang/Object") (1 : Int32) [.null] .null := H5.keep Kc5 nin0
  have K17 : Keep h0 T5.heap [a] := K0.trans Kc5 all0
  have Z18 : n0 ≤ T5.heap.size := Nat.le_trans Z0 Kc5.1
  have n19 : a ≠ r_6 := own_ne' H0.lt po8
  have g20 : n0 ≤ r_6 := Nat.le_trans Z0 po8
  have s21 : h0.size ≤ r_6 := Nat.le_trans K0.1 po8
  refine OwnGo.back (T5.setTop (mkF m 40 #[.val (.ref a), .val (.int (2 : Int32)), .val (.int (1 : Int32)), .val (.int (2 : Int32))] [(.ref r_6), (.ref a)])) (fun tg kk => st5 _ kk) ?_
  refine OwnGo.back (T5.setTop (mkF m 41 #[.val (.ref a), .val (.int (2 : Int32)), .val (.int (1 : Int32)), .val (.int (2 : Int32))] [(.ref r_6), (.ref a), (.ref r_6)])) (fun tg kk => XS.dupX1 X5.here hx rfl (hb hby own_d19_40) rfl rfl rfl kk) ?_
  obtain ⟨T22, h22, X22, e22, W22, st22⟩ := putF X5 hx hZ hown (host := "") (Or.inl (hw _ (List.mem_of_getElem? (i := 70) rfl))) Via.refl rfl f13 f11 (Or.inl (hw _ (List.mem_of_getElem? (i := 71) rfl))) (hw _ (List.mem_of_getElem? (i := 48) rfl)) (ty := (.array (.object "java/lang/Object"))) (by decide) rfl rfl (g := (mkF m 41 #[.val (.ref a), .val (.int (2 : Int32)), .val (.int (1 : Int32)), .val (.int (2 : Int32))] [(.ref r_6), (.ref a), (.ref r_6)])) rfl rfl (hb hby own_d19_41)
  have f23 : Fld Z h22 a "java/util/ArrayList" "elementData" "[Ljava/lang/Object;" (.ref r_6) := f13.same W22
  have f24 : Exa Z h22 a "java/util/ArrayList" := f11.wr W22
  have f25 : Fld Z h22 a "java/util/AbstractList" "modCount" "I" (.int (2 : Int32)) := f12.other W22 (Or.inr (slot_ne (Or.inl (hw _ (List.mem_of_getElem? (i := 67) rfl))) (Or.inl (hw _ (List.mem_of_getElem? (i := 71) rfl))) (by decide) (t := .int) (t' := (.array (.object "java/lang/Object"))) (by decide) (by decide)))
  have f26 : Fld Z h22 a "java/util/ArrayList" "size" "I" (.int (1 : Int32)) := f14.other W22 (Or.inr (slot_ne (Or.inl (hw _ (List.mem_of_getElem? (i := 109) rfl))) (Or.inl (hw _ (List.mem_of_getElem? (i := 71) rfl))) (by decide) (t := .int) (t' := (.array (.object "java/lang/Object"))) (by decide) (by decide)))
  have f27 : Exa Z h22 b "[Ljava/lang/Object;" := f15.wr W22
  have f28 : Arv Z h22 b kb (.object "java/lang/Object") (1 : Int32) [.null] .null := f16.other W22 (Ne.symm H7)
  have f29 : Exa Z h22 r_6 "[Ljava/lang/Object;" := po9.wr W22
  have f30 : Arv Z h22 r_6 kr_7 (.object "java/lang/Object") (2 : Int32) [.null, .null] .null := po10.other W22 (Ne.symm n19)
  have K31 : Keep h0 h22 [a] := K17.wr W22 (Or.inl (List.mem_of_getElem? (i := 0) rfl))
  have Z32 : n0 ≤ h22.size := Nat.le_trans Z18 (Keep.of_wr W22).1
  have N33 := Fr.snoc X22 N5 H6
  refine OwnGo.back (T22.setTop (mkF m 44 #[.val (.ref a), .val (.int (2 : Int32)), .val (.int (1 : Int32)), .val (.int (2 : Int32))] [(.ref r_6)])) (fun tg kk => st22 _ kk) ?_
  obtain ⟨fs, hr, hrun, hended, hW, hsame⟩ := X22.leave (v := some (.ref r_6)) (fun h => by rw [Bd.returns] at h; cases h)
  refine ⟨_, _, ?_, hrun, hended, _, _, rfl, ?_, ⟨_, rfl⟩, hW, hsame.mono (by decide) (by decide)⟩
  · exact own_retA X22 hx Bd.returns rfl rfl rfl (hb hby own_d19_44) hr
  · show own_gr1_Q Z a b kb mr h0 n0 _ T22.heap _
    rw [e22]
    exact ⟨r_6, kr_7, rfl, N33, K31, s21, f29, f30, f24, f25, f23, f26⟩
theorem own_gr0_ef (m : MethodId) (x0 : Addr) : entryFrame m #[(.ref x0)] 1 = mkF m 0 #[.val (.ref x0)] [] := by first | (simp [entryFrame, mkF, argsToLocals, Value.category]; done) | rfl
def own_gr0_Q (Z : State) (a : Addr) (b : Addr) (kb : ClassId) (mr : Addr) (h0 : Heap) (n0 : Nat) (rv : Option Value) (hN : Heap) (LL : List Loc) : Prop := ∃ (r : Addr), ∃ (kr : ClassId), rv = some (.ref r) ∧ Fr n0 LL ∧ Keep h0 hN [a] ∧ h0.size ≤ r ∧ Exa Z hN r "[Ljava/lang/Object;" ∧ Arv Z hN r kr (.object "java/lang/Object") (2 : Int32) [.null, .null] .null ∧ Exa Z hN a "java/util/ArrayList" ∧ Fld Z hN a "java/util/AbstractList" "modCount" "I" (.int (2 : Int32)) ∧ Fld Z hN a "java/util/ArrayList" "elementData" "[Ljava/lang/Object;" (.ref r) ∧ Fld Z hN a "java/util/ArrayList" "size" "I" (.int (1 : Int32))
set_option maxRecDepth 65536 in
set_option maxHeartbeats 40000000 in
theorem own_gr0 (l : Launch) (Z : State) (a0 : Array Value) (hw : ∀ d ∈ tables_1, d.before a0 Z = true) (ws : List Jvm.Cond) (a : Addr) (b : Addr) (kb : ClassId) (mr : Addr) (h0 : Heap) (n0 : Nat) (Z0 : n0 ≤ h0.size) (hM : own_Mir Z "[Ljava/lang/Object;" mr) (H0 : Exa Z h0 a "java/util/ArrayList") (H1 : Fld Z h0 a "java/util/AbstractList" "modCount" "I" (.int (2 : Int32))) (H2 : Fld Z h0 a "java/util/ArrayList" "elementData" "[Ljava/lang/Object;" (.ref b)) (H3 : Fld Z h0 a "java/util/ArrayList" "size" "I" (.int (1 : Int32))) (H4 : Exa Z h0 b "[Ljava/lang/Object;") (H5 : Arv Z h0 b kb (.object "java/lang/Object") (1 : Int32) [.null] .null) (H6 : n0 ≤ a) (H7 : a ≠ b) :
    MetFree l (⟨"java/util/ArrayList", "grow", "()[Ljava/lang/Object;"⟩ : MethodName) (head1 (Jvm.Cond.code (⟨"java/util/ArrayList", "grow", "()[Ljava/lang/Object;"⟩ : MethodName) jdk_38_method_7_code 1 (some (.array (.object "java/lang/Object"))) :: ws) ({ frames := 4, cells := 1, slots := 2, locals := 62 } : Room)) (fun aa UU => aa = #[(.ref a)] ∧ Z.Warmed39 UU.vm ∧ UU.heap = h0) (fun _ _ _ _ _ => True) (fun _ UU oo UU' => ∃ rv LL, oo = .returned rv ∧ own_gr0_Q Z a b kb mr h0 n0 rv UU'.heap LL ∧ FrameEnd UU oo UU' LL ({ frames := 4, cells := 1, slots := 2, locals := 62 } : Room).cells ({ frames := 4, cells := 1, slots := 2, locals := 62 } : Room).slots) := by
  refine MetFree.of_bodySF (plainFor_of_name own_pn5) hisR ?_
  intro p e s m args below meth c s₁ Bd hml0 hP hK
  obtain ⟨rfl, hZ, hh⟩ := hP
  have hx := Bd.exec
  have hby := Bd.bytes
  have hml : c.maxLocals = 1 := hml0
  have hown : s.vm.findClass "java/util/ArrayList" = some m.cls := findClass_of_methodNamed Bd.named
  have hnm := (name_of_methodNamed Bd.named Bd.method).1
  have X0 : Stand p l e ({ frames := 4, cells := 1, slots := 2, locals := 62 } : Room) s m #[(.ref a)] below meth c s₁ [] 0 0 := Stand.of_body Bd
  have e0 : s₁.heap = h0 := by rw [← hh, Bd.state]; rfl
  have N0 := Fr.nil n0
  have K0 : Keep h0 h0 [a] := Keep.refl h0 _
  refine (?_ : OwnGo p.tables e below (fun UU' oo => ∃ rv LL, oo = .returned rv ∧ own_gr0_Q Z a b kb mr h0 n0 rv UU'.heap LL ∧ FrameEnd s oo UU' LL ({ frames := 4, cells := 1, slots := 2, locals := 62 } : Room).cells ({ frames := 4, cells := 1, slots := 2, locals := 62 } : Room).slots) _)
  refine OwnGo.back (s₁.setTop (mkF m 0 #[.val (.ref a)] [])) (fun tg kk => castTop (own_gr0_ef m a) kk) ?_
  refine OwnGo.back (s₁.setTop (mkF m 1 #[.val (.ref a)] [(.ref a)])) (fun tg kk => XS.aloadN X0.here hx rfl (hb hby own_d18_0) rfl rfl kk) ?_
  refine OwnGo.back (s₁.setTop (mkF m 2 #[.val (.ref a)] [(.ref a), (.ref a)])) (fun tg kk => XS.aloadN X0.here hx rfl (hb hby own_d18_1) rfl rfl kk) ?_
  obtain ⟨T1, X1, e1, st1⟩ := getF X0 hx hZ hown (host := "") (Or.inl (hw _ (List.mem_of_getElem? (i := 108) rfl))) Via.refl e0 H3 (g := (mkF m 2 #[.val (.ref a)] [(.ref a), (.ref a)])) rfl rfl (hb hby own_d18_2)
  refine OwnGo.back (T1.setTop (mkF m 5 #[.val (.ref a)] [(.int (1 : Int32)), (.ref a)])) (fun tg kk => st1 _ kk) ?_
  refine OwnGo.back (T1.setTop (mkF m 6 #[.val (.ref a)] [(.int (1 : Int32)), (.int (1 : Int32)), (.ref a)])) (fun tg kk => XS.iconst X1.here hx rfl (hb hby own_d18_5) kk) ?_
  refine OwnGo.back (T1.setTop (mkF m 7 #[.val (.ref a)] [(.int (2 : Int32)), (.ref a)])) (fun tg kk => XS.iadd X1.here hx rfl (hb hby own_d18_6) rfl kk) ?_
  obtain ⟨cq2, q2, q2'⟩ := H0.cell
  obtain ⟨_, _, ⟨T2, L2, k2, n2⟩, -, X2, ⟨Lc2, hQ2, l2, y2, z2⟩, st2⟩ := X1.privateBack hx (y := (⟨"java/util/ArrayList", "grow", "(I)[Ljava/lang/Object;"⟩ : MethodName)) hown (mvT hZ (hw _ (List.mem_of_getElem? (i := 127) rfl))) (mvT hZ (hw _ (List.mem_of_getElem? (i := 128) rfl))) (mvT hZ (hw _ (List.mem_of_getElem? (i := 130) rfl))) (Cond.privateMethod_at (mvP hZ (hw _ (List.mem_of_getElem? (i := 129) rfl)) (args := #[]))) (mvT hZ (hw _ (List.mem_of_getElem? (i := 131) rfl))) (by decide) (backOf (W := 0) (own_gr1 l Z a0 hw [] a b kb mr h0 n0 Z0 hM H0 H1 H2 H3 H4 H5 H6 H7) hZ (hw _ (List.mem_of_getElem? (i := 131) rfl)) (hw _ (List.mem_of_getElem? (i := 49) rfl)) (by decide) (by decide)) (g := (mkF m 7 #[.val (.ref a)] [(.int (2 : Int32)), (.ref a)])) rfl (by rw [hml]; rfl) (Steps.refl _) (a := a) (by rw [e1]; exact q2) q2' (argsL := [(.int (2 : Int32))]) (rest := []) (lenOf own_pd11 rfl) rfl (by show 2 * 0 + _ ≤ _; exact Nat.le_of_eq rfl) (hb hby own_d18_7) (fun _ _ => ⟨rfl, e1, (by decide : 0 + 1 ≤ _), (by decide : 0 + 2 ≤ _)⟩)
  dsimp only [Pt.U, Pt.locs, Pt.cells, Pt.slots] at X2 l2 y2 z2 st2 hQ2
  subst l2 y2 z2
  obtain ⟨r_3, kr_4, rfl, N2q, Kc2, po5, po6, po7, po8, po9, po10, po11⟩ := hQ2
  have N2 := Fr.app N0 N2q
  have f12 : Exa Z T2.heap a "java/util/ArrayList" := H0.keep Kc2
  have f13 : Exa Z T2.heap b "[Ljava/lang/Object;" := H4.keep Kc2
  have f14 : Arv Z T2.heap b kb (.object "java/lang/Object") (1 : Int32) [.null] .null := H5.keep Kc2 (ninS (Ne.symm H7) nin0)
  have K15 : Keep h0 T2.heap [a] := K0.trans Kc2 (allS (Or.inl (List.mem_of_getElem? (i := 0) rfl)) all0)
  have Z16 : n0 ≤ T2.heap.size := Nat.le_trans Z0 Kc2.1
  have n17 : a ≠ r_3 := own_ne' H0.lt po5
  have g18 : n0 ≤ r_3 := Nat.le_trans Z0 po5
  have s19 : h0.size ≤ r_3 := Nat.le_trans K0.1 po5
  refine OwnGo.back (T2.setTop (mkF m 10 #[.val (.ref a)] [(.ref r_3)])) (fun tg kk => st2.trans kk) ?_
  obtain ⟨fs, hr, hrun, hended, hW, hsame⟩ := X2.leave (v := some (.ref r_3)) (fun h => by rw [Bd.returns] at h; cases h)
  refine ⟨_, _, ?_, hrun, hended, _, _, rfl, ?_, ⟨_, rfl⟩, hW, hsame.mono (by decide) (by decide)⟩
  · exact own_retA X2 hx Bd.returns rfl rfl rfl (hb hby own_d18_10) hr
  · show own_gr0_Q Z a b kb mr h0 n0 _ T2.heap _
    exact ⟨r_3, kr_4, rfl, N2, K15, s19, po6, po7, po8, po9, po10, po11⟩
theorem own_pa2_ef (m : MethodId) (x0 : Addr) (x2 : Addr) (x3 : Int32) : entryFrame m #[(.ref x0), .null, (.ref x2), (.int x3)] 4 = mkF m 0 #[.val (.ref x0), .val .null, .val (.ref x2), .val (.int x3)] [] := by first | (simp [entryFrame, mkF, argsToLocals, Value.category]; done) | rfl
def own_pa2_Q (Z : State) (a : Addr) (b : Addr) (kb : ClassId) (mr : Addr) (h0 : Heap) (n0 : Nat) (rv : Option Value) (hN : Heap) (LL : List Loc) : Prop := rv = none ∧ Fr n0 LL ∧ Keep h0 hN [a] ∧ Exa Z hN a "java/util/ArrayList"
set_option maxRecDepth 65536 in
set_option maxHeartbeats 40000000 in
theorem own_pa2 (l : Launch) (Z : State) (a0 : Array Value) (hw : ∀ d ∈ tables_1, d.before a0 Z = true) (ws : List Jvm.Cond) (a : Addr) (b : Addr) (kb : ClassId) (mr : Addr) (h0 : Heap) (n0 : Nat) (Z0 : n0 ≤ h0.size) (hM : own_Mir Z "[Ljava/lang/Object;" mr) (H0 : Exa Z h0 a "java/util/ArrayList") (H1 : Fld Z h0 a "java/util/AbstractList" "modCount" "I" (.int (2 : Int32))) (H2 : Fld Z h0 a "java/util/ArrayList" "elementData" "[Ljava/lang/Object;" (.ref b)) (H3 : Fld Z h0 a "java/util/ArrayList" "size" "I" (.int (1 : Int32))) (H4 : Exa Z h0 b "[Ljava/lang/Object;") (H5 : Arv Z h0 b kb (.object "java/lang/Object") (1 : Int32) [.null] .null) (H6 : n0 ≤ a) (H7 : a ≠ b) :
    MetFree l (⟨"java/util/ArrayList", "add", "(Ljava/lang/Object;[Ljava/lang/Object;I)V"⟩ : MethodName) (head1 (Jvm.Cond.code (⟨"java/util/ArrayList", "add", "(Ljava/lang/Object;[Ljava/lang/Object;I)V"⟩ : MethodName) jdk_38_method_24_code 4 none :: ws) ({ frames := 5, cells := 1, slots := 2, locals := 74 } : Room)) (fun aa UU => aa = #[(.ref a), .null, (.ref b), (.int (1 : Int32))] ∧ Z.Warmed39 UU.vm ∧ UU.heap = h0) (fun _ _ _ _ _ => True) (fun _ UU oo UU' => ∃ rv LL, oo = .returned rv ∧ own_pa2_Q Z a b kb mr h0 n0 rv UU'.heap LL ∧ FrameEnd UU oo UU' LL ({ frames := 5, cells := 1, slots := 2, locals := 74 } : Room).cells ({ frames := 5, cells := 1, slots := 2, locals := 74 } : Room).slots) := by
  refine MetFree.of_bodySF (plainFor_of_name own_pn5) hisR ?_
  intro p e s m args below meth c s₁ Bd hml0 hP hK
  obtain ⟨rfl, hZ, hh⟩ := hP
  have hx := Bd.exec
  have hby := Bd.bytes
  have hml : c.maxLocals = 4 := hml0
  have hown : s.vm.findClass "java/util/ArrayList" = some m.cls := findClass_of_methodNamed Bd.named
  have hnm := (name_of_methodNamed Bd.named Bd.method).1
  have X0 : Stand p l e ({ frames := 5, cells := 1, slots := 2, locals := 74 } : Room) s m #[(.ref a), .null, (.ref b), (.int (1 : Int32))] below meth c s₁ [] 0 0 := Stand.of_body Bd
  have e0 : s₁.heap = h0 := by rw [← hh, Bd.state]; rfl
  have N0 := Fr.nil n0
  have K0 : Keep h0 h0 [a] := Keep.refl h0 _
  refine (?_ : OwnGo p.tables e below (fun UU' oo => ∃ rv LL, oo = .returned rv ∧ own_pa2_Q Z a b kb mr h0 n0 rv UU'.heap LL ∧ FrameEnd s oo UU' LL ({ frames := 5, cells := 1, slots := 2, locals := 74 } : Room).cells ({ frames := 5, cells := 1, slots := 2, locals := 74 } : Room).slots) _)
  refine OwnGo.back (s₁.setTop (mkF m 0 #[.val (.ref a), .val .null, .val (.ref b), .val (.int (1 : Int32))] [])) (fun tg kk => castTop (own_pa2_ef m a b (1 : Int32)) kk) ?_
  refine OwnGo.back (s₁.setTop (mkF m 1 #[.val (.ref a), .val .null, .val (.ref b), .val (.int (1 : Int32))] [(.int (1 : Int32))])) (fun tg kk => XS.iloadN X0.here hx rfl (hb hby own_d16_0) rfl kk) ?_
  refine OwnGo.back (s₁.setTop (mkF m 2 #[.val (.ref a), .val .null, .val (.ref b), .val (.int (1 : Int32))] [(.ref b), (.int (1 : Int32))])) (fun tg kk => XS.aloadN X0.here hx rfl (hb hby own_d16_1) rfl rfl kk) ?_
  obtain ⟨cl_1, Ar_1, -, Sz_1, Ng_1, -, -⟩ := id H5
  refine OwnGo.back (s₁.setTop (mkF m 3 #[.val (.ref a), .val .null, .val (.ref b), .val (.int (1 : Int32))] [(.int (1 : Int32)), (.int (1 : Int32))])) (fun tg kk => X0.arraylength hx (by rw [e0]; exact Ar_1.1) (State.isArrayOf_alike hZ.alike Ar_1.2.1) (g := (mkF m 2 #[.val (.ref a), .val .null, .val (.ref b), .val (.int (1 : Int32))] [(.ref b), (.int (1 : Int32))])) rfl rfl (hb hby own_d16_2) _ (by rw [len_of Sz_1 Ng_1]; exact kk)) ?_
  refine OwnGo.back (s₁.setTop (mkF m 6 #[.val (.ref a), .val .null, .val (.ref b), .val (.int (1 : Int32))] [])) (fun tg kk => XS.icmpNo X0.here hx rfl (hb hby own_d16_3) rfl (teq (by decide : (1 : Int32) = (1 : Int32))).2 kk) ?_
  refine OwnGo.back (s₁.setTop (mkF m 7 #[.val (.ref a), .val .null, .val (.ref b), .val (.int (1 : Int32))] [(.ref a)])) (fun tg kk => XS.aloadN X0.here hx rfl (hb hby own_d16_6) rfl rfl kk) ?_
  obtain ⟨cq2, q2, q2'⟩ := H0.cell
  obtain ⟨_, _, ⟨T2, L2, k2, n2⟩, -, X2, ⟨Lc2, hQ2, l2, y2, z2⟩, st2⟩ := X0.privateBack hx (y := (⟨"java/util/ArrayList", "grow", "()[Ljava/lang/Object;"⟩ : MethodName)) hown (mvT hZ (hw _ (List.mem_of_getElem? (i := 122) rfl))) (mvT hZ (hw _ (List.mem_of_getElem? (i := 123) rfl))) (mvT hZ (hw _ (List.mem_of_getElem? (i := 125) rfl))) (Cond.privateMethod_at (mvP hZ (hw _ (List.mem_of_getElem? (i := 124) rfl)) (args := #[]))) (mvT hZ (hw _ (List.mem_of_getElem? (i := 126) rfl))) (by decide) (backOf (W := 0) (own_gr0 l Z a0 hw [] a b kb mr h0 n0 Z0 hM H0 H1 H2 H3 H4 H5 H6 H7) hZ (hw _ (List.mem_of_getElem? (i := 126) rfl)) (hw _ (List.mem_of_getElem? (i := 49) rfl)) (by decide) (by decide)) (g := (mkF m 7 #[.val (.ref a), .val .null, .val (.ref b), .val (.int (1 : Int32))] [(.ref a)])) rfl (by rw [hml]; rfl) (Steps.refl _) (a := a) (by rw [e0]; exact q2) q2' (argsL := []) (rest := []) (lenOf own_pd12 rfl) rfl (by show 2 * 0 + _ ≤ _; exact Nat.le_of_eq rfl) (hb hby own_d16_7) (fun _ _ => ⟨rfl, e0, (by decide : 0 + 1 ≤ _), (by decide : 0 + 2 ≤ _)⟩)
  dsimp only [Pt.U, Pt.locs, Pt.cells, Pt.slots] at X2 l2 y2 z2 st2 hQ2
  subst l2 y2 z2
  obtain ⟨r_3, kr_4, rfl, N2q, Kc2, po5, po6, po7, po8, po9, po10, po11⟩ := hQ2
  have N2 := Fr.app N0 N2q
  have f12 : Exa Z T2.heap a "java/util/ArrayList" := H0.keep Kc2
  have f13 : Exa Z T2.heap b "[Ljava/lang/Object;" := H4.keep Kc2
  have f14 : Arv Z T2.heap b kb (.object "java/lang/Object") (1 : Int32) [.null] .null := H5.keep Kc2 (ninS (Ne.symm H7) nin0)
  have K15 : Keep h0 T2.heap [a] := K0.trans Kc2 (allS (Or.inl (List.mem_of_getElem? (i := 0) rfl)) all0)
  have Z16 : n0 ≤ T2.heap.size := Nat.le_trans Z0 Kc2.1
  have n17 : a ≠ r_3 := own_ne' H0.lt po5
  have n18 : b ≠ r_3 := own_ne' H4.lt po5
  have g19 : n0 ≤ r_3 := Nat.le_trans Z0 po5
  have s20 : h0.size ≤ r_3 := Nat.le_trans K0.1 po5
  refine OwnGo.back (T2.setTop (mkF m 10 #[.val (.ref a), .val .null, .val (.ref b), .val (.int (1 : Int32))] [(.ref r_3)])) (fun tg kk => st2.trans kk) ?_
  refine OwnGo.back (T2.setTop (mkF m 11 #[.val (.ref a), .val .null, .val (.ref r_3), .val (.int (1 : Int32))] [])) (fun tg kk => XS.astoreN X2.here hx rfl (hb hby own_d16_10) rfl rfl (l' := #[.val (.ref a), .val .null, .val (.ref r_3), .val (.int (1 : Int32))]) rfl kk) ?_
  refine OwnGo.back (T2.setTop (mkF m 12 #[.val (.ref a), .val .null, .val (.ref r_3), .val (.int (1 : Int32))] [(.ref r_3)])) (fun tg kk => XS.aloadN X2.here hx rfl (hb hby own_d16_11) rfl rfl kk) ?_
  refine OwnGo.back (T2.setTop (mkF m 13 #[.val (.ref a), .val .null, .val (.ref r_3), .val (.int (1 : Int32))] [(.int (1 : Int32)), (.ref r_3)])) (fun tg kk => XS.iloadN X2.here hx rfl (hb hby own_d16_12) rfl kk) ?_
  refine OwnGo.back (T2.setTop (mkF m 14 #[.val (.ref a), .val .null, .val (.ref r_3), .val (.int (1 : Int32))] [.null, (.int (1 : Int32)), (.ref r_3)])) (fun tg kk => XS.aloadN X2.here hx rfl (hb hby own_d16_13) rfl rfl kk) ?_
  obtain ⟨cl_21, Ar_21, qq_21, Sz_21, Ng_21, Hs_21, Gf_21⟩ := id po7
  have hin_21 : ¬ ((1 : Int32) < 0 ∨ cl_21.slots.size ≤ ((1 : Int32)).toNatClampNeg) := inb_of Sz_21 ⟨by decide, by decide⟩
  obtain ⟨T22, h22, X22, e22, W22, st22⟩ := stR X2 hx hZ rfl Ar_21 (j := (1 : Int32)) hin_21 rfl (Or.inl rfl) (g := (mkF m 14 #[.val (.ref a), .val .null, .val (.ref r_3), .val (.int (1 : Int32))] [.null, (.int (1 : Int32)), (.ref r_3)])) rfl rfl (hb hby own_d16_14)
  have f23 : Arv Z h22 r_3 kr_4 (.object "java/lang/Object") (2 : Int32) [.null, .null] .null := Arv.set Ar_21 qq_21 Sz_21 Ng_21 Hs_21 Gf_21 rfl W22 1 rfl (Nat.le_of_ble_eq_true rfl)
  have f24 : Exa Z h22 a "java/util/ArrayList" := po8.wr W22
  have f25 : Exa Z h22 b "[Ljava/lang/Object;" := f13.wr W22
  have f26 : Arv Z h22 b kb (.object "java/lang/Object") (1 : Int32) [.null] .null := f14.other W22 n18
  have f27 : Exa Z h22 r_3 "[Ljava/lang/Object;" := po6.wr W22
  have f28 : Fld Z h22 a "java/util/AbstractList" "modCount" "I" (.int (2 : Int32)) := po9.other W22 (Or.inl n17)
  have f29 : Fld Z h22 a "java/util/ArrayList" "elementData" "[Ljava/lang/Object;" (.ref r_3) := po10.other W22 (Or.inl n17)
  have f30 : Fld Z h22 a "java/util/ArrayList" "size" "I" (.int (1 : Int32)) := po11.other W22 (Or.inl n17)
  have K31 : Keep h0 h22 [a] := K15.wr W22 (Or.inr s20)
  have Z32 : n0 ≤ h22.size := Nat.le_trans Z16 (Keep.of_wr W22).1
  have N33 := Fr.snoc X22 N2 g19
  refine OwnGo.back (T22.setTop (mkF m 15 #[.val (.ref a), .val .null, .val (.ref r_3), .val (.int (1 : Int32))] [])) (fun tg kk => st22 _ kk) ?_
  refine OwnGo.back (T22.setTop (mkF m 16 #[.val (.ref a), .val .null, .val (.ref r_3), .val (.int (1 : Int32))] [(.ref a)])) (fun tg kk => XS.aloadN X22.here hx rfl (hb hby own_d16_15) rfl rfl kk) ?_
  refine OwnGo.back (T22.setTop (mkF m 17 #[.val (.ref a), .val .null, .val (.ref r_3), .val (.int (1 : Int32))] [(.int (1 : Int32)), (.ref a)])) (fun tg kk => XS.iloadN X22.here hx rfl (hb hby own_d16_16) rfl kk) ?_
  refine OwnGo.back (T22.setTop (mkF m 18 #[.val (.ref a), .val .null, .val (.ref r_3), .val (.int (1 : Int32))] [(.int (1 : Int32)), (.int (1 : Int32)), (.ref a)])) (fun tg kk => XS.iconst X22.here hx rfl (hb hby own_d16_17) kk) ?_
  refine OwnGo.back (T22.setTop (mkF m 19 #[.val (.ref a), .val .null, .val (.ref r_3), .val (.int (1 : Int32))] [(.int (2 : Int32)), (.ref a)])) (fun tg kk => XS.iadd X22.here hx rfl (hb hby own_d16_18) rfl kk) ?_
  obtain ⟨T34, h34, X34, e34, W34, st34⟩ := putF X22 hx hZ hown (host := "") (Or.inl (hw _ (List.mem_of_getElem? (i := 108) rfl))) Via.refl e22 f30 f24 (Or.inl (hw _ (List.mem_of_getElem? (i := 109) rfl))) (hw _ (List.mem_of_getElem? (i := 48) rfl)) (ty := .int) (by decide) rfl rfl (g := (mkF m 19 #[.val (.ref a), .val .null, .val (.ref r_3), .val (.int (1 : Int32))] [(.int (2 : Int32)), (.ref a)])) rfl rfl (hb hby own_d16_19)
  have f35 : Fld Z h34 a "java/util/ArrayList" "size" "I" (.int (2 : Int32)) := f30.same W34
  have f36 : Exa Z h34 a "java/util/ArrayList" := f24.wr W34
  have f37 : Exa Z h34 b "[Ljava/lang/Object;" := f25.wr W34
  have f38 : Arv Z h34 b kb (.object "java/lang/Object") (1 : Int32) [.null] .null := f26.other W34 (Ne.symm H7)
  have f39 : Exa Z h34 r_3 "[Ljava/lang/Object;" := f27.wr W34
  have f40 : Fld Z h34 a "java/util/AbstractList" "modCount" "I" (.int (2 : Int32)) := f28.other W34 (Or.inr (slot_ne (Or.inl (hw _ (List.mem_of_getElem? (i := 67) rfl))) (Or.inl (hw _ (List.mem_of_getElem? (i := 109) rfl))) (by decide) (t := .int) (t' := .int) (by decide) (by decide)))
  have f41 : Fld Z h34 a "java/util/ArrayList" "elementData" "[Ljava/lang/Object;" (.ref r_3) := f29.other W34 (Or.inr (slot_ne (Or.inl (hw _ (List.mem_of_getElem? (i := 71) rfl))) (Or.inl (hw _ (List.mem_of_getElem? (i := 109) rfl))) (by decide) (t := (.array (.object "java/lang/Object"))) (t' := .int) (by decide) (by decide)))
  have f42 : Arv Z h34 r_3 kr_4 (.object "java/lang/Object") (2 : Int32) [.null, .null] .null := f23.other W34 (Ne.symm n17)
  have K43 : Keep h0 h34 [a] := K31.wr W34 (Or.inl (List.mem_of_getElem? (i := 0) rfl))
  have Z44 : n0 ≤ h34.size := Nat.le_trans Z32 (Keep.of_wr W34).1
  have N45 := Fr.snoc X34 N33 H6
  refine OwnGo.back (T34.setTop (mkF m 22 #[.val (.ref a), .val .null, .val (.ref r_3), .val (.int (1 : Int32))] [])) (fun tg kk => st34 _ kk) ?_
  obtain ⟨fs, hr, hrun, hended, hW, hsame⟩ := X34.leave (v := none) (fun _ => rfl)
  refine ⟨_, _, ?_, hrun, hended, _, _, rfl, ?_, ⟨_, rfl⟩, hW, hsame.mono (by decide) (by decide)⟩
  · exact X34.returnOut hx Bd.returns (hb hby own_d16_22) hr
  · show own_pa2_Q Z a b kb mr h0 n0 _ T34.heap _
    rw [e34]
    exact ⟨rfl, N45, K43, f36⟩
theorem own_ad2_ef (m : MethodId) (x0 : Addr) : entryFrame m #[(.ref x0), .null] 2 = mkF m 0 #[.val (.ref x0), .val .null] [] := by first | (simp [entryFrame, mkF, argsToLocals, Value.category]; done) | rfl
def own_ad2_Q (Z : State) (a : Addr) (b : Addr) (kb : ClassId) (mr : Addr) (h0 : Heap) (n0 : Nat) (rv : Option Value) (hN : Heap) (LL : List Loc) : Prop := rv = some (.int (1 : Int32)) ∧ Fr n0 LL ∧ Keep h0 hN [a] ∧ Exa Z hN a "java/util/ArrayList"
set_option maxRecDepth 65536 in
set_option maxHeartbeats 40000000 in
theorem own_ad2 (l : Launch) (Z : State) (a0 : Array Value) (hw : ∀ d ∈ tables_1, d.before a0 Z = true) (ws : List Jvm.Cond) (a : Addr) (b : Addr) (kb : ClassId) (mr : Addr) (h0 : Heap) (n0 : Nat) (Z0 : n0 ≤ h0.size) (hM : own_Mir Z "[Ljava/lang/Object;" mr) (H0 : Exa Z h0 a "java/util/ArrayList") (H1 : Fld Z h0 a "java/util/AbstractList" "modCount" "I" (.int (1 : Int32))) (H2 : Fld Z h0 a "java/util/ArrayList" "elementData" "[Ljava/lang/Object;" (.ref b)) (H3 : Fld Z h0 a "java/util/ArrayList" "size" "I" (.int (1 : Int32))) (H4 : Exa Z h0 b "[Ljava/lang/Object;") (H5 : Arv Z h0 b kb (.object "java/lang/Object") (1 : Int32) [.null] .null) (H6 : n0 ≤ a) (H7 : a ≠ b) :
    MetFree l (⟨"java/util/ArrayList", "add", "(Ljava/lang/Object;)Z"⟩ : MethodName) (head1 (Jvm.Cond.code (⟨"java/util/ArrayList", "add", "(Ljava/lang/Object;)Z"⟩ : MethodName) jdk_38_method_25_code 2 (some .boolean) :: ws) ({ frames := 6, cells := 1, slots := 2, locals := 89 } : Room)) (fun aa UU => aa = #[(.ref a), .null] ∧ Z.Warmed39 UU.vm ∧ UU.heap = h0) (fun _ _ _ _ _ => True) (fun _ UU oo UU' => ∃ rv LL, oo = .returned rv ∧ own_ad2_Q Z a b kb mr h0 n0 rv UU'.heap LL ∧ FrameEnd UU oo UU' LL ({ frames := 6, cells := 1, slots := 2, locals := 89 } : Room).cells ({ frames := 6, cells := 1, slots := 2, locals := 89 } : Room).slots) := by
  refine MetFree.of_bodySF (plainFor_of_name own_pn5) hisR ?_
  intro p e s m args below meth c s₁ Bd hml0 hP hK
  obtain ⟨rfl, hZ, hh⟩ := hP
  have hx := Bd.exec
  have hby := Bd.bytes
  have hml : c.maxLocals = 2 := hml0
  have hown : s.vm.findClass "java/util/ArrayList" = some m.cls := findClass_of_methodNamed Bd.named
  have hnm := (name_of_methodNamed Bd.named Bd.method).1
  have X0 : Stand p l e ({ frames := 6, cells := 1, slots := 2, locals := 89 } : Room) s m #[(.ref a), .null] below meth c s₁ [] 0 0 := Stand.of_body Bd
  have e0 : s₁.heap = h0 := by rw [← hh, Bd.state]; rfl
  have N0 := Fr.nil n0
  have K0 : Keep h0 h0 [a] := Keep.refl h0 _
  refine (?_ : OwnGo p.tables e below (fun UU' oo => ∃ rv LL, oo = .returned rv ∧ own_ad2_Q Z a b kb mr h0 n0 rv UU'.heap LL ∧ FrameEnd s oo UU' LL ({ frames := 6, cells := 1, slots := 2, locals := 89 } : Room).cells ({ frames := 6, cells := 1, slots := 2, locals := 89 } : Room).slots) _)
  refine OwnGo.back (s₁.setTop (mkF m 0 #[.val (.ref a), .val .null] [])) (fun tg kk => castTop (own_ad2_ef m a) kk) ?_
  refine OwnGo.back (s₁.setTop (mkF m 1 #[.val (.ref a), .val .null] [(.ref a)])) (fun tg kk => XS.aloadN X0.here hx rfl (hb hby own_d15_0) rfl rfl kk) ?_
  refine OwnGo.back (s₁.setTop (mkF m 2 #[.val (.ref a), .val .null] [(.ref a), (.ref a)])) (fun tg kk => XS.dup X0.here hx rfl (hb hby own_d15_1) rfl rfl kk) ?_
  obtain ⟨T1, X1, e1, st1⟩ := getF X0 hx hZ hown (host := "") (Or.inl (hw _ (List.mem_of_getElem? (i := 106) rfl))) (Via.of (hw _ (List.mem_of_getElem? (i := 107) rfl))) e0 H1 (g := (mkF m 2 #[.val (.ref a), .val .null] [(.ref a), (.ref a)])) rfl rfl (hb hby own_d15_2)
  refine OwnGo.back (T1.setTop (mkF m 5 #[.val (.ref a), .val .null] [(.int (1 : Int32)), (.ref a)])) (fun tg kk => st1 _ kk) ?_
  refine OwnGo.back (T1.setTop (mkF m 6 #[.val (.ref a), .val .null] [(.int (1 : Int32)), (.int (1 : Int32)), (.ref a)])) (fun tg kk => XS.iconst X1.here hx rfl (hb hby own_d15_5) kk) ?_
  refine OwnGo.back (T1.setTop (mkF m 7 #[.val (.ref a), .val .null] [(.int (2 : Int32)), (.ref a)])) (fun tg kk => XS.iadd X1.here hx rfl (hb hby own_d15_6) rfl kk) ?_
  obtain ⟨T2, h2, X2, e2, W2, st2⟩ := putF X1 hx hZ hown (host := "") (Or.inl (hw _ (List.mem_of_getElem? (i := 106) rfl))) (Via.of (hw _ (List.mem_of_getElem? (i := 107) rfl))) e1 H1 H0 (Or.inl (hw _ (List.mem_of_getElem? (i := 67) rfl))) (hw _ (List.mem_of_getElem? (i := 48) rfl)) (ty := .int) (by decide) rfl rfl (g := (mkF m 7 #[.val (.ref a), .val .null] [(.int (2 : Int32)), (.ref a)])) rfl rfl (hb hby own_d15_7)
  have f3 : Fld Z h2 a "java/util/AbstractList" "modCount" "I" (.int (2 : Int32)) := H1.same W2
  have f4 : Exa Z h2 a "java/util/ArrayList" := H0.wr W2
  have f5 : Fld Z h2 a "java/util/ArrayList" "elementData" "[Ljava/lang/Object;" (.ref b) := H2.other W2 (Or.inr (slot_ne (Or.inl (hw _ (List.mem_of_getElem? (i := 71) rfl))) (Or.inl (hw _ (List.mem_of_getElem? (i := 67) rfl))) (by decide) (t := (.array (.object "java/lang/Object"))) (t' := .int) (by decide) (by decide)))
  have f6 : Fld Z h2 a "java/util/ArrayList" "size" "I" (.int (1 : Int32)) := H3.other W2 (Or.inr (slot_ne (Or.inl (hw _ (List.mem_of_getElem? (i := 109) rfl))) (Or.inl (hw _ (List.mem_of_getElem? (i := 67) rfl))) (by decide) (t := .int) (t' := .int) (by decide) (by decide)))
  have f7 : Exa Z h2 b "[Ljava/lang/Object;" := H4.wr W2
  have f8 : Arv Z h2 b kb (.object "java/lang/Object") (1 : Int32) [.null] .null := H5.other W2 (Ne.symm H7)
  have K9 : Keep h0 h2 [a] := K0.wr W2 (Or.inl (List.mem_of_getElem? (i := 0) rfl))
  have Z10 : n0 ≤ h2.size := Nat.le_trans Z0 (Keep.of_wr W2).1
  have N11 := Fr.snoc X2 N0 H6
  refine OwnGo.back (T2.setTop (mkF m 10 #[.val (.ref a), .val .null] [])) (fun tg kk => st2 _ kk) ?_
  refine OwnGo.back (T2.setTop (mkF m 11 #[.val (.ref a), .val .null] [(.ref a)])) (fun tg kk => XS.aloadN X2.here hx rfl (hb hby own_d15_10) rfl rfl kk) ?_
  refine OwnGo.back (T2.setTop (mkF m 12 #[.val (.ref a), .val .null] [.null, (.ref a)])) (fun tg kk => XS.aloadN X2.here hx rfl (hb hby own_d15_11) rfl rfl kk) ?_
  refine OwnGo.back (T2.setTop (mkF m 13 #[.val (.ref a), .val .null] [(.ref a), .null, (.ref a)])) (fun tg kk => XS.aloadN X2.here hx rfl (hb hby own_d15_12) rfl rfl kk) ?_
  obtain ⟨T12, X12, e12, st12⟩ := getF X2 hx hZ hown (host := "") (Or.inl (hw _ (List.mem_of_getElem? (i := 70) rfl))) Via.refl e2 f5 (g := (mkF m 13 #[.val (.ref a), .val .null] [(.ref a), .null, (.ref a)])) rfl rfl (hb hby own_d15_13)
  refine OwnGo.back (T12.setTop (mkF m 16 #[.val (.ref a), .val .null] [(.ref b), .null, (.ref a)])) (fun tg kk => st12 _ kk) ?_
  refine OwnGo.back (T12.setTop (mkF m 17 #[.val (.ref a), .val .null] [(.ref a), (.ref b), .null, (.ref a)])) (fun tg kk => XS.aloadN X12.here hx rfl (hb hby own_d15_16) rfl rfl kk) ?_
  obtain ⟨T13, X13, e13, st13⟩ := getF X12 hx hZ hown (host := "") (Or.inl (hw _ (List.mem_of_getElem? (i := 108) rfl))) Via.refl e12 f6 (g := (mkF m 17 #[.val (.ref a), .val .null] [(.ref a), (.ref b), .null, (.ref a)])) rfl rfl (hb hby own_d15_17)
  refine OwnGo.back (T13.setTop (mkF m 20 #[.val (.ref a), .val .null] [(.int (1 : Int32)), (.ref b), .null, (.ref a)])) (fun tg kk => st13 _ kk) ?_
  obtain ⟨cq14, q14, q14'⟩ := f4.cell
  obtain ⟨_, _, ⟨T14, L14, k14, n14⟩, -, X14, ⟨Lc14, hQ14, l14, y14, z14⟩, st14⟩ := X13.privateBack hx (y := (⟨"java/util/ArrayList", "add", "(Ljava/lang/Object;[Ljava/lang/Object;I)V"⟩ : MethodName)) hown (mvT hZ (hw _ (List.mem_of_getElem? (i := 110) rfl))) (mvT hZ (hw _ (List.mem_of_getElem? (i := 111) rfl))) (mvT hZ (hw _ (List.mem_of_getElem? (i := 113) rfl))) (Cond.privateMethod_at (mvP hZ (hw _ (List.mem_of_getElem? (i := 112) rfl)) (args := #[]))) (mvT hZ (hw _ (List.mem_of_getElem? (i := 114) rfl))) (by decide) (backOf (W := 0) (own_pa2 l Z a0 hw [] a b kb mr h2 n0 Z10 hM f4 f3 f5 f6 f7 f8 H6 H7) hZ (hw _ (List.mem_of_getElem? (i := 114) rfl)) (hw _ (List.mem_of_getElem? (i := 49) rfl)) (by decide) (by decide)) (g := (mkF m 20 #[.val (.ref a), .val .null] [(.int (1 : Int32)), (.ref b), .null, (.ref a)])) rfl (by rw [hml]; rfl) (Steps.refl _) (a := a) (by rw [e13]; exact q14) q14' (argsL := [.null, (.ref b), (.int (1 : Int32))]) (rest := []) (lenOf own_pd6 rfl) rfl (by show 2 * 0 + _ ≤ _; exact Nat.le_of_eq rfl) (hb hby own_d15_20) (fun _ _ => ⟨rfl, e13, (by decide : 0 + 1 ≤ _), (by decide : 0 + 2 ≤ _)⟩)
  dsimp only [Pt.U, Pt.locs, Pt.cells, Pt.slots] at X14 l14 y14 z14 st14 hQ14
  subst l14 y14 z14
  obtain ⟨rfl, N14q, Kc14, po15⟩ := hQ14
  have N14 := Fr.app N11 N14q
  have f16 : Exa Z T14.heap a "java/util/ArrayList" := f4.keep Kc14
  have f17 : Exa Z T14.heap b "[Ljava/lang/Object;" := f7.keep Kc14
  have f18 : Arv Z T14.heap b kb (.object "java/lang/Object") (1 : Int32) [.null] .null := f8.keep Kc14 (ninS (Ne.symm H7) nin0)
  have K19 : Keep h0 T14.heap [a] := K9.trans Kc14 (allS (Or.inl (List.mem_of_getElem? (i := 0) rfl)) all0)
  have Z20 : n0 ≤ T14.heap.size := Nat.le_trans Z10 Kc14.1
  refine OwnGo.back (T14.setTop (mkF m 23 #[.val (.ref a), .val .null] [])) (fun tg kk => st14.trans kk) ?_
  refine OwnGo.back (T14.setTop (mkF m 24 #[.val (.ref a), .val .null] [(.int (1 : Int32))])) (fun tg kk => XS.iconst X14.here hx rfl (hb hby own_d15_23) kk) ?_
  obtain ⟨fs, hr, hrun, hended, hW, hsame⟩ := X14.leave (v := some (.int (1 : Int32))) (fun h => by rw [Bd.returns] at h; cases h)
  refine ⟨_, _, ?_, hrun, hended, _, _, rfl, ?_, ⟨_, rfl⟩, hW, hsame.mono (by decide) (by decide)⟩
  · exact retN X14 hx (t := .boolean) Bd.returns (by simp) (hb hby own_d15_24) hr
  · show own_ad2_Q Z a b kb mr h0 n0 _ T14.heap _
    exact ⟨rfl, N14, K19, po15⟩
theorem own_req_ef (m : MethodId) (x0 : Addr) : entryFrame m #[(.ref x0), .null] 2 = mkF m 0 #[.val (.ref x0), .val .null] [] := by first | (simp [entryFrame, mkF, argsToLocals, Value.category]; done) | rfl
def own_req_Q (Z : State) (a : Addr) (r : Addr) (ra : Addr) (kr : ClassId) (h0 : Heap) (n0 : Nat) (rv : Option Value) (hN : Heap) (LL : List Loc) : Prop := rv = none ∧ Fr n0 LL ∧ Keep h0 hN [r, ra] ∧ Exa Z hN r "java/util/ArrayList"
set_option maxRecDepth 65536 in
set_option maxHeartbeats 40000000 in
theorem own_req (l : Launch) (Z : State) (a0 : Array Value) (hw : ∀ d ∈ tables_1, d.before a0 Z = true) (ws : List Jvm.Cond) (a : Addr) (r : Addr) (ra : Addr) (kr : ClassId) (h0 : Heap) (n0 : Nat) (Z0 : n0 ≤ h0.size) (H0 : Fld Z h0 a "com/example/lucid_policy/lucidpolicy/parse/Symbol" "requiredIn" "Ljava/util/List;" (.ref r)) (H1 : Exa Z h0 r "java/util/ArrayList") (H2 : Fld Z h0 r "java/util/AbstractList" "modCount" "I" (.int (0 : Int32))) (H3 : Fld Z h0 r "java/util/ArrayList" "elementData" "[Ljava/lang/Object;" (.ref ra)) (H4 : Fld Z h0 r "java/util/ArrayList" "size" "I" (.int (0 : Int32))) (H5 : Exa Z h0 ra "[Ljava/lang/Object;") (H6 : Arv Z h0 ra kr (.object "java/lang/Object") (1 : Int32) [.null] .null) (H7 : n0 ≤ r) (H8 : n0 ≤ ra) (H9 : r ≠ ra) :
    MetFree l (⟨"com/example/lucid_policy/lucidpolicy/parse/Symbol", "require", "(Lcom/example/lucid_policy/lucidpolicy/parse/Block;)V"⟩ : MethodName) (head1 (Jvm.Cond.code (⟨"com/example/lucid_policy/lucidpolicy/parse/Symbol", "require", "(Lcom/example/lucid_policy/lucidpolicy/parse/Block;)V"⟩ : MethodName) prog_160_method_7_code 2 none :: ws) ({ frames := 2, cells := 0, slots := 0, locals := 28 } : Room)) (fun aa UU => aa = #[(.ref a), .null] ∧ Z.Warmed39 UU.vm ∧ UU.heap = h0) (fun _ _ _ _ _ => True) (fun _ UU oo UU' => ∃ rv LL, oo = .returned rv ∧ own_req_Q Z a r ra kr h0 n0 rv UU'.heap LL ∧ FrameEnd UU oo UU' LL ({ frames := 2, cells := 0, slots := 0, locals := 28 } : Room).cells ({ frames := 2, cells := 0, slots := 0, locals := 28 } : Room).slots) := by
  refine MetFree.of_bodySF (plainFor_of_name own_pn6) hisR ?_
  intro p e s m args below meth c s₁ Bd hml0 hP hK
  obtain ⟨rfl, hZ, hh⟩ := hP
  have hx := Bd.exec
  have hby := Bd.bytes
  have hml : c.maxLocals = 2 := hml0
  have hown : s.vm.findClass "com/example/lucid_policy/lucidpolicy/parse/Symbol" = some m.cls := findClass_of_methodNamed Bd.named
  have hnm := (name_of_methodNamed Bd.named Bd.method).1
  have X0 : Stand p l e ({ frames := 2, cells := 0, slots := 0, locals := 28 } : Room) s m #[(.ref a), .null] below meth c s₁ [] 0 0 := Stand.of_body Bd
  have e0 : s₁.heap = h0 := by rw [← hh, Bd.state]; rfl
  have N0 := Fr.nil n0
  have K0 : Keep h0 h0 [r, ra] := Keep.refl h0 _
  refine (?_ : OwnGo p.tables e below (fun UU' oo => ∃ rv LL, oo = .returned rv ∧ own_req_Q Z a r ra kr h0 n0 rv UU'.heap LL ∧ FrameEnd s oo UU' LL ({ frames := 2, cells := 0, slots := 0, locals := 28 } : Room).cells ({ frames := 2, cells := 0, slots := 0, locals := 28 } : Room).slots) _)
  refine OwnGo.back (s₁.setTop (mkF m 0 #[.val (.ref a), .val .null] [])) (fun tg kk => castTop (own_req_ef m a) kk) ?_
  refine OwnGo.back (s₁.setTop (mkF m 1 #[.val (.ref a), .val .null] [(.ref a)])) (fun tg kk => XS.aloadN X0.here hx rfl (hb hby own_d14_0) rfl rfl kk) ?_
  obtain ⟨T1, X1, e1, st1⟩ := getF X0 hx hZ hown (host := "") (Or.inl (hw _ (List.mem_of_getElem? (i := 74) rfl))) Via.refl e0 H0 (g := (mkF m 1 #[.val (.ref a), .val .null] [(.ref a)])) rfl rfl (hb hby own_d14_1)
  refine OwnGo.back (T1.setTop (mkF m 4 #[.val (.ref a), .val .null] [(.ref r)])) (fun tg kk => st1 _ kk) ?_
  refine OwnGo.back (T1.setTop (mkF m 5 #[.val (.ref a), .val .null] [.null, (.ref r)])) (fun tg kk => XS.aloadN X1.here hx rfl (hb hby own_d14_4) rfl rfl kk) ?_
  obtain ⟨cq2, kq2, q2a, q2b, q2c⟩ := isOf hZ e1 H1
  obtain ⟨_, _, ⟨T2, L2, k2, n2⟩, -, X2, ⟨Lc2, hQ2, l2, y2, z2⟩, st2⟩ := X1.interfaceBack hx (xi := (⟨"java/util/List", "add", "(Ljava/lang/Object;)Z"⟩ : MethodName)) (y := (⟨"java/util/ArrayList", "add", "(Ljava/lang/Object;)Z"⟩ : MethodName)) hown (mvT hZ (hw _ (List.mem_of_getElem? (i := 97) rfl))) (mvT hZ (hw _ (List.mem_of_getElem? (i := 98) rfl))) (mvT hZ (hw _ (List.mem_of_getElem? (i := 99) rfl))) (mvT hZ (hw _ (List.mem_of_getElem? (i := 100) rfl))) (mvT hZ (hw _ (List.mem_of_getElem? (i := 101) rfl))) (mvT hZ (hw _ (List.mem_of_getElem? (i := 102) rfl))) (mvT hZ (hw _ (List.mem_of_getElem? (i := 103) rfl))) (mvT hZ (hw _ (List.mem_of_getElem? (i := 104) rfl))) (by decide) (backOf (W := 0) (own_ad1 l Z a0 hw [] r ra kr h0 n0 Z0 H1 H2 H3 H4 H5 H6 H7 H8 H9) hZ (hw _ (List.mem_of_getElem? (i := 105) rfl)) (hw _ (List.mem_of_getElem? (i := 49) rfl)) (by decide) (by decide)) q2a q2b q2c (g := (mkF m 5 #[.val (.ref a), .val .null] [.null, (.ref r)])) rfl (by rw [hml]; rfl) (Steps.refl _) (argsL := [.null]) (rest := []) (lenOf own_pd13 rfl) rfl (by show 2 * 0 + _ ≤ _; exact Nat.le_of_eq rfl) (hb hby own_d14_5) (fun _ _ => ⟨rfl, e1, (by decide : 0 + 0 ≤ _), (by decide : 0 + 0 ≤ _)⟩)
  dsimp only [Pt.U, Pt.locs, Pt.cells, Pt.slots] at X2 l2 y2 z2 st2 hQ2
  subst l2 y2 z2
  obtain ⟨rfl, N2q, Kc2, po3, po4, po5, po6, po7, po8⟩ := hQ2
  have N2 := Fr.app N0 N2q
  have f9 : Exa Z T2.heap r "java/util/ArrayList" := H1.keep Kc2
  have f10 : Exa Z T2.heap ra "[Ljava/lang/Object;" := H5.keep Kc2
  have K11 : Keep h0 T2.heap [r, ra] := K0.trans Kc2 (allS (Or.inl (List.mem_of_getElem? (i := 0) rfl)) (allS (Or.inl (List.mem_of_getElem? (i := 1) rfl)) all0))
  have Z12 : n0 ≤ T2.heap.size := Nat.le_trans Z0 Kc2.1
  refine OwnGo.back (T2.setTop (mkF m 10 #[.val (.ref a), .val .null] [(.int (1 : Int32))])) (fun tg kk => st2.trans kk) ?_
  refine OwnGo.back (T2.setTop (mkF m 11 #[.val (.ref a), .val .null] [])) (fun tg kk => XS.pop X2.here hx rfl (hb hby own_d14_10) rfl rfl kk) ?_
  obtain ⟨fs, hr, hrun, hended, hW, hsame⟩ := X2.leave (v := none) (fun _ => rfl)
  refine ⟨_, _, ?_, hrun, hended, _, _, rfl, ?_, ⟨_, rfl⟩, hW, hsame.mono (by decide) (by decide)⟩
  · exact X2.returnOut hx Bd.returns (hb hby own_d14_11) hr
  · show own_req_Q Z a r ra kr h0 n0 _ T2.heap _
    exact ⟨rfl, N2, K11, po3⟩
theorem own_de1_ef (m : MethodId) (x0 : Addr) (x1 : Addr) : entryFrame m #[(.ref x0), (.ref x1), .null, .null] 4 = mkF m 0 #[.val (.ref x0), .val (.ref x1), .val .null, .val .null] [] := by first | (simp [entryFrame, mkF, argsToLocals, Value.category]; done) | rfl
def own_de1_Q (Z : State) (a : Addr) (y : Addr) (d : Addr) (da : Addr) (kd : ClassId) (h0 : Heap) (n0 : Nat) (rv : Option Value) (hN : Heap) (LL : List Loc) : Prop := rv = none ∧ Fr n0 LL ∧ Keep h0 hN [a, d, da] ∧ Fld Z hN a "com/example/lucid_policy/lucidpolicy/parse/Symbol" "kind" "Lcom/example/lucid_policy/lucidpolicy/parse/SymbolKind;" (.ref y) ∧ Fld Z hN a "com/example/lucid_policy/lucidpolicy/parse/Symbol" "declaredIn" "Ljava/util/List;" (.ref d) ∧ Exa Z hN d "java/util/ArrayList" ∧ Fld Z hN d "java/util/AbstractList" "modCount" "I" (.int (1 : Int32)) ∧ Fld Z hN d "java/util/ArrayList" "elementData" "[Ljava/lang/Object;" (.ref da) ∧ Fld Z hN d "java/util/ArrayList" "size" "I" (.int (1 : Int32)) ∧ Exa Z hN da "[Ljava/lang/Object;" ∧ Arv Z hN da kd (.object "java/lang/Object") (1 : Int32) [.null] .null
set_option maxRecDepth 65536 in
set_option maxHeartbeats 40000000 in
theorem own_de1 (l : Launch) (Z : State) (a0 : Array Value) (hw : ∀ d ∈ tables_1, d.before a0 Z = true) (ws : List Jvm.Cond) (a : Addr) (y : Addr) (d : Addr) (da : Addr) (kd : ClassId) (h0 : Heap) (n0 : Nat) (Z0 : n0 ≤ h0.size) (H0 : Exa Z h0 a "com/example/lucid_policy/lucidpolicy/parse/Symbol") (H1 : Fld Z h0 a "com/example/lucid_policy/lucidpolicy/parse/Symbol" "declaredIn" "Ljava/util/List;" (.ref d)) (H2 : Fld Z h0 a "com/example/lucid_policy/lucidpolicy/parse/Symbol" "kind" "Lcom/example/lucid_policy/lucidpolicy/parse/SymbolKind;" .null) (H3 : Fld Z h0 a "com/example/lucid_policy/lucidpolicy/parse/Symbol" "location" "Lcom/example/lucid_policy/lucidpolicy/model/SourceLocation;" .null) (H4 : Exa Z h0 d "java/util/ArrayList") (H5 : Fld Z h0 d "java/util/AbstractList" "modCount" "I" (.int (0 : Int32))) (H6 : Fld Z h0 d "java/util/ArrayList" "elementData" "[Ljava/lang/Object;" (.ref da)) (H7 : Fld Z h0 d "java/util/ArrayList" "size" "I" (.int (0 : Int32))) (H8 : Exa Z h0 da "[Ljava/lang/Object;") (H9 : Arv Z h0 da kd (.object "java/lang/Object") (1 : Int32) [.null] .null) (H10 : n0 ≤ a) (H11 : n0 ≤ d) (H12 : n0 ≤ da) (H13 : a ≠ d) (H14 : a ≠ da) (H15 : d ≠ da) :
    MetFree l (⟨"com/example/lucid_policy/lucidpolicy/parse/Symbol", "declare", "(Lcom/example/lucid_policy/lucidpolicy/parse/SymbolKind;Lcom/example/lucid_policy/lucidpolicy/model/SourceLocation;Lcom/example/lucid_policy/lucidpolicy/parse/Block;)V"⟩ : MethodName) (head1 (Jvm.Cond.code (⟨"com/example/lucid_policy/lucidpolicy/parse/Symbol", "declare", "(Lcom/example/lucid_policy/lucidpolicy/parse/SymbolKind;Lcom/example/lucid_policy/lucidpolicy/model/SourceLocation;Lcom/example/lucid_policy/lucidpolicy/parse/Block;)V"⟩ : MethodName) prog_160_method_6_code 4 none :: ws) ({ frames := 2, cells := 0, slots := 0, locals := 28 } : Room)) (fun aa UU => aa = #[(.ref a), (.ref y), .null, .null] ∧ Z.Warmed39 UU.vm ∧ UU.heap = h0) (fun _ _ _ _ _ => True) (fun _ UU oo UU' => ∃ rv LL, oo = .returned rv ∧ own_de1_Q Z a y d da kd h0 n0 rv UU'.heap LL ∧ FrameEnd UU oo UU' LL ({ frames := 2, cells := 0, slots := 0, locals := 28 } : Room).cells ({ frames := 2, cells := 0, slots := 0, locals := 28 } : Room).slots) := by
  refine MetFree.of_bodySF (plainFor_of_name own_pn6) hisR ?_
  intro p e s m args below meth c s₁ Bd hml0 hP hK
  obtain ⟨rfl, hZ, hh⟩ := hP
  have hx := Bd.exec
  have hby := Bd.bytes
  have hml : c.maxLocals = 4 := hml0
  have hown : s.vm.findClass "com/example/lucid_policy/lucidpolicy/parse/Symbol" = some m.cls := findClass_of_methodNamed Bd.named
  have hnm := (name_of_methodNamed Bd.named Bd.method).1
  have X0 : Stand p l e ({ frames := 2, cells := 0, slots := 0, locals := 28 } : Room) s m #[(.ref a), (.ref y), .null, .null] below meth c s₁ [] 0 0 := Stand.of_body Bd
  have e0 : s₁.heap = h0 := by rw [← hh, Bd.state]; rfl
  have N0 := Fr.nil n0
  have K0 : Keep h0 h0 [a, d, da] := Keep.refl h0 _
  refine (?_ : OwnGo p.tables e below (fun UU' oo => ∃ rv LL, oo = .returned rv ∧ own_de1_Q Z a y d da kd h0 n0 rv UU'.heap LL ∧ FrameEnd s oo UU' LL ({ frames := 2, cells := 0, slots := 0, locals := 28 } : Room).cells ({ frames := 2, cells := 0, slots := 0, locals := 28 } : Room).slots) _)
  refine OwnGo.back (s₁.setTop (mkF m 0 #[.val (.ref a), .val (.ref y), .val .null, .val .null] [])) (fun tg kk => castTop (own_de1_ef m a y) kk) ?_
  refine OwnGo.back (s₁.setTop (mkF m 1 #[.val (.ref a), .val (.ref y), .val .null, .val .null] [(.ref a)])) (fun tg kk => XS.aloadN X0.here hx rfl (hb hby own_d17_0) rfl rfl kk) ?_
  obtain ⟨T1, X1, e1, st1⟩ := getF X0 hx hZ hown (host := "") (Or.inl (hw _ (List.mem_of_getElem? (i := 83) rfl))) Via.refl e0 H2 (g := (mkF m 1 #[.val (.ref a), .val (.ref y), .val .null, .val .null] [(.ref a)])) rfl rfl (hb hby own_d17_1)
  refine OwnGo.back (T1.setTop (mkF m 4 #[.val (.ref a), .val (.ref y), .val .null, .val .null] [.null])) (fun tg kk => st1 _ kk) ?_
  refine OwnGo.back (T1.setTop (mkF m 7 #[.val (.ref a), .val (.ref y), .val .null, .val .null] [])) (fun tg kk => XS.ifnonnullNo X1.here hx rfl (hb hby own_d17_4) rfl kk) ?_
  refine OwnGo.back (T1.setTop (mkF m 8 #[.val (.ref a), .val (.ref y), .val .null, .val .null] [(.ref a)])) (fun tg kk => XS.aloadN X1.here hx rfl (hb hby own_d17_7) rfl rfl kk) ?_
  refine OwnGo.back (T1.setTop (mkF m 9 #[.val (.ref a), .val (.ref y), .val .null, .val .null] [(.ref y), (.ref a)])) (fun tg kk => XS.aloadN X1.here hx rfl (hb hby own_d17_8) rfl rfl kk) ?_
  obtain ⟨T2, h2, X2, e2, W2, st2⟩ := putF X1 hx hZ hown (host := "") (Or.inl (hw _ (List.mem_of_getElem? (i := 83) rfl))) Via.refl e1 H2 H0 (Or.inl (hw _ (List.mem_of_getElem? (i := 84) rfl))) (hw _ (List.mem_of_getElem? (i := 41) rfl)) (ty := (.object "com/example/lucid_policy/lucidpolicy/parse/SymbolKind")) (by decide) rfl rfl (g := (mkF m 9 #[.val (.ref a), .val (.ref y), .val .null, .val .null] [(.ref y), (.ref a)])) rfl rfl (hb hby own_d17_9)
  have f3 : Fld Z h2 a "com/example/lucid_policy/lucidpolicy/parse/Symbol" "kind" "Lcom/example/lucid_policy/lucidpolicy/parse/SymbolKind;" (.ref y) := H2.same W2
  have f4 : Exa Z h2 a "com/example/lucid_policy/lucidpolicy/parse/Symbol" := H0.wr W2
  have f5 : Fld Z h2 a "com/example/lucid_policy/lucidpolicy/parse/Symbol" "declaredIn" "Ljava/util/List;" (.ref d) := H1.other W2 (Or.inr (slot_ne (Or.inr (hw _ (List.mem_of_getElem? (i := 73) rfl))) (Or.inl (hw _ (List.mem_of_getElem? (i := 84) rfl))) (by decide) (t := (.object "java/util/List")) (t' := (.object "com/example/lucid_policy/lucidpolicy/parse/SymbolKind")) (by decide) (by decide)))
  have f6 : Fld Z h2 a "com/example/lucid_policy/lucidpolicy/parse/Symbol" "location" "Lcom/example/lucid_policy/lucidpolicy/model/SourceLocation;" .null := H3.other W2 (Or.inr (slot_ne (Or.inl (hw _ (List.mem_of_getElem? (i := 121) rfl))) (Or.inl (hw _ (List.mem_of_getElem? (i := 84) rfl))) (by decide) (t := (.object "com/example/lucid_policy/lucidpolicy/model/SourceLocation")) (t' := (.object "com/example/lucid_policy/lucidpolicy/parse/SymbolKind")) (by decide) (by decide)))
  have f7 : Exa Z h2 d "java/util/ArrayList" := H4.wr W2
  have f8 : Fld Z h2 d "java/util/AbstractList" "modCount" "I" (.int (0 : Int32)) := H5.other W2 (Or.inl (Ne.symm H13))
  have f9 : Fld Z h2 d "java/util/ArrayList" "elementData" "[Ljava/lang/Object;" (.ref da) := H6.other W2 (Or.inl (Ne.symm H13))
  have f10 : Fld Z h2 d "java/util/ArrayList" "size" "I" (.int (0 : Int32)) := H7.other W2 (Or.inl (Ne.symm H13))
  have f11 : Exa Z h2 da "[Ljava/lang/Object;" := H8.wr W2
  have f12 : Arv Z h2 da kd (.object "java/lang/Object") (1 : Int32) [.null] .null := H9.other W2 (Ne.symm H14)
  have K13 : Keep h0 h2 [a, d, da] := K0.wr W2 (Or.inl (List.mem_of_getElem? (i := 0) rfl))
  have Z14 : n0 ≤ h2.size := Nat.le_trans Z0 (Keep.of_wr W2).1
  have N15 := Fr.snoc X2 N0 H10
  refine OwnGo.back (T2.setTop (mkF m 12 #[.val (.ref a), .val (.ref y), .val .null, .val .null] [])) (fun tg kk => st2 _ kk) ?_
  refine OwnGo.back (T2.setTop (mkF m 13 #[.val (.ref a), .val (.ref y), .val .null, .val .null] [(.ref a)])) (fun tg kk => XS.aloadN X2.here hx rfl (hb hby own_d17_12) rfl rfl kk) ?_
  refine OwnGo.back (T2.setTop (mkF m 14 #[.val (.ref a), .val (.ref y), .val .null, .val .null] [.null, (.ref a)])) (fun tg kk => XS.aloadN X2.here hx rfl (hb hby own_d17_13) rfl rfl kk) ?_
  obtain ⟨T16, h16, X16, e16, W16, st16⟩ := putF X2 hx hZ hown (host := "") (Or.inl (hw _ (List.mem_of_getElem? (i := 120) rfl))) Via.refl e2 f6 f4 (Or.inl (hw _ (List.mem_of_getElem? (i := 121) rfl))) (hw _ (List.mem_of_getElem? (i := 41) rfl)) (ty := (.object "com/example/lucid_policy/lucidpolicy/model/SourceLocation")) (by decide) rfl rfl (g := (mkF m 14 #[.val (.ref a), .val (.ref y), .val .null, .val .null] [.null, (.ref a)])) rfl rfl (hb hby own_d17_14)
  have f17 : Fld Z h16 a "com/example/lucid_policy/lucidpolicy/parse/Symbol" "location" "Lcom/example/lucid_policy/lucidpolicy/model/SourceLocation;" .null := f6.same W16
  have f18 : Exa Z h16 a "com/example/lucid_policy/lucidpolicy/parse/Symbol" := f4.wr W16
  have f19 : Fld Z h16 a "com/example/lucid_policy/lucidpolicy/parse/Symbol" "declaredIn" "Ljava/util/List;" (.ref d) := f5.other W16 (Or.inr (slot_ne (Or.inr (hw _ (List.mem_of_getElem? (i := 73) rfl))) (Or.inl (hw _ (List.mem_of_getElem? (i := 121) rfl))) (by decide) (t := (.object "java/util/List")) (t' := (.object "com/example/lucid_policy/lucidpolicy/model/SourceLocation")) (by decide) (by decide)))
  have f20 : Exa Z h16 d "java/util/ArrayList" := f7.wr W16
  have f21 : Fld Z h16 d "java/util/AbstractList" "modCount" "I" (.int (0 : Int32)) := f8.other W16 (Or.inl (Ne.symm H13))
  have f22 : Fld Z h16 d "java/util/ArrayList" "elementData" "[Ljava/lang/Object;" (.ref da) := f9.other W16 (Or.inl (Ne.symm H13))
  have f23 : Fld Z h16 d "java/util/ArrayList" "size" "I" (.int (0 : Int32)) := f10.other W16 (Or.inl (Ne.symm H13))
  have f24 : Exa Z h16 da "[Ljava/lang/Object;" := f11.wr W16
  have f25 : Arv Z h16 da kd (.object "java/lang/Object") (1 : Int32) [.null] .null := f12.other W16 (Ne.symm H14)
  have f26 : Fld Z h16 a "com/example/lucid_policy/lucidpolicy/parse/Symbol" "kind" "Lcom/example/lucid_policy/lucidpolicy/parse/SymbolKind;" (.ref y) := f3.other W16 (Or.inr (slot_ne (Or.inl (hw _ (List.mem_of_getElem? (i := 84) rfl))) (Or.inl (hw _ (List.mem_of_getElem? (i := 121) rfl))) (by decide) (t := (.object "com/example/lucid_policy/lucidpolicy/parse/SymbolKind")) (t' := (.object "com/example/lucid_policy/lucidpolicy/model/SourceLocation")) (by decide) (by decide)))
  have K27 : Keep h0 h16 [a, d, da] := K13.wr W16 (Or.inl (List.mem_of_getElem? (i := 0) rfl))
  have Z28 : n0 ≤ h16.size := Nat.le_trans Z14 (Keep.of_wr W16).1
  have N29 := Fr.snoc X16 N15 H10
  refine OwnGo.back (T16.setTop (mkF m 17 #[.val (.ref a), .val (.ref y), .val .null, .val .null] [])) (fun tg kk => st16 _ kk) ?_
  refine OwnGo.back (T16.setTop (mkF m 18 #[.val (.ref a), .val (.ref y), .val .null, .val .null] [(.ref a)])) (fun tg kk => XS.aloadN X16.here hx rfl (hb hby own_d17_17) rfl rfl kk) ?_
  obtain ⟨T30, X30, e30, st30⟩ := getF X16 hx hZ hown (host := "") (Or.inl (hw _ (List.mem_of_getElem? (i := 72) rfl))) Via.refl e16 f19 (g := (mkF m 18 #[.val (.ref a), .val (.ref y), .val .null, .val .null] [(.ref a)])) rfl rfl (hb hby own_d17_18)
  refine OwnGo.back (T30.setTop (mkF m 21 #[.val (.ref a), .val (.ref y), .val .null, .val .null] [(.ref d)])) (fun tg kk => st30 _ kk) ?_
  refine OwnGo.back (T30.setTop (mkF m 22 #[.val (.ref a), .val (.ref y), .val .null, .val .null] [.null, (.ref d)])) (fun tg kk => XS.aloadN X30.here hx rfl (hb hby own_d17_21) rfl rfl kk) ?_
  obtain ⟨cq31, kq31, q31a, q31b, q31c⟩ := isOf hZ e30 f20
  obtain ⟨_, _, ⟨T31, L31, k31, n31⟩, -, X31, ⟨Lc31, hQ31, l31, y31, z31⟩, st31⟩ := X30.interfaceBack hx (xi := (⟨"java/util/List", "add", "(Ljava/lang/Object;)Z"⟩ : MethodName)) (y := (⟨"java/util/ArrayList", "add", "(Ljava/lang/Object;)Z"⟩ : MethodName)) hown (mvT hZ (hw _ (List.mem_of_getElem? (i := 97) rfl))) (mvT hZ (hw _ (List.mem_of_getElem? (i := 98) rfl))) (mvT hZ (hw _ (List.mem_of_getElem? (i := 99) rfl))) (mvT hZ (hw _ (List.mem_of_getElem? (i := 100) rfl))) (mvT hZ (hw _ (List.mem_of_getElem? (i := 101) rfl))) (mvT hZ (hw _ (List.mem_of_getElem? (i := 102) rfl))) (mvT hZ (hw _ (List.mem_of_getElem? (i := 103) rfl))) (mvT hZ (hw _ (List.mem_of_getElem? (i := 104) rfl))) (by decide) (backOf (W := 0) (own_ad1 l Z a0 hw [] d da kd h16 n0 Z28 f20 f21 f22 f23 f24 f25 H11 H12 H15) hZ (hw _ (List.mem_of_getElem? (i := 105) rfl)) (hw _ (List.mem_of_getElem? (i := 49) rfl)) (by decide) (by decide)) q31a q31b q31c (g := (mkF m 22 #[.val (.ref a), .val (.ref y), .val .null, .val .null] [.null, (.ref d)])) rfl (by rw [hml]; rfl) (Steps.refl _) (argsL := [.null]) (rest := []) (lenOf own_pd13 rfl) rfl (by show 2 * 0 + _ ≤ _; exact Nat.le_of_eq rfl) (hb hby own_d17_22) (fun _ _ => ⟨rfl, e30, (by decide : 0 + 0 ≤ _), (by decide : 0 + 0 ≤ _)⟩)
  dsimp only [Pt.U, Pt.locs, Pt.cells, Pt.slots] at X31 l31 y31 z31 st31 hQ31
  subst l31 y31 z31
  obtain ⟨rfl, N31q, Kc31, po32, po33, po34, po35, po36, po37⟩ := hQ31
  have N31 := Fr.app N29 N31q
  have f38 : Exa Z T31.heap a "com/example/lucid_policy/lucidpolicy/parse/Symbol" := f18.keep Kc31
  have f39 : Fld Z T31.heap a "com/example/lucid_policy/lucidpolicy/parse/Symbol" "declaredIn" "Ljava/util/List;" (.ref d) := f19.keep Kc31 (ninS H13 (ninS H14 nin0))
  have f40 : Exa Z T31.heap d "java/util/ArrayList" := f20.keep Kc31
  have f41 : Exa Z T31.heap da "[Ljava/lang/Object;" := f24.keep Kc31
  have f42 : Fld Z T31.heap a "com/example/lucid_policy/lucidpolicy/parse/Symbol" "kind" "Lcom/example/lucid_policy/lucidpolicy/parse/SymbolKind;" (.ref y) := f26.keep Kc31 (ninS H13 (ninS H14 nin0))
  have f43 : Fld Z T31.heap a "com/example/lucid_policy/lucidpolicy/parse/Symbol" "location" "Lcom/example/lucid_policy/lucidpolicy/model/SourceLocation;" .null := f17.keep Kc31 (ninS H13 (ninS H14 nin0))
  have K44 : Keep h0 T31.heap [a, d, da] := K27.trans Kc31 (allS (Or.inl (List.mem_of_getElem? (i := 1) rfl)) (allS (Or.inl (List.mem_of_getElem? (i := 2) rfl)) all0))
  have Z45 : n0 ≤ T31.heap.size := Nat.le_trans Z28 Kc31.1
  refine OwnGo.back (T31.setTop (mkF m 27 #[.val (.ref a), .val (.ref y), .val .null, .val .null] [(.int (1 : Int32))])) (fun tg kk => st31.trans kk) ?_
  refine OwnGo.back (T31.setTop (mkF m 28 #[.val (.ref a), .val (.ref y), .val .null, .val .null] [])) (fun tg kk => XS.pop X31.here hx rfl (hb hby own_d17_27) rfl rfl kk) ?_
  obtain ⟨fs, hr, hrun, hended, hW, hsame⟩ := X31.leave (v := none) (fun _ => rfl)
  refine ⟨_, _, ?_, hrun, hended, _, _, rfl, ?_, ⟨_, rfl⟩, hW, hsame.mono (by decide) (by decide)⟩
  · exact X31.returnOut hx Bd.returns (hb hby own_d17_28) hr
  · show own_de1_Q Z a y d da kd h0 n0 _ T31.heap _
    exact ⟨rfl, N31, K44, f42, f39, po32, po33, po34, po35, po36, po37⟩
theorem own_de2_ef (m : MethodId) (x0 : Addr) (x1 : Addr) : entryFrame m #[(.ref x0), (.ref x1), .null, .null] 4 = mkF m 0 #[.val (.ref x0), .val (.ref x1), .val .null, .val .null] [] := by first | (simp [entryFrame, mkF, argsToLocals, Value.category]; done) | rfl
def own_de2_Q (Z : State) (a : Addr) (y : Addr) (yy : Addr) (d : Addr) (da : Addr) (kd : ClassId) (mr : Addr) (h0 : Heap) (n0 : Nat) (rv : Option Value) (hN : Heap) (LL : List Loc) : Prop := rv = none ∧ Fr n0 LL ∧ Keep h0 hN [d] ∧ Exa Z hN d "java/util/ArrayList"
set_option maxRecDepth 65536 in
set_option maxHeartbeats 40000000 in
theorem own_de2 (l : Launch) (Z : State) (a0 : Array Value) (hw : ∀ d ∈ tables_1, d.before a0 Z = true) (ws : List Jvm.Cond) (a : Addr) (y : Addr) (yy : Addr) (d : Addr) (da : Addr) (kd : ClassId) (mr : Addr) (h0 : Heap) (n0 : Nat) (Z0 : n0 ≤ h0.size) (hM : own_Mir Z "[Ljava/lang/Object;" mr) (H0 : Fld Z h0 a "com/example/lucid_policy/lucidpolicy/parse/Symbol" "declaredIn" "Ljava/util/List;" (.ref d)) (H1 : Fld Z h0 a "com/example/lucid_policy/lucidpolicy/parse/Symbol" "kind" "Lcom/example/lucid_policy/lucidpolicy/parse/SymbolKind;" (.ref yy)) (H2 : Exa Z h0 d "java/util/ArrayList") (H3 : Fld Z h0 d "java/util/AbstractList" "modCount" "I" (.int (1 : Int32))) (H4 : Fld Z h0 d "java/util/ArrayList" "elementData" "[Ljava/lang/Object;" (.ref da)) (H5 : Fld Z h0 d "java/util/ArrayList" "size" "I" (.int (1 : Int32))) (H6 : Exa Z h0 da "[Ljava/lang/Object;") (H7 : Arv Z h0 da kd (.object "java/lang/Object") (1 : Int32) [.null] .null) (H8 : n0 ≤ d) (H9 : d ≠ da) :
    MetFree l (⟨"com/example/lucid_policy/lucidpolicy/parse/Symbol", "declare", "(Lcom/example/lucid_policy/lucidpolicy/parse/SymbolKind;Lcom/example/lucid_policy/lucidpolicy/model/SourceLocation;Lcom/example/lucid_policy/lucidpolicy/parse/Block;)V"⟩ : MethodName) (head1 (Jvm.Cond.code (⟨"com/example/lucid_policy/lucidpolicy/parse/Symbol", "declare", "(Lcom/example/lucid_policy/lucidpolicy/parse/SymbolKind;Lcom/example/lucid_policy/lucidpolicy/model/SourceLocation;Lcom/example/lucid_policy/lucidpolicy/parse/Block;)V"⟩ : MethodName) prog_160_method_6_code 4 none :: ws) ({ frames := 7, cells := 1, slots := 2, locals := 102 } : Room)) (fun aa UU => aa = #[(.ref a), (.ref y), .null, .null] ∧ Z.Warmed39 UU.vm ∧ UU.heap = h0) (fun _ _ _ _ _ => True) (fun _ UU oo UU' => ∃ rv LL, oo = .returned rv ∧ own_de2_Q Z a y yy d da kd mr h0 n0 rv UU'.heap LL ∧ FrameEnd UU oo UU' LL ({ frames := 7, cells := 1, slots := 2, locals := 102 } : Room).cells ({ frames := 7, cells := 1, slots := 2, locals := 102 } : Room).slots) := by
  refine MetFree.of_bodySF (plainFor_of_name own_pn6) hisR ?_
  intro p e s m args below meth c s₁ Bd hml0 hP hK
  obtain ⟨rfl, hZ, hh⟩ := hP
  have hx := Bd.exec
  have hby := Bd.bytes
  have hml : c.maxLocals = 4 := hml0
  have hown : s.vm.findClass "com/example/lucid_policy/lucidpolicy/parse/Symbol" = some m.cls := findClass_of_methodNamed Bd.named
  have hnm := (name_of_methodNamed Bd.named Bd.method).1
  have X0 : Stand p l e ({ frames := 7, cells := 1, slots := 2, locals := 102 } : Room) s m #[(.ref a), (.ref y), .null, .null] below meth c s₁ [] 0 0 := Stand.of_body Bd
  have e0 : s₁.heap = h0 := by rw [← hh, Bd.state]; rfl
  have N0 := Fr.nil n0
  have K0 : Keep h0 h0 [d] := Keep.refl h0 _
  refine (?_ : OwnGo p.tables e below (fun UU' oo => ∃ rv LL, oo = .returned rv ∧ own_de2_Q Z a y yy d da kd mr h0 n0 rv UU'.heap LL ∧ FrameEnd s oo UU' LL ({ frames := 7, cells := 1, slots := 2, locals := 102 } : Room).cells ({ frames := 7, cells := 1, slots := 2, locals := 102 } : Room).slots) _)
  refine OwnGo.back (s₁.setTop (mkF m 0 #[.val (.ref a), .val (.ref y), .val .null, .val .null] [])) (fun tg kk => castTop (own_de2_ef m a y) kk) ?_
  refine OwnGo.back (s₁.setTop (mkF m 1 #[.val (.ref a), .val (.ref y), .val .null, .val .null] [(.ref a)])) (fun tg kk => XS.aloadN X0.here hx rfl (hb hby own_d17_0) rfl rfl kk) ?_
  obtain ⟨T1, X1, e1, st1⟩ := getF X0 hx hZ hown (host := "") (Or.inl (hw _ (List.mem_of_getElem? (i := 83) rfl))) Via.refl e0 H1 (g := (mkF m 1 #[.val (.ref a), .val (.ref y), .val .null, .val .null] [(.ref a)])) rfl rfl (hb hby own_d17_1)
  refine OwnGo.back (T1.setTop (mkF m 4 #[.val (.ref a), .val (.ref y), .val .null, .val .null] [(.ref yy)])) (fun tg kk => st1 _ kk) ?_
  refine OwnGo.back (T1.setTop (mkF m 17 #[.val (.ref a), .val (.ref y), .val .null, .val .null] [])) (fun tg kk => XS.ifnonnullYes X1.here hx rfl (pc0 := 4) (pc' := 17) rfl (hb hby own_d17_4) rfl (by decide) (by decide) kk) ?_
  refine OwnGo.back (T1.setTop (mkF m 18 #[.val (.ref a), .val (.ref y), .val .null, .val .null] [(.ref a)])) (fun tg kk => XS.aloadN X1.here hx rfl (hb hby own_d17_17) rfl rfl kk) ?_
  obtain ⟨T2, X2, e2, st2⟩ := getF X1 hx hZ hown (host := "") (Or.inl (hw _ (List.mem_of_getElem? (i := 72) rfl))) Via.refl e1 H0 (g := (mkF m 18 #[.val (.ref a), .val (.ref y), .val .null, .val .null] [(.ref a)])) rfl rfl (hb hby own_d17_18)
  refine OwnGo.back (T2.setTop (mkF m 21 #[.val (.ref a), .val (.ref y), .val .null, .val .null] [(.ref d)])) (fun tg kk => st2 _ kk) ?_
  refine OwnGo.back (T2.setTop (mkF m 22 #[.val (.ref a), .val (.ref y), .val .null, .val .null] [.null, (.ref d)])) (fun tg kk => XS.aloadN X2.here hx rfl (hb hby own_d17_21) rfl rfl kk) ?_
  obtain ⟨cq3, kq3, q3a, q3b, q3c⟩ := isOf hZ e2 H2
  obtain ⟨_, _, ⟨T3, L3, k3, n3⟩, -, X3, ⟨Lc3, hQ3, l3, y3, z3⟩, st3⟩ := X2.interfaceBack hx (xi := (⟨"java/util/List", "add", "(Ljava/lang/Object;)Z"⟩ : MethodName)) (y := (⟨"java/util/ArrayList", "add", "(Ljava/lang/Object;)Z"⟩ : MethodName)) hown (mvT hZ (hw _ (List.mem_of_getElem? (i := 97) rfl))) (mvT hZ (hw _ (List.mem_of_getElem? (i := 98) rfl))) (mvT hZ (hw _ (List.mem_of_getElem? (i := 99) rfl))) (mvT hZ (hw _ (List.mem_of_getElem? (i := 100) rfl))) (mvT hZ (hw _ (List.mem_of_getElem? (i := 101) rfl))) (mvT hZ (hw _ (List.mem_of_getElem? (i := 102) rfl))) (mvT hZ (hw _ (List.mem_of_getElem? (i := 103) rfl))) (mvT hZ (hw _ (List.mem_of_getElem? (i := 104) rfl))) (by decide) (backOf (W := 0) (own_ad2 l Z a0 hw [] d da kd mr h0 n0 Z0 hM H2 H3 H4 H5 H6 H7 H8 H9) hZ (hw _ (List.mem_of_getElem? (i := 105) rfl)) (hw _ (List.mem_of_getElem? (i := 49) rfl)) (by decide) (by decide)) q3a q3b q3c (g := (mkF m 22 #[.val (.ref a), .val (.ref y), .val .null, .val .null] [.null, (.ref d)])) rfl (by rw [hml]; rfl) (Steps.refl _) (argsL := [.null]) (rest := []) (lenOf own_pd13 rfl) rfl (by show 2 * 0 + _ ≤ _; exact Nat.le_of_eq rfl) (hb hby own_d17_22) (fun _ _ => ⟨rfl, e2, (by decide : 0 + 1 ≤ _), (by decide : 0 + 2 ≤ _)⟩)
  dsimp only [Pt.U, Pt.locs, Pt.cells, Pt.slots] at X3 l3 y3 z3 st3 hQ3
  subst l3 y3 z3
  obtain ⟨rfl, N3q, Kc3, po4⟩ := hQ3
  have N3 := Fr.app N0 N3q
  have f5 : Exa Z T3.heap d "java/util/ArrayList" := H2.keep Kc3
  have f6 : Exa Z T3.heap da "[Ljava/lang/Object;" := H6.keep Kc3
  have f7 : Arv Z T3.heap da kd (.object "java/lang/Object") (1 : Int32) [.null] .null := H7.keep Kc3 (ninS (Ne.symm H9) nin0)
  have K8 : Keep h0 T3.heap [d] := K0.trans Kc3 (allS (Or.inl (List.mem_of_getElem? (i := 0) rfl)) all0)
  have Z9 : n0 ≤ T3.heap.size := Nat.le_trans Z0 Kc3.1
  refine OwnGo.back (T3.setTop (mkF m 27 #[.val (.ref a), .val (.ref y), .val .null, .val .null] [(.int (1 : Int32))])) (fun tg kk => st3.trans kk) ?_
  refine OwnGo.back (T3.setTop (mkF m 28 #[.val (.ref a), .val (.ref y), .val .null, .val .null] [])) (fun tg kk => XS.pop X3.here hx rfl (hb hby own_d17_27) rfl rfl kk) ?_
  obtain ⟨fs, hr, hrun, hended, hW, hsame⟩ := X3.leave (v := none) (fun _ => rfl)
  refine ⟨_, _, ?_, hrun, hended, _, _, rfl, ?_, ⟨_, rfl⟩, hW, hsame.mono (by decide) (by decide)⟩
  · exact X3.returnOut hx Bd.returns (hb hby own_d17_28) hr
  · show own_de2_Q Z a y yy d da kd mr h0 n0 _ T3.heap _
    exact ⟨rfl, N3, K8, po4⟩
theorem own_law_ef (m : MethodId) (x0 : Int32) (x1 : Int32) (x2 : Int32) (x3 : Int32) (x4 : Int32) : entryFrame m #[(.int x0), (.int x1), (.int x2), (.int x3), (.int x4)] maxLocals = mkF m 0 #[.val (.int x0), .val (.int x1), .val (.int x2), .val (.int x3), .val (.int x4), .unset, .unset, .unset, .unset, .unset, .unset, .unset, .unset] [] := by first | (simp [entryFrame, mkF, argsToLocals, Value.category, maxLocals]; done) | rfl
def own_law_Q (Z : State) (p1 : Int32) (p2 : Int32) (p3 : Int32) (p4 : Int32) (p5 : Int32) (cs : Int32) (y0 : Addr) (y1 : Addr) (y2 : Addr) (y3 : Addr) (y4 : Addr) (y5 : Addr) (y6 : Addr) (mr : Addr) (h0 : Heap) (n0 : Nat) (rv : Option Value) (hN : Heap) (LL : List Loc) : Prop := rv = some (.int (1 : Int32)) ∧ Fr n0 LL ∧ Keep h0 hN []
set_option maxRecDepth 65536 in
set_option maxHeartbeats 40000000 in
theorem own_law (l : Launch) (Z : State) (a0 : Array Value) (hw : ∀ d ∈ tables_1, d.before a0 Z = true) (ws : List Jvm.Cond) (p1 : Int32) (p2 : Int32) (p3 : Int32) (p4 : Int32) (p5 : Int32) (cs : Int32) (y0 : Addr) (y1 : Addr) (y2 : Addr) (y3 : Addr) (y4 : Addr) (y5 : Addr) (y6 : Addr) (mr : Addr) (h0 : Heap) (n0 : Nat) (Z0 : n0 ≤ h0.size) (S : Sta Z Z.heap "java/lang/String" "COMPACT_STRINGS" "Z" (.int cs)) (old : Old Z n0 h0) (hcs : ¬ cs = 0) (SK0 : Sta Z Z.heap "com/example/lucid_policy/lucidpolicy/parse/SymbolKind" "TYPE" "Lcom/example/lucid_policy/lucidpolicy/parse/SymbolKind;" (.ref y0)) (SK1 : Sta Z Z.heap "com/example/lucid_policy/lucidpolicy/parse/SymbolKind" "ATTRIBUTE" "Lcom/example/lucid_policy/lucidpolicy/parse/SymbolKind;" (.ref y1)) (SK2 : Sta Z Z.heap "com/example/lucid_policy/lucidpolicy/parse/SymbolKind" "ALIAS" "Lcom/example/lucid_policy/lucidpolicy/parse/SymbolKind;" (.ref y2)) (SK3 : Sta Z Z.heap "com/example/lucid_policy/lucidpolicy/parse/SymbolKind" "ROLE" "Lcom/example/lucid_policy/lucidpolicy/parse/SymbolKind;" (.ref y3)) (SK4 : Sta Z Z.heap "com/example/lucid_policy/lucidpolicy/parse/SymbolKind" "ROLE_ATTRIBUTE" "Lcom/example/lucid_policy/lucidpolicy/parse/SymbolKind;" (.ref y4)) (SK5 : Sta Z Z.heap "com/example/lucid_policy/lucidpolicy/parse/SymbolKind" "BOOLEAN" "Lcom/example/lucid_policy/lucidpolicy/parse/SymbolKind;" (.ref y5)) (SK6 : Sta Z Z.heap "com/example/lucid_policy/lucidpolicy/parse/SymbolKind" "USER" "Lcom/example/lucid_policy/lucidpolicy/parse/SymbolKind;" (.ref y6)) (hM : own_Mir Z "[Ljava/lang/Object;" mr) :
    MetFree l x (head1 (Jvm.Cond.code x code maxLocals ret :: ws) room_1) (fun aa UU => aa = #[(.int p1), (.int p2), (.int p3), (.int p4), (.int p5)] ∧ Z.Warmed39 UU.vm ∧ UU.heap = h0) (fun _ _ _ _ _ => True) (fun _ UU oo UU' => ∃ rv LL, oo = .returned rv ∧ own_law_Q Z p1 p2 p3 p4 p5 cs y0 y1 y2 y3 y4 y5 y6 mr h0 n0 rv UU'.heap LL ∧ FrameEnd UU oo UU' LL room_1.cells room_1.slots) := by
  refine MetFree.of_bodySF (plainFor_of_name own_pn2) hisR ?_
  intro p e s m args below meth c s₁ Bd hml0 hP hK
  obtain ⟨rfl, hZ, hh⟩ := hP
  have hx := Bd.exec
  have hby := Bd.bytes
  have hml : c.maxLocals = 13 := hml0
  have hown : s.vm.findClass "com/example/lucid_policy/lucidpolicy/parse/SymbolDeclaredPinLaw" = some m.cls := findClass_of_methodNamed Bd.named
  have hnm := (name_of_methodNamed Bd.named Bd.method).1
  have X0 : Stand p l e room_1 s m #[(.int p1), (.int p2), (.int p3), (.int p4), (.int p5)] below meth c s₁ [] 0 0 := Stand.of_body Bd
  have e0 : s₁.heap = h0 := by rw [← hh, Bd.state]; rfl
  have N0 := Fr.nil n0
  have K0 : Keep h0 h0 [] := Keep.refl h0 _
  refine (?_ : OwnGo p.tables e below (fun UU' oo => ∃ rv LL, oo = .returned rv ∧ own_law_Q Z p1 p2 p3 p4 p5 cs y0 y1 y2 y3 y4 y5 y6 mr h0 n0 rv UU'.heap LL ∧ FrameEnd s oo UU' LL room_1.cells room_1.slots) _)
  refine OwnGo.back (s₁.setTop (mkF m 0 #[.val (.int p1), .val (.int p2), .val (.int p3), .val (.int p4), .val (.int p5), .unset, .unset, .unset, .unset, .unset, .unset, .unset, .unset] [])) (fun tg kk => castTop (own_law_ef m p1 p2 p3 p4 p5) kk) ?_
  refine OwnGo.back (s₁.setTop (mkF m 1 #[.val (.int p1), .val (.int p2), .val (.int p3), .val (.int p4), .val (.int p5), .unset, .unset, .unset, .unset, .unset, .unset, .unset, .unset] [(.int (2 : Int32))])) (fun tg kk => XS.iconst X0.here hx rfl (hb hby at_0) kk) ?_
  obtain ⟨T1, h1, k1, X1, e1, E1, A1, st1⟩ := newP X0 hx hZ (hw _ (List.mem_of_getElem? (i := 0) rfl)) e0 (g := (mkF m 1 #[.val (.int p1), .val (.int p2), .val (.int p3), .val (.int p4), .val (.int p5), .unset, .unset, .unset, .unset, .unset, .unset, .unset, .unset] [(.int (2 : Int32))])) rfl (hb hby at_1) rfl (by decide) (cap := 2) (by decide) (by decide) (by decide) (by decide)
  obtain ⟨b1, q1⟩ : ∃ z, z = h0.size := ⟨_, rfl⟩
  rw [← q1] at A1 st1
  have g2 : n0 ≤ b1 := Nat.le_trans Z0 (Nat.le_of_eq q1.symm)
  have s3 : h0.size ≤ b1 := Nat.le_trans K0.1 (Nat.le_of_eq q1.symm)
  have f4 : Old Z n0 h1 := old.ext E1
  have K5 : Keep h0 h1 [] := K0.ext E1
  have Z6 : n0 ≤ h1.size := Nat.le_trans Z0 E1.1
  have f7 : Arv Z h1 b1 k1 .char (2 : Int32) [(.int (0 : Int32)), (.int (0 : Int32))] (.int (0 : Int32)) := (Arv.new A1 (by decide)).pad (pad_rep [] (.int (0 : Int32)) 2)
  refine OwnGo.back (T1.setTop (mkF m 3 #[.val (.int p1), .val (.int p2), .val (.int p3), .val (.int p4), .val (.int p5), .unset, .unset, .unset, .unset, .unset, .unset, .unset, .unset] [(.ref b1)])) (fun tg kk => st1 _ kk) ?_
  refine OwnGo.back (T1.setTop (mkF m 5 #[.val (.int p1), .val (.int p2), .val (.int p3), .val (.int p4), .val (.int p5), .val (.ref b1), .unset, .unset, .unset, .unset, .unset, .unset, .unset] [])) (fun tg kk => XS.astore X1.here hx rfl (hb hby at_3) rfl rfl (l' := #[.val (.int p1), .val (.int p2), .val (.int p3), .val (.int p4), .val (.int p5), .val (.ref b1), .unset, .unset, .unset, .unset, .unset, .unset, .unset]) rfl kk) ?_
  refine OwnGo.back (T1.setTop (mkF m 7 #[.val (.int p1), .val (.int p2), .val (.int p3), .val (.int p4), .val (.int p5), .val (.ref b1), .unset, .unset, .unset, .unset, .unset, .unset, .unset] [(.ref b1)])) (fun tg kk => XS.aload X1.here hx rfl (hb hby at_5) rfl rfl kk) ?_
  refine OwnGo.back (T1.setTop (mkF m 8 #[.val (.int p1), .val (.int p2), .val (.int p3), .val (.int p4), .val (.int p5), .val (.ref b1), .unset, .unset, .unset, .unset, .unset, .unset, .unset] [(.int (0 : Int32)), (.ref b1)])) (fun tg kk => XS.iconst X1.here hx rfl (hb hby at_7) kk) ?_
  refine OwnGo.back (T1.setTop (mkF m 9 #[.val (.int p1), .val (.int p2), .val (.int p3), .val (.int p4), .val (.int p5), .val (.ref b1), .unset, .unset, .unset, .unset, .unset, .unset, .unset] [(.int p1), (.int (0 : Int32)), (.ref b1)])) (fun tg kk => XS.iloadN X1.here hx rfl (hb hby at_8) rfl kk) ?_
  refine OwnGo.back (T1.setTop (mkF m 12 #[.val (.int p1), .val (.int p2), .val (.int p3), .val (.int p4), .val (.int p5), .val (.ref b1), .unset, .unset, .unset, .unset, .unset, .unset, .unset] [(.int (255 : Int32)), (.int p1), (.int (0 : Int32)), (.ref b1)])) (fun tg kk => XS.sipush X1.here hx rfl (hb hby at_9) kk) ?_
  refine OwnGo.back (T1.setTop (mkF m 13 #[.val (.int p1), .val (.int p2), .val (.int p3), .val (.int p4), .val (.int p5), .val (.ref b1), .unset, .unset, .unset, .unset, .unset, .unset, .unset] [(.int (p1 &&& (255 : Int32))), (.int (0 : Int32)), (.ref b1)])) (fun tg kk => XS.iand X1.here hx rfl (hb hby at_12) rfl kk) ?_
  refine OwnGo.back (T1.setTop (mkF m 14 #[.val (.int p1), .val (.int p2), .val (.int p3), .val (.int p4), .val (.int p5), .val (.ref b1), .unset, .unset, .unset, .unset, .unset, .unset, .unset] [(.int ((p1 &&& (255 : Int32)).toUInt32.toUInt16.toUInt32.toInt32)), (.int (0 : Int32)), (.ref b1)])) (fun tg kk => XS.i2c X1.here hx rfl (hb hby at_13) rfl kk) ?_
  obtain ⟨cl_8, Ar_8, qq_8, Sz_8, Ng_8, Hs_8, Gf_8⟩ := id f7
  have hin_8 : ¬ ((0 : Int32) < 0 ∨ cl_8.slots.size ≤ ((0 : Int32)).toNatClampNeg) := inb_of Sz_8 ⟨by decide, by decide⟩
  obtain ⟨T9, h9, X9, e9, W9, st9⟩ := stC X1 hx hZ e1 Ar_8 (j := (0 : Int32)) hin_8 (g := (mkF m 14 #[.val (.int p1), .val (.int p2), .val (.int p3), .val (.int p4), .val (.int p5), .val (.ref b1), .unset, .unset, .unset, .unset, .unset, .unset, .unset] [(.int ((p1 &&& (255 : Int32)).toUInt32.toUInt16.toUInt32.toInt32)), (.int (0 : Int32)), (.ref b1)])) rfl rfl (hb hby at_14)
  have f10 : Arv Z h9 b1 k1 .char (2 : Int32) [(.int (nar .char ((p1 &&& (255 : Int32)).toUInt32.toUInt16.toUInt32.toInt32))), (.int (0 : Int32))] (.int (0 : Int32)) := Arv.set Ar_8 qq_8 Sz_8 Ng_8 Hs_8 Gf_8 (fits_nar_char _) W9 0 rfl (Nat.le_of_ble_eq_true rfl)
  rw [own_nrc] at f10
  have f11 : Old Z n0 h9 := f4.wr W9 g2
  have K12 : Keep h0 h9 [] := K5.wr W9 (Or.inr s3)
  have Z13 : n0 ≤ h9.size := Nat.le_trans Z6 (Keep.of_wr W9).1
  have N14 := Fr.snoc X9 N0 g2
  refine OwnGo.back (T9.setTop (mkF m 15 #[.val (.int p1), .val (.int p2), .val (.int p3), .val (.int p4), .val (.int p5), .val (.ref b1), .unset, .unset, .unset, .unset, .unset, .unset, .unset] [])) (fun tg kk => st9 _ kk) ?_
  refine OwnGo.back (T9.setTop (mkF m 17 #[.val (.int p1), .val (.int p2), .val (.int p3), .val (.int p4), .val (.int p5), .val (.ref b1), .unset, .unset, .unset, .unset, .unset, .unset, .unset] [(.ref b1)])) (fun tg kk => XS.aload X9.here hx rfl (hb hby at_15) rfl rfl kk) ?_
  refine OwnGo.back (T9.setTop (mkF m 18 #[.val (.int p1), .val (.int p2), .val (.int p3), .val (.int p4), .val (.int p5), .val (.ref b1), .unset, .unset, .unset, .unset, .unset, .unset, .unset] [(.int (1 : Int32)), (.ref b1)])) (fun tg kk => XS.iconst X9.here hx rfl (hb hby at_17) kk) ?_
  refine OwnGo.back (T9.setTop (mkF m 19 #[.val (.int p1), .val (.int p2), .val (.int p3), .val (.int p4), .val (.int p5), .val (.ref b1), .unset, .unset, .unset, .unset, .unset, .unset, .unset] [(.int p2), (.int (1 : Int32)), (.ref b1)])) (fun tg kk => XS.iloadN X9.here hx rfl (hb hby at_18) rfl kk) ?_
  refine OwnGo.back (T9.setTop (mkF m 22 #[.val (.int p1), .val (.int p2), .val (.int p3), .val (.int p4), .val (.int p5), .val (.ref b1), .unset, .unset, .unset, .unset, .unset, .unset, .unset] [(.int (255 : Int32)), (.int p2), (.int (1 : Int32)), (.ref b1)])) (fun tg kk => XS.sipush X9.here hx rfl (hb hby at_19) kk) ?_
  refine OwnGo.back (T9.setTop (mkF m 23 #[.val (.int p1), .val (.int p2), .val (.int p3), .val (.int p4), .val (.int p5), .val (.ref b1), .unset, .unset, .unset, .unset, .unset, .unset, .unset] [(.int (p2 &&& (255 : Int32))), (.int (1 : Int32)), (.ref b1)])) (fun tg kk => XS.iand X9.here hx rfl (hb hby at_22) rfl kk) ?_
  refine OwnGo.back (T9.setTop (mkF m 24 #[.val (.int p1), .val (.int p2), .val (.int p3), .val (.int p4), .val (.int p5), .val (.ref b1), .unset, .unset, .unset, .unset, .unset, .unset, .unset] [(.int ((p2 &&& (255 : Int32)).toUInt32.toUInt16.toUInt32.toInt32)), (.int (1 : Int32)), (.ref b1)])) (fun tg kk => XS.i2c X9.here hx rfl (hb hby at_23) rfl kk) ?_
  obtain ⟨cl_15, Ar_15, qq_15, Sz_15, Ng_15, Hs_15, Gf_15⟩ := id f10
  have hin_15 : ¬ ((1 : Int32) < 0 ∨ cl_15.slots.size ≤ ((1 : Int32)).toNatClampNeg) := inb_of Sz_15 ⟨by decide, by decide⟩
  obtain ⟨T16, h16, X16, e16, W16, st16⟩ := stC X9 hx hZ e9 Ar_15 (j := (1 : Int32)) hin_15 (g := (mkF m 24 #[.val (.int p1), .val (.int p2), .val (.int p3), .val (.int p4), .val (.int p5), .val (.ref b1), .unset, .unset, .unset, .unset, .unset, .unset, .unset] [(.int ((p2 &&& (255 : Int32)).toUInt32.toUInt16.toUInt32.toInt32)), (.int (1 : Int32)), (.ref b1)])) rfl rfl (hb hby at_24)
  have f17 : Arv Z h16 b1 k1 .char (2 : Int32) [(.int ((p1 &&& (255 : Int32)).toUInt32.toUInt16.toUInt32.toInt32)), (.int (nar .char ((p2 &&& (255 : Int32)).toUInt32.toUInt16.toUInt32.toInt32)))] (.int (0 : Int32)) := Arv.set Ar_15 qq_15 Sz_15 Ng_15 Hs_15 Gf_15 (fits_nar_char _) W16 1 rfl (Nat.le_of_ble_eq_true rfl)
  rw [own_nrc] at f17
  have f18 : Old Z n0 h16 := f11.wr W16 g2
  have K19 : Keep h0 h16 [] := K12.wr W16 (Or.inr s3)
  have Z20 : n0 ≤ h16.size := Nat.le_trans Z13 (Keep.of_wr W16).1
  have N21 := Fr.snoc X16 N14 g2
  refine OwnGo.back (T16.setTop (mkF m 25 #[.val (.int p1), .val (.int p2), .val (.int p3), .val (.int p4), .val (.int p5), .val (.ref b1), .unset, .unset, .unset, .unset, .unset, .unset, .unset] [])) (fun tg kk => st16 _ kk) ?_
  obtain ⟨T22, h22, X22, e22, E22, A22, D22, -, st22⟩ := newO X16 hx hZ hown (hw _ (List.mem_of_getElem? (i := 1) rfl)) (hw _ (List.mem_of_getElem? (i := 2) rfl)) (hw _ (List.mem_of_getElem? (i := 3) rfl)) e16 (g := (mkF m 25 #[.val (.int p1), .val (.int p2), .val (.int p3), .val (.int p4), .val (.int p5), .val (.ref b1), .unset, .unset, .unset, .unset, .unset, .unset, .unset] [])) rfl (hb hby at_25) (by decide) (by decide)
  obtain ⟨b22, q22⟩ : ∃ z, z = h16.size := ⟨_, rfl⟩
  rw [← q22] at A22 D22 st22
  have n23 : b1 ≠ b22 := own_ne f17.lt q22
  have g24 : n0 ≤ b22 := Nat.le_trans Z20 (Nat.le_of_eq q22.symm)
  have s25 : h0.size ≤ b22 := Nat.le_trans K19.1 (Nat.le_of_eq q22.symm)
  have f26 : Old Z n0 h22 := f18.ext E22
  have f27 : Arv Z h22 b1 k1 .char (2 : Int32) [(.int ((p1 &&& (255 : Int32)).toUInt32.toUInt16.toUInt32.toInt32)), (.int ((p2 &&& (255 : Int32)).toUInt32.toUInt16.toUInt32.toInt32))] (.int (0 : Int32)) := f17.ext E22
  have K28 : Keep h0 h22 [] := K19.ext E22
  have Z29 : n0 ≤ h22.size := Nat.le_trans Z20 E22.1
  have f30 : Fld Z h22 b22 "java/lang/String" "coder" "B" (.int (0 : Int32)) := D22 (Or.inr (hw _ (List.mem_of_getElem? (i := 27) rfl))) (ty := .byte) (by decide)
  have f31 : Fld Z h22 b22 "java/lang/String" "value" "[B" .null := D22 (Or.inr (hw _ (List.mem_of_getElem? (i := 29) rfl))) (ty := (.array .byte)) (by decide)
  refine OwnGo.back (T22.setTop (mkF m 28 #[.val (.int p1), .val (.int p2), .val (.int p3), .val (.int p4), .val (.int p5), .val (.ref b1), .unset, .unset, .unset, .unset, .unset, .unset, .unset] [(.ref b22)])) (fun tg kk => st22 _ kk) ?_
  refine OwnGo.back (T22.setTop (mkF m 29 #[.val (.int p1), .val (.int p2), .val (.int p3), .val (.int p4), .val (.int p5), .val (.ref b1), .unset, .unset, .unset, .unset, .unset, .unset, .unset] [(.ref b22), (.ref b22)])) (fun tg kk => XS.dup X22.here hx rfl (hb hby at_28) rfl rfl kk) ?_
  refine OwnGo.back (T22.setTop (mkF m 31 #[.val (.int p1), .val (.int p2), .val (.int p3), .val (.int p4), .val (.int p5), .val (.ref b1), .unset, .unset, .unset, .unset, .unset, .unset, .unset] [(.ref b1), (.ref b22), (.ref b22)])) (fun tg kk => XS.aload X22.here hx rfl (hb hby at_29) rfl rfl kk) ?_
  obtain ⟨_, _, ⟨T32, L32, k32, n32⟩, -, X32, ⟨Lc32, hQ32, l32, y32, z32⟩, st32⟩ := X22.specialBack hx (y := (⟨"java/lang/String", "<init>", "([C)V"⟩ : MethodName)) rfl hown (mvT hZ (hw _ (List.mem_of_getElem? (i := 4) rfl))) (mvT hZ (hw _ (List.mem_of_getElem? (i := 5) rfl))) (mvT hZ (hw _ (List.mem_of_getElem? (i := 6) rfl))) (by decide) (backOf (W := 1) (own_sin1 l Z a0 hw [] b22 b1 k1 ((p1 &&& (255 : Int32)).toUInt32.toUInt16.toUInt32.toInt32) ((p2 &&& (255 : Int32)).toUInt32.toUInt16.toUInt32.toInt32) cs h22 n0 Z29 f27 (own_ch p1) (own_ch p2) S f26 hcs A22 f31 f30 g24 (Ne.symm n23)) hZ (hw _ (List.mem_of_getElem? (i := 6) rfl)) (hw _ (List.mem_of_getElem? (i := 3) rfl)) (by decide) (by decide)) (g := (mkF m 31 #[.val (.int p1), .val (.int p2), .val (.int p3), .val (.int p4), .val (.int p5), .val (.ref b1), .unset, .unset, .unset, .unset, .unset, .unset, .unset] [(.ref b1), (.ref b22), (.ref b22)])) rfl (by rw [hml]; rfl) (Steps.refl _) (a := b22) (argsL := [(.ref b1)]) (rest := [(.ref b22)]) (lenOf own_pd14 rfl) rfl (by show 2 * 0 + _ ≤ _; exact Nat.le_of_eq rfl) (hb hby at_31) (fun _ _ => ⟨rfl, e22, (by decide : 2 + 1 ≤ _), (by decide : 6 + 2 ≤ _)⟩)
  dsimp only [Pt.U, Pt.locs, Pt.cells, Pt.slots] at X32 l32 y32 z32 st32 hQ32
  subst l32 y32 z32
  obtain ⟨rfl, N32q, Kc32, po33⟩ := hQ32
  have N32 := Fr.app N21 N32q
  have f34 : Old Z n0 T32.heap := f26.keep Kc32 (allS g24 all0)
  have f35 : Arv Z T32.heap b1 k1 .char (2 : Int32) [(.int ((p1 &&& (255 : Int32)).toUInt32.toUInt16.toUInt32.toInt32)), (.int ((p2 &&& (255 : Int32)).toUInt32.toUInt16.toUInt32.toInt32))] (.int (0 : Int32)) := f27.keep Kc32 (ninS n23 nin0)
  have f36 : Exa Z T32.heap b22 "java/lang/String" := A22.keep Kc32
  have K37 : Keep h0 T32.heap [] := K28.trans Kc32 (allS (Or.inr s25) all0)
  have Z38 : n0 ≤ T32.heap.size := Nat.le_trans Z29 Kc32.1
  refine OwnGo.back (T32.setTop (mkF m 34 #[.val (.int p1), .val (.int p2), .val (.int p3), .val (.int p4), .val (.int p5), .val (.ref b1), .unset, .unset, .unset, .unset, .unset, .unset, .unset] [(.ref b22)])) (fun tg kk => st32.trans kk) ?_
  refine OwnGo.back (T32.setTop (mkF m 36 #[.val (.int p1), .val (.int p2), .val (.int p3), .val (.int p4), .val (.int p5), .val (.ref b1), .val (.ref b22), .unset, .unset, .unset, .unset, .unset, .unset] [])) (fun tg kk => XS.astore X32.here hx rfl (hb hby at_34) rfl rfl (l' := #[.val (.int p1), .val (.int p2), .val (.int p3), .val (.int p4), .val (.int p5), .val (.ref b1), .val (.ref b22), .unset, .unset, .unset, .unset, .unset, .unset]) rfl kk) ?_
  refine OwnGo.back (T32.setTop (mkF m 37 #[.val (.int p1), .val (.int p2), .val (.int p3), .val (.int p4), .val (.int p5), .val (.ref b1), .val (.ref b22), .unset, .unset, .unset, .unset, .unset, .unset] [(.int p3)])) (fun tg kk => XS.iloadN X32.here hx rfl (hb hby at_36) rfl kk) ?_
  obtain ⟨_, _, ⟨T39, L39, k39, n39⟩, -, X39, ⟨Lc39, hQ39, l39, y39, z39⟩, st39⟩ := Jvm.LawKit.callS X32 hx (y := (⟨"com/example/lucid_policy/lucidpolicy/parse/SymbolDeclaredPinLaw", "kindOf", "(I)Lcom/example/lucid_policy/lucidpolicy/parse/SymbolKind;"⟩ : MethodName)) hown (mvT hZ (hw _ (List.mem_of_getElem? (i := 30) rfl))) (mvT hZ (hw _ (List.mem_of_getElem? (i := 31) rfl))) (mvT hZ (hw _ (List.mem_of_getElem? (i := 32) rfl))) (mvT hZ (hw _ (List.mem_of_getElem? (i := 33) rfl))) (by decide) (backOf (W := 0) (own_kind l Z a0 hw [] p3 y0 y1 y2 y3 y4 y5 y6 T32.heap n0 Z38 SK0 SK1 SK2 SK3 SK4 SK5 SK6 f34) hZ (hw _ (List.mem_of_getElem? (i := 33) rfl)) (hw _ (List.mem_of_getElem? (i := 32) rfl)) (by decide) (by decide)) (g := (mkF m 37 #[.val (.int p1), .val (.int p2), .val (.int p3), .val (.int p4), .val (.int p5), .val (.ref b1), .val (.ref b22), .unset, .unset, .unset, .unset, .unset, .unset] [(.int p3)])) rfl (by rw [hml]; rfl) (argsL := [(.int p3)]) (rest := []) (lenOf own_pd15 rfl) rfl (by show 2 * 0 + _ ≤ _; exact Nat.le_of_eq rfl) (hb hby at_37) (fun _ _ => ⟨rfl, rfl, (by decide : 3 + 0 ≤ _), (by decide : 8 + 0 ≤ _)⟩)
  dsimp only [Pt.U, Pt.locs, Pt.cells, Pt.slots] at X39 l39 y39 z39 st39 hQ39
  subst l39 y39 z39
  obtain ⟨r_40, rfl, N39q, e39⟩ := hQ39
  have N39 := Fr.app N32 N39q
  refine OwnGo.back (T39.setTop (mkF m 40 #[.val (.int p1), .val (.int p2), .val (.int p3), .val (.int p4), .val (.int p5), .val (.ref b1), .val (.ref b22), .unset, .unset, .unset, .unset, .unset, .unset] [(.ref r_40)])) (fun tg kk => st39 _ kk) ?_
  refine OwnGo.back (T39.setTop (mkF m 42 #[.val (.int p1), .val (.int p2), .val (.int p3), .val (.int p4), .val (.int p5), .val (.ref b1), .val (.ref b22), .val (.ref r_40), .unset, .unset, .unset, .unset, .unset] [])) (fun tg kk => XS.astore X39.here hx rfl (hb hby at_40) rfl rfl (l' := #[.val (.int p1), .val (.int p2), .val (.int p3), .val (.int p4), .val (.int p5), .val (.ref b1), .val (.ref b22), .val (.ref r_40), .unset, .unset, .unset, .unset, .unset]) rfl kk) ?_
  refine OwnGo.back (T39.setTop (mkF m 43 #[.val (.int p1), .val (.int p2), .val (.int p3), .val (.int p4), .val (.int p5), .val (.ref b1), .val (.ref b22), .val (.ref r_40), .unset, .unset, .unset, .unset, .unset] [(.int p4)])) (fun tg kk => XS.iloadN X39.here hx rfl (hb hby at_42) rfl kk) ?_
  obtain ⟨_, _, ⟨T41, L41, k41, n41⟩, -, X41, ⟨Lc41, hQ41, l41, y41, z41⟩, st41⟩ := Jvm.LawKit.callS X39 hx (y := (⟨"com/example/lucid_policy/lucidpolicy/parse/SymbolDeclaredPinLaw", "kindOf", "(I)Lcom/example/lucid_policy/lucidpolicy/parse/SymbolKind;"⟩ : MethodName)) hown (mvT hZ (hw _ (List.mem_of_getElem? (i := 30) rfl))) (mvT hZ (hw _ (List.mem_of_getElem? (i := 31) rfl))) (mvT hZ (hw _ (List.mem_of_getElem? (i := 32) rfl))) (mvT hZ (hw _ (List.mem_of_getElem? (i := 33) rfl))) (by decide) (backOf (W := 0) (own_kind l Z a0 hw [] p4 y0 y1 y2 y3 y4 y5 y6 T32.heap n0 Z38 SK0 SK1 SK2 SK3 SK4 SK5 SK6 f34) hZ (hw _ (List.mem_of_getElem? (i := 33) rfl)) (hw _ (List.mem_of_getElem? (i := 32) rfl)) (by decide) (by decide)) (g := (mkF m 43 #[.val (.int p1), .val (.int p2), .val (.int p3), .val (.int p4), .val (.int p5), .val (.ref b1), .val (.ref b22), .val (.ref r_40), .unset, .unset, .unset, .unset, .unset] [(.int p4)])) rfl (by rw [hml]; rfl) (argsL := [(.int p4)]) (rest := []) (lenOf own_pd15 rfl) rfl (by show 2 * 0 + _ ≤ _; exact Nat.le_of_eq rfl) (hb hby at_43) (fun _ _ => ⟨rfl, e39, (by decide : 3 + 0 ≤ _), (by decide : 8 + 0 ≤ _)⟩)
  dsimp only [Pt.U, Pt.locs, Pt.cells, Pt.slots] at X41 l41 y41 z41 st41 hQ41
  subst l41 y41 z41
  obtain ⟨r_42, rfl, N41q, e41⟩ := hQ41
  have N41 := Fr.app N39 N41q
  refine OwnGo.back (T41.setTop (mkF m 46 #[.val (.int p1), .val (.int p2), .val (.int p3), .val (.int p4), .val (.int p5), .val (.ref b1), .val (.ref b22), .val (.ref r_40), .unset, .unset, .unset, .unset, .unset] [(.ref r_42)])) (fun tg kk => st41 _ kk) ?_
  refine OwnGo.back (T41.setTop (mkF m 48 #[.val (.int p1), .val (.int p2), .val (.int p3), .val (.int p4), .val (.int p5), .val (.ref b1), .val (.ref b22), .val (.ref r_40), .val (.ref r_42), .unset, .unset, .unset, .unset] [])) (fun tg kk => XS.astore X41.here hx rfl (hb hby at_46) rfl rfl (l' := #[.val (.int p1), .val (.int p2), .val (.int p3), .val (.int p4), .val (.int p5), .val (.ref b1), .val (.ref b22), .val (.ref r_40), .val (.ref r_42), .unset, .unset, .unset, .unset]) rfl kk) ?_
  obtain ⟨_, ⟨m44, rfl, hm45⟩, dm46⟩ : OwnMg p.tables e below (fun st' => ∃ (m44 : Int32), st' = T41.setTop (mkF m 60 #[.val (.int p1), .val (.int p2), .val (.int p3), .val (.int p4), .val (.int p5), .val (.ref b1), .val (.ref b22), .val (.ref r_40), .val (.ref r_42), .unset, .unset, .unset, .unset] [(.int m44)]) ∧ ((((p5 &&& (1 : Int32)) = (0 : Int32)) ∧ m44 = (0 : Int32)) ∨ ((¬ ((p5 &&& (1 : Int32)) = (0 : Int32))) ∧ m44 = (1 : Int32)))) (T41.setTop (mkF m 48 #[.val (.int p1), .val (.int p2), .val (.int p3), .val (.int p4), .val (.int p5), .val (.ref b1), .val (.ref b22), .val (.ref r_40), .val (.ref r_42), .unset, .unset, .unset, .unset] [])) := by
    refine OwnMg.back (T41.setTop (mkF m 50 #[.val (.int p1), .val (.int p2), .val (.int p3), .val (.int p4), .val (.int p5), .val (.ref b1), .val (.ref b22), .val (.ref r_40), .val (.ref r_42), .unset, .unset, .unset, .unset] [(.int p5)])) (fun tg kk => XS.iload X41.here hx rfl (hb hby at_48) rfl kk) ?_
    refine OwnMg.back (T41.setTop (mkF m 51 #[.val (.int p1), .val (.int p2), .val (.int p3), .val (.int p4), .val (.int p5), .val (.ref b1), .val (.ref b22), .val (.ref r_40), .val (.ref r_42), .unset, .unset, .unset, .unset] [(.int (1 : Int32)), (.int p5)])) (fun tg kk => XS.iconst X41.here hx rfl (hb hby at_50) kk) ?_
    refine OwnMg.back (T41.setTop (mkF m 52 #[.val (.int p1), .val (.int p2), .val (.int p3), .val (.int p4), .val (.int p5), .val (.ref b1), .val (.ref b22), .val (.ref r_40), .val (.ref r_42), .unset, .unset, .unset, .unset] [(.int (p5 &&& (1 : Int32)))])) (fun tg kk => XS.iand X41.here hx rfl (hb hby at_51) rfl kk) ?_
    by_cases hc52 : (p5 &&& (1 : Int32)) = (0 : Int32)
    ·
      refine OwnMg.back (T41.setTop (mkF m 59 #[.val (.int p1), .val (.int p2), .val (.int p3), .val (.int p4), .val (.int p5), .val (.ref b1), .val (.ref b22), .val (.ref r_40), .val (.ref r_42), .unset, .unset, .unset, .unset] [])) (fun tg kk => XS.ifYes X41.here hx rfl (pc0 := 52) (pc' := 59) rfl (hb hby at_52) rfl ((if0 _ _).trans (teq hc52).1) (by decide) (by decide) kk) ?_
      refine OwnMg.back (T41.setTop (mkF m 60 #[.val (.int p1), .val (.int p2), .val (.int p3), .val (.int p4), .val (.int p5), .val (.ref b1), .val (.ref b22), .val (.ref r_40), .val (.ref r_42), .unset, .unset, .unset, .unset] [(.int (0 : Int32))])) (fun tg kk => XS.iconst X41.here hx rfl (hb hby at_59) kk) ?_
      exact ⟨_, ⟨(0 : Int32), rfl, Or.inl ⟨hc52, rfl⟩⟩, fun tg kk => kk⟩
    ·
      refine OwnMg.back (T41.setTop (mkF m 55 #[.val (.int p1), .val (.int p2), .val (.int p3), .val (.int p4), .val (.int p5), .val (.ref b1), .val (.ref b22), .val (.ref r_40), .val (.ref r_42), .unset, .unset, .unset, .unset] [])) (fun tg kk => XS.ifNo X41.here hx rfl (hb hby at_52) rfl ((if0 _ _).trans (feq hc52).1) kk) ?_
      refine OwnMg.back (T41.setTop (mkF m 56 #[.val (.int p1), .val (.int p2), .val (.int p3), .val (.int p4), .val (.int p5), .val (.ref b1), .val (.ref b22), .val (.ref r_40), .val (.ref r_42), .unset, .unset, .unset, .unset] [(.int (1 : Int32))])) (fun tg kk => XS.iconst X41.here hx rfl (hb hby at_55) kk) ?_
      refine OwnMg.back (T41.setTop (mkF m 60 #[.val (.int p1), .val (.int p2), .val (.int p3), .val (.int p4), .val (.int p5), .val (.ref b1), .val (.ref b22), .val (.ref r_40), .val (.ref r_42), .unset, .unset, .unset, .unset] [(.int (1 : Int32))])) (fun tg kk => XS.goto X41.here hx rfl (pc0 := 56) (pc' := 60) rfl (hb hby at_56) (by decide) (by decide) kk) ?_
      exact ⟨_, ⟨(1 : Int32), rfl, Or.inr (⟨hc52, rfl⟩)⟩, fun tg kk => kk⟩
  refine OwnGo.back (T41.setTop (mkF m 60 #[.val (.int p1), .val (.int p2), .val (.int p3), .val (.int p4), .val (.int p5), .val (.ref b1), .val (.ref b22), .val (.ref r_40), .val (.ref r_42), .unset, .unset, .unset, .unset] [(.int m44)])) dm46 ?_
  refine OwnGo.back (T41.setTop (mkF m 62 #[.val (.int p1), .val (.int p2), .val (.int p3), .val (.int p4), .val (.int p5), .val (.ref b1), .val (.ref b22), .val (.ref r_40), .val (.ref r_42), .val (.int m44), .unset, .unset, .unset] [])) (fun tg kk => XS.istore X41.here hx rfl (hb hby at_60) rfl (l' := #[.val (.int p1), .val (.int p2), .val (.int p3), .val (.int p4), .val (.int p5), .val (.ref b1), .val (.ref b22), .val (.ref r_40), .val (.ref r_42), .val (.int m44), .unset, .unset, .unset]) rfl kk) ?_
  obtain ⟨_, ⟨m54, rfl, hm55⟩, dm56⟩ : OwnMg p.tables e below (fun st' => ∃ (m54 : Int32), st' = T41.setTop (mkF m 74 #[.val (.int p1), .val (.int p2), .val (.int p3), .val (.int p4), .val (.int p5), .val (.ref b1), .val (.ref b22), .val (.ref r_40), .val (.ref r_42), .val (.int m44), .unset, .unset, .unset] [(.int m54)]) ∧ ((((p5 &&& (2 : Int32)) = (0 : Int32)) ∧ m54 = (0 : Int32)) ∨ ((¬ ((p5 &&& (2 : Int32)) = (0 : Int32))) ∧ m54 = (1 : Int32)))) (T41.setTop (mkF m 62 #[.val (.int p1), .val (.int p2), .val (.int p3), .val (.int p4), .val (.int p5), .val (.ref b1), .val (.ref b22), .val (.ref r_40), .val (.ref r_42), .val (.int m44), .unset, .unset, .unset] [])) := by
    refine OwnMg.back (T41.setTop (mkF m 64 #[.val (.int p1), .val (.int p2), .val (.int p3), .val (.int p4), .val (.int p5), .val (.ref b1), .val (.ref b22), .val (.ref r_40), .val (.ref r_42), .val (.int m44), .unset, .unset, .unset] [(.int p5)])) (fun tg kk => XS.iload X41.here hx rfl (hb hby at_62) rfl kk) ?_
    refine OwnMg.back (T41.setTop (mkF m 65 #[.val (.int p1), .val (.int p2), .val (.int p3), .val (.int p4), .val (.int p5), .val (.ref b1), .val (.ref b22), .val (.ref r_40), .val (.ref r_42), .val (.int m44), .unset, .unset, .unset] [(.int (2 : Int32)), (.int p5)])) (fun tg kk => XS.iconst X41.here hx rfl (hb hby at_64) kk) ?_
    refine OwnMg.back (T41.setTop (mkF m 66 #[.val (.int p1), .val (.int p2), .val (.int p3), .val (.int p4), .val (.int p5), .val (.ref b1), .val (.ref b22), .val (.ref r_40), .val (.ref r_42), .val (.int m44), .unset, .unset, .unset] [(.int (p5 &&& (2 : Int32)))])) (fun tg kk => XS.iand X41.here hx rfl (hb hby at_65) rfl kk) ?_
    by_cases hc62 : (p5 &&& (2 : Int32)) = (0 : Int32)
    ·
      refine OwnMg.back (T41.setTop (mkF m 73 #[.val (.int p1), .val (.int p2), .val (.int p3), .val (.int p4), .val (.int p5), .val (.ref b1), .val (.ref b22), .val (.ref r_40), .val (.ref r_42), .val (.int m44), .unset, .unset, .unset] [])) (fun tg kk => XS.ifYes X41.here hx rfl (pc0 := 66) (pc' := 73) rfl (hb hby at_66) rfl ((if0 _ _).trans (teq hc62).1) (by decide) (by decide) kk) ?_
      refine OwnMg.back (T41.setTop (mkF m 74 #[.val (.int p1), .val (.int p2), .val (.int p3), .val (.int p4), .val (.int p5), .val (.ref b1), .val (.ref b22), .val (.ref r_40), .val (.ref r_42), .val (.int m44), .unset, .unset, .unset] [(.int (0 : Int32))])) (fun tg kk => XS.iconst X41.here hx rfl (hb hby at_73) kk) ?_
      exact ⟨_, ⟨(0 : Int32), rfl, Or.inl ⟨hc62, rfl⟩⟩, fun tg kk => kk⟩
    ·
      refine OwnMg.back (T41.setTop (mkF m 69 #[.val (.int p1), .val (.int p2), .val (.int p3), .val (.int p4), .val (.int p5), .val (.ref b1), .val (.ref b22), .val (.ref r_40), .val (.ref r_42), .val (.int m44), .unset, .unset, .unset] [])) (fun tg kk => XS.ifNo X41.here hx rfl (hb hby at_66) rfl ((if0 _ _).trans (feq hc62).1) kk) ?_
      refine OwnMg.back (T41.setTop (mkF m 70 #[.val (.int p1), .val (.int p2), .val (.int p3), .val (.int p4), .val (.int p5), .val (.ref b1), .val (.ref b22), .val (.ref r_40), .val (.ref r_42), .val (.int m44), .unset, .unset, .unset] [(.int (1 : Int32))])) (fun tg kk => XS.iconst X41.here hx rfl (hb hby at_69) kk) ?_
      refine OwnMg.back (T41.setTop (mkF m 74 #[.val (.int p1), .val (.int p2), .val (.int p3), .val (.int p4), .val (.int p5), .val (.ref b1), .val (.ref b22), .val (.ref r_40), .val (.ref r_42), .val (.int m44), .unset, .unset, .unset] [(.int (1 : Int32))])) (fun tg kk => XS.goto X41.here hx rfl (pc0 := 70) (pc' := 74) rfl (hb hby at_70) (by decide) (by decide) kk) ?_
      exact ⟨_, ⟨(1 : Int32), rfl, Or.inr (⟨hc62, rfl⟩)⟩, fun tg kk => kk⟩
  refine OwnGo.back (T41.setTop (mkF m 74 #[.val (.int p1), .val (.int p2), .val (.int p3), .val (.int p4), .val (.int p5), .val (.ref b1), .val (.ref b22), .val (.ref r_40), .val (.ref r_42), .val (.int m44), .unset, .unset, .unset] [(.int m54)])) dm56 ?_
  refine OwnGo.back (T41.setTop (mkF m 76 #[.val (.int p1), .val (.int p2), .val (.int p3), .val (.int p4), .val (.int p5), .val (.ref b1), .val (.ref b22), .val (.ref r_40), .val (.ref r_42), .val (.int m44), .val (.int m54), .unset, .unset] [])) (fun tg kk => XS.istore X41.here hx rfl (hb hby at_74) rfl (l' := #[.val (.int p1), .val (.int p2), .val (.int p3), .val (.int p4), .val (.int p5), .val (.ref b1), .val (.ref b22), .val (.ref r_40), .val (.ref r_42), .val (.int m44), .val (.int m54), .unset, .unset]) rfl kk) ?_
  obtain ⟨T63, h63, X63, e63, E63, A63, D63, -, st63⟩ := newO X41 hx hZ hown (hw _ (List.mem_of_getElem? (i := 40) rfl)) (hw _ (List.mem_of_getElem? (i := 41) rfl)) (hw _ (List.mem_of_getElem? (i := 42) rfl)) e41 (g := (mkF m 76 #[.val (.int p1), .val (.int p2), .val (.int p3), .val (.int p4), .val (.int p5), .val (.ref b1), .val (.ref b22), .val (.ref r_40), .val (.ref r_42), .val (.int m44), .val (.int m54), .unset, .unset] [])) rfl (hb hby at_76) (by decide) (by decide)
  obtain ⟨b63, q63⟩ : ∃ z, z = T32.heap.size := ⟨_, rfl⟩
  rw [← q63] at A63 D63 st63
  have n64 : b1 ≠ b63 := own_ne f35.lt q63
  have n65 : b22 ≠ b63 := own_ne po33.lt q63
  have g66 : n0 ≤ b63 := Nat.le_trans Z38 (Nat.le_of_eq q63.symm)
  have s67 : h0.size ≤ b63 := Nat.le_trans K37.1 (Nat.le_of_eq q63.symm)
  have f68 : Old Z n0 h63 := f34.ext E63
  have f69 : Arv Z h63 b1 k1 .char (2 : Int32) [(.int ((p1 &&& (255 : Int32)).toUInt32.toUInt16.toUInt32.toInt32)), (.int ((p2 &&& (255 : Int32)).toUInt32.toUInt16.toUInt32.toInt32))] (.int (0 : Int32)) := f35.ext E63
  have f70 : Exa Z h63 b22 "java/lang/String" := po33.ext E63
  have K71 : Keep h0 h63 [] := K37.ext E63
  have Z72 : n0 ≤ h63.size := Nat.le_trans Z38 E63.1
  have f73 : Fld Z h63 b63 "com/example/lucid_policy/lucidpolicy/parse/Symbol" "declaredIn" "Ljava/util/List;" .null := D63 (Or.inr (hw _ (List.mem_of_getElem? (i := 73) rfl))) (ty := (.object "java/util/List")) (by decide)
  have f74 : Fld Z h63 b63 "com/example/lucid_policy/lucidpolicy/parse/Symbol" "requiredIn" "Ljava/util/List;" .null := D63 (Or.inr (hw _ (List.mem_of_getElem? (i := 75) rfl))) (ty := (.object "java/util/List")) (by decide)
  have f75 : Fld Z h63 b63 "com/example/lucid_policy/lucidpolicy/parse/Symbol" "name" "Ljava/lang/String;" .null := D63 (Or.inr (hw _ (List.mem_of_getElem? (i := 77) rfl))) (ty := (.object "java/lang/String")) (by decide)
  have f76 : Fld Z h63 b63 "com/example/lucid_policy/lucidpolicy/parse/Symbol" "kind" "Lcom/example/lucid_policy/lucidpolicy/parse/SymbolKind;" .null := D63 (Or.inl (hw _ (List.mem_of_getElem? (i := 84) rfl))) (ty := (.object "com/example/lucid_policy/lucidpolicy/parse/SymbolKind")) (by decide)
  have f77 : Fld Z h63 b63 "com/example/lucid_policy/lucidpolicy/parse/Symbol" "location" "Lcom/example/lucid_policy/lucidpolicy/model/SourceLocation;" .null := D63 (Or.inl (hw _ (List.mem_of_getElem? (i := 121) rfl))) (ty := (.object "com/example/lucid_policy/lucidpolicy/model/SourceLocation")) (by decide)
  refine OwnGo.back (T63.setTop (mkF m 79 #[.val (.int p1), .val (.int p2), .val (.int p3), .val (.int p4), .val (.int p5), .val (.ref b1), .val (.ref b22), .val (.ref r_40), .val (.ref r_42), .val (.int m44), .val (.int m54), .unset, .unset] [(.ref b63)])) (fun tg kk => st63 _ kk) ?_
  refine OwnGo.back (T63.setTop (mkF m 80 #[.val (.int p1), .val (.int p2), .val (.int p3), .val (.int p4), .val (.int p5), .val (.ref b1), .val (.ref b22), .val (.ref r_40), .val (.ref r_42), .val (.int m44), .val (.int m54), .unset, .unset] [(.ref b63), (.ref b63)])) (fun tg kk => XS.dup X63.here hx rfl (hb hby at_79) rfl rfl kk) ?_
  refine OwnGo.back (T63.setTop (mkF m 82 #[.val (.int p1), .val (.int p2), .val (.int p3), .val (.int p4), .val (.int p5), .val (.ref b1), .val (.ref b22), .val (.ref r_40), .val (.ref r_42), .val (.int m44), .val (.int m54), .unset, .unset] [(.ref b22), (.ref b63), (.ref b63)])) (fun tg kk => XS.aload X63.here hx rfl (hb hby at_80) rfl rfl kk) ?_
  obtain ⟨_, _, ⟨T78, L78, k78, n78⟩, -, X78, ⟨Lc78, hQ78, l78, y78, z78⟩, st78⟩ := X63.specialBack hx (y := (⟨"com/example/lucid_policy/lucidpolicy/parse/Symbol", "<init>", "(Ljava/lang/String;)V"⟩ : MethodName)) rfl hown (mvT hZ (hw _ (List.mem_of_getElem? (i := 43) rfl))) (mvT hZ (hw _ (List.mem_of_getElem? (i := 44) rfl))) (mvT hZ (hw _ (List.mem_of_getElem? (i := 45) rfl))) (by decide) (backOf (W := 1) (own_sy l Z a0 hw [] b63 b22 h63 n0 Z72 A63 f73 f74 f76 f77 f75 g66) hZ (hw _ (List.mem_of_getElem? (i := 45) rfl)) (hw _ (List.mem_of_getElem? (i := 42) rfl)) (by decide) (by decide)) (g := (mkF m 82 #[.val (.int p1), .val (.int p2), .val (.int p3), .val (.int p4), .val (.int p5), .val (.ref b1), .val (.ref b22), .val (.ref r_40), .val (.ref r_42), .val (.int m44), .val (.int m54), .unset, .unset] [(.ref b22), (.ref b63), (.ref b63)])) rfl (by rw [hml]; rfl) (Steps.refl _) (a := b63) (argsL := [(.ref b22)]) (rest := [(.ref b63)]) (lenOf own_pd16 rfl) rfl (by show 2 * 0 + _ ≤ _; exact Nat.le_of_eq rfl) (hb hby at_82) (fun _ _ => ⟨rfl, e63, (by decide : 4 + 4 ≤ _), (by decide : 14 + 8 ≤ _)⟩)
  dsimp only [Pt.U, Pt.locs, Pt.cells, Pt.slots] at X78 l78 y78 z78 st78 hQ78
  subst l78 y78 z78
  obtain ⟨d_79, da_80, r_81, ra_82, kd_83, kr_84, rfl, N78q, Kc78, po85, po86, po87, po88, po89, po90, po91, po92, po93, po94, po95, po96, po97, po98, po99, po100, po101, po102, po103, po104, po105, po106, po107, po108, po109, po110, po111⟩ := hQ78
  have N78 := Fr.app N41 N78q
  have f112 : Old Z n0 T78.heap := f68.keep Kc78 (allS g66 all0)
  have f113 : Arv Z T78.heap b1 k1 .char (2 : Int32) [(.int ((p1 &&& (255 : Int32)).toUInt32.toUInt16.toUInt32.toInt32)), (.int ((p2 &&& (255 : Int32)).toUInt32.toUInt16.toUInt32.toInt32))] (.int (0 : Int32)) := f69.keep Kc78 (ninS n64 nin0)
  have f114 : Exa Z T78.heap b22 "java/lang/String" := f70.keep Kc78
  have f115 : Exa Z T78.heap b63 "com/example/lucid_policy/lucidpolicy/parse/Symbol" := A63.keep Kc78
  have K116 : Keep h0 T78.heap [] := K71.trans Kc78 (allS (Or.inr s67) all0)
  have Z117 : n0 ≤ T78.heap.size := Nat.le_trans Z72 Kc78.1
  have n118 : b1 ≠ d_79 := own_ne' f69.lt po85
  have n119 : b22 ≠ d_79 := own_ne' f70.lt po85
  have n120 : b63 ≠ d_79 := own_ne' A63.lt po85
  have g121 : n0 ≤ d_79 := Nat.le_trans Z72 po85
  have s122 : h0.size ≤ d_79 := Nat.le_trans K71.1 po85
  have n123 : b1 ≠ da_80 := own_ne' f69.lt po86
  have n124 : b22 ≠ da_80 := own_ne' f70.lt po86
  have n125 : b63 ≠ da_80 := own_ne' A63.lt po86
  have g126 : n0 ≤ da_80 := Nat.le_trans Z72 po86
  have s127 : h0.size ≤ da_80 := Nat.le_trans K71.1 po86
  have n128 : b1 ≠ r_81 := own_ne' f69.lt po87
  have n129 : b22 ≠ r_81 := own_ne' f70.lt po87
  have n130 : b63 ≠ r_81 := own_ne' A63.lt po87
  have g131 : n0 ≤ r_81 := Nat.le_trans Z72 po87
  have s132 : h0.size ≤ r_81 := Nat.le_trans K71.1 po87
  have n133 : b1 ≠ ra_82 := own_ne' f69.lt po88
  have n134 : b22 ≠ ra_82 := own_ne' f70.lt po88
  have n135 : b63 ≠ ra_82 := own_ne' A63.lt po88
  have g136 : n0 ≤ ra_82 := Nat.le_trans Z72 po88
  have s137 : h0.size ≤ ra_82 := Nat.le_trans K71.1 po88
  refine OwnGo.back (T78.setTop (mkF m 85 #[.val (.int p1), .val (.int p2), .val (.int p3), .val (.int p4), .val (.int p5), .val (.ref b1), .val (.ref b22), .val (.ref r_40), .val (.ref r_42), .val (.int m44), .val (.int m54), .unset, .unset] [(.ref b63)])) (fun tg kk => st78.trans kk) ?_
  refine OwnGo.back (T78.setTop (mkF m 87 #[.val (.int p1), .val (.int p2), .val (.int p3), .val (.int p4), .val (.int p5), .val (.ref b1), .val (.ref b22), .val (.ref r_40), .val (.ref r_42), .val (.int m44), .val (.int m54), .val (.ref b63), .unset] [])) (fun tg kk => XS.astore X78.here hx rfl (hb hby at_85) rfl rfl (l' := #[.val (.int p1), .val (.int p2), .val (.int p3), .val (.int p4), .val (.int p5), .val (.ref b1), .val (.ref b22), .val (.ref r_40), .val (.ref r_42), .val (.int m44), .val (.int m54), .val (.ref b63), .unset]) rfl kk) ?_
  refine OwnGo.back (T78.setTop (mkF m 89 #[.val (.int p1), .val (.int p2), .val (.int p3), .val (.int p4), .val (.int p5), .val (.ref b1), .val (.ref b22), .val (.ref r_40), .val (.ref r_42), .val (.int m44), .val (.int m54), .val (.ref b63), .unset] [(.ref b63)])) (fun tg kk => XS.aload X78.here hx rfl (hb hby at_87) rfl rfl kk) ?_
  obtain ⟨cq138, kq138, q138a, q138b, q138c⟩ := isOf hZ rfl po89
  obtain ⟨_, _, ⟨T138, L138, k138, n138⟩, -, X138, ⟨Lc138, hQ138, l138, y138, z138⟩, st138⟩ := X78.virtualBack hx (y := (⟨"com/example/lucid_policy/lucidpolicy/parse/Symbol", "declared", "()Z"⟩ : MethodName)) (z := (⟨"com/example/lucid_policy/lucidpolicy/parse/Symbol", "declared", "()Z"⟩ : MethodName)) hown (mvT hZ (hw _ (List.mem_of_getElem? (i := 78) rfl))) (mvT hZ (hw _ (List.mem_of_getElem? (i := 79) rfl))) (notFace_of_selects (args := #[]) (mvT hZ (hw _ (List.mem_of_getElem? (i := 81) rfl)))) (mvT hZ (hw _ (List.mem_of_getElem? (i := 81) rfl))) (mvT hZ (hw _ (List.mem_of_getElem? (i := 80) rfl))) (by decide) (backOf (W := 0) (own_den l Z a0 hw [] b63 T78.heap n0 Z117 po92) hZ (hw _ (List.mem_of_getElem? (i := 82) rfl)) (hw _ (List.mem_of_getElem? (i := 42) rfl)) (by decide) (by decide)) q138a q138c (g := (mkF m 89 #[.val (.int p1), .val (.int p2), .val (.int p3), .val (.int p4), .val (.int p5), .val (.ref b1), .val (.ref b22), .val (.ref r_40), .val (.ref r_42), .val (.int m44), .val (.int m54), .val (.ref b63), .unset] [(.ref b63)])) rfl (by rw [hml]; rfl) (Steps.refl _) (argsL := []) (rest := []) (lenOf own_pd17 rfl) rfl (by show 2 * 0 + _ ≤ _; exact Nat.le_of_eq rfl) (hb hby at_89) (fun _ _ => ⟨rfl, rfl, (by decide : 8 + 0 ≤ _), (by decide : 22 + 0 ≤ _)⟩)
  dsimp only [Pt.U, Pt.locs, Pt.cells, Pt.slots] at X138 l138 y138 z138 st138 hQ138
  subst l138 y138 z138
  obtain ⟨rfl, N138q, e138⟩ := hQ138
  have N138 := Fr.app N78 N138q
  refine OwnGo.back (T138.setTop (mkF m 92 #[.val (.int p1), .val (.int p2), .val (.int p3), .val (.int p4), .val (.int p5), .val (.ref b1), .val (.ref b22), .val (.ref r_40), .val (.ref r_42), .val (.int m44), .val (.int m54), .val (.ref b63), .unset] [(.int (0 : Int32))])) (fun tg kk => st138.trans kk) ?_
  refine OwnGo.back (T138.setTop (mkF m 95 #[.val (.int p1), .val (.int p2), .val (.int p3), .val (.int p4), .val (.int p5), .val (.ref b1), .val (.ref b22), .val (.ref r_40), .val (.ref r_42), .val (.int m44), .val (.int m54), .val (.ref b63), .unset] [])) (fun tg kk => XS.ifNo X138.here hx rfl (hb hby at_92) rfl ((if0 _ _).trans (teq (by decide : (0 : Int32) = (0 : Int32))).2) kk) ?_
  refine OwnGo.back (T138.setTop (mkF m 96 #[.val (.int p1), .val (.int p2), .val (.int p3), .val (.int p4), .val (.int p5), .val (.ref b1), .val (.ref b22), .val (.ref r_40), .val (.ref r_42), .val (.int m44), .val (.int m54), .val (.ref b63), .unset] [(.int (1 : Int32))])) (fun tg kk => XS.iconst X138.here hx rfl (hb hby at_95) kk) ?_
  refine OwnGo.back (T138.setTop (mkF m 100 #[.val (.int p1), .val (.int p2), .val (.int p3), .val (.int p4), .val (.int p5), .val (.ref b1), .val (.ref b22), .val (.ref r_40), .val (.ref r_42), .val (.int m44), .val (.int m54), .val (.ref b63), .unset] [(.int (1 : Int32))])) (fun tg kk => XS.goto X138.here hx rfl (pc0 := 96) (pc' := 100) rfl (hb hby at_96) (by decide) (by decide) kk) ?_
  refine OwnGo.back (T138.setTop (mkF m 102 #[.val (.int p1), .val (.int p2), .val (.int p3), .val (.int p4), .val (.int p5), .val (.ref b1), .val (.ref b22), .val (.ref r_40), .val (.ref r_42), .val (.int m44), .val (.int m54), .val (.ref b63), .val (.int (1 : Int32))] [])) (fun tg kk => XS.istore X138.here hx rfl (hb hby at_100) rfl (l' := #[.val (.int p1), .val (.int p2), .val (.int p3), .val (.int p4), .val (.int p5), .val (.ref b1), .val (.ref b22), .val (.ref r_40), .val (.ref r_42), .val (.int m44), .val (.int m54), .val (.ref b63), .val (.int (1 : Int32))]) rfl kk) ?_
  refine OwnGo.back (T138.setTop (mkF m 104 #[.val (.int p1), .val (.int p2), .val (.int p3), .val (.int p4), .val (.int p5), .val (.ref b1), .val (.ref b22), .val (.ref r_40), .val (.ref r_42), .val (.int m44), .val (.int m54), .val (.ref b63), .val (.int (1 : Int32))] [(.int m44)])) (fun tg kk => XS.iload X138.here hx rfl (hb hby at_102) rfl kk) ?_
  by_cases hc139 : m44 = (0 : Int32)
  ·
    refine OwnGo.back (T138.setTop (mkF m 133 #[.val (.int p1), .val (.int p2), .val (.int p3), .val (.int p4), .val (.int p5), .val (.ref b1), .val (.ref b22), .val (.ref r_40), .val (.ref r_42), .val (.int m44), .val (.int m54), .val (.ref b63), .val (.int (1 : Int32))] [])) (fun tg kk => XS.ifYes X138.here hx rfl (pc0 := 104) (pc' := 133) rfl (hb hby at_104) rfl ((if0 _ _).trans (teq hc139).1) (by decide) (by decide) kk) ?_
    refine OwnGo.back (T138.setTop (mkF m 135 #[.val (.int p1), .val (.int p2), .val (.int p3), .val (.int p4), .val (.int p5), .val (.ref b1), .val (.ref b22), .val (.ref r_40), .val (.ref r_42), .val (.int m44), .val (.int m54), .val (.ref b63), .val (.int (1 : Int32))] [(.int m54)])) (fun tg kk => XS.iload X138.here hx rfl (hb hby at_133) rfl kk) ?_
    by_cases hc140 : m54 = (0 : Int32)
    ·
      refine OwnGo.back (T138.setTop (mkF m 219 #[.val (.int p1), .val (.int p2), .val (.int p3), .val (.int p4), .val (.int p5), .val (.ref b1), .val (.ref b22), .val (.ref r_40), .val (.ref r_42), .val (.int m44), .val (.int m54), .val (.ref b63), .val (.int (1 : Int32))] [])) (fun tg kk => XS.ifYes X138.here hx rfl (pc0 := 135) (pc' := 219) rfl (hb hby at_135) rfl ((if0 _ _).trans (teq hc140).1) (by decide) (by decide) kk) ?_
      refine OwnGo.back (T138.setTop (mkF m 221 #[.val (.int p1), .val (.int p2), .val (.int p3), .val (.int p4), .val (.int p5), .val (.ref b1), .val (.ref b22), .val (.ref r_40), .val (.ref r_42), .val (.int m44), .val (.int m54), .val (.ref b63), .val (.int (1 : Int32))] [(.int (1 : Int32))])) (fun tg kk => XS.iload X138.here hx rfl (hb hby at_219) rfl kk) ?_
      refine OwnGo.back (T138.setTop (mkF m 224 #[.val (.int p1), .val (.int p2), .val (.int p3), .val (.int p4), .val (.int p5), .val (.ref b1), .val (.ref b22), .val (.ref r_40), .val (.ref r_42), .val (.int m44), .val (.int m54), .val (.ref b63), .val (.int (1 : Int32))] [])) (fun tg kk => XS.ifNo X138.here hx rfl (hb hby at_221) rfl ((if0 _ _).trans (feq (by decide : ¬ ((1 : Int32) = (0 : Int32)))).1) kk) ?_
      refine OwnGo.back (T138.setTop (mkF m 226 #[.val (.int p1), .val (.int p2), .val (.int p3), .val (.int p4), .val (.int p5), .val (.ref b1), .val (.ref b22), .val (.ref r_40), .val (.ref r_42), .val (.int m44), .val (.int m54), .val (.ref b63), .val (.int (1 : Int32))] [(.ref b63)])) (fun tg kk => XS.aload X138.here hx rfl (hb hby at_224) rfl rfl kk) ?_
      obtain ⟨cq141, kq141, q141a, q141b, q141c⟩ := isOf hZ e138 po89
      obtain ⟨_, _, ⟨T141, L141, k141, n141⟩, -, X141, ⟨Lc141, hQ141, l141, y141, z141⟩, st141⟩ := X138.virtualBack hx (y := (⟨"com/example/lucid_policy/lucidpolicy/parse/Symbol", "declared", "()Z"⟩ : MethodName)) (z := (⟨"com/example/lucid_policy/lucidpolicy/parse/Symbol", "declared", "()Z"⟩ : MethodName)) hown (mvT hZ (hw _ (List.mem_of_getElem? (i := 78) rfl))) (mvT hZ (hw _ (List.mem_of_getElem? (i := 79) rfl))) (notFace_of_selects (args := #[]) (mvT hZ (hw _ (List.mem_of_getElem? (i := 81) rfl)))) (mvT hZ (hw _ (List.mem_of_getElem? (i := 81) rfl))) (mvT hZ (hw _ (List.mem_of_getElem? (i := 80) rfl))) (by decide) (backOf (W := 0) (own_den l Z a0 hw [] b63 T78.heap n0 Z117 po92) hZ (hw _ (List.mem_of_getElem? (i := 82) rfl)) (hw _ (List.mem_of_getElem? (i := 42) rfl)) (by decide) (by decide)) q141a q141c (g := (mkF m 226 #[.val (.int p1), .val (.int p2), .val (.int p3), .val (.int p4), .val (.int p5), .val (.ref b1), .val (.ref b22), .val (.ref r_40), .val (.ref r_42), .val (.int m44), .val (.int m54), .val (.ref b63), .val (.int (1 : Int32))] [(.ref b63)])) rfl (by rw [hml]; rfl) (Steps.refl _) (argsL := []) (rest := []) (lenOf own_pd17 rfl) rfl (by show 2 * 0 + _ ≤ _; exact Nat.le_of_eq rfl) (hb hby at_226) (fun _ _ => ⟨rfl, e138, (by decide : 8 + 0 ≤ _), (by decide : 22 + 0 ≤ _)⟩)
      dsimp only [Pt.U, Pt.locs, Pt.cells, Pt.slots] at X141 l141 y141 z141 st141 hQ141
      subst l141 y141 z141
      obtain ⟨rfl, N141q, e141⟩ := hQ141
      have N141 := Fr.app N138 N141q
      refine OwnGo.back (T141.setTop (mkF m 229 #[.val (.int p1), .val (.int p2), .val (.int p3), .val (.int p4), .val (.int p5), .val (.ref b1), .val (.ref b22), .val (.ref r_40), .val (.ref r_42), .val (.int m44), .val (.int m54), .val (.ref b63), .val (.int (1 : Int32))] [(.int (0 : Int32))])) (fun tg kk => st141.trans kk) ?_
      refine OwnGo.back (T141.setTop (mkF m 232 #[.val (.int p1), .val (.int p2), .val (.int p3), .val (.int p4), .val (.int p5), .val (.ref b1), .val (.ref b22), .val (.ref r_40), .val (.ref r_42), .val (.int m44), .val (.int m54), .val (.ref b63), .val (.int (1 : Int32))] [])) (fun tg kk => XS.ifNo X141.here hx rfl (hb hby at_229) rfl ((if0 _ _).trans (teq (by decide : (0 : Int32) = (0 : Int32))).2) kk) ?_
      refine OwnGo.back (T141.setTop (mkF m 234 #[.val (.int p1), .val (.int p2), .val (.int p3), .val (.int p4), .val (.int p5), .val (.ref b1), .val (.ref b22), .val (.ref r_40), .val (.ref r_42), .val (.int m44), .val (.int m54), .val (.ref b63), .val (.int (1 : Int32))] [(.ref b63)])) (fun tg kk => XS.aload X141.here hx rfl (hb hby at_232) rfl rfl kk) ?_
      obtain ⟨cq142, kq142, q142a, q142b, q142c⟩ := isOf hZ e141 po89
      obtain ⟨_, _, ⟨T142, L142, k142, n142⟩, -, X142, ⟨Lc142, hQ142, l142, y142, z142⟩, st142⟩ := X141.virtualBack hx (y := (⟨"com/example/lucid_policy/lucidpolicy/parse/Symbol", "kind", "()Lcom/example/lucid_policy/lucidpolicy/parse/SymbolKind;"⟩ : MethodName)) (z := (⟨"com/example/lucid_policy/lucidpolicy/parse/Symbol", "kind", "()Lcom/example/lucid_policy/lucidpolicy/parse/SymbolKind;"⟩ : MethodName)) hown (mvT hZ (hw _ (List.mem_of_getElem? (i := 85) rfl))) (mvT hZ (hw _ (List.mem_of_getElem? (i := 86) rfl))) (notFace_of_selects (args := #[]) (mvT hZ (hw _ (List.mem_of_getElem? (i := 88) rfl)))) (mvT hZ (hw _ (List.mem_of_getElem? (i := 88) rfl))) (mvT hZ (hw _ (List.mem_of_getElem? (i := 87) rfl))) (by decide) (backOf (W := 0) (own_kin l Z a0 hw [] b63 T78.heap n0 Z117 po92) hZ (hw _ (List.mem_of_getElem? (i := 89) rfl)) (hw _ (List.mem_of_getElem? (i := 42) rfl)) (by decide) (by decide)) q142a q142c (g := (mkF m 234 #[.val (.int p1), .val (.int p2), .val (.int p3), .val (.int p4), .val (.int p5), .val (.ref b1), .val (.ref b22), .val (.ref r_40), .val (.ref r_42), .val (.int m44), .val (.int m54), .val (.ref b63), .val (.int (1 : Int32))] [(.ref b63)])) rfl (by rw [hml]; rfl) (Steps.refl _) (argsL := []) (rest := []) (lenOf own_pd18 rfl) rfl (by show 2 * 0 + _ ≤ _; exact Nat.le_of_eq rfl) (hb hby at_234) (fun _ _ => ⟨rfl, e141, (by decide : 8 + 0 ≤ _), (by decide : 22 + 0 ≤ _)⟩)
      dsimp only [Pt.U, Pt.locs, Pt.cells, Pt.slots] at X142 l142 y142 z142 st142 hQ142
      subst l142 y142 z142
      obtain ⟨rfl, N142q, e142⟩ := hQ142
      have N142 := Fr.app N141 N142q
      refine OwnGo.back (T142.setTop (mkF m 237 #[.val (.int p1), .val (.int p2), .val (.int p3), .val (.int p4), .val (.int p5), .val (.ref b1), .val (.ref b22), .val (.ref r_40), .val (.ref r_42), .val (.int m44), .val (.int m54), .val (.ref b63), .val (.int (1 : Int32))] [.null])) (fun tg kk => st142.trans kk) ?_
      refine OwnGo.back (T142.setTop (mkF m 240 #[.val (.int p1), .val (.int p2), .val (.int p3), .val (.int p4), .val (.int p5), .val (.ref b1), .val (.ref b22), .val (.ref r_40), .val (.ref r_42), .val (.int m44), .val (.int m54), .val (.ref b63), .val (.int (1 : Int32))] [])) (fun tg kk => XS.ifnonnullNo X142.here hx rfl (hb hby at_237) rfl kk) ?_
      refine OwnGo.back (T142.setTop (mkF m 241 #[.val (.int p1), .val (.int p2), .val (.int p3), .val (.int p4), .val (.int p5), .val (.ref b1), .val (.ref b22), .val (.ref r_40), .val (.ref r_42), .val (.int m44), .val (.int m54), .val (.ref b63), .val (.int (1 : Int32))] [(.int (1 : Int32))])) (fun tg kk => XS.iconst X142.here hx rfl (hb hby at_240) kk) ?_
      refine OwnGo.back (T142.setTop (mkF m 245 #[.val (.int p1), .val (.int p2), .val (.int p3), .val (.int p4), .val (.int p5), .val (.ref b1), .val (.ref b22), .val (.ref r_40), .val (.ref r_42), .val (.int m44), .val (.int m54), .val (.ref b63), .val (.int (1 : Int32))] [(.int (1 : Int32))])) (fun tg kk => XS.goto X142.here hx rfl (pc0 := 241) (pc' := 245) rfl (hb hby at_241) (by decide) (by decide) kk) ?_
      refine OwnGo.back (T142.setTop (mkF m 247 #[.val (.int p1), .val (.int p2), .val (.int p3), .val (.int p4), .val (.int p5), .val (.ref b1), .val (.ref b22), .val (.ref r_40), .val (.ref r_42), .val (.int m44), .val (.int m54), .val (.ref b63), .val (.int (1 : Int32))] [])) (fun tg kk => XS.istore X142.here hx rfl (hb hby at_245) rfl (l' := #[.val (.int p1), .val (.int p2), .val (.int p3), .val (.int p4), .val (.int p5), .val (.ref b1), .val (.ref b22), .val (.ref r_40), .val (.ref r_42), .val (.int m44), .val (.int m54), .val (.ref b63), .val (.int (1 : Int32))]) rfl kk) ?_
      refine OwnGo.back (T142.setTop (mkF m 249 #[.val (.int p1), .val (.int p2), .val (.int p3), .val (.int p4), .val (.int p5), .val (.ref b1), .val (.ref b22), .val (.ref r_40), .val (.ref r_42), .val (.int m44), .val (.int m54), .val (.ref b63), .val (.int (1 : Int32))] [(.int (1 : Int32))])) (fun tg kk => XS.iload X142.here hx rfl (hb hby at_247) rfl kk) ?_
      obtain ⟨fs, hr, hrun, hended, hW, hsame⟩ := X142.leave (v := some (.int (1 : Int32))) (fun h => by rw [Bd.returns] at h; cases h)
      refine ⟨_, _, ?_, hrun, hended, _, _, rfl, ?_, ⟨_, rfl⟩, hW, hsame.mono (by decide) (by decide)⟩
      · exact retN X142 hx (t := .boolean) Bd.returns (by simp) (hb hby at_249) hr
      · show own_law_Q Z p1 p2 p3 p4 p5 cs y0 y1 y2 y3 y4 y5 y6 mr h0 n0 _ T142.heap _
        rw [e142]
        exact ⟨rfl, N142, K116⟩
    ·
      refine OwnGo.back (T138.setTop (mkF m 138 #[.val (.int p1), .val (.int p2), .val (.int p3), .val (.int p4), .val (.int p5), .val (.ref b1), .val (.ref b22), .val (.ref r_40), .val (.ref r_42), .val (.int m44), .val (.int m54), .val (.ref b63), .val (.int (1 : Int32))] [])) (fun tg kk => XS.ifNo X138.here hx rfl (hb hby at_135) rfl ((if0 _ _).trans (feq hc140).1) kk) ?_
      refine OwnGo.back (T138.setTop (mkF m 140 #[.val (.int p1), .val (.int p2), .val (.int p3), .val (.int p4), .val (.int p5), .val (.ref b1), .val (.ref b22), .val (.ref r_40), .val (.ref r_42), .val (.int m44), .val (.int m54), .val (.ref b63), .val (.int (1 : Int32))] [(.ref b63)])) (fun tg kk => XS.aload X138.here hx rfl (hb hby at_138) rfl rfl kk) ?_
      refine OwnGo.back (T138.setTop (mkF m 142 #[.val (.int p1), .val (.int p2), .val (.int p3), .val (.int p4), .val (.int p5), .val (.ref b1), .val (.ref b22), .val (.ref r_40), .val (.ref r_42), .val (.int m44), .val (.int m54), .val (.ref b63), .val (.int (1 : Int32))] [(.ref r_40), (.ref b63)])) (fun tg kk => XS.aload X138.here hx rfl (hb hby at_140) rfl rfl kk) ?_
      refine OwnGo.back (T138.setTop (mkF m 143 #[.val (.int p1), .val (.int p2), .val (.int p3), .val (.int p4), .val (.int p5), .val (.ref b1), .val (.ref b22), .val (.ref r_40), .val (.ref r_42), .val (.int m44), .val (.int m54), .val (.ref b63), .val (.int (1 : Int32))] [.null, (.ref r_40), (.ref b63)])) (fun tg kk => XS.aconstNull X138.here hx rfl (hb hby at_142) kk) ?_
      refine OwnGo.back (T138.setTop (mkF m 144 #[.val (.int p1), .val (.int p2), .val (.int p3), .val (.int p4), .val (.int p5), .val (.ref b1), .val (.ref b22), .val (.ref r_40), .val (.ref r_42), .val (.int m44), .val (.int m54), .val (.ref b63), .val (.int (1 : Int32))] [.null, .null, (.ref r_40), (.ref b63)])) (fun tg kk => XS.aconstNull X138.here hx rfl (hb hby at_143) kk) ?_
      obtain ⟨cq143, kq143, q143a, q143b, q143c⟩ := isOf hZ e138 po89
      obtain ⟨_, _, ⟨T143, L143, k143, n143⟩, -, X143, ⟨Lc143, hQ143, l143, y143, z143⟩, st143⟩ := X138.virtualBack hx (y := (⟨"com/example/lucid_policy/lucidpolicy/parse/Symbol", "declare", "(Lcom/example/lucid_policy/lucidpolicy/parse/SymbolKind;Lcom/example/lucid_policy/lucidpolicy/model/SourceLocation;Lcom/example/lucid_policy/lucidpolicy/parse/Block;)V"⟩ : MethodName)) (z := (⟨"com/example/lucid_policy/lucidpolicy/parse/Symbol", "declare", "(Lcom/example/lucid_policy/lucidpolicy/parse/SymbolKind;Lcom/example/lucid_policy/lucidpolicy/model/SourceLocation;Lcom/example/lucid_policy/lucidpolicy/parse/Block;)V"⟩ : MethodName)) hown (mvT hZ (hw _ (List.mem_of_getElem? (i := 115) rfl))) (mvT hZ (hw _ (List.mem_of_getElem? (i := 116) rfl))) (notFace_of_selects (args := #[]) (mvT hZ (hw _ (List.mem_of_getElem? (i := 118) rfl)))) (mvT hZ (hw _ (List.mem_of_getElem? (i := 118) rfl))) (mvT hZ (hw _ (List.mem_of_getElem? (i := 117) rfl))) (by decide) (backOf (W := 0) (own_de1 l Z a0 hw [] b63 r_40 d_79 da_80 kd_83 T78.heap n0 Z117 po89 po90 po92 po93 po94 po95 po96 po97 po98 po99 g66 g121 g126 n120 n125 po106) hZ (hw _ (List.mem_of_getElem? (i := 119) rfl)) (hw _ (List.mem_of_getElem? (i := 42) rfl)) (by decide) (by decide)) q143a q143c (g := (mkF m 144 #[.val (.int p1), .val (.int p2), .val (.int p3), .val (.int p4), .val (.int p5), .val (.ref b1), .val (.ref b22), .val (.ref r_40), .val (.ref r_42), .val (.int m44), .val (.int m54), .val (.ref b63), .val (.int (1 : Int32))] [.null, .null, (.ref r_40), (.ref b63)])) rfl (by rw [hml]; rfl) (Steps.refl _) (argsL := [(.ref r_40), .null, .null]) (rest := []) (lenOf own_pd19 rfl) rfl (by show 2 * 0 + _ ≤ _; exact Nat.le_of_eq rfl) (hb hby at_144) (fun _ _ => ⟨rfl, e138, (by decide : 8 + 0 ≤ _), (by decide : 22 + 0 ≤ _)⟩)
      dsimp only [Pt.U, Pt.locs, Pt.cells, Pt.slots] at X143 l143 y143 z143 st143 hQ143
      subst l143 y143 z143
      obtain ⟨rfl, N143q, Kc143, po144, po145, po146, po147, po148, po149, po150, po151⟩ := hQ143
      have N143 := Fr.app N138 N143q
      have f152 : Old Z n0 T143.heap := f112.keep Kc143 (allS g66 (allS g121 (allS g126 all0)))
      have f153 : Arv Z T143.heap b1 k1 .char (2 : Int32) [(.int ((p1 &&& (255 : Int32)).toUInt32.toUInt16.toUInt32.toInt32)), (.int ((p2 &&& (255 : Int32)).toUInt32.toUInt16.toUInt32.toInt32))] (.int (0 : Int32)) := f113.keep Kc143 (ninS n64 (ninS n118 (ninS n123 nin0)))
      have f154 : Exa Z T143.heap b22 "java/lang/String" := f114.keep Kc143
      have f155 : Exa Z T143.heap b63 "com/example/lucid_policy/lucidpolicy/parse/Symbol" := po89.keep Kc143
      have f156 : Exa Z T143.heap d_79 "java/util/ArrayList" := po94.keep Kc143
      have f157 : Exa Z T143.heap da_80 "[Ljava/lang/Object;" := po98.keep Kc143
      have f158 : Exa Z T143.heap r_81 "java/util/ArrayList" := po100.keep Kc143
      have f159 : Fld Z T143.heap r_81 "java/util/AbstractList" "modCount" "I" (.int (0 : Int32)) := po101.keep Kc143 (ninS (Ne.symm n130) (ninS (Ne.symm po107) (ninS (Ne.symm po109) nin0)))
      have f160 : Fld Z T143.heap r_81 "java/util/ArrayList" "elementData" "[Ljava/lang/Object;" (.ref ra_82) := po102.keep Kc143 (ninS (Ne.symm n130) (ninS (Ne.symm po107) (ninS (Ne.symm po109) nin0)))
      have f161 : Fld Z T143.heap r_81 "java/util/ArrayList" "size" "I" (.int (0 : Int32)) := po103.keep Kc143 (ninS (Ne.symm n130) (ninS (Ne.symm po107) (ninS (Ne.symm po109) nin0)))
      have f162 : Exa Z T143.heap ra_82 "[Ljava/lang/Object;" := po104.keep Kc143
      have f163 : Arv Z T143.heap ra_82 kr_84 (.object "java/lang/Object") (1 : Int32) [.null] .null := po105.keep Kc143 (ninS (Ne.symm n135) (ninS (Ne.symm po108) (ninS (Ne.symm po110) nin0)))
      have K164 : Keep h0 T143.heap [] := K116.trans Kc143 (allS (Or.inr s67) (allS (Or.inr s122) (allS (Or.inr s127) all0)))
      have Z165 : n0 ≤ T143.heap.size := Nat.le_trans Z117 Kc143.1
      refine OwnGo.back (T143.setTop (mkF m 147 #[.val (.int p1), .val (.int p2), .val (.int p3), .val (.int p4), .val (.int p5), .val (.ref b1), .val (.ref b22), .val (.ref r_40), .val (.ref r_42), .val (.int m44), .val (.int m54), .val (.ref b63), .val (.int (1 : Int32))] [])) (fun tg kk => st143.trans kk) ?_
      refine OwnGo.back (T143.setTop (mkF m 149 #[.val (.int p1), .val (.int p2), .val (.int p3), .val (.int p4), .val (.int p5), .val (.ref b1), .val (.ref b22), .val (.ref r_40), .val (.ref r_42), .val (.int m44), .val (.int m54), .val (.ref b63), .val (.int (1 : Int32))] [(.int (1 : Int32))])) (fun tg kk => XS.iload X143.here hx rfl (hb hby at_147) rfl kk) ?_
      refine OwnGo.back (T143.setTop (mkF m 152 #[.val (.int p1), .val (.int p2), .val (.int p3), .val (.int p4), .val (.int p5), .val (.ref b1), .val (.ref b22), .val (.ref r_40), .val (.ref r_42), .val (.int m44), .val (.int m54), .val (.ref b63), .val (.int (1 : Int32))] [])) (fun tg kk => XS.ifNo X143.here hx rfl (hb hby at_149) rfl ((if0 _ _).trans (feq (by decide : ¬ ((1 : Int32) = (0 : Int32)))).1) kk) ?_
      refine OwnGo.back (T143.setTop (mkF m 154 #[.val (.int p1), .val (.int p2), .val (.int p3), .val (.int p4), .val (.int p5), .val (.ref b1), .val (.ref b22), .val (.ref r_40), .val (.ref r_42), .val (.int m44), .val (.int m54), .val (.ref b63), .val (.int (1 : Int32))] [(.ref b63)])) (fun tg kk => XS.aload X143.here hx rfl (hb hby at_152) rfl rfl kk) ?_
      obtain ⟨cq166, kq166, q166a, q166b, q166c⟩ := isOf hZ rfl f155
      obtain ⟨_, _, ⟨T166, L166, k166, n166⟩, -, X166, ⟨Lc166, hQ166, l166, y166, z166⟩, st166⟩ := X143.virtualBack hx (y := (⟨"com/example/lucid_policy/lucidpolicy/parse/Symbol", "declared", "()Z"⟩ : MethodName)) (z := (⟨"com/example/lucid_policy/lucidpolicy/parse/Symbol", "declared", "()Z"⟩ : MethodName)) hown (mvT hZ (hw _ (List.mem_of_getElem? (i := 78) rfl))) (mvT hZ (hw _ (List.mem_of_getElem? (i := 79) rfl))) (notFace_of_selects (args := #[]) (mvT hZ (hw _ (List.mem_of_getElem? (i := 81) rfl)))) (mvT hZ (hw _ (List.mem_of_getElem? (i := 81) rfl))) (mvT hZ (hw _ (List.mem_of_getElem? (i := 80) rfl))) (by decide) (backOf (W := 0) (own_der l Z a0 hw [] b63 r_40 T143.heap n0 Z165 po144) hZ (hw _ (List.mem_of_getElem? (i := 82) rfl)) (hw _ (List.mem_of_getElem? (i := 42) rfl)) (by decide) (by decide)) q166a q166c (g := (mkF m 154 #[.val (.int p1), .val (.int p2), .val (.int p3), .val (.int p4), .val (.int p5), .val (.ref b1), .val (.ref b22), .val (.ref r_40), .val (.ref r_42), .val (.int m44), .val (.int m54), .val (.ref b63), .val (.int (1 : Int32))] [(.ref b63)])) rfl (by rw [hml]; rfl) (Steps.refl _) (argsL := []) (rest := []) (lenOf own_pd17 rfl) rfl (by show 2 * 0 + _ ≤ _; exact Nat.le_of_eq rfl) (hb hby at_154) (fun _ _ => ⟨rfl, rfl, (by decide : 8 + 0 ≤ _), (by decide : 22 + 0 ≤ _)⟩)
      dsimp only [Pt.U, Pt.locs, Pt.cells, Pt.slots] at X166 l166 y166 z166 st166 hQ166
      subst l166 y166 z166
      obtain ⟨rfl, N166q, e166⟩ := hQ166
      have N166 := Fr.app N143 N166q
      refine OwnGo.back (T166.setTop (mkF m 157 #[.val (.int p1), .val (.int p2), .val (.int p3), .val (.int p4), .val (.int p5), .val (.ref b1), .val (.ref b22), .val (.ref r_40), .val (.ref r_42), .val (.int m44), .val (.int m54), .val (.ref b63), .val (.int (1 : Int32))] [(.int (1 : Int32))])) (fun tg kk => st166.trans kk) ?_
      refine OwnGo.back (T166.setTop (mkF m 160 #[.val (.int p1), .val (.int p2), .val (.int p3), .val (.int p4), .val (.int p5), .val (.ref b1), .val (.ref b22), .val (.ref r_40), .val (.ref r_42), .val (.int m44), .val (.int m54), .val (.ref b63), .val (.int (1 : Int32))] [])) (fun tg kk => XS.ifNo X166.here hx rfl (hb hby at_157) rfl ((if0 _ _).trans (feq (by decide : ¬ ((1 : Int32) = (0 : Int32)))).1) kk) ?_
      refine OwnGo.back (T166.setTop (mkF m 162 #[.val (.int p1), .val (.int p2), .val (.int p3), .val (.int p4), .val (.int p5), .val (.ref b1), .val (.ref b22), .val (.ref r_40), .val (.ref r_42), .val (.int m44), .val (.int m54), .val (.ref b63), .val (.int (1 : Int32))] [(.ref b63)])) (fun tg kk => XS.aload X166.here hx rfl (hb hby at_160) rfl rfl kk) ?_
      obtain ⟨cq167, kq167, q167a, q167b, q167c⟩ := isOf hZ e166 f155
      obtain ⟨_, _, ⟨T167, L167, k167, n167⟩, -, X167, ⟨Lc167, hQ167, l167, y167, z167⟩, st167⟩ := X166.virtualBack hx (y := (⟨"com/example/lucid_policy/lucidpolicy/parse/Symbol", "kind", "()Lcom/example/lucid_policy/lucidpolicy/parse/SymbolKind;"⟩ : MethodName)) (z := (⟨"com/example/lucid_policy/lucidpolicy/parse/Symbol", "kind", "()Lcom/example/lucid_policy/lucidpolicy/parse/SymbolKind;"⟩ : MethodName)) hown (mvT hZ (hw _ (List.mem_of_getElem? (i := 85) rfl))) (mvT hZ (hw _ (List.mem_of_getElem? (i := 86) rfl))) (notFace_of_selects (args := #[]) (mvT hZ (hw _ (List.mem_of_getElem? (i := 88) rfl)))) (mvT hZ (hw _ (List.mem_of_getElem? (i := 88) rfl))) (mvT hZ (hw _ (List.mem_of_getElem? (i := 87) rfl))) (by decide) (backOf (W := 0) (own_kir l Z a0 hw [] b63 r_40 T143.heap n0 Z165 po144) hZ (hw _ (List.mem_of_getElem? (i := 89) rfl)) (hw _ (List.mem_of_getElem? (i := 42) rfl)) (by decide) (by decide)) q167a q167c (g := (mkF m 162 #[.val (.int p1), .val (.int p2), .val (.int p3), .val (.int p4), .val (.int p5), .val (.ref b1), .val (.ref b22), .val (.ref r_40), .val (.ref r_42), .val (.int m44), .val (.int m54), .val (.ref b63), .val (.int (1 : Int32))] [(.ref b63)])) rfl (by rw [hml]; rfl) (Steps.refl _) (argsL := []) (rest := []) (lenOf own_pd18 rfl) rfl (by show 2 * 0 + _ ≤ _; exact Nat.le_of_eq rfl) (hb hby at_162) (fun _ _ => ⟨rfl, e166, (by decide : 8 + 0 ≤ _), (by decide : 22 + 0 ≤ _)⟩)
      dsimp only [Pt.U, Pt.locs, Pt.cells, Pt.slots] at X167 l167 y167 z167 st167 hQ167
      subst l167 y167 z167
      obtain ⟨rfl, N167q, e167⟩ := hQ167
      have N167 := Fr.app N166 N167q
      refine OwnGo.back (T167.setTop (mkF m 165 #[.val (.int p1), .val (.int p2), .val (.int p3), .val (.int p4), .val (.int p5), .val (.ref b1), .val (.ref b22), .val (.ref r_40), .val (.ref r_42), .val (.int m44), .val (.int m54), .val (.ref b63), .val (.int (1 : Int32))] [(.ref r_40)])) (fun tg kk => st167.trans kk) ?_
      refine OwnGo.back (T167.setTop (mkF m 167 #[.val (.int p1), .val (.int p2), .val (.int p3), .val (.int p4), .val (.int p5), .val (.ref b1), .val (.ref b22), .val (.ref r_40), .val (.ref r_42), .val (.int m44), .val (.int m54), .val (.ref b63), .val (.int (1 : Int32))] [(.ref r_40), (.ref r_40)])) (fun tg kk => XS.aload X167.here hx rfl (hb hby at_165) rfl rfl kk) ?_
      refine OwnGo.back (T167.setTop (mkF m 170 #[.val (.int p1), .val (.int p2), .val (.int p3), .val (.int p4), .val (.int p5), .val (.ref b1), .val (.ref b22), .val (.ref r_40), .val (.ref r_42), .val (.int m44), .val (.int m54), .val (.ref b63), .val (.int (1 : Int32))] [])) (fun tg kk => Jvm.RoadKit.acmp (g := (mkF m 167 #[.val (.int p1), .val (.int p2), .val (.int p3), .val (.int p4), .val (.int p5), .val (.ref b1), .val (.ref b22), .val (.ref r_40), .val (.ref r_42), .val (.int m44), .val (.int m54), .val (.ref b63), .val (.int (1 : Int32))] [(.ref r_40), (.ref r_40)])) X167 hx rfl rfl rfl (pc0 := 167) (pc' := 170) (same := true) rfl (hb hby at_167) rfl (decide_eq_true rfl) (by decide) (by decide) kk) ?_
      refine OwnGo.back (T167.setTop (mkF m 171 #[.val (.int p1), .val (.int p2), .val (.int p3), .val (.int p4), .val (.int p5), .val (.ref b1), .val (.ref b22), .val (.ref r_40), .val (.ref r_42), .val (.int m44), .val (.int m54), .val (.ref b63), .val (.int (1 : Int32))] [(.int (1 : Int32))])) (fun tg kk => XS.iconst X167.here hx rfl (hb hby at_170) kk) ?_
      refine OwnGo.back (T167.setTop (mkF m 175 #[.val (.int p1), .val (.int p2), .val (.int p3), .val (.int p4), .val (.int p5), .val (.ref b1), .val (.ref b22), .val (.ref r_40), .val (.ref r_42), .val (.int m44), .val (.int m54), .val (.ref b63), .val (.int (1 : Int32))] [(.int (1 : Int32))])) (fun tg kk => XS.goto X167.here hx rfl (pc0 := 171) (pc' := 175) rfl (hb hby at_171) (by decide) (by decide) kk) ?_
      refine OwnGo.back (T167.setTop (mkF m 177 #[.val (.int p1), .val (.int p2), .val (.int p3), .val (.int p4), .val (.int p5), .val (.ref b1), .val (.ref b22), .val (.ref r_40), .val (.ref r_42), .val (.int m44), .val (.int m54), .val (.ref b63), .val (.int (1 : Int32))] [])) (fun tg kk => XS.istore X167.here hx rfl (hb hby at_175) rfl (l' := #[.val (.int p1), .val (.int p2), .val (.int p3), .val (.int p4), .val (.int p5), .val (.ref b1), .val (.ref b22), .val (.ref r_40), .val (.ref r_42), .val (.int m44), .val (.int m54), .val (.ref b63), .val (.int (1 : Int32))]) rfl kk) ?_
      refine OwnGo.back (T167.setTop (mkF m 179 #[.val (.int p1), .val (.int p2), .val (.int p3), .val (.int p4), .val (.int p5), .val (.ref b1), .val (.ref b22), .val (.ref r_40), .val (.ref r_42), .val (.int m44), .val (.int m54), .val (.ref b63), .val (.int (1 : Int32))] [(.ref b63)])) (fun tg kk => XS.aload X167.here hx rfl (hb hby at_177) rfl rfl kk) ?_
      refine OwnGo.back (T167.setTop (mkF m 181 #[.val (.int p1), .val (.int p2), .val (.int p3), .val (.int p4), .val (.int p5), .val (.ref b1), .val (.ref b22), .val (.ref r_40), .val (.ref r_42), .val (.int m44), .val (.int m54), .val (.ref b63), .val (.int (1 : Int32))] [(.ref r_42), (.ref b63)])) (fun tg kk => XS.aload X167.here hx rfl (hb hby at_179) rfl rfl kk) ?_
      refine OwnGo.back (T167.setTop (mkF m 182 #[.val (.int p1), .val (.int p2), .val (.int p3), .val (.int p4), .val (.int p5), .val (.ref b1), .val (.ref b22), .val (.ref r_40), .val (.ref r_42), .val (.int m44), .val (.int m54), .val (.ref b63), .val (.int (1 : Int32))] [.null, (.ref r_42), (.ref b63)])) (fun tg kk => XS.aconstNull X167.here hx rfl (hb hby at_181) kk) ?_
      refine OwnGo.back (T167.setTop (mkF m 183 #[.val (.int p1), .val (.int p2), .val (.int p3), .val (.int p4), .val (.int p5), .val (.ref b1), .val (.ref b22), .val (.ref r_40), .val (.ref r_42), .val (.int m44), .val (.int m54), .val (.ref b63), .val (.int (1 : Int32))] [.null, .null, (.ref r_42), (.ref b63)])) (fun tg kk => XS.aconstNull X167.here hx rfl (hb hby at_182) kk) ?_
      obtain ⟨cq168, kq168, q168a, q168b, q168c⟩ := isOf hZ e167 f155
      obtain ⟨_, _, ⟨T168, L168, k168, n168⟩, -, X168, ⟨Lc168, hQ168, l168, y168, z168⟩, st168⟩ := X167.virtualBack hx (y := (⟨"com/example/lucid_policy/lucidpolicy/parse/Symbol", "declare", "(Lcom/example/lucid_policy/lucidpolicy/parse/SymbolKind;Lcom/example/lucid_policy/lucidpolicy/model/SourceLocation;Lcom/example/lucid_policy/lucidpolicy/parse/Block;)V"⟩ : MethodName)) (z := (⟨"com/example/lucid_policy/lucidpolicy/parse/Symbol", "declare", "(Lcom/example/lucid_policy/lucidpolicy/parse/SymbolKind;Lcom/example/lucid_policy/lucidpolicy/model/SourceLocation;Lcom/example/lucid_policy/lucidpolicy/parse/Block;)V"⟩ : MethodName)) hown (mvT hZ (hw _ (List.mem_of_getElem? (i := 115) rfl))) (mvT hZ (hw _ (List.mem_of_getElem? (i := 116) rfl))) (notFace_of_selects (args := #[]) (mvT hZ (hw _ (List.mem_of_getElem? (i := 118) rfl)))) (mvT hZ (hw _ (List.mem_of_getElem? (i := 118) rfl))) (mvT hZ (hw _ (List.mem_of_getElem? (i := 117) rfl))) (by decide) (backOf (W := 0) (own_de2 l Z a0 hw [] b63 r_42 r_40 d_79 da_80 kd_83 mr T143.heap n0 Z165 hM po145 po144 po146 po147 po148 po149 po150 po151 g121 po106) hZ (hw _ (List.mem_of_getElem? (i := 119) rfl)) (hw _ (List.mem_of_getElem? (i := 42) rfl)) (by decide) (by decide)) q168a q168c (g := (mkF m 183 #[.val (.int p1), .val (.int p2), .val (.int p3), .val (.int p4), .val (.int p5), .val (.ref b1), .val (.ref b22), .val (.ref r_40), .val (.ref r_42), .val (.int m44), .val (.int m54), .val (.ref b63), .val (.int (1 : Int32))] [.null, .null, (.ref r_42), (.ref b63)])) rfl (by rw [hml]; rfl) (Steps.refl _) (argsL := [(.ref r_42), .null, .null]) (rest := []) (lenOf own_pd19 rfl) rfl (by show 2 * 0 + _ ≤ _; exact Nat.le_of_eq rfl) (hb hby at_183) (fun _ _ => ⟨rfl, e167, (by decide : 8 + 1 ≤ _), (by decide : 22 + 2 ≤ _)⟩)
      dsimp only [Pt.U, Pt.locs, Pt.cells, Pt.slots] at X168 l168 y168 z168 st168 hQ168
      subst l168 y168 z168
      obtain ⟨rfl, N168q, Kc168, po169⟩ := hQ168
      have N168 := Fr.app N167 N168q
      have f170 : Old Z n0 T168.heap := f152.keep Kc168 (allS g121 all0)
      have f171 : Arv Z T168.heap b1 k1 .char (2 : Int32) [(.int ((p1 &&& (255 : Int32)).toUInt32.toUInt16.toUInt32.toInt32)), (.int ((p2 &&& (255 : Int32)).toUInt32.toUInt16.toUInt32.toInt32))] (.int (0 : Int32)) := f153.keep Kc168 (ninS n118 nin0)
      have f172 : Exa Z T168.heap b22 "java/lang/String" := f154.keep Kc168
      have f173 : Exa Z T168.heap b63 "com/example/lucid_policy/lucidpolicy/parse/Symbol" := f155.keep Kc168
      have f174 : Exa Z T168.heap d_79 "java/util/ArrayList" := po146.keep Kc168
      have f175 : Exa Z T168.heap da_80 "[Ljava/lang/Object;" := po150.keep Kc168
      have f176 : Exa Z T168.heap r_81 "java/util/ArrayList" := f158.keep Kc168
      have f177 : Fld Z T168.heap r_81 "java/util/AbstractList" "modCount" "I" (.int (0 : Int32)) := f159.keep Kc168 (ninS (Ne.symm po107) nin0)
      have f178 : Fld Z T168.heap r_81 "java/util/ArrayList" "elementData" "[Ljava/lang/Object;" (.ref ra_82) := f160.keep Kc168 (ninS (Ne.symm po107) nin0)
      have f179 : Fld Z T168.heap r_81 "java/util/ArrayList" "size" "I" (.int (0 : Int32)) := f161.keep Kc168 (ninS (Ne.symm po107) nin0)
      have f180 : Exa Z T168.heap ra_82 "[Ljava/lang/Object;" := f162.keep Kc168
      have f181 : Arv Z T168.heap ra_82 kr_84 (.object "java/lang/Object") (1 : Int32) [.null] .null := f163.keep Kc168 (ninS (Ne.symm po108) nin0)
      have f182 : Fld Z T168.heap b63 "com/example/lucid_policy/lucidpolicy/parse/Symbol" "kind" "Lcom/example/lucid_policy/lucidpolicy/parse/SymbolKind;" (.ref r_40) := po144.keep Kc168 (ninS n120 nin0)
      have f183 : Fld Z T168.heap b63 "com/example/lucid_policy/lucidpolicy/parse/Symbol" "declaredIn" "Ljava/util/List;" (.ref d_79) := po145.keep Kc168 (ninS n120 nin0)
      have f184 : Arv Z T168.heap da_80 kd_83 (.object "java/lang/Object") (1 : Int32) [.null] .null := po151.keep Kc168 (ninS (Ne.symm po106) nin0)
      have K185 : Keep h0 T168.heap [] := K164.trans Kc168 (allS (Or.inr s122) all0)
      have Z186 : n0 ≤ T168.heap.size := Nat.le_trans Z165 Kc168.1
      refine OwnGo.back (T168.setTop (mkF m 186 #[.val (.int p1), .val (.int p2), .val (.int p3), .val (.int p4), .val (.int p5), .val (.ref b1), .val (.ref b22), .val (.ref r_40), .val (.ref r_42), .val (.int m44), .val (.int m54), .val (.ref b63), .val (.int (1 : Int32))] [])) (fun tg kk => st168.trans kk) ?_
      refine OwnGo.back (T168.setTop (mkF m 188 #[.val (.int p1), .val (.int p2), .val (.int p3), .val (.int p4), .val (.int p5), .val (.ref b1), .val (.ref b22), .val (.ref r_40), .val (.ref r_42), .val (.int m44), .val (.int m54), .val (.ref b63), .val (.int (1 : Int32))] [(.int (1 : Int32))])) (fun tg kk => XS.iload X168.here hx rfl (hb hby at_186) rfl kk) ?_
      refine OwnGo.back (T168.setTop (mkF m 191 #[.val (.int p1), .val (.int p2), .val (.int p3), .val (.int p4), .val (.int p5), .val (.ref b1), .val (.ref b22), .val (.ref r_40), .val (.ref r_42), .val (.int m44), .val (.int m54), .val (.ref b63), .val (.int (1 : Int32))] [])) (fun tg kk => XS.ifNo X168.here hx rfl (hb hby at_188) rfl ((if0 _ _).trans (feq (by decide : ¬ ((1 : Int32) = (0 : Int32)))).1) kk) ?_
      refine OwnGo.back (T168.setTop (mkF m 193 #[.val (.int p1), .val (.int p2), .val (.int p3), .val (.int p4), .val (.int p5), .val (.ref b1), .val (.ref b22), .val (.ref r_40), .val (.ref r_42), .val (.int m44), .val (.int m54), .val (.ref b63), .val (.int (1 : Int32))] [(.ref b63)])) (fun tg kk => XS.aload X168.here hx rfl (hb hby at_191) rfl rfl kk) ?_
      obtain ⟨cq187, kq187, q187a, q187b, q187c⟩ := isOf hZ rfl f173
      obtain ⟨_, _, ⟨T187, L187, k187, n187⟩, -, X187, ⟨Lc187, hQ187, l187, y187, z187⟩, st187⟩ := X168.virtualBack hx (y := (⟨"com/example/lucid_policy/lucidpolicy/parse/Symbol", "declared", "()Z"⟩ : MethodName)) (z := (⟨"com/example/lucid_policy/lucidpolicy/parse/Symbol", "declared", "()Z"⟩ : MethodName)) hown (mvT hZ (hw _ (List.mem_of_getElem? (i := 78) rfl))) (mvT hZ (hw _ (List.mem_of_getElem? (i := 79) rfl))) (notFace_of_selects (args := #[]) (mvT hZ (hw _ (List.mem_of_getElem? (i := 81) rfl)))) (mvT hZ (hw _ (List.mem_of_getElem? (i := 81) rfl))) (mvT hZ (hw _ (List.mem_of_getElem? (i := 80) rfl))) (by decide) (backOf (W := 0) (own_der l Z a0 hw [] b63 r_40 T168.heap n0 Z186 f182) hZ (hw _ (List.mem_of_getElem? (i := 82) rfl)) (hw _ (List.mem_of_getElem? (i := 42) rfl)) (by decide) (by decide)) q187a q187c (g := (mkF m 193 #[.val (.int p1), .val (.int p2), .val (.int p3), .val (.int p4), .val (.int p5), .val (.ref b1), .val (.ref b22), .val (.ref r_40), .val (.ref r_42), .val (.int m44), .val (.int m54), .val (.ref b63), .val (.int (1 : Int32))] [(.ref b63)])) rfl (by rw [hml]; rfl) (Steps.refl _) (argsL := []) (rest := []) (lenOf own_pd17 rfl) rfl (by show 2 * 0 + _ ≤ _; exact Nat.le_of_eq rfl) (hb hby at_193) (fun _ _ => ⟨rfl, rfl, (by decide : 9 + 0 ≤ _), (by decide : 24 + 0 ≤ _)⟩)
      dsimp only [Pt.U, Pt.locs, Pt.cells, Pt.slots] at X187 l187 y187 z187 st187 hQ187
      subst l187 y187 z187
      obtain ⟨rfl, N187q, e187⟩ := hQ187
      have N187 := Fr.app N168 N187q
      refine OwnGo.back (T187.setTop (mkF m 196 #[.val (.int p1), .val (.int p2), .val (.int p3), .val (.int p4), .val (.int p5), .val (.ref b1), .val (.ref b22), .val (.ref r_40), .val (.ref r_42), .val (.int m44), .val (.int m54), .val (.ref b63), .val (.int (1 : Int32))] [(.int (1 : Int32))])) (fun tg kk => st187.trans kk) ?_
      refine OwnGo.back (T187.setTop (mkF m 199 #[.val (.int p1), .val (.int p2), .val (.int p3), .val (.int p4), .val (.int p5), .val (.ref b1), .val (.ref b22), .val (.ref r_40), .val (.ref r_42), .val (.int m44), .val (.int m54), .val (.ref b63), .val (.int (1 : Int32))] [])) (fun tg kk => XS.ifNo X187.here hx rfl (hb hby at_196) rfl ((if0 _ _).trans (feq (by decide : ¬ ((1 : Int32) = (0 : Int32)))).1) kk) ?_
      refine OwnGo.back (T187.setTop (mkF m 201 #[.val (.int p1), .val (.int p2), .val (.int p3), .val (.int p4), .val (.int p5), .val (.ref b1), .val (.ref b22), .val (.ref r_40), .val (.ref r_42), .val (.int m44), .val (.int m54), .val (.ref b63), .val (.int (1 : Int32))] [(.ref b63)])) (fun tg kk => XS.aload X187.here hx rfl (hb hby at_199) rfl rfl kk) ?_
      obtain ⟨cq188, kq188, q188a, q188b, q188c⟩ := isOf hZ e187 f173
      obtain ⟨_, _, ⟨T188, L188, k188, n188⟩, -, X188, ⟨Lc188, hQ188, l188, y188, z188⟩, st188⟩ := X187.virtualBack hx (y := (⟨"com/example/lucid_policy/lucidpolicy/parse/Symbol", "kind", "()Lcom/example/lucid_policy/lucidpolicy/parse/SymbolKind;"⟩ : MethodName)) (z := (⟨"com/example/lucid_policy/lucidpolicy/parse/Symbol", "kind", "()Lcom/example/lucid_policy/lucidpolicy/parse/SymbolKind;"⟩ : MethodName)) hown (mvT hZ (hw _ (List.mem_of_getElem? (i := 85) rfl))) (mvT hZ (hw _ (List.mem_of_getElem? (i := 86) rfl))) (notFace_of_selects (args := #[]) (mvT hZ (hw _ (List.mem_of_getElem? (i := 88) rfl)))) (mvT hZ (hw _ (List.mem_of_getElem? (i := 88) rfl))) (mvT hZ (hw _ (List.mem_of_getElem? (i := 87) rfl))) (by decide) (backOf (W := 0) (own_kir l Z a0 hw [] b63 r_40 T168.heap n0 Z186 f182) hZ (hw _ (List.mem_of_getElem? (i := 89) rfl)) (hw _ (List.mem_of_getElem? (i := 42) rfl)) (by decide) (by decide)) q188a q188c (g := (mkF m 201 #[.val (.int p1), .val (.int p2), .val (.int p3), .val (.int p4), .val (.int p5), .val (.ref b1), .val (.ref b22), .val (.ref r_40), .val (.ref r_42), .val (.int m44), .val (.int m54), .val (.ref b63), .val (.int (1 : Int32))] [(.ref b63)])) rfl (by rw [hml]; rfl) (Steps.refl _) (argsL := []) (rest := []) (lenOf own_pd18 rfl) rfl (by show 2 * 0 + _ ≤ _; exact Nat.le_of_eq rfl) (hb hby at_201) (fun _ _ => ⟨rfl, e187, (by decide : 9 + 0 ≤ _), (by decide : 24 + 0 ≤ _)⟩)
      dsimp only [Pt.U, Pt.locs, Pt.cells, Pt.slots] at X188 l188 y188 z188 st188 hQ188
      subst l188 y188 z188
      obtain ⟨rfl, N188q, e188⟩ := hQ188
      have N188 := Fr.app N187 N188q
      refine OwnGo.back (T188.setTop (mkF m 204 #[.val (.int p1), .val (.int p2), .val (.int p3), .val (.int p4), .val (.int p5), .val (.ref b1), .val (.ref b22), .val (.ref r_40), .val (.ref r_42), .val (.int m44), .val (.int m54), .val (.ref b63), .val (.int (1 : Int32))] [(.ref r_40)])) (fun tg kk => st188.trans kk) ?_
      refine OwnGo.back (T188.setTop (mkF m 206 #[.val (.int p1), .val (.int p2), .val (.int p3), .val (.int p4), .val (.int p5), .val (.ref b1), .val (.ref b22), .val (.ref r_40), .val (.ref r_42), .val (.int m44), .val (.int m54), .val (.ref b63), .val (.int (1 : Int32))] [(.ref r_40), (.ref r_40)])) (fun tg kk => XS.aload X188.here hx rfl (hb hby at_204) rfl rfl kk) ?_
      refine OwnGo.back (T188.setTop (mkF m 209 #[.val (.int p1), .val (.int p2), .val (.int p3), .val (.int p4), .val (.int p5), .val (.ref b1), .val (.ref b22), .val (.ref r_40), .val (.ref r_42), .val (.int m44), .val (.int m54), .val (.ref b63), .val (.int (1 : Int32))] [])) (fun tg kk => Jvm.RoadKit.acmp (g := (mkF m 206 #[.val (.int p1), .val (.int p2), .val (.int p3), .val (.int p4), .val (.int p5), .val (.ref b1), .val (.ref b22), .val (.ref r_40), .val (.ref r_42), .val (.int m44), .val (.int m54), .val (.ref b63), .val (.int (1 : Int32))] [(.ref r_40), (.ref r_40)])) X188 hx rfl rfl rfl (pc0 := 206) (pc' := 209) (same := true) rfl (hb hby at_206) rfl (decide_eq_true rfl) (by decide) (by decide) kk) ?_
      refine OwnGo.back (T188.setTop (mkF m 210 #[.val (.int p1), .val (.int p2), .val (.int p3), .val (.int p4), .val (.int p5), .val (.ref b1), .val (.ref b22), .val (.ref r_40), .val (.ref r_42), .val (.int m44), .val (.int m54), .val (.ref b63), .val (.int (1 : Int32))] [(.int (1 : Int32))])) (fun tg kk => XS.iconst X188.here hx rfl (hb hby at_209) kk) ?_
      refine OwnGo.back (T188.setTop (mkF m 214 #[.val (.int p1), .val (.int p2), .val (.int p3), .val (.int p4), .val (.int p5), .val (.ref b1), .val (.ref b22), .val (.ref r_40), .val (.ref r_42), .val (.int m44), .val (.int m54), .val (.ref b63), .val (.int (1 : Int32))] [(.int (1 : Int32))])) (fun tg kk => XS.goto X188.here hx rfl (pc0 := 210) (pc' := 214) rfl (hb hby at_210) (by decide) (by decide) kk) ?_
      refine OwnGo.back (T188.setTop (mkF m 216 #[.val (.int p1), .val (.int p2), .val (.int p3), .val (.int p4), .val (.int p5), .val (.ref b1), .val (.ref b22), .val (.ref r_40), .val (.ref r_42), .val (.int m44), .val (.int m54), .val (.ref b63), .val (.int (1 : Int32))] [])) (fun tg kk => XS.istore X188.here hx rfl (hb hby at_214) rfl (l' := #[.val (.int p1), .val (.int p2), .val (.int p3), .val (.int p4), .val (.int p5), .val (.ref b1), .val (.ref b22), .val (.ref r_40), .val (.ref r_42), .val (.int m44), .val (.int m54), .val (.ref b63), .val (.int (1 : Int32))]) rfl kk) ?_
      refine OwnGo.back (T188.setTop (mkF m 247 #[.val (.int p1), .val (.int p2), .val (.int p3), .val (.int p4), .val (.int p5), .val (.ref b1), .val (.ref b22), .val (.ref r_40), .val (.ref r_42), .val (.int m44), .val (.int m54), .val (.ref b63), .val (.int (1 : Int32))] [])) (fun tg kk => XS.goto X188.here hx rfl (pc0 := 216) (pc' := 247) rfl (hb hby at_216) (by decide) (by decide) kk) ?_
      refine OwnGo.back (T188.setTop (mkF m 249 #[.val (.int p1), .val (.int p2), .val (.int p3), .val (.int p4), .val (.int p5), .val (.ref b1), .val (.ref b22), .val (.ref r_40), .val (.ref r_42), .val (.int m44), .val (.int m54), .val (.ref b63), .val (.int (1 : Int32))] [(.int (1 : Int32))])) (fun tg kk => XS.iload X188.here hx rfl (hb hby at_247) rfl kk) ?_
      obtain ⟨fs, hr, hrun, hended, hW, hsame⟩ := X188.leave (v := some (.int (1 : Int32))) (fun h => by rw [Bd.returns] at h; cases h)
      refine ⟨_, _, ?_, hrun, hended, _, _, rfl, ?_, ⟨_, rfl⟩, hW, hsame.mono (by decide) (by decide)⟩
      · exact retN X188 hx (t := .boolean) Bd.returns (by simp) (hb hby at_249) hr
      · show own_law_Q Z p1 p2 p3 p4 p5 cs y0 y1 y2 y3 y4 y5 y6 mr h0 n0 _ T188.heap _
        rw [e188]
        exact ⟨rfl, N188, K185⟩
  ·
    refine OwnGo.back (T138.setTop (mkF m 107 #[.val (.int p1), .val (.int p2), .val (.int p3), .val (.int p4), .val (.int p5), .val (.ref b1), .val (.ref b22), .val (.ref r_40), .val (.ref r_42), .val (.int m44), .val (.int m54), .val (.ref b63), .val (.int (1 : Int32))] [])) (fun tg kk => XS.ifNo X138.here hx rfl (hb hby at_104) rfl ((if0 _ _).trans (feq hc139).1) kk) ?_
    refine OwnGo.back (T138.setTop (mkF m 109 #[.val (.int p1), .val (.int p2), .val (.int p3), .val (.int p4), .val (.int p5), .val (.ref b1), .val (.ref b22), .val (.ref r_40), .val (.ref r_42), .val (.int m44), .val (.int m54), .val (.ref b63), .val (.int (1 : Int32))] [(.ref b63)])) (fun tg kk => XS.aload X138.here hx rfl (hb hby at_107) rfl rfl kk) ?_
    refine OwnGo.back (T138.setTop (mkF m 110 #[.val (.int p1), .val (.int p2), .val (.int p3), .val (.int p4), .val (.int p5), .val (.ref b1), .val (.ref b22), .val (.ref r_40), .val (.ref r_42), .val (.int m44), .val (.int m54), .val (.ref b63), .val (.int (1 : Int32))] [.null, (.ref b63)])) (fun tg kk => XS.aconstNull X138.here hx rfl (hb hby at_109) kk) ?_
    obtain ⟨cq189, kq189, q189a, q189b, q189c⟩ := isOf hZ e138 po89
    obtain ⟨_, _, ⟨T189, L189, k189, n189⟩, -, X189, ⟨Lc189, hQ189, l189, y189, z189⟩, st189⟩ := X138.virtualBack hx (y := (⟨"com/example/lucid_policy/lucidpolicy/parse/Symbol", "require", "(Lcom/example/lucid_policy/lucidpolicy/parse/Block;)V"⟩ : MethodName)) (z := (⟨"com/example/lucid_policy/lucidpolicy/parse/Symbol", "require", "(Lcom/example/lucid_policy/lucidpolicy/parse/Block;)V"⟩ : MethodName)) hown (mvT hZ (hw _ (List.mem_of_getElem? (i := 92) rfl))) (mvT hZ (hw _ (List.mem_of_getElem? (i := 93) rfl))) (notFace_of_selects (args := #[]) (mvT hZ (hw _ (List.mem_of_getElem? (i := 95) rfl)))) (mvT hZ (hw _ (List.mem_of_getElem? (i := 95) rfl))) (mvT hZ (hw _ (List.mem_of_getElem? (i := 94) rfl))) (by decide) (backOf (W := 0) (own_req l Z a0 hw [] b63 r_81 ra_82 kr_84 T78.heap n0 Z117 po91 po100 po101 po102 po103 po104 po105 g131 g136 po111) hZ (hw _ (List.mem_of_getElem? (i := 96) rfl)) (hw _ (List.mem_of_getElem? (i := 42) rfl)) (by decide) (by decide)) q189a q189c (g := (mkF m 110 #[.val (.int p1), .val (.int p2), .val (.int p3), .val (.int p4), .val (.int p5), .val (.ref b1), .val (.ref b22), .val (.ref r_40), .val (.ref r_42), .val (.int m44), .val (.int m54), .val (.ref b63), .val (.int (1 : Int32))] [.null, (.ref b63)])) rfl (by rw [hml]; rfl) (Steps.refl _) (argsL := [.null]) (rest := []) (lenOf own_pd20 rfl) rfl (by show 2 * 0 + _ ≤ _; exact Nat.le_of_eq rfl) (hb hby at_110) (fun _ _ => ⟨rfl, e138, (by decide : 8 + 0 ≤ _), (by decide : 22 + 0 ≤ _)⟩)
    dsimp only [Pt.U, Pt.locs, Pt.cells, Pt.slots] at X189 l189 y189 z189 st189 hQ189
    subst l189 y189 z189
    obtain ⟨rfl, N189q, Kc189, po190⟩ := hQ189
    have N189 := Fr.app N138 N189q
    have f191 : Old Z n0 T189.heap := f112.keep Kc189 (allS g131 (allS g136 all0))
    have f192 : Arv Z T189.heap b1 k1 .char (2 : Int32) [(.int ((p1 &&& (255 : Int32)).toUInt32.toUInt16.toUInt32.toInt32)), (.int ((p2 &&& (255 : Int32)).toUInt32.toUInt16.toUInt32.toInt32))] (.int (0 : Int32)) := f113.keep Kc189 (ninS n128 (ninS n133 nin0))
    have f193 : Exa Z T189.heap b22 "java/lang/String" := f114.keep Kc189
    have f194 : Exa Z T189.heap b63 "com/example/lucid_policy/lucidpolicy/parse/Symbol" := po89.keep Kc189
    have f195 : Fld Z T189.heap b63 "com/example/lucid_policy/lucidpolicy/parse/Symbol" "declaredIn" "Ljava/util/List;" (.ref d_79) := po90.keep Kc189 (ninS n130 (ninS n135 nin0))
    have f196 : Fld Z T189.heap b63 "com/example/lucid_policy/lucidpolicy/parse/Symbol" "requiredIn" "Ljava/util/List;" (.ref r_81) := po91.keep Kc189 (ninS n130 (ninS n135 nin0))
    have f197 : Fld Z T189.heap b63 "com/example/lucid_policy/lucidpolicy/parse/Symbol" "kind" "Lcom/example/lucid_policy/lucidpolicy/parse/SymbolKind;" .null := po92.keep Kc189 (ninS n130 (ninS n135 nin0))
    have f198 : Fld Z T189.heap b63 "com/example/lucid_policy/lucidpolicy/parse/Symbol" "location" "Lcom/example/lucid_policy/lucidpolicy/model/SourceLocation;" .null := po93.keep Kc189 (ninS n130 (ninS n135 nin0))
    have f199 : Exa Z T189.heap d_79 "java/util/ArrayList" := po94.keep Kc189
    have f200 : Fld Z T189.heap d_79 "java/util/AbstractList" "modCount" "I" (.int (0 : Int32)) := po95.keep Kc189 (ninS po107 (ninS po108 nin0))
    have f201 : Fld Z T189.heap d_79 "java/util/ArrayList" "elementData" "[Ljava/lang/Object;" (.ref da_80) := po96.keep Kc189 (ninS po107 (ninS po108 nin0))
    have f202 : Fld Z T189.heap d_79 "java/util/ArrayList" "size" "I" (.int (0 : Int32)) := po97.keep Kc189 (ninS po107 (ninS po108 nin0))
    have f203 : Exa Z T189.heap da_80 "[Ljava/lang/Object;" := po98.keep Kc189
    have f204 : Arv Z T189.heap da_80 kd_83 (.object "java/lang/Object") (1 : Int32) [.null] .null := po99.keep Kc189 (ninS po109 (ninS po110 nin0))
    have f205 : Exa Z T189.heap r_81 "java/util/ArrayList" := po100.keep Kc189
    have f206 : Exa Z T189.heap ra_82 "[Ljava/lang/Object;" := po104.keep Kc189
    have K207 : Keep h0 T189.heap [] := K116.trans Kc189 (allS (Or.inr s132) (allS (Or.inr s137) all0))
    have Z208 : n0 ≤ T189.heap.size := Nat.le_trans Z117 Kc189.1
    refine OwnGo.back (T189.setTop (mkF m 113 #[.val (.int p1), .val (.int p2), .val (.int p3), .val (.int p4), .val (.int p5), .val (.ref b1), .val (.ref b22), .val (.ref r_40), .val (.ref r_42), .val (.int m44), .val (.int m54), .val (.ref b63), .val (.int (1 : Int32))] [])) (fun tg kk => st189.trans kk) ?_
    refine OwnGo.back (T189.setTop (mkF m 115 #[.val (.int p1), .val (.int p2), .val (.int p3), .val (.int p4), .val (.int p5), .val (.ref b1), .val (.ref b22), .val (.ref r_40), .val (.ref r_42), .val (.int m44), .val (.int m54), .val (.ref b63), .val (.int (1 : Int32))] [(.int (1 : Int32))])) (fun tg kk => XS.iload X189.here hx rfl (hb hby at_113) rfl kk) ?_
    refine OwnGo.back (T189.setTop (mkF m 118 #[.val (.int p1), .val (.int p2), .val (.int p3), .val (.int p4), .val (.int p5), .val (.ref b1), .val (.ref b22), .val (.ref r_40), .val (.ref r_42), .val (.int m44), .val (.int m54), .val (.ref b63), .val (.int (1 : Int32))] [])) (fun tg kk => XS.ifNo X189.here hx rfl (hb hby at_115) rfl ((if0 _ _).trans (feq (by decide : ¬ ((1 : Int32) = (0 : Int32)))).1) kk) ?_
    refine OwnGo.back (T189.setTop (mkF m 120 #[.val (.int p1), .val (.int p2), .val (.int p3), .val (.int p4), .val (.int p5), .val (.ref b1), .val (.ref b22), .val (.ref r_40), .val (.ref r_42), .val (.int m44), .val (.int m54), .val (.ref b63), .val (.int (1 : Int32))] [(.ref b63)])) (fun tg kk => XS.aload X189.here hx rfl (hb hby at_118) rfl rfl kk) ?_
    obtain ⟨cq209, kq209, q209a, q209b, q209c⟩ := isOf hZ rfl f194
    obtain ⟨_, _, ⟨T209, L209, k209, n209⟩, -, X209, ⟨Lc209, hQ209, l209, y209, z209⟩, st209⟩ := X189.virtualBack hx (y := (⟨"com/example/lucid_policy/lucidpolicy/parse/Symbol", "declared", "()Z"⟩ : MethodName)) (z := (⟨"com/example/lucid_policy/lucidpolicy/parse/Symbol", "declared", "()Z"⟩ : MethodName)) hown (mvT hZ (hw _ (List.mem_of_getElem? (i := 78) rfl))) (mvT hZ (hw _ (List.mem_of_getElem? (i := 79) rfl))) (notFace_of_selects (args := #[]) (mvT hZ (hw _ (List.mem_of_getElem? (i := 81) rfl)))) (mvT hZ (hw _ (List.mem_of_getElem? (i := 81) rfl))) (mvT hZ (hw _ (List.mem_of_getElem? (i := 80) rfl))) (by decide) (backOf (W := 0) (own_den l Z a0 hw [] b63 T189.heap n0 Z208 f197) hZ (hw _ (List.mem_of_getElem? (i := 82) rfl)) (hw _ (List.mem_of_getElem? (i := 42) rfl)) (by decide) (by decide)) q209a q209c (g := (mkF m 120 #[.val (.int p1), .val (.int p2), .val (.int p3), .val (.int p4), .val (.int p5), .val (.ref b1), .val (.ref b22), .val (.ref r_40), .val (.ref r_42), .val (.int m44), .val (.int m54), .val (.ref b63), .val (.int (1 : Int32))] [(.ref b63)])) rfl (by rw [hml]; rfl) (Steps.refl _) (argsL := []) (rest := []) (lenOf own_pd17 rfl) rfl (by show 2 * 0 + _ ≤ _; exact Nat.le_of_eq rfl) (hb hby at_120) (fun _ _ => ⟨rfl, rfl, (by decide : 8 + 0 ≤ _), (by decide : 22 + 0 ≤ _)⟩)
    dsimp only [Pt.U, Pt.locs, Pt.cells, Pt.slots] at X209 l209 y209 z209 st209 hQ209
    subst l209 y209 z209
    obtain ⟨rfl, N209q, e209⟩ := hQ209
    have N209 := Fr.app N189 N209q
    refine OwnGo.back (T209.setTop (mkF m 123 #[.val (.int p1), .val (.int p2), .val (.int p3), .val (.int p4), .val (.int p5), .val (.ref b1), .val (.ref b22), .val (.ref r_40), .val (.ref r_42), .val (.int m44), .val (.int m54), .val (.ref b63), .val (.int (1 : Int32))] [(.int (0 : Int32))])) (fun tg kk => st209.trans kk) ?_
    refine OwnGo.back (T209.setTop (mkF m 126 #[.val (.int p1), .val (.int p2), .val (.int p3), .val (.int p4), .val (.int p5), .val (.ref b1), .val (.ref b22), .val (.ref r_40), .val (.ref r_42), .val (.int m44), .val (.int m54), .val (.ref b63), .val (.int (1 : Int32))] [])) (fun tg kk => XS.ifNo X209.here hx rfl (hb hby at_123) rfl ((if0 _ _).trans (teq (by decide : (0 : Int32) = (0 : Int32))).2) kk) ?_
    refine OwnGo.back (T209.setTop (mkF m 127 #[.val (.int p1), .val (.int p2), .val (.int p3), .val (.int p4), .val (.int p5), .val (.ref b1), .val (.ref b22), .val (.ref r_40), .val (.ref r_42), .val (.int m44), .val (.int m54), .val (.ref b63), .val (.int (1 : Int32))] [(.int (1 : Int32))])) (fun tg kk => XS.iconst X209.here hx rfl (hb hby at_126) kk) ?_
    refine OwnGo.back (T209.setTop (mkF m 131 #[.val (.int p1), .val (.int p2), .val (.int p3), .val (.int p4), .val (.int p5), .val (.ref b1), .val (.ref b22), .val (.ref r_40), .val (.ref r_42), .val (.int m44), .val (.int m54), .val (.ref b63), .val (.int (1 : Int32))] [(.int (1 : Int32))])) (fun tg kk => XS.goto X209.here hx rfl (pc0 := 127) (pc' := 131) rfl (hb hby at_127) (by decide) (by decide) kk) ?_
    refine OwnGo.back (T209.setTop (mkF m 133 #[.val (.int p1), .val (.int p2), .val (.int p3), .val (.int p4), .val (.int p5), .val (.ref b1), .val (.ref b22), .val (.ref r_40), .val (.ref r_42), .val (.int m44), .val (.int m54), .val (.ref b63), .val (.int (1 : Int32))] [])) (fun tg kk => XS.istore X209.here hx rfl (hb hby at_131) rfl (l' := #[.val (.int p1), .val (.int p2), .val (.int p3), .val (.int p4), .val (.int p5), .val (.ref b1), .val (.ref b22), .val (.ref r_40), .val (.ref r_42), .val (.int m44), .val (.int m54), .val (.ref b63), .val (.int (1 : Int32))]) rfl kk) ?_
    refine OwnGo.back (T209.setTop (mkF m 135 #[.val (.int p1), .val (.int p2), .val (.int p3), .val (.int p4), .val (.int p5), .val (.ref b1), .val (.ref b22), .val (.ref r_40), .val (.ref r_42), .val (.int m44), .val (.int m54), .val (.ref b63), .val (.int (1 : Int32))] [(.int m54)])) (fun tg kk => XS.iload X209.here hx rfl (hb hby at_133) rfl kk) ?_
    by_cases hc210 : m54 = (0 : Int32)
    ·
      refine OwnGo.back (T209.setTop (mkF m 219 #[.val (.int p1), .val (.int p2), .val (.int p3), .val (.int p4), .val (.int p5), .val (.ref b1), .val (.ref b22), .val (.ref r_40), .val (.ref r_42), .val (.int m44), .val (.int m54), .val (.ref b63), .val (.int (1 : Int32))] [])) (fun tg kk => XS.ifYes X209.here hx rfl (pc0 := 135) (pc' := 219) rfl (hb hby at_135) rfl ((if0 _ _).trans (teq hc210).1) (by decide) (by decide) kk) ?_
      refine OwnGo.back (T209.setTop (mkF m 221 #[.val (.int p1), .val (.int p2), .val (.int p3), .val (.int p4), .val (.int p5), .val (.ref b1), .val (.ref b22), .val (.ref r_40), .val (.ref r_42), .val (.int m44), .val (.int m54), .val (.ref b63), .val (.int (1 : Int32))] [(.int (1 : Int32))])) (fun tg kk => XS.iload X209.here hx rfl (hb hby at_219) rfl kk) ?_
      refine OwnGo.back (T209.setTop (mkF m 224 #[.val (.int p1), .val (.int p2), .val (.int p3), .val (.int p4), .val (.int p5), .val (.ref b1), .val (.ref b22), .val (.ref r_40), .val (.ref r_42), .val (.int m44), .val (.int m54), .val (.ref b63), .val (.int (1 : Int32))] [])) (fun tg kk => XS.ifNo X209.here hx rfl (hb hby at_221) rfl ((if0 _ _).trans (feq (by decide : ¬ ((1 : Int32) = (0 : Int32)))).1) kk) ?_
      refine OwnGo.back (T209.setTop (mkF m 226 #[.val (.int p1), .val (.int p2), .val (.int p3), .val (.int p4), .val (.int p5), .val (.ref b1), .val (.ref b22), .val (.ref r_40), .val (.ref r_42), .val (.int m44), .val (.int m54), .val (.ref b63), .val (.int (1 : Int32))] [(.ref b63)])) (fun tg kk => XS.aload X209.here hx rfl (hb hby at_224) rfl rfl kk) ?_
      obtain ⟨cq211, kq211, q211a, q211b, q211c⟩ := isOf hZ e209 f194
      obtain ⟨_, _, ⟨T211, L211, k211, n211⟩, -, X211, ⟨Lc211, hQ211, l211, y211, z211⟩, st211⟩ := X209.virtualBack hx (y := (⟨"com/example/lucid_policy/lucidpolicy/parse/Symbol", "declared", "()Z"⟩ : MethodName)) (z := (⟨"com/example/lucid_policy/lucidpolicy/parse/Symbol", "declared", "()Z"⟩ : MethodName)) hown (mvT hZ (hw _ (List.mem_of_getElem? (i := 78) rfl))) (mvT hZ (hw _ (List.mem_of_getElem? (i := 79) rfl))) (notFace_of_selects (args := #[]) (mvT hZ (hw _ (List.mem_of_getElem? (i := 81) rfl)))) (mvT hZ (hw _ (List.mem_of_getElem? (i := 81) rfl))) (mvT hZ (hw _ (List.mem_of_getElem? (i := 80) rfl))) (by decide) (backOf (W := 0) (own_den l Z a0 hw [] b63 T189.heap n0 Z208 f197) hZ (hw _ (List.mem_of_getElem? (i := 82) rfl)) (hw _ (List.mem_of_getElem? (i := 42) rfl)) (by decide) (by decide)) q211a q211c (g := (mkF m 226 #[.val (.int p1), .val (.int p2), .val (.int p3), .val (.int p4), .val (.int p5), .val (.ref b1), .val (.ref b22), .val (.ref r_40), .val (.ref r_42), .val (.int m44), .val (.int m54), .val (.ref b63), .val (.int (1 : Int32))] [(.ref b63)])) rfl (by rw [hml]; rfl) (Steps.refl _) (argsL := []) (rest := []) (lenOf own_pd17 rfl) rfl (by show 2 * 0 + _ ≤ _; exact Nat.le_of_eq rfl) (hb hby at_226) (fun _ _ => ⟨rfl, e209, (by decide : 8 + 0 ≤ _), (by decide : 22 + 0 ≤ _)⟩)
      dsimp only [Pt.U, Pt.locs, Pt.cells, Pt.slots] at X211 l211 y211 z211 st211 hQ211
      subst l211 y211 z211
      obtain ⟨rfl, N211q, e211⟩ := hQ211
      have N211 := Fr.app N209 N211q
      refine OwnGo.back (T211.setTop (mkF m 229 #[.val (.int p1), .val (.int p2), .val (.int p3), .val (.int p4), .val (.int p5), .val (.ref b1), .val (.ref b22), .val (.ref r_40), .val (.ref r_42), .val (.int m44), .val (.int m54), .val (.ref b63), .val (.int (1 : Int32))] [(.int (0 : Int32))])) (fun tg kk => st211.trans kk) ?_
      refine OwnGo.back (T211.setTop (mkF m 232 #[.val (.int p1), .val (.int p2), .val (.int p3), .val (.int p4), .val (.int p5), .val (.ref b1), .val (.ref b22), .val (.ref r_40), .val (.ref r_42), .val (.int m44), .val (.int m54), .val (.ref b63), .val (.int (1 : Int32))] [])) (fun tg kk => XS.ifNo X211.here hx rfl (hb hby at_229) rfl ((if0 _ _).trans (teq (by decide : (0 : Int32) = (0 : Int32))).2) kk) ?_
      refine OwnGo.back (T211.setTop (mkF m 234 #[.val (.int p1), .val (.int p2), .val (.int p3), .val (.int p4), .val (.int p5), .val (.ref b1), .val (.ref b22), .val (.ref r_40), .val (.ref r_42), .val (.int m44), .val (.int m54), .val (.ref b63), .val (.int (1 : Int32))] [(.ref b63)])) (fun tg kk => XS.aload X211.here hx rfl (hb hby at_232) rfl rfl kk) ?_
      obtain ⟨cq212, kq212, q212a, q212b, q212c⟩ := isOf hZ e211 f194
      obtain ⟨_, _, ⟨T212, L212, k212, n212⟩, -, X212, ⟨Lc212, hQ212, l212, y212, z212⟩, st212⟩ := X211.virtualBack hx (y := (⟨"com/example/lucid_policy/lucidpolicy/parse/Symbol", "kind", "()Lcom/example/lucid_policy/lucidpolicy/parse/SymbolKind;"⟩ : MethodName)) (z := (⟨"com/example/lucid_policy/lucidpolicy/parse/Symbol", "kind", "()Lcom/example/lucid_policy/lucidpolicy/parse/SymbolKind;"⟩ : MethodName)) hown (mvT hZ (hw _ (List.mem_of_getElem? (i := 85) rfl))) (mvT hZ (hw _ (List.mem_of_getElem? (i := 86) rfl))) (notFace_of_selects (args := #[]) (mvT hZ (hw _ (List.mem_of_getElem? (i := 88) rfl)))) (mvT hZ (hw _ (List.mem_of_getElem? (i := 88) rfl))) (mvT hZ (hw _ (List.mem_of_getElem? (i := 87) rfl))) (by decide) (backOf (W := 0) (own_kin l Z a0 hw [] b63 T189.heap n0 Z208 f197) hZ (hw _ (List.mem_of_getElem? (i := 89) rfl)) (hw _ (List.mem_of_getElem? (i := 42) rfl)) (by decide) (by decide)) q212a q212c (g := (mkF m 234 #[.val (.int p1), .val (.int p2), .val (.int p3), .val (.int p4), .val (.int p5), .val (.ref b1), .val (.ref b22), .val (.ref r_40), .val (.ref r_42), .val (.int m44), .val (.int m54), .val (.ref b63), .val (.int (1 : Int32))] [(.ref b63)])) rfl (by rw [hml]; rfl) (Steps.refl _) (argsL := []) (rest := []) (lenOf own_pd18 rfl) rfl (by show 2 * 0 + _ ≤ _; exact Nat.le_of_eq rfl) (hb hby at_234) (fun _ _ => ⟨rfl, e211, (by decide : 8 + 0 ≤ _), (by decide : 22 + 0 ≤ _)⟩)
      dsimp only [Pt.U, Pt.locs, Pt.cells, Pt.slots] at X212 l212 y212 z212 st212 hQ212
      subst l212 y212 z212
      obtain ⟨rfl, N212q, e212⟩ := hQ212
      have N212 := Fr.app N211 N212q
      refine OwnGo.back (T212.setTop (mkF m 237 #[.val (.int p1), .val (.int p2), .val (.int p3), .val (.int p4), .val (.int p5), .val (.ref b1), .val (.ref b22), .val (.ref r_40), .val (.ref r_42), .val (.int m44), .val (.int m54), .val (.ref b63), .val (.int (1 : Int32))] [.null])) (fun tg kk => st212.trans kk) ?_
      refine OwnGo.back (T212.setTop (mkF m 240 #[.val (.int p1), .val (.int p2), .val (.int p3), .val (.int p4), .val (.int p5), .val (.ref b1), .val (.ref b22), .val (.ref r_40), .val (.ref r_42), .val (.int m44), .val (.int m54), .val (.ref b63), .val (.int (1 : Int32))] [])) (fun tg kk => XS.ifnonnullNo X212.here hx rfl (hb hby at_237) rfl kk) ?_
      refine OwnGo.back (T212.setTop (mkF m 241 #[.val (.int p1), .val (.int p2), .val (.int p3), .val (.int p4), .val (.int p5), .val (.ref b1), .val (.ref b22), .val (.ref r_40), .val (.ref r_42), .val (.int m44), .val (.int m54), .val (.ref b63), .val (.int (1 : Int32))] [(.int (1 : Int32))])) (fun tg kk => XS.iconst X212.here hx rfl (hb hby at_240) kk) ?_
      refine OwnGo.back (T212.setTop (mkF m 245 #[.val (.int p1), .val (.int p2), .val (.int p3), .val (.int p4), .val (.int p5), .val (.ref b1), .val (.ref b22), .val (.ref r_40), .val (.ref r_42), .val (.int m44), .val (.int m54), .val (.ref b63), .val (.int (1 : Int32))] [(.int (1 : Int32))])) (fun tg kk => XS.goto X212.here hx rfl (pc0 := 241) (pc' := 245) rfl (hb hby at_241) (by decide) (by decide) kk) ?_
      refine OwnGo.back (T212.setTop (mkF m 247 #[.val (.int p1), .val (.int p2), .val (.int p3), .val (.int p4), .val (.int p5), .val (.ref b1), .val (.ref b22), .val (.ref r_40), .val (.ref r_42), .val (.int m44), .val (.int m54), .val (.ref b63), .val (.int (1 : Int32))] [])) (fun tg kk => XS.istore X212.here hx rfl (hb hby at_245) rfl (l' := #[.val (.int p1), .val (.int p2), .val (.int p3), .val (.int p4), .val (.int p5), .val (.ref b1), .val (.ref b22), .val (.ref r_40), .val (.ref r_42), .val (.int m44), .val (.int m54), .val (.ref b63), .val (.int (1 : Int32))]) rfl kk) ?_
      refine OwnGo.back (T212.setTop (mkF m 249 #[.val (.int p1), .val (.int p2), .val (.int p3), .val (.int p4), .val (.int p5), .val (.ref b1), .val (.ref b22), .val (.ref r_40), .val (.ref r_42), .val (.int m44), .val (.int m54), .val (.ref b63), .val (.int (1 : Int32))] [(.int (1 : Int32))])) (fun tg kk => XS.iload X212.here hx rfl (hb hby at_247) rfl kk) ?_
      obtain ⟨fs, hr, hrun, hended, hW, hsame⟩ := X212.leave (v := some (.int (1 : Int32))) (fun h => by rw [Bd.returns] at h; cases h)
      refine ⟨_, _, ?_, hrun, hended, _, _, rfl, ?_, ⟨_, rfl⟩, hW, hsame.mono (by decide) (by decide)⟩
      · exact retN X212 hx (t := .boolean) Bd.returns (by simp) (hb hby at_249) hr
      · show own_law_Q Z p1 p2 p3 p4 p5 cs y0 y1 y2 y3 y4 y5 y6 mr h0 n0 _ T212.heap _
        rw [e212]
        exact ⟨rfl, N212, K207⟩
    ·
      refine OwnGo.back (T209.setTop (mkF m 138 #[.val (.int p1), .val (.int p2), .val (.int p3), .val (.int p4), .val (.int p5), .val (.ref b1), .val (.ref b22), .val (.ref r_40), .val (.ref r_42), .val (.int m44), .val (.int m54), .val (.ref b63), .val (.int (1 : Int32))] [])) (fun tg kk => XS.ifNo X209.here hx rfl (hb hby at_135) rfl ((if0 _ _).trans (feq hc210).1) kk) ?_
      refine OwnGo.back (T209.setTop (mkF m 140 #[.val (.int p1), .val (.int p2), .val (.int p3), .val (.int p4), .val (.int p5), .val (.ref b1), .val (.ref b22), .val (.ref r_40), .val (.ref r_42), .val (.int m44), .val (.int m54), .val (.ref b63), .val (.int (1 : Int32))] [(.ref b63)])) (fun tg kk => XS.aload X209.here hx rfl (hb hby at_138) rfl rfl kk) ?_
      refine OwnGo.back (T209.setTop (mkF m 142 #[.val (.int p1), .val (.int p2), .val (.int p3), .val (.int p4), .val (.int p5), .val (.ref b1), .val (.ref b22), .val (.ref r_40), .val (.ref r_42), .val (.int m44), .val (.int m54), .val (.ref b63), .val (.int (1 : Int32))] [(.ref r_40), (.ref b63)])) (fun tg kk => XS.aload X209.here hx rfl (hb hby at_140) rfl rfl kk) ?_
      refine OwnGo.back (T209.setTop (mkF m 143 #[.val (.int p1), .val (.int p2), .val (.int p3), .val (.int p4), .val (.int p5), .val (.ref b1), .val (.ref b22), .val (.ref r_40), .val (.ref r_42), .val (.int m44), .val (.int m54), .val (.ref b63), .val (.int (1 : Int32))] [.null, (.ref r_40), (.ref b63)])) (fun tg kk => XS.aconstNull X209.here hx rfl (hb hby at_142) kk) ?_
      refine OwnGo.back (T209.setTop (mkF m 144 #[.val (.int p1), .val (.int p2), .val (.int p3), .val (.int p4), .val (.int p5), .val (.ref b1), .val (.ref b22), .val (.ref r_40), .val (.ref r_42), .val (.int m44), .val (.int m54), .val (.ref b63), .val (.int (1 : Int32))] [.null, .null, (.ref r_40), (.ref b63)])) (fun tg kk => XS.aconstNull X209.here hx rfl (hb hby at_143) kk) ?_
      obtain ⟨cq213, kq213, q213a, q213b, q213c⟩ := isOf hZ e209 f194
      obtain ⟨_, _, ⟨T213, L213, k213, n213⟩, -, X213, ⟨Lc213, hQ213, l213, y213, z213⟩, st213⟩ := X209.virtualBack hx (y := (⟨"com/example/lucid_policy/lucidpolicy/parse/Symbol", "declare", "(Lcom/example/lucid_policy/lucidpolicy/parse/SymbolKind;Lcom/example/lucid_policy/lucidpolicy/model/SourceLocation;Lcom/example/lucid_policy/lucidpolicy/parse/Block;)V"⟩ : MethodName)) (z := (⟨"com/example/lucid_policy/lucidpolicy/parse/Symbol", "declare", "(Lcom/example/lucid_policy/lucidpolicy/parse/SymbolKind;Lcom/example/lucid_policy/lucidpolicy/model/SourceLocation;Lcom/example/lucid_policy/lucidpolicy/parse/Block;)V"⟩ : MethodName)) hown (mvT hZ (hw _ (List.mem_of_getElem? (i := 115) rfl))) (mvT hZ (hw _ (List.mem_of_getElem? (i := 116) rfl))) (notFace_of_selects (args := #[]) (mvT hZ (hw _ (List.mem_of_getElem? (i := 118) rfl)))) (mvT hZ (hw _ (List.mem_of_getElem? (i := 118) rfl))) (mvT hZ (hw _ (List.mem_of_getElem? (i := 117) rfl))) (by decide) (backOf (W := 0) (own_de1 l Z a0 hw [] b63 r_40 d_79 da_80 kd_83 T189.heap n0 Z208 f194 f195 f197 f198 f199 f200 f201 f202 f203 f204 g66 g121 g126 n120 n125 po106) hZ (hw _ (List.mem_of_getElem? (i := 119) rfl)) (hw _ (List.mem_of_getElem? (i := 42) rfl)) (by decide) (by decide)) q213a q213c (g := (mkF m 144 #[.val (.int p1), .val (.int p2), .val (.int p3), .val (.int p4), .val (.int p5), .val (.ref b1), .val (.ref b22), .val (.ref r_40), .val (.ref r_42), .val (.int m44), .val (.int m54), .val (.ref b63), .val (.int (1 : Int32))] [.null, .null, (.ref r_40), (.ref b63)])) rfl (by rw [hml]; rfl) (Steps.refl _) (argsL := [(.ref r_40), .null, .null]) (rest := []) (lenOf own_pd19 rfl) rfl (by show 2 * 0 + _ ≤ _; exact Nat.le_of_eq rfl) (hb hby at_144) (fun _ _ => ⟨rfl, e209, (by decide : 8 + 0 ≤ _), (by decide : 22 + 0 ≤ _)⟩)
      dsimp only [Pt.U, Pt.locs, Pt.cells, Pt.slots] at X213 l213 y213 z213 st213 hQ213
      subst l213 y213 z213
      obtain ⟨rfl, N213q, Kc213, po214, po215, po216, po217, po218, po219, po220, po221⟩ := hQ213
      have N213 := Fr.app N209 N213q
      have f222 : Old Z n0 T213.heap := f191.keep Kc213 (allS g66 (allS g121 (allS g126 all0)))
      have f223 : Arv Z T213.heap b1 k1 .char (2 : Int32) [(.int ((p1 &&& (255 : Int32)).toUInt32.toUInt16.toUInt32.toInt32)), (.int ((p2 &&& (255 : Int32)).toUInt32.toUInt16.toUInt32.toInt32))] (.int (0 : Int32)) := f192.keep Kc213 (ninS n64 (ninS n118 (ninS n123 nin0)))
      have f224 : Exa Z T213.heap b22 "java/lang/String" := f193.keep Kc213
      have f225 : Exa Z T213.heap b63 "com/example/lucid_policy/lucidpolicy/parse/Symbol" := f194.keep Kc213
      have f226 : Exa Z T213.heap d_79 "java/util/ArrayList" := f199.keep Kc213
      have f227 : Exa Z T213.heap da_80 "[Ljava/lang/Object;" := f203.keep Kc213
      have f228 : Exa Z T213.heap r_81 "java/util/ArrayList" := po190.keep Kc213
      have f229 : Exa Z T213.heap ra_82 "[Ljava/lang/Object;" := f206.keep Kc213
      have K230 : Keep h0 T213.heap [] := K207.trans Kc213 (allS (Or.inr s67) (allS (Or.inr s122) (allS (Or.inr s127) all0)))
      have Z231 : n0 ≤ T213.heap.size := Nat.le_trans Z208 Kc213.1
      refine OwnGo.back (T213.setTop (mkF m 147 #[.val (.int p1), .val (.int p2), .val (.int p3), .val (.int p4), .val (.int p5), .val (.ref b1), .val (.ref b22), .val (.ref r_40), .val (.ref r_42), .val (.int m44), .val (.int m54), .val (.ref b63), .val (.int (1 : Int32))] [])) (fun tg kk => st213.trans kk) ?_
      refine OwnGo.back (T213.setTop (mkF m 149 #[.val (.int p1), .val (.int p2), .val (.int p3), .val (.int p4), .val (.int p5), .val (.ref b1), .val (.ref b22), .val (.ref r_40), .val (.ref r_42), .val (.int m44), .val (.int m54), .val (.ref b63), .val (.int (1 : Int32))] [(.int (1 : Int32))])) (fun tg kk => XS.iload X213.here hx rfl (hb hby at_147) rfl kk) ?_
      refine OwnGo.back (T213.setTop (mkF m 152 #[.val (.int p1), .val (.int p2), .val (.int p3), .val (.int p4), .val (.int p5), .val (.ref b1), .val (.ref b22), .val (.ref r_40), .val (.ref r_42), .val (.int m44), .val (.int m54), .val (.ref b63), .val (.int (1 : Int32))] [])) (fun tg kk => XS.ifNo X213.here hx rfl (hb hby at_149) rfl ((if0 _ _).trans (feq (by decide : ¬ ((1 : Int32) = (0 : Int32)))).1) kk) ?_
      refine OwnGo.back (T213.setTop (mkF m 154 #[.val (.int p1), .val (.int p2), .val (.int p3), .val (.int p4), .val (.int p5), .val (.ref b1), .val (.ref b22), .val (.ref r_40), .val (.ref r_42), .val (.int m44), .val (.int m54), .val (.ref b63), .val (.int (1 : Int32))] [(.ref b63)])) (fun tg kk => XS.aload X213.here hx rfl (hb hby at_152) rfl rfl kk) ?_
      obtain ⟨cq232, kq232, q232a, q232b, q232c⟩ := isOf hZ rfl f225
      obtain ⟨_, _, ⟨T232, L232, k232, n232⟩, -, X232, ⟨Lc232, hQ232, l232, y232, z232⟩, st232⟩ := X213.virtualBack hx (y := (⟨"com/example/lucid_policy/lucidpolicy/parse/Symbol", "declared", "()Z"⟩ : MethodName)) (z := (⟨"com/example/lucid_policy/lucidpolicy/parse/Symbol", "declared", "()Z"⟩ : MethodName)) hown (mvT hZ (hw _ (List.mem_of_getElem? (i := 78) rfl))) (mvT hZ (hw _ (List.mem_of_getElem? (i := 79) rfl))) (notFace_of_selects (args := #[]) (mvT hZ (hw _ (List.mem_of_getElem? (i := 81) rfl)))) (mvT hZ (hw _ (List.mem_of_getElem? (i := 81) rfl))) (mvT hZ (hw _ (List.mem_of_getElem? (i := 80) rfl))) (by decide) (backOf (W := 0) (own_der l Z a0 hw [] b63 r_40 T213.heap n0 Z231 po214) hZ (hw _ (List.mem_of_getElem? (i := 82) rfl)) (hw _ (List.mem_of_getElem? (i := 42) rfl)) (by decide) (by decide)) q232a q232c (g := (mkF m 154 #[.val (.int p1), .val (.int p2), .val (.int p3), .val (.int p4), .val (.int p5), .val (.ref b1), .val (.ref b22), .val (.ref r_40), .val (.ref r_42), .val (.int m44), .val (.int m54), .val (.ref b63), .val (.int (1 : Int32))] [(.ref b63)])) rfl (by rw [hml]; rfl) (Steps.refl _) (argsL := []) (rest := []) (lenOf own_pd17 rfl) rfl (by show 2 * 0 + _ ≤ _; exact Nat.le_of_eq rfl) (hb hby at_154) (fun _ _ => ⟨rfl, rfl, (by decide : 8 + 0 ≤ _), (by decide : 22 + 0 ≤ _)⟩)
      dsimp only [Pt.U, Pt.locs, Pt.cells, Pt.slots] at X232 l232 y232 z232 st232 hQ232
      subst l232 y232 z232
      obtain ⟨rfl, N232q, e232⟩ := hQ232
      have N232 := Fr.app N213 N232q
      refine OwnGo.back (T232.setTop (mkF m 157 #[.val (.int p1), .val (.int p2), .val (.int p3), .val (.int p4), .val (.int p5), .val (.ref b1), .val (.ref b22), .val (.ref r_40), .val (.ref r_42), .val (.int m44), .val (.int m54), .val (.ref b63), .val (.int (1 : Int32))] [(.int (1 : Int32))])) (fun tg kk => st232.trans kk) ?_
      refine OwnGo.back (T232.setTop (mkF m 160 #[.val (.int p1), .val (.int p2), .val (.int p3), .val (.int p4), .val (.int p5), .val (.ref b1), .val (.ref b22), .val (.ref r_40), .val (.ref r_42), .val (.int m44), .val (.int m54), .val (.ref b63), .val (.int (1 : Int32))] [])) (fun tg kk => XS.ifNo X232.here hx rfl (hb hby at_157) rfl ((if0 _ _).trans (feq (by decide : ¬ ((1 : Int32) = (0 : Int32)))).1) kk) ?_
      refine OwnGo.back (T232.setTop (mkF m 162 #[.val (.int p1), .val (.int p2), .val (.int p3), .val (.int p4), .val (.int p5), .val (.ref b1), .val (.ref b22), .val (.ref r_40), .val (.ref r_42), .val (.int m44), .val (.int m54), .val (.ref b63), .val (.int (1 : Int32))] [(.ref b63)])) (fun tg kk => XS.aload X232.here hx rfl (hb hby at_160) rfl rfl kk) ?_
      obtain ⟨cq233, kq233, q233a, q233b, q233c⟩ := isOf hZ e232 f225
      obtain ⟨_, _, ⟨T233, L233, k233, n233⟩, -, X233, ⟨Lc233, hQ233, l233, y233, z233⟩, st233⟩ := X232.virtualBack hx (y := (⟨"com/example/lucid_policy/lucidpolicy/parse/Symbol", "kind", "()Lcom/example/lucid_policy/lucidpolicy/parse/SymbolKind;"⟩ : MethodName)) (z := (⟨"com/example/lucid_policy/lucidpolicy/parse/Symbol", "kind", "()Lcom/example/lucid_policy/lucidpolicy/parse/SymbolKind;"⟩ : MethodName)) hown (mvT hZ (hw _ (List.mem_of_getElem? (i := 85) rfl))) (mvT hZ (hw _ (List.mem_of_getElem? (i := 86) rfl))) (notFace_of_selects (args := #[]) (mvT hZ (hw _ (List.mem_of_getElem? (i := 88) rfl)))) (mvT hZ (hw _ (List.mem_of_getElem? (i := 88) rfl))) (mvT hZ (hw _ (List.mem_of_getElem? (i := 87) rfl))) (by decide) (backOf (W := 0) (own_kir l Z a0 hw [] b63 r_40 T213.heap n0 Z231 po214) hZ (hw _ (List.mem_of_getElem? (i := 89) rfl)) (hw _ (List.mem_of_getElem? (i := 42) rfl)) (by decide) (by decide)) q233a q233c (g := (mkF m 162 #[.val (.int p1), .val (.int p2), .val (.int p3), .val (.int p4), .val (.int p5), .val (.ref b1), .val (.ref b22), .val (.ref r_40), .val (.ref r_42), .val (.int m44), .val (.int m54), .val (.ref b63), .val (.int (1 : Int32))] [(.ref b63)])) rfl (by rw [hml]; rfl) (Steps.refl _) (argsL := []) (rest := []) (lenOf own_pd18 rfl) rfl (by show 2 * 0 + _ ≤ _; exact Nat.le_of_eq rfl) (hb hby at_162) (fun _ _ => ⟨rfl, e232, (by decide : 8 + 0 ≤ _), (by decide : 22 + 0 ≤ _)⟩)
      dsimp only [Pt.U, Pt.locs, Pt.cells, Pt.slots] at X233 l233 y233 z233 st233 hQ233
      subst l233 y233 z233
      obtain ⟨rfl, N233q, e233⟩ := hQ233
      have N233 := Fr.app N232 N233q
      refine OwnGo.back (T233.setTop (mkF m 165 #[.val (.int p1), .val (.int p2), .val (.int p3), .val (.int p4), .val (.int p5), .val (.ref b1), .val (.ref b22), .val (.ref r_40), .val (.ref r_42), .val (.int m44), .val (.int m54), .val (.ref b63), .val (.int (1 : Int32))] [(.ref r_40)])) (fun tg kk => st233.trans kk) ?_
      refine OwnGo.back (T233.setTop (mkF m 167 #[.val (.int p1), .val (.int p2), .val (.int p3), .val (.int p4), .val (.int p5), .val (.ref b1), .val (.ref b22), .val (.ref r_40), .val (.ref r_42), .val (.int m44), .val (.int m54), .val (.ref b63), .val (.int (1 : Int32))] [(.ref r_40), (.ref r_40)])) (fun tg kk => XS.aload X233.here hx rfl (hb hby at_165) rfl rfl kk) ?_
      refine OwnGo.back (T233.setTop (mkF m 170 #[.val (.int p1), .val (.int p2), .val (.int p3), .val (.int p4), .val (.int p5), .val (.ref b1), .val (.ref b22), .val (.ref r_40), .val (.ref r_42), .val (.int m44), .val (.int m54), .val (.ref b63), .val (.int (1 : Int32))] [])) (fun tg kk => Jvm.RoadKit.acmp (g := (mkF m 167 #[.val (.int p1), .val (.int p2), .val (.int p3), .val (.int p4), .val (.int p5), .val (.ref b1), .val (.ref b22), .val (.ref r_40), .val (.ref r_42), .val (.int m44), .val (.int m54), .val (.ref b63), .val (.int (1 : Int32))] [(.ref r_40), (.ref r_40)])) X233 hx rfl rfl rfl (pc0 := 167) (pc' := 170) (same := true) rfl (hb hby at_167) rfl (decide_eq_true rfl) (by decide) (by decide) kk) ?_
      refine OwnGo.back (T233.setTop (mkF m 171 #[.val (.int p1), .val (.int p2), .val (.int p3), .val (.int p4), .val (.int p5), .val (.ref b1), .val (.ref b22), .val (.ref r_40), .val (.ref r_42), .val (.int m44), .val (.int m54), .val (.ref b63), .val (.int (1 : Int32))] [(.int (1 : Int32))])) (fun tg kk => XS.iconst X233.here hx rfl (hb hby at_170) kk) ?_
      refine OwnGo.back (T233.setTop (mkF m 175 #[.val (.int p1), .val (.int p2), .val (.int p3), .val (.int p4), .val (.int p5), .val (.ref b1), .val (.ref b22), .val (.ref r_40), .val (.ref r_42), .val (.int m44), .val (.int m54), .val (.ref b63), .val (.int (1 : Int32))] [(.int (1 : Int32))])) (fun tg kk => XS.goto X233.here hx rfl (pc0 := 171) (pc' := 175) rfl (hb hby at_171) (by decide) (by decide) kk) ?_
      refine OwnGo.back (T233.setTop (mkF m 177 #[.val (.int p1), .val (.int p2), .val (.int p3), .val (.int p4), .val (.int p5), .val (.ref b1), .val (.ref b22), .val (.ref r_40), .val (.ref r_42), .val (.int m44), .val (.int m54), .val (.ref b63), .val (.int (1 : Int32))] [])) (fun tg kk => XS.istore X233.here hx rfl (hb hby at_175) rfl (l' := #[.val (.int p1), .val (.int p2), .val (.int p3), .val (.int p4), .val (.int p5), .val (.ref b1), .val (.ref b22), .val (.ref r_40), .val (.ref r_42), .val (.int m44), .val (.int m54), .val (.ref b63), .val (.int (1 : Int32))]) rfl kk) ?_
      refine OwnGo.back (T233.setTop (mkF m 179 #[.val (.int p1), .val (.int p2), .val (.int p3), .val (.int p4), .val (.int p5), .val (.ref b1), .val (.ref b22), .val (.ref r_40), .val (.ref r_42), .val (.int m44), .val (.int m54), .val (.ref b63), .val (.int (1 : Int32))] [(.ref b63)])) (fun tg kk => XS.aload X233.here hx rfl (hb hby at_177) rfl rfl kk) ?_
      refine OwnGo.back (T233.setTop (mkF m 181 #[.val (.int p1), .val (.int p2), .val (.int p3), .val (.int p4), .val (.int p5), .val (.ref b1), .val (.ref b22), .val (.ref r_40), .val (.ref r_42), .val (.int m44), .val (.int m54), .val (.ref b63), .val (.int (1 : Int32))] [(.ref r_42), (.ref b63)])) (fun tg kk => XS.aload X233.here hx rfl (hb hby at_179) rfl rfl kk) ?_
      refine OwnGo.back (T233.setTop (mkF m 182 #[.val (.int p1), .val (.int p2), .val (.int p3), .val (.int p4), .val (.int p5), .val (.ref b1), .val (.ref b22), .val (.ref r_40), .val (.ref r_42), .val (.int m44), .val (.int m54), .val (.ref b63), .val (.int (1 : Int32))] [.null, (.ref r_42), (.ref b63)])) (fun tg kk => XS.aconstNull X233.here hx rfl (hb hby at_181) kk) ?_
      refine OwnGo.back (T233.setTop (mkF m 183 #[.val (.int p1), .val (.int p2), .val (.int p3), .val (.int p4), .val (.int p5), .val (.ref b1), .val (.ref b22), .val (.ref r_40), .val (.ref r_42), .val (.int m44), .val (.int m54), .val (.ref b63), .val (.int (1 : Int32))] [.null, .null, (.ref r_42), (.ref b63)])) (fun tg kk => XS.aconstNull X233.here hx rfl (hb hby at_182) kk) ?_
      obtain ⟨cq234, kq234, q234a, q234b, q234c⟩ := isOf hZ e233 f225
      obtain ⟨_, _, ⟨T234, L234, k234, n234⟩, -, X234, ⟨Lc234, hQ234, l234, y234, z234⟩, st234⟩ := X233.virtualBack hx (y := (⟨"com/example/lucid_policy/lucidpolicy/parse/Symbol", "declare", "(Lcom/example/lucid_policy/lucidpolicy/parse/SymbolKind;Lcom/example/lucid_policy/lucidpolicy/model/SourceLocation;Lcom/example/lucid_policy/lucidpolicy/parse/Block;)V"⟩ : MethodName)) (z := (⟨"com/example/lucid_policy/lucidpolicy/parse/Symbol", "declare", "(Lcom/example/lucid_policy/lucidpolicy/parse/SymbolKind;Lcom/example/lucid_policy/lucidpolicy/model/SourceLocation;Lcom/example/lucid_policy/lucidpolicy/parse/Block;)V"⟩ : MethodName)) hown (mvT hZ (hw _ (List.mem_of_getElem? (i := 115) rfl))) (mvT hZ (hw _ (List.mem_of_getElem? (i := 116) rfl))) (notFace_of_selects (args := #[]) (mvT hZ (hw _ (List.mem_of_getElem? (i := 118) rfl)))) (mvT hZ (hw _ (List.mem_of_getElem? (i := 118) rfl))) (mvT hZ (hw _ (List.mem_of_getElem? (i := 117) rfl))) (by decide) (backOf (W := 0) (own_de2 l Z a0 hw [] b63 r_42 r_40 d_79 da_80 kd_83 mr T213.heap n0 Z231 hM po215 po214 po216 po217 po218 po219 po220 po221 g121 po106) hZ (hw _ (List.mem_of_getElem? (i := 119) rfl)) (hw _ (List.mem_of_getElem? (i := 42) rfl)) (by decide) (by decide)) q234a q234c (g := (mkF m 183 #[.val (.int p1), .val (.int p2), .val (.int p3), .val (.int p4), .val (.int p5), .val (.ref b1), .val (.ref b22), .val (.ref r_40), .val (.ref r_42), .val (.int m44), .val (.int m54), .val (.ref b63), .val (.int (1 : Int32))] [.null, .null, (.ref r_42), (.ref b63)])) rfl (by rw [hml]; rfl) (Steps.refl _) (argsL := [(.ref r_42), .null, .null]) (rest := []) (lenOf own_pd19 rfl) rfl (by show 2 * 0 + _ ≤ _; exact Nat.le_of_eq rfl) (hb hby at_183) (fun _ _ => ⟨rfl, e233, (by decide : 8 + 1 ≤ _), (by decide : 22 + 2 ≤ _)⟩)
      dsimp only [Pt.U, Pt.locs, Pt.cells, Pt.slots] at X234 l234 y234 z234 st234 hQ234
      subst l234 y234 z234
      obtain ⟨rfl, N234q, Kc234, po235⟩ := hQ234
      have N234 := Fr.app N233 N234q
      have f236 : Old Z n0 T234.heap := f222.keep Kc234 (allS g121 all0)
      have f237 : Arv Z T234.heap b1 k1 .char (2 : Int32) [(.int ((p1 &&& (255 : Int32)).toUInt32.toUInt16.toUInt32.toInt32)), (.int ((p2 &&& (255 : Int32)).toUInt32.toUInt16.toUInt32.toInt32))] (.int (0 : Int32)) := f223.keep Kc234 (ninS n118 nin0)
      have f238 : Exa Z T234.heap b22 "java/lang/String" := f224.keep Kc234
      have f239 : Exa Z T234.heap b63 "com/example/lucid_policy/lucidpolicy/parse/Symbol" := f225.keep Kc234
      have f240 : Exa Z T234.heap d_79 "java/util/ArrayList" := po216.keep Kc234
      have f241 : Exa Z T234.heap da_80 "[Ljava/lang/Object;" := po220.keep Kc234
      have f242 : Exa Z T234.heap r_81 "java/util/ArrayList" := f228.keep Kc234
      have f243 : Exa Z T234.heap ra_82 "[Ljava/lang/Object;" := f229.keep Kc234
      have f244 : Fld Z T234.heap b63 "com/example/lucid_policy/lucidpolicy/parse/Symbol" "kind" "Lcom/example/lucid_policy/lucidpolicy/parse/SymbolKind;" (.ref r_40) := po214.keep Kc234 (ninS n120 nin0)
      have f245 : Fld Z T234.heap b63 "com/example/lucid_policy/lucidpolicy/parse/Symbol" "declaredIn" "Ljava/util/List;" (.ref d_79) := po215.keep Kc234 (ninS n120 nin0)
      have f246 : Arv Z T234.heap da_80 kd_83 (.object "java/lang/Object") (1 : Int32) [.null] .null := po221.keep Kc234 (ninS (Ne.symm po106) nin0)
      have K247 : Keep h0 T234.heap [] := K230.trans Kc234 (allS (Or.inr s122) all0)
      have Z248 : n0 ≤ T234.heap.size := Nat.le_trans Z231 Kc234.1
      refine OwnGo.back (T234.setTop (mkF m 186 #[.val (.int p1), .val (.int p2), .val (.int p3), .val (.int p4), .val (.int p5), .val (.ref b1), .val (.ref b22), .val (.ref r_40), .val (.ref r_42), .val (.int m44), .val (.int m54), .val (.ref b63), .val (.int (1 : Int32))] [])) (fun tg kk => st234.trans kk) ?_
      refine OwnGo.back (T234.setTop (mkF m 188 #[.val (.int p1), .val (.int p2), .val (.int p3), .val (.int p4), .val (.int p5), .val (.ref b1), .val (.ref b22), .val (.ref r_40), .val (.ref r_42), .val (.int m44), .val (.int m54), .val (.ref b63), .val (.int (1 : Int32))] [(.int (1 : Int32))])) (fun tg kk => XS.iload X234.here hx rfl (hb hby at_186) rfl kk) ?_
      refine OwnGo.back (T234.setTop (mkF m 191 #[.val (.int p1), .val (.int p2), .val (.int p3), .val (.int p4), .val (.int p5), .val (.ref b1), .val (.ref b22), .val (.ref r_40), .val (.ref r_42), .val (.int m44), .val (.int m54), .val (.ref b63), .val (.int (1 : Int32))] [])) (fun tg kk => XS.ifNo X234.here hx rfl (hb hby at_188) rfl ((if0 _ _).trans (feq (by decide : ¬ ((1 : Int32) = (0 : Int32)))).1) kk) ?_
      refine OwnGo.back (T234.setTop (mkF m 193 #[.val (.int p1), .val (.int p2), .val (.int p3), .val (.int p4), .val (.int p5), .val (.ref b1), .val (.ref b22), .val (.ref r_40), .val (.ref r_42), .val (.int m44), .val (.int m54), .val (.ref b63), .val (.int (1 : Int32))] [(.ref b63)])) (fun tg kk => XS.aload X234.here hx rfl (hb hby at_191) rfl rfl kk) ?_
      obtain ⟨cq249, kq249, q249a, q249b, q249c⟩ := isOf hZ rfl f239
      obtain ⟨_, _, ⟨T249, L249, k249, n249⟩, -, X249, ⟨Lc249, hQ249, l249, y249, z249⟩, st249⟩ := X234.virtualBack hx (y := (⟨"com/example/lucid_policy/lucidpolicy/parse/Symbol", "declared", "()Z"⟩ : MethodName)) (z := (⟨"com/example/lucid_policy/lucidpolicy/parse/Symbol", "declared", "()Z"⟩ : MethodName)) hown (mvT hZ (hw _ (List.mem_of_getElem? (i := 78) rfl))) (mvT hZ (hw _ (List.mem_of_getElem? (i := 79) rfl))) (notFace_of_selects (args := #[]) (mvT hZ (hw _ (List.mem_of_getElem? (i := 81) rfl)))) (mvT hZ (hw _ (List.mem_of_getElem? (i := 81) rfl))) (mvT hZ (hw _ (List.mem_of_getElem? (i := 80) rfl))) (by decide) (backOf (W := 0) (own_der l Z a0 hw [] b63 r_40 T234.heap n0 Z248 f244) hZ (hw _ (List.mem_of_getElem? (i := 82) rfl)) (hw _ (List.mem_of_getElem? (i := 42) rfl)) (by decide) (by decide)) q249a q249c (g := (mkF m 193 #[.val (.int p1), .val (.int p2), .val (.int p3), .val (.int p4), .val (.int p5), .val (.ref b1), .val (.ref b22), .val (.ref r_40), .val (.ref r_42), .val (.int m44), .val (.int m54), .val (.ref b63), .val (.int (1 : Int32))] [(.ref b63)])) rfl (by rw [hml]; rfl) (Steps.refl _) (argsL := []) (rest := []) (lenOf own_pd17 rfl) rfl (by show 2 * 0 + _ ≤ _; exact Nat.le_of_eq rfl) (hb hby at_193) (fun _ _ => ⟨rfl, rfl, (by decide : 9 + 0 ≤ _), (by decide : 24 + 0 ≤ _)⟩)
      dsimp only [Pt.U, Pt.locs, Pt.cells, Pt.slots] at X249 l249 y249 z249 st249 hQ249
      subst l249 y249 z249
      obtain ⟨rfl, N249q, e249⟩ := hQ249
      have N249 := Fr.app N234 N249q
      refine OwnGo.back (T249.setTop (mkF m 196 #[.val (.int p1), .val (.int p2), .val (.int p3), .val (.int p4), .val (.int p5), .val (.ref b1), .val (.ref b22), .val (.ref r_40), .val (.ref r_42), .val (.int m44), .val (.int m54), .val (.ref b63), .val (.int (1 : Int32))] [(.int (1 : Int32))])) (fun tg kk => st249.trans kk) ?_
      refine OwnGo.back (T249.setTop (mkF m 199 #[.val (.int p1), .val (.int p2), .val (.int p3), .val (.int p4), .val (.int p5), .val (.ref b1), .val (.ref b22), .val (.ref r_40), .val (.ref r_42), .val (.int m44), .val (.int m54), .val (.ref b63), .val (.int (1 : Int32))] [])) (fun tg kk => XS.ifNo X249.here hx rfl (hb hby at_196) rfl ((if0 _ _).trans (feq (by decide : ¬ ((1 : Int32) = (0 : Int32)))).1) kk) ?_
      refine OwnGo.back (T249.setTop (mkF m 201 #[.val (.int p1), .val (.int p2), .val (.int p3), .val (.int p4), .val (.int p5), .val (.ref b1), .val (.ref b22), .val (.ref r_40), .val (.ref r_42), .val (.int m44), .val (.int m54), .val (.ref b63), .val (.int (1 : Int32))] [(.ref b63)])) (fun tg kk => XS.aload X249.here hx rfl (hb hby at_199) rfl rfl kk) ?_
      obtain ⟨cq250, kq250, q250a, q250b, q250c⟩ := isOf hZ e249 f239
      obtain ⟨_, _, ⟨T250, L250, k250, n250⟩, -, X250, ⟨Lc250, hQ250, l250, y250, z250⟩, st250⟩ := X249.virtualBack hx (y := (⟨"com/example/lucid_policy/lucidpolicy/parse/Symbol", "kind", "()Lcom/example/lucid_policy/lucidpolicy/parse/SymbolKind;"⟩ : MethodName)) (z := (⟨"com/example/lucid_policy/lucidpolicy/parse/Symbol", "kind", "()Lcom/example/lucid_policy/lucidpolicy/parse/SymbolKind;"⟩ : MethodName)) hown (mvT hZ (hw _ (List.mem_of_getElem? (i := 85) rfl))) (mvT hZ (hw _ (List.mem_of_getElem? (i := 86) rfl))) (notFace_of_selects (args := #[]) (mvT hZ (hw _ (List.mem_of_getElem? (i := 88) rfl)))) (mvT hZ (hw _ (List.mem_of_getElem? (i := 88) rfl))) (mvT hZ (hw _ (List.mem_of_getElem? (i := 87) rfl))) (by decide) (backOf (W := 0) (own_kir l Z a0 hw [] b63 r_40 T234.heap n0 Z248 f244) hZ (hw _ (List.mem_of_getElem? (i := 89) rfl)) (hw _ (List.mem_of_getElem? (i := 42) rfl)) (by decide) (by decide)) q250a q250c (g := (mkF m 201 #[.val (.int p1), .val (.int p2), .val (.int p3), .val (.int p4), .val (.int p5), .val (.ref b1), .val (.ref b22), .val (.ref r_40), .val (.ref r_42), .val (.int m44), .val (.int m54), .val (.ref b63), .val (.int (1 : Int32))] [(.ref b63)])) rfl (by rw [hml]; rfl) (Steps.refl _) (argsL := []) (rest := []) (lenOf own_pd18 rfl) rfl (by show 2 * 0 + _ ≤ _; exact Nat.le_of_eq rfl) (hb hby at_201) (fun _ _ => ⟨rfl, e249, (by decide : 9 + 0 ≤ _), (by decide : 24 + 0 ≤ _)⟩)
      dsimp only [Pt.U, Pt.locs, Pt.cells, Pt.slots] at X250 l250 y250 z250 st250 hQ250
      subst l250 y250 z250
      obtain ⟨rfl, N250q, e250⟩ := hQ250
      have N250 := Fr.app N249 N250q
      refine OwnGo.back (T250.setTop (mkF m 204 #[.val (.int p1), .val (.int p2), .val (.int p3), .val (.int p4), .val (.int p5), .val (.ref b1), .val (.ref b22), .val (.ref r_40), .val (.ref r_42), .val (.int m44), .val (.int m54), .val (.ref b63), .val (.int (1 : Int32))] [(.ref r_40)])) (fun tg kk => st250.trans kk) ?_
      refine OwnGo.back (T250.setTop (mkF m 206 #[.val (.int p1), .val (.int p2), .val (.int p3), .val (.int p4), .val (.int p5), .val (.ref b1), .val (.ref b22), .val (.ref r_40), .val (.ref r_42), .val (.int m44), .val (.int m54), .val (.ref b63), .val (.int (1 : Int32))] [(.ref r_40), (.ref r_40)])) (fun tg kk => XS.aload X250.here hx rfl (hb hby at_204) rfl rfl kk) ?_
      refine OwnGo.back (T250.setTop (mkF m 209 #[.val (.int p1), .val (.int p2), .val (.int p3), .val (.int p4), .val (.int p5), .val (.ref b1), .val (.ref b22), .val (.ref r_40), .val (.ref r_42), .val (.int m44), .val (.int m54), .val (.ref b63), .val (.int (1 : Int32))] [])) (fun tg kk => Jvm.RoadKit.acmp (g := (mkF m 206 #[.val (.int p1), .val (.int p2), .val (.int p3), .val (.int p4), .val (.int p5), .val (.ref b1), .val (.ref b22), .val (.ref r_40), .val (.ref r_42), .val (.int m44), .val (.int m54), .val (.ref b63), .val (.int (1 : Int32))] [(.ref r_40), (.ref r_40)])) X250 hx rfl rfl rfl (pc0 := 206) (pc' := 209) (same := true) rfl (hb hby at_206) rfl (decide_eq_true rfl) (by decide) (by decide) kk) ?_
      refine OwnGo.back (T250.setTop (mkF m 210 #[.val (.int p1), .val (.int p2), .val (.int p3), .val (.int p4), .val (.int p5), .val (.ref b1), .val (.ref b22), .val (.ref r_40), .val (.ref r_42), .val (.int m44), .val (.int m54), .val (.ref b63), .val (.int (1 : Int32))] [(.int (1 : Int32))])) (fun tg kk => XS.iconst X250.here hx rfl (hb hby at_209) kk) ?_
      refine OwnGo.back (T250.setTop (mkF m 214 #[.val (.int p1), .val (.int p2), .val (.int p3), .val (.int p4), .val (.int p5), .val (.ref b1), .val (.ref b22), .val (.ref r_40), .val (.ref r_42), .val (.int m44), .val (.int m54), .val (.ref b63), .val (.int (1 : Int32))] [(.int (1 : Int32))])) (fun tg kk => XS.goto X250.here hx rfl (pc0 := 210) (pc' := 214) rfl (hb hby at_210) (by decide) (by decide) kk) ?_
      refine OwnGo.back (T250.setTop (mkF m 216 #[.val (.int p1), .val (.int p2), .val (.int p3), .val (.int p4), .val (.int p5), .val (.ref b1), .val (.ref b22), .val (.ref r_40), .val (.ref r_42), .val (.int m44), .val (.int m54), .val (.ref b63), .val (.int (1 : Int32))] [])) (fun tg kk => XS.istore X250.here hx rfl (hb hby at_214) rfl (l' := #[.val (.int p1), .val (.int p2), .val (.int p3), .val (.int p4), .val (.int p5), .val (.ref b1), .val (.ref b22), .val (.ref r_40), .val (.ref r_42), .val (.int m44), .val (.int m54), .val (.ref b63), .val (.int (1 : Int32))]) rfl kk) ?_
      refine OwnGo.back (T250.setTop (mkF m 247 #[.val (.int p1), .val (.int p2), .val (.int p3), .val (.int p4), .val (.int p5), .val (.ref b1), .val (.ref b22), .val (.ref r_40), .val (.ref r_42), .val (.int m44), .val (.int m54), .val (.ref b63), .val (.int (1 : Int32))] [])) (fun tg kk => XS.goto X250.here hx rfl (pc0 := 216) (pc' := 247) rfl (hb hby at_216) (by decide) (by decide) kk) ?_
      refine OwnGo.back (T250.setTop (mkF m 249 #[.val (.int p1), .val (.int p2), .val (.int p3), .val (.int p4), .val (.int p5), .val (.ref b1), .val (.ref b22), .val (.ref r_40), .val (.ref r_42), .val (.int m44), .val (.int m54), .val (.ref b63), .val (.int (1 : Int32))] [(.int (1 : Int32))])) (fun tg kk => XS.iload X250.here hx rfl (hb hby at_247) rfl kk) ?_
      obtain ⟨fs, hr, hrun, hended, hW, hsame⟩ := X250.leave (v := some (.int (1 : Int32))) (fun h => by rw [Bd.returns] at h; cases h)
      refine ⟨_, _, ?_, hrun, hended, _, _, rfl, ?_, ⟨_, rfl⟩, hW, hsame.mono (by decide) (by decide)⟩
      · exact retN X250 hx (t := .boolean) Bd.returns (by simp) (hb hby at_249) hr
      · show own_law_Q Z p1 p2 p3 p4 p5 cs y0 y1 y2 y3 y4 y5 y6 mr h0 n0 _ T250.heap _
        rw [e250]
        exact ⟨rfl, N250, K247⟩
set_option maxRecDepth 65536 in
set_option maxHeartbeats 40000000 in
theorem comes_1 {Post : Tables → Env → Array Value → State → Outcome → State → Prop} (hpost : ∀ tb e args s v u, (limb_1_1.after args s (.returned v) u = true ∧ limb_1_2.after args s (.returned v) u = true ∧ True) → FrameEnd s (.returned v) u (Jvm.fieldLocs frame_1_writes args s ++ Jvm.arrayLocs frame_1_arrays args s ++ Jvm.staticLocs frame_1_statics s) 32 128 → Post tb e args s (.returned v) u) :
    ArmFor flags0 classFile x code maxLocals ret World_1 tables_1 room_1 Calls_1 rest_1 Pre_1 Post := by
  intro l hfl _ _ p e ha hc hk s m args below hf hA hF happ hP
  obtain ⟨hcalls, hrest, hpre⟩ := hP
  obtain ⟨-, -, -, hnamed, -, -, -, hat⟩ := (Spec.applies_iff hf).mp happ
  obtain ⟨hg, hn⟩ := and_e (Cond.before_iff.mp (show (Jvm.Cond.and given_1 narrow_1).before args s = true from hpre))
  obtain ⟨hg0, hg⟩ := and_e hg
  obtain ⟨hg1, hg⟩ := and_e hg
  obtain ⟨hg2, hg⟩ := and_e hg
  obtain ⟨hg3, hg⟩ := and_e hg
  obtain ⟨hg4, hg⟩ := and_e hg
  obtain ⟨w0, w1, w2, w3, w4, rfl⟩ : ∃ w0 w1 w2 w3 w4 : Value, args = #[w0, w1, w2, w3, w4] := by
    have hs : args.size = 5 := by simpa [Cond.value, given_1] using hg0
    obtain ⟨L⟩ := args
    match L, hs with
    | [w0, w1, w2, w3, w4], _ => exact ⟨w0, w1, w2, w3, w4, rfl⟩
  have hw := fun d (hd : d ∈ tables_1) => atoms_spec (ws := Jvm.Cond.code x code maxLocals ret :: tables_1) hat d (List.mem_cons_of_mem _ hd)
  have hfit : Fit s := fun {y c} hc i hi => by
    obtain ⟨ha, rfl⟩ := Array.getElem?_eq_some_iff.mp hc
    have q := List.all_eq_true.mp ((Array.all_eq_true_iff_forall_mem.mp hF) _ (Array.getElem_mem ha)) i (List.mem_range.mpr hi)
    simpa [Array.getElem?_eq_getElem hi] using q
  obtain ⟨i0, ei0⟩ := is_v hg1
  obtain rfl : w0 = (.int i0) := Option.some.inj ei0
  obtain ⟨i1, ei1⟩ := is_v hg2
  obtain rfl : w1 = (.int i1) := Option.some.inj ei1
  obtain ⟨i2, ei2⟩ := is_v hg3
  obtain rfl : w2 = (.int i2) := Option.some.inj ei2
  obtain ⟨i3, ei3⟩ := is_v hg4
  obtain rfl : w3 = (.int i3) := Option.some.inj ei3
  obtain ⟨i4, ei4⟩ := is_v hg
  obtain rfl : w4 = (.int i4) := Option.some.inj ei4
  obtain ⟨hsets, hown0⟩ := atoms_of _ (rest_1_c_eq ▸ (show rest_1_c.before _ s = true from hrest))
  obtain ⟨cs, ecs⟩ := is_v (Cond.before_iff.mp (hsets _ (List.mem_of_getElem? (i := 1) rfl)))
  have S8 : Sta s s.heap "java/lang/String" "COMPACT_STRINGS" "Z" (.int cs) := Sta.start ecs (Or.inl (hsets _ (List.mem_of_getElem? (i := 0) rfl)))
  have n3 := not_v (Cond.before_iff.mp (hsets _ (List.mem_of_getElem? (i := 2) rfl)))
  have hcs : ¬ cs = 0 := gotF (Cond.eq_ints ecs (Term.int_eval (0))) n3
  obtain ⟨⟨cM, kM, mr, hm1, hm2, hm3⟩, -⟩ := hcalls
  have hM : own_Mir s "[Ljava/lang/Object;" mr := ⟨cM, kM, hm1, hm2, hm3.1⟩
  obtain ⟨hk2, hn⟩ := and_e hn
  obtain ⟨y2, ey2⟩ := exa_v hk2
  have SK2 : Sta s s.heap "com/example/lucid_policy/lucidpolicy/parse/SymbolKind" "ALIAS" "Lcom/example/lucid_policy/lucidpolicy/parse/SymbolKind;" (.ref y2) := Sta.start ey2 (Or.inr ⟨(hw _ (List.mem_of_getElem? (i := 36) rfl)), (hw _ (List.mem_of_getElem? (i := 37) rfl))⟩)
  obtain ⟨hk1, hn⟩ := and_e hn
  obtain ⟨y1, ey1⟩ := exa_v hk1
  have SK1 : Sta s s.heap "com/example/lucid_policy/lucidpolicy/parse/SymbolKind" "ATTRIBUTE" "Lcom/example/lucid_policy/lucidpolicy/parse/SymbolKind;" (.ref y1) := Sta.start ey1 (Or.inr ⟨(hw _ (List.mem_of_getElem? (i := 36) rfl)), (hw _ (List.mem_of_getElem? (i := 39) rfl))⟩)
  obtain ⟨hk3, hn⟩ := and_e hn
  obtain ⟨y3, ey3⟩ := exa_v hk3
  have SK3 : Sta s s.heap "com/example/lucid_policy/lucidpolicy/parse/SymbolKind" "ROLE" "Lcom/example/lucid_policy/lucidpolicy/parse/SymbolKind;" (.ref y3) := Sta.start ey3 (Or.inr ⟨(hw _ (List.mem_of_getElem? (i := 36) rfl)), (hw _ (List.mem_of_getElem? (i := 91) rfl))⟩)
  obtain ⟨hk5, hn⟩ := and_e hn
  obtain ⟨y5, ey5⟩ := exa_v hk5
  have SK5 : Sta s s.heap "com/example/lucid_policy/lucidpolicy/parse/SymbolKind" "BOOLEAN" "Lcom/example/lucid_policy/lucidpolicy/parse/SymbolKind;" (.ref y5) := Sta.start ey5 (Or.inr ⟨(hw _ (List.mem_of_getElem? (i := 36) rfl)), (hw _ (List.mem_of_getElem? (i := 164) rfl))⟩)
  obtain ⟨hk0, hn⟩ := and_e hn
  obtain ⟨y0, ey0⟩ := exa_v hk0
  have SK0 : Sta s s.heap "com/example/lucid_policy/lucidpolicy/parse/SymbolKind" "TYPE" "Lcom/example/lucid_policy/lucidpolicy/parse/SymbolKind;" (.ref y0) := Sta.start ey0 (Or.inr ⟨(hw _ (List.mem_of_getElem? (i := 36) rfl)), (hw _ (List.mem_of_getElem? (i := 166) rfl))⟩)
  obtain ⟨hk4, hn⟩ := and_e hn
  obtain ⟨y4, ey4⟩ := exa_v hk4
  have SK4 : Sta s s.heap "com/example/lucid_policy/lucidpolicy/parse/SymbolKind" "ROLE_ATTRIBUTE" "Lcom/example/lucid_policy/lucidpolicy/parse/SymbolKind;" (.ref y4) := Sta.start ey4 (Or.inr ⟨(hw _ (List.mem_of_getElem? (i := 36) rfl)), (hw _ (List.mem_of_getElem? (i := 168) rfl))⟩)
  have hk6 := hn
  obtain ⟨y6, ey6⟩ := exa_v hk6
  have SK6 : Sta s s.heap "com/example/lucid_policy/lucidpolicy/parse/SymbolKind" "USER" "Lcom/example/lucid_policy/lucidpolicy/parse/SymbolKind;" (.ref y6) := Sta.start ey6 (Or.inr ⟨(hw _ (List.mem_of_getElem? (i := 36) rfl)), (hw _ (List.mem_of_getElem? (i := 170) rfl))⟩)
  obtain ⟨n, o, h1, h2, h3, _, L, rfl, ⟨rfl, N, -⟩, hq⟩ := own_law l s _ hw tables_1 i0 i1 i2 i3 i4 cs y0 y1 y2 y3 y4 y5 y6 mr s.heap s.heap.size (Nat.le_refl _) S8 (Old.start s) hcs SK0 SK1 SK2 SK3 SK4 SK5 SK6 hM p e ha hc hk s m _ below hf ((Spec.applies_iff_loose hf).mp happ).1 ⟨rfl, State.Warmed39.refl s, rfl⟩ trivial
  refine ⟨n, _, h1, h2, h3, hpost _ _ _ _ _ _ ⟨Cond.after_iff.mpr rfl, Cond.after_iff.mpr (eq_i res_at (Term.int_eval (1)) rfl), trivial⟩ ⟨hq.1, hq.2.1, (hq.2.2.sift fun y hy => Or.inr (N y hy)).mono (by decide) (by decide)⟩⟩
theorem main_1_1 : Claimed_1_1 := comes_1 fun _ _ _ _ _ _ h hF => ⟨h.1, hF⟩
theorem main_1_2 : Claimed_1_2 := comes_1 fun _ _ _ _ _ _ h hF => ⟨h.2.1, hF⟩
end Jvm.Pilot.@@N@@
namespace Jvm.Pilot.@@N@@
open Jvm Jvm.ClassFile Sem Op Lib Jvm.Free Jvm.Stand Jvm.Pilot.@@N@@.Jvm.D
/-! MADE BY PROGRAM (witnessworld.py) out of the Statement's table words and the real class files: 35 classes; the members and pool entries that the words name. The judged class is class 1, her method 2. -/
namespace start1
open Jvm.ClassFile
def u (s : String) : CpInfo := .utf8 (stringToUtf16 s)
/-- a pool by its gaps: so many unusable entries, then the entry; so many at the end -/
def gap : Nat → List CpInfo → List CpInfo
  | 0, r => r
  | n + 1, r => .unusable :: gap n r
def poolList (es : List (Nat × CpInfo)) (last : Nat) : List CpInfo := es.foldr (fun e r => gap e.1 (e.2 :: r)) (gap last [])
def pool (es : List (Nat × CpInfo)) (last : Nat) : Array CpInfo := ⟨poolList es last⟩
def fileOf (pool : Array CpInfo) (this : Nat) (attrs : Array Attribute := #[]) (ms : Array MethodInfo := #[]) (fl : Nat := 33) (sup : Nat := 0) (ifs : Array Nat := #[]) (fds : Array FieldInfo := #[]) : ClassFile where
  minorVersion := 0
  majorVersion := 65
  constantPool := pool
  accessFlags := fl
  thisClass := this
  superClass := sup
  interfaces := ifs
  fields := fds
  methods := ms
  attributes := attrs
def plain (name : String) (sup : Option ClassId) : Class where
  name := name
  kind := .ordinary
  loader := none
  accessFlags := 33
  super := sup
  interfaces := #[]
  cf := none
  fields := #[]
  methods := #[]
  instanceTypes := #[]
  staticTypes := #[]
  resolved := #[]
  callSites := []
  init := .initialized
  statics := none
  mirror := none

def pool0 : Array CpInfo := pool [(5, u "<init>"), (0, u "()V"), (1, .class_ 10), (1, u "java/lang/Object"), (0, u "getClass"), (0, u "()Ljava/lang/Class;")] 111

def k0c0 : Code := { maxStack := 0, maxLocals := 1, code := object_method_1_code, exceptionTable := #[], attributes := #[] }
def k0m0 : Method := { name := "<init>", desc := "()V", sig := { parameters := [], returnType := none }, accessFlags := 1, code := some k0c0 }
def k0m1 : Method := { name := "getClass", desc := "()Ljava/lang/Class;", sig := { parameters := [], returnType := some (.object "java/lang/Class") }, accessFlags := 273, code := none }
/-- java/lang/Object -/
def k0 : Class := { plain "java/lang/Object" none with
  accessFlags := 33
  interfaces := #[]
  cf := some (fileOf pool0 8 #[] #[{ accessFlags := 1, nameIndex := 5, descriptorIndex := 6, attributes := #[] }, { accessFlags := 273, nameIndex := 11, descriptorIndex := 12, attributes := #[] }] 33 0 #[] #[])
  fields := #[]
  methods := #[k0m0, k0m1]
  instanceTypes := #[]
  staticTypes := #[]
  resolved := Array.replicate 124 none
  statics := none }

def pool1 : Array CpInfo := pool [(2, .class_ 4), (1, u "java/lang/Object"), (0, u "<init>"), (0, u "()V"), (0, .integer 2147483647), (0, .fieldref 9 10), (0, .class_ 11), (0, .nameAndType 12 13), (0, u "com/example/lucid_policy/lucidpolicy/parse/SymbolKind"), (0, u "TYPE"), (0, u "Lcom/example/lucid_policy/lucidpolicy/parse/SymbolKind;"), (0, .fieldref 9 15), (0, .nameAndType 16 13), (0, u "ATTRIBUTE"), (0, .fieldref 9 18), (0, .nameAndType 19 13), (0, u "ALIAS"), (0, .fieldref 9 21), (0, .nameAndType 22 13), (0, u "ROLE"), (0, .fieldref 9 24), (0, .nameAndType 25 13), (0, u "ROLE_ATTRIBUTE"), (0, .fieldref 9 27), (0, .nameAndType 28 13), (0, u "BOOLEAN"), (0, .fieldref 9 30), (0, .nameAndType 31 13), (0, u "USER"), (0, .class_ 33), (0, u "java/lang/String"), (0, .methodref 32 35), (0, .nameAndType 5 36), (0, u "([C)V"), (0, .methodref 38 39), (0, .class_ 40), (0, .nameAndType 41 42), (0, u "com/example/lucid_policy/lucidpolicy/parse/SymbolDeclaredPinLaw"), (0, u "kindOf"), (0, u "(I)Lcom/example/lucid_policy/lucidpolicy/parse/SymbolKind;"), (0, .class_ 44), (0, u "com/example/lucid_policy/lucidpolicy/parse/Symbol"), (0, .methodref 43 46), (0, .nameAndType 5 47), (0, u "(Ljava/lang/String;)V"), (0, .methodref 43 49), (0, .nameAndType 50 51), (0, u "declared"), (0, u "()Z"), (0, .methodref 43 53), (0, .nameAndType 54 55), (0, u "require"), (0, u "(Lcom/example/lucid_policy/lucidpolicy/parse/Block;)V"), (0, .methodref 43 57), (0, .nameAndType 58 59), (0, u "declare"), (0, u "(Lcom/example/lucid_policy/lucidpolicy/parse/SymbolKind;Lcom/example/lucid_policy/lucidpolicy/model/SourceLocation;Lcom/example/lucid_policy/lucidpolicy/parse/Block;)V"), (0, .methodref 43 61), (0, .nameAndType 62 63), (0, u "kind"), (0, u "()Lcom/example/lucid_policy/lucidpolicy/parse/SymbolKind;"), (3, u "law"), (0, u "(IIIII)Z")] 4

def k1m0 : Method := { name := "<init>", desc := "()V", sig := { parameters := [], returnType := none }, accessFlags := 1, code := none }
def k1c1 : Code := { maxStack := 2, maxLocals := 2, code := method_2_code, exceptionTable := #[], attributes := #[] }
def k1m1 : Method := { name := "kindOf", desc := "(I)Lcom/example/lucid_policy/lucidpolicy/parse/SymbolKind;", sig := { parameters := [.int], returnType := some (.object "com/example/lucid_policy/lucidpolicy/parse/SymbolKind") }, accessFlags := 10, code := some k1c1 }
def k1c2 : Code := { maxStack := 4, maxLocals := 13, code := code, exceptionTable := #[], attributes := #[] }
def k1m2 : Method := { name := "law", desc := "(IIIII)Z", sig := { parameters := [.int, .int, .int, .int, .int], returnType := some .boolean }, accessFlags := 9, code := some k1c2 }
/-- com/example/lucid_policy/lucidpolicy/parse/SymbolDeclaredPinLaw -/
def k1 : Class := { plain "com/example/lucid_policy/lucidpolicy/parse/SymbolDeclaredPinLaw" (some 0) with
  accessFlags := 49
  interfaces := #[]
  cf := some (fileOf pool1 38 #[] #[{ accessFlags := 1, nameIndex := 5, descriptorIndex := 6, attributes := #[] }, { accessFlags := 10, nameIndex := 41, descriptorIndex := 42, attributes := #[] }, { accessFlags := 9, nameIndex := 67, descriptorIndex := 68, attributes := #[] }] 49 2 #[] #[])
  fields := #[]
  methods := #[k1m0, k1m1, k1m2]
  instanceTypes := #[]
  staticTypes := #[]
  resolved := Array.replicate 73 none
  statics := none }

def pool2 : Array CpInfo := pool [(1, .class_ 2), (0, u "java/io/Serializable"), (0, .class_ 4), (0, u "java/lang/Object")] 2

/-- java/io/Serializable -/
def k2 : Class := { plain "java/io/Serializable" (some 0) with
  accessFlags := 1537
  interfaces := #[]
  cf := some (fileOf pool2 1 #[] #[] 1537 3 #[] #[])
  fields := #[]
  methods := #[]
  instanceTypes := #[]
  staticTypes := #[]
  resolved := Array.replicate 7 none
  statics := none }

def pool3 : Array CpInfo := pool [(1, .class_ 2), (0, u "java/lang/Comparable"), (0, .class_ 4), (0, u "java/lang/Object")] 7

/-- java/lang/Comparable -/
def k3 : Class := { plain "java/lang/Comparable" (some 0) with
  accessFlags := 1537
  interfaces := #[]
  cf := some (fileOf pool3 1 #[] #[] 1537 3 #[] #[])
  fields := #[]
  methods := #[]
  instanceTypes := #[]
  staticTypes := #[]
  resolved := Array.replicate 12 none
  statics := none }

def pool4 : Array CpInfo := pool [(2, .class_ 4), (1, u "java/lang/CharSequence"), (42, .class_ 48), (0, u "java/lang/CharSequence$1CodePointIterator"), (10, .class_ 60), (0, u "java/lang/CharSequence$1CharIterator"), (5, .class_ 67), (0, u "java/lang/Object")] 63

/-- java/lang/CharSequence -/
def k4 : Class := { plain "java/lang/CharSequence" (some 0) with
  accessFlags := 1537
  interfaces := #[]
  cf := some (fileOf pool4 2 #[.nestMembers #[47, 59]] #[] 1537 66 #[] #[])
  fields := #[]
  methods := #[]
  instanceTypes := #[]
  staticTypes := #[]
  resolved := Array.replicate 131 none
  statics := none }

def pool5 : Array CpInfo := pool [(1, .class_ 2), (0, u "java/lang/constant/Constable"), (0, .class_ 4), (0, u "java/lang/Object")] 6

/-- java/lang/constant/Constable -/
def k5 : Class := { plain "java/lang/constant/Constable" (some 0) with
  accessFlags := 1537
  interfaces := #[]
  cf := some (fileOf pool5 1 #[] #[] 1537 3 #[] #[])
  fields := #[]
  methods := #[]
  instanceTypes := #[]
  staticTypes := #[]
  resolved := Array.replicate 11 none
  statics := none }

def pool6 : Array CpInfo := pool [(1, .class_ 2), (0, u "java/lang/constant/ConstantDesc"), (0, .class_ 4), (0, u "java/lang/Object")] 32

/-- java/lang/constant/ConstantDesc -/
def k6 : Class := { plain "java/lang/constant/ConstantDesc" (some 0) with
  accessFlags := 1537
  interfaces := #[]
  cf := some (fileOf pool6 1 #[] #[] 1537 3 #[] #[])
  fields := #[]
  methods := #[]
  instanceTypes := #[]
  staticTypes := #[]
  resolved := Array.replicate 37 none
  statics := none }

def pool7 : Array CpInfo := pool [(1, .methodref 2 3), (0, .class_ 4), (0, .nameAndType 5 6), (0, u "java/lang/Object"), (0, u "<init>"), (0, u "()V"), (2, .fieldref 10 11), (0, .class_ 12), (0, .nameAndType 13 14), (0, u "java/lang/String"), (0, u "value"), (0, u "[B"), (0, .fieldref 10 16), (0, .nameAndType 17 18), (0, u "coder"), (0, u "B"), (2, u "hash"), (0, u "I"), (2, u "hashIsZero"), (0, u "Z"), (0, .methodref 10 28), (0, .nameAndType 5 29), (0, u "([CIILjava/lang/Void;)V"), (8, .fieldref 10 39), (0, .nameAndType 40 26), (0, u "COMPACT_STRINGS"), (1, .class_ 44), (1, u "java/lang/StringUTF16"), (0, u "compress"), (1, .methodref 42 48), (0, .nameAndType 49 50), (0, u "coderFromArrayLen"), (0, u "([BI)B"), (126, .methodref 42 178), (0, .nameAndType 45 179), (0, u "([CII)[B"), (395, .class_ 576), (0, u "java/lang/CharSequence"), (22, u "CASE_INSENSITIVE_ORDER"), (0, u "Ljava/util/Comparator;"), (409, u "([C)V"), (90, u "serialPersistentFields"), (0, u "[Ljava/io/ObjectStreamField;"), (0, .class_ 1104), (0, u "java/lang/String$CaseInsensitiveComparator"), (1, .class_ 1107), (0, u "java/io/Serializable"), (0, .class_ 1109), (0, u "java/lang/Comparable"), (0, .class_ 1111), (0, u "java/lang/constant/Constable"), (0, .class_ 1113), (0, u "java/lang/constant/ConstantDesc"), (2, u "serialVersionUID"), (0, u "J"), (3, u "REPL"), (0, u "C"), (2, u "LATIN1"), (1, u "UTF16")] 323

def k7m0 : Method := { name := "<init>", desc := "()V", sig := { parameters := [], returnType := none }, accessFlags := 1, code := none }
def k7c1 : Code := { maxStack := 5, maxLocals := 2, code := jdk_42_method_3_code, exceptionTable := #[], attributes := #[] }
def k7m1 : Method := { name := "<init>", desc := "([C)V", sig := { parameters := [(.array .char)], returnType := none }, accessFlags := 1, code := some k7c1 }
def k7c2 : Code := { maxStack := 4, maxLocals := 6, code := jdk_42_method_149_code, exceptionTable := #[], attributes := #[] }
def k7m2 : Method := { name := "<init>", desc := "([CIILjava/lang/Void;)V", sig := { parameters := [(.array .char), .int, .int, (.object "java/lang/Void")], returnType := none }, accessFlags := 2, code := some k7c2 }
/-- java/lang/String -/
def k7 : Class := { plain "java/lang/String" (some 0) with
  accessFlags := 49
  interfaces := #[2, 3, 4, 5, 6]
  cf := some (fileOf pool7 10 #[.nestMembers #[1103]] #[{ accessFlags := 1, nameIndex := 5, descriptorIndex := 6, attributes := #[] }, { accessFlags := 1, nameIndex := 5, descriptorIndex := 1010, attributes := #[] }, { accessFlags := 2, nameIndex := 5, descriptorIndex := 29, attributes := #[] }] 49 2 #[1106, 1108, 575, 1110, 1112] #[{ accessFlags := 18, nameIndex := 13, descriptorIndex := 14, attributes := #[] }, { accessFlags := 18, nameIndex := 17, descriptorIndex := 18, attributes := #[] }, { accessFlags := 2, nameIndex := 21, descriptorIndex := 22, attributes := #[] }, { accessFlags := 2, nameIndex := 25, descriptorIndex := 26, attributes := #[] }, { accessFlags := 26, nameIndex := 1116, descriptorIndex := 1117, attributes := #[] }, { accessFlags := 24, nameIndex := 40, descriptorIndex := 26, attributes := #[] }, { accessFlags := 26, nameIndex := 1101, descriptorIndex := 1102, attributes := #[] }, { accessFlags := 26, nameIndex := 1121, descriptorIndex := 1122, attributes := #[] }, { accessFlags := 25, nameIndex := 599, descriptorIndex := 600, attributes := #[] }, { accessFlags := 24, nameIndex := 1125, descriptorIndex := 18, attributes := #[] }, { accessFlags := 24, nameIndex := 1127, descriptorIndex := 18, attributes := #[] }])
  fields := #[{ name := "value", type := (.array .byte), accessFlags := 18, slot := 0, constantValue := 0 }, { name := "coder", type := .byte, accessFlags := 18, slot := 1, constantValue := 0 }, { name := "hash", type := .int, accessFlags := 2, slot := 2, constantValue := 0 }, { name := "hashIsZero", type := .boolean, accessFlags := 2, slot := 3, constantValue := 0 }, { name := "serialVersionUID", type := .long, accessFlags := 26, slot := 0, constantValue := 0 }, { name := "COMPACT_STRINGS", type := .boolean, accessFlags := 24, slot := 1, constantValue := 0 }, { name := "serialPersistentFields", type := (.array (.object "java/io/ObjectStreamField")), accessFlags := 26, slot := 2, constantValue := 0 }, { name := "REPL", type := .char, accessFlags := 26, slot := 3, constantValue := 0 }, { name := "CASE_INSENSITIVE_ORDER", type := (.object "java/util/Comparator"), accessFlags := 25, slot := 4, constantValue := 0 }, { name := "LATIN1", type := .byte, accessFlags := 24, slot := 5, constantValue := 0 }, { name := "UTF16", type := .byte, accessFlags := 24, slot := 6, constantValue := 0 }]
  methods := #[k7m0, k7m1, k7m2]
  instanceTypes := #[(.array .byte), .byte, .int, .boolean]
  staticTypes := #[.long, .boolean, (.array (.object "java/io/ObjectStreamField")), .char, (.object "java/util/Comparator"), .byte, .byte]
  resolved := Array.replicate 1451 none
  statics := some 0 }

def pool8 : Array CpInfo := pool [(6, .class_ 8), (1, u "java/lang/Object"), (0, u "<init>"), (0, u "()V"), (1, .class_ 14), (1, u "java/lang/StringUTF16"), (31, u "$assertionsDisabled"), (0, u "Z"), (13, u "HI_BYTE_SHIFT"), (0, u "I"), (2, u "LO_BYTE_SHIFT"), (49, .methodref 12 116), (0, .nameAndType 117 118), (0, u "compress"), (0, u "([CI[BII)I"), (3, u "([CII)[B"), (138, u "coderFromArrayLen"), (0, u "([BI)B"), (106, .class_ 371), (1, u "java/lang/StringUTF16$LinesSpliterator"), (58, u "MAX_LENGTH"), (196, .class_ 628), (0, u "java/lang/StringUTF16$CodePointsSpliterator"), (0, .class_ 630), (0, u "java/lang/StringUTF16$CharsSpliterator")] 4

def k8m0 : Method := { name := "<init>", desc := "()V", sig := { parameters := [], returnType := none }, accessFlags := 0, code := none }
def k8c1 : Code := { maxStack := 2, maxLocals := 2, code := jdk_52_method_15_code, exceptionTable := #[], attributes := #[] }
def k8m1 : Method := { name := "coderFromArrayLen", desc := "([BI)B", sig := { parameters := [(.array .byte), .int], returnType := some .byte }, accessFlags := 8, code := some k8c1 }
def k8c2 : Code := { maxStack := 5, maxLocals := 6, code := jdk_52_method_16_code, exceptionTable := #[], attributes := #[] }
def k8m2 : Method := { name := "compress", desc := "([CII)[B", sig := { parameters := [(.array .char), .int, .int], returnType := some (.array .byte) }, accessFlags := 9, code := some k8c2 }
def k8c3 : Code := { maxStack := 3, maxLocals := 7, code := jdk_52_method_21_code, exceptionTable := #[], attributes := #[] }
def k8m3 : Method := { name := "compress", desc := "([CI[BII)I", sig := { parameters := [(.array .char), .int, (.array .byte), .int, .int], returnType := some .int }, accessFlags := 9, code := some k8c3 }
/-- java/lang/StringUTF16 -/
def k8 : Class := { plain "java/lang/StringUTF16" (some 0) with
  accessFlags := 48
  interfaces := #[]
  cf := some (fileOf pool8 12 #[.nestMembers #[627, 629, 369]] #[{ accessFlags := 0, nameIndex := 9, descriptorIndex := 10, attributes := #[] }, { accessFlags := 8, nameIndex := 261, descriptorIndex := 262, attributes := #[] }, { accessFlags := 9, nameIndex := 117, descriptorIndex := 122, attributes := #[] }, { accessFlags := 9, nameIndex := 117, descriptorIndex := 118, attributes := #[] }] 48 6 #[] #[{ accessFlags := 26, nameIndex := 61, descriptorIndex := 62, attributes := #[] }, { accessFlags := 26, nameIndex := 65, descriptorIndex := 62, attributes := #[] }, { accessFlags := 24, nameIndex := 430, descriptorIndex := 62, attributes := #[] }, { accessFlags := 4120, nameIndex := 46, descriptorIndex := 47, attributes := #[] }])
  fields := #[{ name := "HI_BYTE_SHIFT", type := .int, accessFlags := 26, slot := 0, constantValue := 0 }, { name := "LO_BYTE_SHIFT", type := .int, accessFlags := 26, slot := 1, constantValue := 0 }, { name := "MAX_LENGTH", type := .int, accessFlags := 24, slot := 2, constantValue := 0 }, { name := "$assertionsDisabled", type := .boolean, accessFlags := 4120, slot := 3, constantValue := 0 }]
  methods := #[k8m0, k8m1, k8m2, k8m3]
  instanceTypes := #[]
  staticTypes := #[.int, .int, .int, .boolean]
  resolved := Array.replicate 635 none
  statics := none }

def pool9 : Array CpInfo := pool [(2, .class_ 4), (1, u "java/lang/Enum"), (0, u "name"), (0, u "Ljava/lang/String;"), (2, u "ordinal"), (0, u "I"), (1, .class_ 14), (1, u "java/lang/Object"), (4, u "hash"), (86, .class_ 108), (1, u "java/lang/Enum$EnumDesc"), (2, .class_ 112), (0, u "java/lang/constant/Constable"), (0, .class_ 114), (0, u "java/lang/Comparable"), (0, .class_ 116), (0, u "java/io/Serializable")] 87

/-- java/lang/Enum -/
def k9 : Class := { plain "java/lang/Enum" (some 0) with
  accessFlags := 1057
  interfaces := #[5, 3, 2]
  cf := some (fileOf pool9 2 #[.nestMembers #[106]] #[] 1057 12 #[111, 113, 115] #[{ accessFlags := 18, nameIndex := 5, descriptorIndex := 6, attributes := #[] }, { accessFlags := 18, nameIndex := 9, descriptorIndex := 10, attributes := #[] }, { accessFlags := 2, nameIndex := 19, descriptorIndex := 10, attributes := #[] }])
  fields := #[{ name := "name", type := (.object "java/lang/String"), accessFlags := 18, slot := 0, constantValue := 0 }, { name := "ordinal", type := .int, accessFlags := 18, slot := 1, constantValue := 0 }, { name := "hash", type := .int, accessFlags := 2, slot := 2, constantValue := 0 }]
  methods := #[]
  instanceTypes := #[(.object "java/lang/String"), .int, .int]
  staticTypes := #[]
  resolved := Array.replicate 204 none
  statics := none }

def pool10 : Array CpInfo := pool [(1, .class_ 2), (0, u "com/example/lucid_policy/lucidpolicy/parse/SymbolKind"), (2, u "TYPE"), (0, u "Lcom/example/lucid_policy/lucidpolicy/parse/SymbolKind;"), (2, u "ATTRIBUTE"), (2, u "ALIAS"), (2, u "ROLE"), (2, u "ROLE_ATTRIBUTE"), (2, u "BOOLEAN"), (2, u "USER"), (2, u "$VALUES"), (0, u "[Lcom/example/lucid_policy/lucidpolicy/parse/SymbolKind;"), (6, .class_ 37), (1, u "java/lang/Enum"), (8, u "namespace"), (0, u "Lcom/example/lucid_policy/lucidpolicy/parse/Namespace;"), (2, u "description"), (0, u "Ljava/lang/String;")] 56

/-- com/example/lucid_policy/lucidpolicy/parse/SymbolKind -/
def k10 : Class := { plain "com/example/lucid_policy/lucidpolicy/parse/SymbolKind" (some 9) with
  accessFlags := 16432
  interfaces := #[]
  cf := some (fileOf pool10 1 #[] #[] 16432 35 #[] #[{ accessFlags := 16409, nameIndex := 5, descriptorIndex := 6, attributes := #[] }, { accessFlags := 16409, nameIndex := 9, descriptorIndex := 6, attributes := #[] }, { accessFlags := 16409, nameIndex := 12, descriptorIndex := 6, attributes := #[] }, { accessFlags := 16409, nameIndex := 15, descriptorIndex := 6, attributes := #[] }, { accessFlags := 16409, nameIndex := 18, descriptorIndex := 6, attributes := #[] }, { accessFlags := 16409, nameIndex := 21, descriptorIndex := 6, attributes := #[] }, { accessFlags := 16409, nameIndex := 24, descriptorIndex := 6, attributes := #[] }, { accessFlags := 18, nameIndex := 46, descriptorIndex := 47, attributes := #[] }, { accessFlags := 18, nameIndex := 50, descriptorIndex := 51, attributes := #[] }, { accessFlags := 4122, nameIndex := 27, descriptorIndex := 28, attributes := #[] }])
  fields := #[{ name := "TYPE", type := (.object "com/example/lucid_policy/lucidpolicy/parse/SymbolKind"), accessFlags := 16409, slot := 0, constantValue := 0 }, { name := "ATTRIBUTE", type := (.object "com/example/lucid_policy/lucidpolicy/parse/SymbolKind"), accessFlags := 16409, slot := 1, constantValue := 0 }, { name := "ALIAS", type := (.object "com/example/lucid_policy/lucidpolicy/parse/SymbolKind"), accessFlags := 16409, slot := 2, constantValue := 0 }, { name := "ROLE", type := (.object "com/example/lucid_policy/lucidpolicy/parse/SymbolKind"), accessFlags := 16409, slot := 3, constantValue := 0 }, { name := "ROLE_ATTRIBUTE", type := (.object "com/example/lucid_policy/lucidpolicy/parse/SymbolKind"), accessFlags := 16409, slot := 4, constantValue := 0 }, { name := "BOOLEAN", type := (.object "com/example/lucid_policy/lucidpolicy/parse/SymbolKind"), accessFlags := 16409, slot := 5, constantValue := 0 }, { name := "USER", type := (.object "com/example/lucid_policy/lucidpolicy/parse/SymbolKind"), accessFlags := 16409, slot := 6, constantValue := 0 }, { name := "namespace", type := (.object "com/example/lucid_policy/lucidpolicy/parse/Namespace"), accessFlags := 18, slot := 3, constantValue := 0 }, { name := "description", type := (.object "java/lang/String"), accessFlags := 18, slot := 4, constantValue := 0 }, { name := "$VALUES", type := (.array (.object "com/example/lucid_policy/lucidpolicy/parse/SymbolKind")), accessFlags := 4122, slot := 7, constantValue := 0 }]
  methods := #[]
  instanceTypes := #[(.object "java/lang/String"), .int, .int, (.object "com/example/lucid_policy/lucidpolicy/parse/Namespace"), (.object "java/lang/String")]
  staticTypes := #[(.object "com/example/lucid_policy/lucidpolicy/parse/SymbolKind"), (.object "com/example/lucid_policy/lucidpolicy/parse/SymbolKind"), (.object "com/example/lucid_policy/lucidpolicy/parse/SymbolKind"), (.object "com/example/lucid_policy/lucidpolicy/parse/SymbolKind"), (.object "com/example/lucid_policy/lucidpolicy/parse/SymbolKind"), (.object "com/example/lucid_policy/lucidpolicy/parse/SymbolKind"), (.object "com/example/lucid_policy/lucidpolicy/parse/SymbolKind"), (.array (.object "com/example/lucid_policy/lucidpolicy/parse/SymbolKind"))]
  resolved := Array.replicate 108 none
  statics := some 1 }

def pool11 : Array CpInfo := pool [(1, .methodref 2 3), (0, .class_ 4), (0, .nameAndType 5 6), (0, u "java/lang/Object"), (0, u "<init>"), (0, u "()V"), (0, .class_ 8), (0, u "java/util/ArrayList"), (0, .methodref 7 10), (0, .nameAndType 5 11), (0, u "(I)V"), (0, .fieldref 13 14), (0, .class_ 15), (0, .nameAndType 16 17), (0, u "com/example/lucid_policy/lucidpolicy/parse/Symbol"), (0, u "declaredIn"), (0, u "Ljava/util/List;"), (0, .fieldref 13 19), (0, .nameAndType 20 17), (0, u "requiredIn"), (0, .fieldref 13 22), (0, .nameAndType 23 24), (0, u "name"), (0, u "Ljava/lang/String;"), (0, .fieldref 13 26), (0, .nameAndType 27 28), (0, u "kind"), (0, u "Lcom/example/lucid_policy/lucidpolicy/parse/SymbolKind;"), (0, .fieldref 13 30), (0, .nameAndType 31 32), (0, u "location"), (0, u "Lcom/example/lucid_policy/lucidpolicy/model/SourceLocation;"), (0, .interfaceMethodref 34 35), (0, .class_ 36), (0, .nameAndType 37 38), (0, u "java/util/List"), (0, u "add"), (0, u "(Ljava/lang/Object;)Z"), (9, u "()Z"), (23, u "visible"), (0, u "I"), (2, u "(Ljava/lang/String;)V"), (3, u "()Lcom/example/lucid_policy/lucidpolicy/parse/SymbolKind;"), (1, u "declared"), (1, u "declare"), (0, u "(Lcom/example/lucid_policy/lucidpolicy/parse/SymbolKind;Lcom/example/lucid_policy/lucidpolicy/model/SourceLocation;Lcom/example/lucid_policy/lucidpolicy/parse/Block;)V"), (0, u "require"), (0, u "(Lcom/example/lucid_policy/lucidpolicy/parse/Block;)V")] 12

def k11c0 : Code := { maxStack := 4, maxLocals := 2, code := prog_160_method_1_code, exceptionTable := #[], attributes := #[] }
def k11m0 : Method := { name := "<init>", desc := "(Ljava/lang/String;)V", sig := { parameters := [(.object "java/lang/String")], returnType := none }, accessFlags := 0, code := some k11c0 }
def k11c1 : Code := { maxStack := 1, maxLocals := 1, code := prog_160_method_3_code, exceptionTable := #[], attributes := #[] }
def k11m1 : Method := { name := "kind", desc := "()Lcom/example/lucid_policy/lucidpolicy/parse/SymbolKind;", sig := { parameters := [], returnType := some (.object "com/example/lucid_policy/lucidpolicy/parse/SymbolKind") }, accessFlags := 0, code := some k11c1 }
def k11c2 : Code := { maxStack := 1, maxLocals := 1, code := prog_160_method_5_code, exceptionTable := #[], attributes := #[] }
def k11m2 : Method := { name := "declared", desc := "()Z", sig := { parameters := [], returnType := some .boolean }, accessFlags := 0, code := some k11c2 }
def k11c3 : Code := { maxStack := 2, maxLocals := 4, code := prog_160_method_6_code, exceptionTable := #[], attributes := #[] }
def k11m3 : Method := { name := "declare", desc := "(Lcom/example/lucid_policy/lucidpolicy/parse/SymbolKind;Lcom/example/lucid_policy/lucidpolicy/model/SourceLocation;Lcom/example/lucid_policy/lucidpolicy/parse/Block;)V", sig := { parameters := [(.object "com/example/lucid_policy/lucidpolicy/parse/SymbolKind"), (.object "com/example/lucid_policy/lucidpolicy/model/SourceLocation"), (.object "com/example/lucid_policy/lucidpolicy/parse/Block")], returnType := none }, accessFlags := 0, code := some k11c3 }
def k11c4 : Code := { maxStack := 2, maxLocals := 2, code := prog_160_method_7_code, exceptionTable := #[], attributes := #[] }
def k11m4 : Method := { name := "require", desc := "(Lcom/example/lucid_policy/lucidpolicy/parse/Block;)V", sig := { parameters := [(.object "com/example/lucid_policy/lucidpolicy/parse/Block")], returnType := none }, accessFlags := 0, code := some k11c4 }
/-- com/example/lucid_policy/lucidpolicy/parse/Symbol -/
def k11 : Class := { plain "com/example/lucid_policy/lucidpolicy/parse/Symbol" (some 0) with
  accessFlags := 32
  interfaces := #[]
  cf := some (fileOf pool11 13 #[] #[{ accessFlags := 0, nameIndex := 5, descriptorIndex := 76, attributes := #[] }, { accessFlags := 0, nameIndex := 27, descriptorIndex := 80, attributes := #[] }, { accessFlags := 0, nameIndex := 82, descriptorIndex := 48, attributes := #[] }, { accessFlags := 0, nameIndex := 84, descriptorIndex := 85, attributes := #[] }, { accessFlags := 0, nameIndex := 86, descriptorIndex := 87, attributes := #[] }] 32 2 #[] #[{ accessFlags := 18, nameIndex := 23, descriptorIndex := 24, attributes := #[] }, { accessFlags := 2, nameIndex := 27, descriptorIndex := 28, attributes := #[] }, { accessFlags := 2, nameIndex := 31, descriptorIndex := 32, attributes := #[] }, { accessFlags := 18, nameIndex := 16, descriptorIndex := 17, attributes := #[] }, { accessFlags := 18, nameIndex := 20, descriptorIndex := 17, attributes := #[] }, { accessFlags := 2, nameIndex := 72, descriptorIndex := 73, attributes := #[] }])
  fields := #[{ name := "name", type := (.object "java/lang/String"), accessFlags := 18, slot := 0, constantValue := 0 }, { name := "kind", type := (.object "com/example/lucid_policy/lucidpolicy/parse/SymbolKind"), accessFlags := 2, slot := 1, constantValue := 0 }, { name := "location", type := (.object "com/example/lucid_policy/lucidpolicy/model/SourceLocation"), accessFlags := 2, slot := 2, constantValue := 0 }, { name := "declaredIn", type := (.object "java/util/List"), accessFlags := 18, slot := 3, constantValue := 0 }, { name := "requiredIn", type := (.object "java/util/List"), accessFlags := 18, slot := 4, constantValue := 0 }, { name := "visible", type := .int, accessFlags := 2, slot := 5, constantValue := 0 }]
  methods := #[k11m0, k11m1, k11m2, k11m3, k11m4]
  instanceTypes := #[(.object "java/lang/String"), (.object "com/example/lucid_policy/lucidpolicy/parse/SymbolKind"), (.object "com/example/lucid_policy/lucidpolicy/model/SourceLocation"), (.object "java/util/List"), (.object "java/util/List"), .int]
  staticTypes := #[]
  resolved := Array.replicate 100 none
  statics := none }

def pool12 : Array CpInfo := pool [(8, .class_ 10), (1, u "java/lang/Iterable"), (24, .class_ 36), (0, u "java/lang/Object")] 25

/-- java/lang/Iterable -/
def k12 : Class := { plain "java/lang/Iterable" (some 0) with
  accessFlags := 1537
  interfaces := #[]
  cf := some (fileOf pool12 8 #[] #[] 1537 35 #[] #[])
  fields := #[]
  methods := #[]
  instanceTypes := #[]
  staticTypes := #[]
  resolved := Array.replicate 62 none
  statics := none }

def pool13 : Array CpInfo := pool [(10, .class_ 12), (1, u "java/util/Collection"), (47, .class_ 61), (0, u "java/lang/Object"), (0, .class_ 63), (0, u "java/lang/Iterable")] 51

/-- java/util/Collection -/
def k13 : Class := { plain "java/util/Collection" (some 0) with
  accessFlags := 1537
  interfaces := #[12]
  cf := some (fileOf pool13 10 #[] #[] 1537 60 #[62] #[])
  fields := #[]
  methods := #[]
  instanceTypes := #[]
  staticTypes := #[]
  resolved := Array.replicate 115 none
  statics := none }

def pool14 : Array CpInfo := pool [(1, .methodref 2 3), (0, .class_ 4), (0, .nameAndType 5 6), (0, u "java/lang/Object"), (0, u "<init>"), (0, u "()V"), (1, .class_ 10), (1, u "java/util/AbstractCollection"), (66, .class_ 78), (0, u "java/util/Collection")] 81

def k14c0 : Code := { maxStack := 1, maxLocals := 1, code := jdk_22_method_1_code, exceptionTable := #[], attributes := #[] }
def k14m0 : Method := { name := "<init>", desc := "()V", sig := { parameters := [], returnType := none }, accessFlags := 4, code := some k14c0 }
/-- java/util/AbstractCollection -/
def k14 : Class := { plain "java/util/AbstractCollection" (some 0) with
  accessFlags := 1057
  interfaces := #[13]
  cf := some (fileOf pool14 8 #[] #[{ accessFlags := 4, nameIndex := 5, descriptorIndex := 6, attributes := #[] }] 1057 2 #[77] #[])
  fields := #[]
  methods := #[k14m0]
  instanceTypes := #[]
  staticTypes := #[]
  resolved := Array.replicate 160 none
  statics := none }

def pool15 : Array CpInfo := pool [(8, .class_ 10), (1, u "java/util/SequencedCollection"), (15, .class_ 27), (0, u "java/lang/Object"), (0, .class_ 29), (0, u "java/util/Collection")] 27

/-- java/util/SequencedCollection -/
def k15 : Class := { plain "java/util/SequencedCollection" (some 0) with
  accessFlags := 1537
  interfaces := #[13]
  cf := some (fileOf pool15 8 #[] #[] 1537 26 #[28] #[])
  fields := #[]
  methods := #[]
  instanceTypes := #[]
  staticTypes := #[]
  resolved := Array.replicate 57 none
  statics := none }

def pool16 : Array CpInfo := pool [(8, .class_ 10), (1, u "java/util/List"), (49, u "add"), (3, u "(Ljava/lang/Object;)Z"), (38, .class_ 104), (0, u "java/lang/Object"), (15, .class_ 121), (0, u "java/util/SequencedCollection")] 129

def k16m0 : Method := { name := "add", desc := "(Ljava/lang/Object;)Z", sig := { parameters := [(.object "java/lang/Object")], returnType := some .boolean }, accessFlags := 1025, code := none }
/-- java/util/List -/
def k16 : Class := { plain "java/util/List" (some 0) with
  accessFlags := 1537
  interfaces := #[15]
  cf := some (fileOf pool16 8 #[] #[{ accessFlags := 1025, nameIndex := 60, descriptorIndex := 64, attributes := #[] }] 1537 103 #[120] #[])
  fields := #[]
  methods := #[k16m0]
  instanceTypes := #[]
  staticTypes := #[]
  resolved := Array.replicate 251 none
  statics := none }

def pool17 : Array CpInfo := pool [(1, .methodref 2 3), (0, .class_ 4), (0, .nameAndType 5 6), (0, u "java/util/AbstractCollection"), (0, u "<init>"), (0, u "()V"), (0, .fieldref 8 9), (0, .class_ 10), (0, .nameAndType 11 12), (0, u "java/util/AbstractList"), (0, u "modCount"), (0, u "I"), (64, .class_ 78), (0, u "java/util/AbstractList$Itr"), (3, .class_ 83), (0, u "java/util/AbstractList$ListItr"), (9, .class_ 94), (0, u "java/util/AbstractList$RandomAccessSubList"), (3, .class_ 99), (0, u "java/util/AbstractList$SubList"), (33, .class_ 134), (0, u "java/util/List"), (73, .class_ 209), (0, u "java/util/AbstractList$SubList$1"), (0, .class_ 211), (0, u "java/util/AbstractList$RandomAccessSpliterator")] 6

def k17c0 : Code := { maxStack := 2, maxLocals := 1, code := jdk_39_method_1_code, exceptionTable := #[], attributes := #[] }
def k17m0 : Method := { name := "<init>", desc := "()V", sig := { parameters := [], returnType := none }, accessFlags := 4, code := some k17c0 }
/-- java/util/AbstractList -/
def k17 : Class := { plain "java/util/AbstractList" (some 14) with
  accessFlags := 1057
  interfaces := #[16]
  cf := some (fileOf pool17 8 #[.nestMembers #[93, 98, 208, 210, 82, 77]] #[{ accessFlags := 4, nameIndex := 5, descriptorIndex := 6, attributes := #[] }] 1057 2 #[133] #[{ accessFlags := 132, nameIndex := 11, descriptorIndex := 12, attributes := #[] }])
  fields := #[{ name := "modCount", type := .int, accessFlags := 132, slot := 0, constantValue := 0 }]
  methods := #[k17m0]
  instanceTypes := #[.int]
  staticTypes := #[]
  resolved := Array.replicate 218 none
  statics := none }

def pool18 : Array CpInfo := pool [(1, .class_ 2), (0, u "java/util/RandomAccess"), (0, .class_ 4), (0, u "java/lang/Object")] 2

/-- java/util/RandomAccess -/
def k18 : Class := { plain "java/util/RandomAccess" (some 0) with
  accessFlags := 1537
  interfaces := #[]
  cf := some (fileOf pool18 1 #[] #[] 1537 3 #[] #[])
  fields := #[]
  methods := #[]
  instanceTypes := #[]
  staticTypes := #[]
  resolved := Array.replicate 7 none
  statics := none }

def pool19 : Array CpInfo := pool [(1, .class_ 2), (0, u "java/lang/Cloneable"), (0, .class_ 4), (0, u "java/lang/Object")] 2

/-- java/lang/Cloneable -/
def k19 : Class := { plain "java/lang/Cloneable" (some 0) with
  accessFlags := 1537
  interfaces := #[]
  cf := some (fileOf pool19 1 #[] #[] 1537 3 #[] #[])
  fields := #[]
  methods := #[]
  instanceTypes := #[]
  staticTypes := #[]
  resolved := Array.replicate 7 none
  statics := none }

def pool20 : Array CpInfo := pool [(1, .methodref 2 3), (0, .class_ 4), (0, .nameAndType 5 6), (0, u "java/util/AbstractList"), (0, u "<init>"), (0, u "()V"), (0, .class_ 8), (0, u "java/lang/Object"), (0, .fieldref 10 11), (0, .class_ 12), (0, .nameAndType 13 14), (0, u "java/util/ArrayList"), (0, u "elementData"), (0, u "[Ljava/lang/Object;"), (2, u "EMPTY_ELEMENTDATA"), (23, u "DEFAULTCAPACITY_EMPTY_ELEMENTDATA"), (5, u "()[Ljava/lang/Object;"), (0, .fieldref 10 49), (0, .nameAndType 50 51), (0, u "size"), (0, u "I"), (6, .class_ 60), (1, u "java/util/Arrays"), (0, u "copyOf"), (1, .fieldref 10 64), (0, .nameAndType 65 51), (0, u "modCount"), (0, .methodref 58 67), (0, .nameAndType 61 68), (0, u "([Ljava/lang/Object;I)[Ljava/lang/Object;"), (0, .methodref 10 70), (0, .nameAndType 71 72), (0, u "grow"), (0, u "(I)[Ljava/lang/Object;"), (0, .methodref 74 75), (0, .class_ 76), (0, .nameAndType 77 78), (0, u "jdk/internal/util/ArraysSupport"), (0, u "newLength"), (0, u "(III)I"), (17, u "(Ljava/lang/Object;)Z"), (32, .methodref 10 130), (0, .nameAndType 71 47), (0, .methodref 10 132), (0, .nameAndType 133 134), (0, u "add"), (0, u "(Ljava/lang/Object;[Ljava/lang/Object;I)V"), (3, u "(I)V"), (9, .class_ 149), (0, u "java/util/List"), (112, .class_ 263), (0, u "java/util/ArrayList$ListItr"), (3, .class_ 268), (0, u "java/util/ArrayList$Itr"), (7, .class_ 277), (0, u "java/util/ArrayList$SubList"), (12, .class_ 291), (0, u "java/util/ArrayList$ArrayListSpliterator"), (37, .class_ 330), (0, u "java/util/RandomAccess"), (0, .class_ 332), (0, u "java/lang/Cloneable"), (0, .class_ 334), (0, u "java/io/Serializable"), (0, u "serialVersionUID"), (0, u "J"), (3, u "DEFAULT_CAPACITY"), (159, .class_ 501), (0, u "java/util/ArrayList$SubList$2"), (0, .class_ 503), (0, u "java/util/ArrayList$SubList$1")] 5

def k20c0 : Code := { maxStack := 4, maxLocals := 2, code := jdk_38_method_1_code, exceptionTable := #[], attributes := #[] }
def k20m0 : Method := { name := "<init>", desc := "(I)V", sig := { parameters := [.int], returnType := none }, accessFlags := 1, code := some k20c0 }
def k20m1 : Method := { name := "<init>", desc := "()V", sig := { parameters := [], returnType := none }, accessFlags := 1, code := none }
def k20c2 : Code := { maxStack := 4, maxLocals := 4, code := jdk_38_method_6_code, exceptionTable := #[], attributes := #[] }
def k20m2 : Method := { name := "grow", desc := "(I)[Ljava/lang/Object;", sig := { parameters := [.int], returnType := some (.array (.object "java/lang/Object")) }, accessFlags := 2, code := some k20c2 }
def k20c3 : Code := { maxStack := 3, maxLocals := 1, code := jdk_38_method_7_code, exceptionTable := #[], attributes := #[] }
def k20m3 : Method := { name := "grow", desc := "()[Ljava/lang/Object;", sig := { parameters := [], returnType := some (.array (.object "java/lang/Object")) }, accessFlags := 2, code := some k20c3 }
def k20c4 : Code := { maxStack := 3, maxLocals := 4, code := jdk_38_method_24_code, exceptionTable := #[], attributes := #[] }
def k20m4 : Method := { name := "add", desc := "(Ljava/lang/Object;[Ljava/lang/Object;I)V", sig := { parameters := [(.object "java/lang/Object"), (.array (.object "java/lang/Object")), .int], returnType := none }, accessFlags := 2, code := some k20c4 }
def k20c5 : Code := { maxStack := 4, maxLocals := 2, code := jdk_38_method_25_code, exceptionTable := #[], attributes := #[] }
def k20m5 : Method := { name := "add", desc := "(Ljava/lang/Object;)Z", sig := { parameters := [(.object "java/lang/Object")], returnType := some .boolean }, accessFlags := 1, code := some k20c5 }
/-- java/util/ArrayList -/
def k20 : Class := { plain "java/util/ArrayList" (some 17) with
  accessFlags := 33
  interfaces := #[16, 18, 19, 2]
  cf := some (fileOf pool20 10 #[.nestMembers #[290, 276, 500, 502, 262, 267]] #[{ accessFlags := 1, nameIndex := 5, descriptorIndex := 138, attributes := #[] }, { accessFlags := 1, nameIndex := 5, descriptorIndex := 6, attributes := #[] }, { accessFlags := 2, nameIndex := 71, descriptorIndex := 72, attributes := #[] }, { accessFlags := 2, nameIndex := 71, descriptorIndex := 47, attributes := #[] }, { accessFlags := 2, nameIndex := 133, descriptorIndex := 134, attributes := #[] }, { accessFlags := 1, nameIndex := 133, descriptorIndex := 96, attributes := #[] }] 33 2 #[148, 329, 331, 333] #[{ accessFlags := 26, nameIndex := 335, descriptorIndex := 336, attributes := #[] }, { accessFlags := 26, nameIndex := 340, descriptorIndex := 51, attributes := #[] }, { accessFlags := 26, nameIndex := 17, descriptorIndex := 14, attributes := #[] }, { accessFlags := 26, nameIndex := 41, descriptorIndex := 14, attributes := #[] }, { accessFlags := 128, nameIndex := 13, descriptorIndex := 14, attributes := #[] }, { accessFlags := 2, nameIndex := 50, descriptorIndex := 51, attributes := #[] }])
  fields := #[{ name := "serialVersionUID", type := .long, accessFlags := 26, slot := 0, constantValue := 0 }, { name := "DEFAULT_CAPACITY", type := .int, accessFlags := 26, slot := 1, constantValue := 0 }, { name := "EMPTY_ELEMENTDATA", type := (.array (.object "java/lang/Object")), accessFlags := 26, slot := 2, constantValue := 0 }, { name := "DEFAULTCAPACITY_EMPTY_ELEMENTDATA", type := (.array (.object "java/lang/Object")), accessFlags := 26, slot := 3, constantValue := 0 }, { name := "elementData", type := (.array (.object "java/lang/Object")), accessFlags := 128, slot := 1, constantValue := 0 }, { name := "size", type := .int, accessFlags := 2, slot := 2, constantValue := 0 }]
  methods := #[k20m0, k20m1, k20m2, k20m3, k20m4, k20m5]
  instanceTypes := #[.int, (.array (.object "java/lang/Object")), .int]
  staticTypes := #[.long, .int, (.array (.object "java/lang/Object")), (.array (.object "java/lang/Object"))]
  resolved := Array.replicate 509 none
  statics := none }

def pool21 : Array CpInfo := pool [(9, u "<init>"), (6, .class_ 18), (1, u "java/lang/Object"), (0, u "()V"), (1, .class_ 23), (1, u "jdk/internal/util/ArraysSupport"), (0, u "LOG2_ARRAY_LONG_INDEX_SCALE"), (0, u "I"), (2, u "U"), (0, u "Ljdk/internal/misc/Unsafe;"), (8, u "BIG_ENDIAN"), (0, u "Z"), (8, u "LOG2_BYTE_BIT_SIZE"), (4, u "LOG2_ARRAY_INT_INDEX_SCALE"), (54, u "JLA"), (0, u "Ljdk/internal/access/JavaLangAccess;"), (11, u "LOG2_ARRAY_BOOLEAN_INDEX_SCALE"), (9, u "LOG2_ARRAY_BYTE_INDEX_SCALE"), (5, u "LOG2_ARRAY_CHAR_INDEX_SCALE"), (5, u "LOG2_ARRAY_SHORT_INDEX_SCALE"), (18, u "LOG2_ARRAY_FLOAT_INDEX_SCALE"), (24, u "LOG2_ARRAY_DOUBLE_INDEX_SCALE"), (6, .methodref 195 196), (0, .class_ 197), (0, .nameAndType 198 199), (0, u "java/lang/Math"), (0, u "max"), (0, u "(II)I"), (0, .integer 2147483639), (76, u "T_BOOLEAN"), (2, u "T_CHAR"), (1, u "T_FLOAT"), (1, u "T_DOUBLE"), (1, u "T_BYTE"), (1, u "T_SHORT"), (1, u "T_INT"), (1, u "T_LONG"), (1, u "SOFT_MAX_ARRAY_LENGTH"), (56, u "newLength"), (0, u "(III)I")] 25

def k21m0 : Method := { name := "<init>", desc := "()V", sig := { parameters := [], returnType := none }, accessFlags := 2, code := none }
def k21c1 : Code := { maxStack := 3, maxLocals := 4, code := jdk_48_method_27_code, exceptionTable := #[], attributes := #[] }
def k21m1 : Method := { name := "newLength", desc := "(III)I", sig := { parameters := [.int, .int, .int], returnType := some .int }, accessFlags := 9, code := some k21c1 }
/-- jdk/internal/util/ArraysSupport -/
def k21 : Class := { plain "jdk/internal/util/ArraysSupport" (some 0) with
  accessFlags := 33
  interfaces := #[]
  cf := some (fileOf pool21 21 #[] #[{ accessFlags := 2, nameIndex := 9, descriptorIndex := 19, attributes := #[] }, { accessFlags := 9, nameIndex := 351, descriptorIndex := 352, attributes := #[] }] 33 16 #[] #[{ accessFlags := 24, nameIndex := 28, descriptorIndex := 29, attributes := #[] }, { accessFlags := 26, nameIndex := 38, descriptorIndex := 39, attributes := #[] }, { accessFlags := 25, nameIndex := 121, descriptorIndex := 25, attributes := #[] }, { accessFlags := 25, nameIndex := 131, descriptorIndex := 25, attributes := #[] }, { accessFlags := 25, nameIndex := 137, descriptorIndex := 25, attributes := #[] }, { accessFlags := 25, nameIndex := 143, descriptorIndex := 25, attributes := #[] }, { accessFlags := 25, nameIndex := 53, descriptorIndex := 25, attributes := #[] }, { accessFlags := 25, nameIndex := 24, descriptorIndex := 25, attributes := #[] }, { accessFlags := 25, nameIndex := 162, descriptorIndex := 25, attributes := #[] }, { accessFlags := 25, nameIndex := 187, descriptorIndex := 25, attributes := #[] }, { accessFlags := 26, nameIndex := 48, descriptorIndex := 25, attributes := #[] }, { accessFlags := 25, nameIndex := 277, descriptorIndex := 25, attributes := #[] }, { accessFlags := 25, nameIndex := 280, descriptorIndex := 25, attributes := #[] }, { accessFlags := 25, nameIndex := 282, descriptorIndex := 25, attributes := #[] }, { accessFlags := 25, nameIndex := 284, descriptorIndex := 25, attributes := #[] }, { accessFlags := 25, nameIndex := 286, descriptorIndex := 25, attributes := #[] }, { accessFlags := 25, nameIndex := 288, descriptorIndex := 25, attributes := #[] }, { accessFlags := 25, nameIndex := 290, descriptorIndex := 25, attributes := #[] }, { accessFlags := 25, nameIndex := 292, descriptorIndex := 25, attributes := #[] }, { accessFlags := 26, nameIndex := 108, descriptorIndex := 109, attributes := #[] }, { accessFlags := 25, nameIndex := 294, descriptorIndex := 25, attributes := #[] }])
  fields := #[{ name := "U", type := (.object "jdk/internal/misc/Unsafe"), accessFlags := 24, slot := 0, constantValue := 0 }, { name := "BIG_ENDIAN", type := .boolean, accessFlags := 26, slot := 1, constantValue := 0 }, { name := "LOG2_ARRAY_BOOLEAN_INDEX_SCALE", type := .int, accessFlags := 25, slot := 2, constantValue := 0 }, { name := "LOG2_ARRAY_BYTE_INDEX_SCALE", type := .int, accessFlags := 25, slot := 3, constantValue := 0 }, { name := "LOG2_ARRAY_CHAR_INDEX_SCALE", type := .int, accessFlags := 25, slot := 4, constantValue := 0 }, { name := "LOG2_ARRAY_SHORT_INDEX_SCALE", type := .int, accessFlags := 25, slot := 5, constantValue := 0 }, { name := "LOG2_ARRAY_INT_INDEX_SCALE", type := .int, accessFlags := 25, slot := 6, constantValue := 0 }, { name := "LOG2_ARRAY_LONG_INDEX_SCALE", type := .int, accessFlags := 25, slot := 7, constantValue := 0 }, { name := "LOG2_ARRAY_FLOAT_INDEX_SCALE", type := .int, accessFlags := 25, slot := 8, constantValue := 0 }, { name := "LOG2_ARRAY_DOUBLE_INDEX_SCALE", type := .int, accessFlags := 25, slot := 9, constantValue := 0 }, { name := "LOG2_BYTE_BIT_SIZE", type := .int, accessFlags := 26, slot := 10, constantValue := 0 }, { name := "T_BOOLEAN", type := .int, accessFlags := 25, slot := 11, constantValue := 0 }, { name := "T_CHAR", type := .int, accessFlags := 25, slot := 12, constantValue := 0 }, { name := "T_FLOAT", type := .int, accessFlags := 25, slot := 13, constantValue := 0 }, { name := "T_DOUBLE", type := .int, accessFlags := 25, slot := 14, constantValue := 0 }, { name := "T_BYTE", type := .int, accessFlags := 25, slot := 15, constantValue := 0 }, { name := "T_SHORT", type := .int, accessFlags := 25, slot := 16, constantValue := 0 }, { name := "T_INT", type := .int, accessFlags := 25, slot := 17, constantValue := 0 }, { name := "T_LONG", type := .int, accessFlags := 25, slot := 18, constantValue := 0 }, { name := "JLA", type := (.object "jdk/internal/access/JavaLangAccess"), accessFlags := 26, slot := 19, constantValue := 0 }, { name := "SOFT_MAX_ARRAY_LENGTH", type := .int, accessFlags := 25, slot := 20, constantValue := 0 }]
  methods := #[k21m0, k21m1]
  instanceTypes := #[]
  staticTypes := #[(.object "jdk/internal/misc/Unsafe"), .boolean, .int, .int, .int, .int, .int, .int, .int, .int, .int, .int, .int, .int, .int, .int, .int, .int, .int, (.object "jdk/internal/access/JavaLangAccess"), .int]
  resolved := Array.replicate 378 none
  statics := none }

def pool22 : Array CpInfo := pool [(1, .class_ 2), (0, u "java/lang/Math"), (1, .class_ 6), (1, u "java/lang/Object"), (0, u "<init>"), (0, u "()V"), (89, .class_ 100), (1, u "java/lang/Math$RandomNumberGeneratorHolder"), (71, u "negativeZeroFloatBits"), (0, u "J"), (2, u "negativeZeroDoubleBits"), (21, u "max"), (2, u "min"), (43, u "$assertionsDisabled"), (0, u "Z"), (88, u "(II)I"), (2, u "twoToTheDoubleScaleDown"), (0, u "D"), (4, u "twoToTheDoubleScaleUp"), (9, u "E"), (3, u "PI"), (2, u "TAU"), (2, u "DEGREES_TO_RADIANS"), (0, u "RADIANS_TO_DEGREES")] 94

def k22m0 : Method := { name := "<init>", desc := "()V", sig := { parameters := [], returnType := none }, accessFlags := 2, code := none }
def k22c1 : Code := { maxStack := 2, maxLocals := 2, code := jdk_29_method_65_code, exceptionTable := #[], attributes := #[] }
def k22m1 : Method := { name := "max", desc := "(II)I", sig := { parameters := [.int, .int], returnType := some .int }, accessFlags := 9, code := some k22c1 }
def k22c2 : Code := { maxStack := 2, maxLocals := 2, code := jdk_29_method_69_code, exceptionTable := #[], attributes := #[] }
def k22m2 : Method := { name := "min", desc := "(II)I", sig := { parameters := [.int, .int], returnType := some .int }, accessFlags := 9, code := some k22c2 }
/-- java/lang/Math -/
def k22 : Class := { plain "java/lang/Math" (some 0) with
  accessFlags := 49
  interfaces := #[]
  cf := some (fileOf pool22 1 #[.nestMembers #[98]] #[{ accessFlags := 2, nameIndex := 7, descriptorIndex := 8, attributes := #[] }, { accessFlags := 9, nameIndex := 198, descriptorIndex := 335, attributes := #[] }, { accessFlags := 9, nameIndex := 201, descriptorIndex := 335, attributes := #[] }] 49 4 #[] #[{ accessFlags := 25, nameIndex := 354, descriptorIndex := 339, attributes := #[] }, { accessFlags := 25, nameIndex := 358, descriptorIndex := 339, attributes := #[] }, { accessFlags := 25, nameIndex := 361, descriptorIndex := 339, attributes := #[] }, { accessFlags := 26, nameIndex := 364, descriptorIndex := 339, attributes := #[] }, { accessFlags := 26, nameIndex := 365, descriptorIndex := 339, attributes := #[] }, { accessFlags := 26, nameIndex := 172, descriptorIndex := 173, attributes := #[] }, { accessFlags := 26, nameIndex := 176, descriptorIndex := 173, attributes := #[] }, { accessFlags := 8, nameIndex := 344, descriptorIndex := 339, attributes := #[] }, { accessFlags := 8, nameIndex := 338, descriptorIndex := 339, attributes := #[] }, { accessFlags := 4120, nameIndex := 245, descriptorIndex := 246, attributes := #[] }])
  fields := #[{ name := "E", type := .double, accessFlags := 25, slot := 0, constantValue := 0 }, { name := "PI", type := .double, accessFlags := 25, slot := 1, constantValue := 0 }, { name := "TAU", type := .double, accessFlags := 25, slot := 2, constantValue := 0 }, { name := "DEGREES_TO_RADIANS", type := .double, accessFlags := 26, slot := 3, constantValue := 0 }, { name := "RADIANS_TO_DEGREES", type := .double, accessFlags := 26, slot := 4, constantValue := 0 }, { name := "negativeZeroFloatBits", type := .long, accessFlags := 26, slot := 5, constantValue := 0 }, { name := "negativeZeroDoubleBits", type := .long, accessFlags := 26, slot := 6, constantValue := 0 }, { name := "twoToTheDoubleScaleUp", type := .double, accessFlags := 8, slot := 7, constantValue := 0 }, { name := "twoToTheDoubleScaleDown", type := .double, accessFlags := 8, slot := 8, constantValue := 0 }, { name := "$assertionsDisabled", type := .boolean, accessFlags := 4120, slot := 9, constantValue := 0 }]
  methods := #[k22m0, k22m1, k22m2]
  instanceTypes := #[]
  staticTypes := #[.double, .double, .double, .double, .double, .long, .long, .double, .double, .boolean]
  resolved := Array.replicate 460 none
  statics := none }

def pool23 : Array CpInfo := pool [(2, .class_ 4), (1, u "java/lang/Object"), (0, u "<init>"), (0, u "()V"), (7, .class_ 16), (1, u "java/util/Arrays"), (57, .class_ 76), (1, u "java/util/Arrays$NaturalOrder"), (9, .methodref 2 87), (0, .nameAndType 88 89), (0, u "getClass"), (0, u "()Ljava/lang/Class;"), (20, .class_ 111), (0, u "[Ljava/lang/Object;"), (1, .class_ 115), (1, u "java/util/Arrays$LegacyMergeSort"), (1, u "Z"), (32, .methodref 151 152), (0, .class_ 153), (0, .nameAndType 154 155), (0, u "java/lang/System"), (0, u "arraycopy"), (0, u "(Ljava/lang/Object;ILjava/lang/Object;II)V"), (144, .methodref 14 301), (0, .nameAndType 302 303), (0, u "copyOf"), (0, u "([Ljava/lang/Object;ILjava/lang/Class;)[Ljava/lang/Object;"), (0, .methodref 305 306), (0, .class_ 307), (0, .nameAndType 308 309), (0, u "java/lang/Math"), (0, u "min"), (0, u "(II)I"), (65, .class_ 376), (0, u "java/util/Arrays$ArrayList"), (68, u "$assertionsDisabled"), (269, u "MIN_ARRAY_SORT_GRAN"), (0, u "I"), (2, u "INSERTIONSORT_THRESHOLD"), (140, u "([Ljava/lang/Object;I)[Ljava/lang/Object;"), (114, .class_ 976), (0, u "java/util/Arrays$ArrayItr")] 52

def k23m0 : Method := { name := "<init>", desc := "()V", sig := { parameters := [], returnType := none }, accessFlags := 2, code := none }
def k23c1 : Code := { maxStack := 3, maxLocals := 2, code := jdk_65_method_119_code, exceptionTable := #[], attributes := #[] }
def k23m1 : Method := { name := "copyOf", desc := "([Ljava/lang/Object;I)[Ljava/lang/Object;", sig := { parameters := [(.array (.object "java/lang/Object")), .int], returnType := some (.array (.object "java/lang/Object")) }, accessFlags := 9, code := some k23c1 }
def k23c2 : Code := { maxStack := 6, maxLocals := 4, code := jdk_65_method_120_code, exceptionTable := #[], attributes := #[] }
def k23m2 : Method := { name := "copyOf", desc := "([Ljava/lang/Object;ILjava/lang/Class;)[Ljava/lang/Object;", sig := { parameters := [(.array (.object "java/lang/Object")), .int, (.object "java/lang/Class")], returnType := some (.array (.object "java/lang/Object")) }, accessFlags := 9, code := some k23c2 }
/-- java/util/Arrays -/
def k23 : Class := { plain "java/util/Arrays" (some 0) with
  accessFlags := 49
  interfaces := #[]
  cf := some (fileOf pool23 14 #[.nestMembers #[975, 375, 113, 74]] #[{ accessFlags := 2, nameIndex := 5, descriptorIndex := 6, attributes := #[] }, { accessFlags := 9, nameIndex := 302, descriptorIndex := 860, attributes := #[] }, { accessFlags := 9, nameIndex := 302, descriptorIndex := 303, attributes := #[] }] 49 2 #[] #[{ accessFlags := 26, nameIndex := 715, descriptorIndex := 716, attributes := #[] }, { accessFlags := 26, nameIndex := 719, descriptorIndex := 716, attributes := #[] }, { accessFlags := 4120, nameIndex := 445, descriptorIndex := 117, attributes := #[] }])
  fields := #[{ name := "MIN_ARRAY_SORT_GRAN", type := .int, accessFlags := 26, slot := 0, constantValue := 0 }, { name := "INSERTIONSORT_THRESHOLD", type := .int, accessFlags := 26, slot := 1, constantValue := 0 }, { name := "$assertionsDisabled", type := .boolean, accessFlags := 4120, slot := 2, constantValue := 0 }]
  methods := #[k23m0, k23m1, k23m2]
  instanceTypes := #[]
  staticTypes := #[.int, .int, .boolean]
  resolved := Array.replicate 1029 none
  statics := none }

def pool24 : Array CpInfo := pool [(2, .class_ 4), (1, u "java/lang/Object"), (0, u "<init>"), (0, u "()V"), (1, .class_ 10), (1, u "java/lang/System"), (0, u "allowSecurityManager"), (0, u "I"), (16, u "cons"), (0, u "Ljava/io/Console;"), (77, .class_ 110), (1, u "java/lang/System$CallersHolder"), (43, u "initialErrStream"), (0, u "Ljava/io/PrintStream;"), (19, u "security"), (0, u "Ljava/lang/SecurityManager;"), (31, .class_ 209), (0, u "java/lang/System$1"), (7, u "props"), (0, u "Ljava/util/Properties;"), (2, u "lineSeparator"), (0, u "Ljava/lang/String;"), (96, .class_ 321), (1, u "java/lang/System$LoggerFinder"), (5, .class_ 328), (0, u "java/lang/System$Logger"), (67, u "err"), (2, u "out"), (91, u "notSupportedJnuEncoding"), (15, u "in"), (17, u "initialIn"), (0, u "Ljava/io/InputStream;"), (35, u "bootLayer"), (0, u "Ljava/lang/ModuleLayer;"), (99, .class_ 664), (0, u "java/lang/System$2"), (9, u "NEVER"), (2, u "MAYBE"), (49, u "arraycopy"), (0, u "(Ljava/lang/Object;ILjava/lang/Object;II)V"), (72, .class_ 802), (0, u "java/lang/System$Logger$Level")] 31

def k24m0 : Method := { name := "<init>", desc := "()V", sig := { parameters := [], returnType := none }, accessFlags := 2, code := none }
def k24m1 : Method := { name := "arraycopy", desc := "(Ljava/lang/Object;ILjava/lang/Object;II)V", sig := { parameters := [(.object "java/lang/Object"), .int, (.object "java/lang/Object"), .int, .int], returnType := none }, accessFlags := 265, code := none }
/-- java/lang/System -/
def k24 : Class := { plain "java/lang/System" (some 0) with
  accessFlags := 49
  interfaces := #[]
  cf := some (fileOf pool24 8 #[.nestMembers #[319, 327, 801, 108, 663, 208]] #[{ accessFlags := 2, nameIndex := 5, descriptorIndex := 6, attributes := #[] }, { accessFlags := 265, nameIndex := 727, descriptorIndex := 728, attributes := #[] }] 49 2 #[] #[{ accessFlags := 25, nameIndex := 507, descriptorIndex := 526, attributes := #[] }, { accessFlags := 25, nameIndex := 399, descriptorIndex := 155, attributes := #[] }, { accessFlags := 25, nameIndex := 396, descriptorIndex := 155, attributes := #[] }, { accessFlags := 10, nameIndex := 525, descriptorIndex := 526, attributes := #[] }, { accessFlags := 26, nameIndex := 674, descriptorIndex := 12, attributes := #[] }, { accessFlags := 26, nameIndex := 677, descriptorIndex := 12, attributes := #[] }, { accessFlags := 10, nameIndex := 11, descriptorIndex := 12, attributes := #[] }, { accessFlags := 74, nameIndex := 175, descriptorIndex := 176, attributes := #[] }, { accessFlags := 10, nameIndex := 491, descriptorIndex := 222, attributes := #[] }, { accessFlags := 74, nameIndex := 29, descriptorIndex := 30, attributes := #[] }, { accessFlags := 74, nameIndex := 154, descriptorIndex := 155, attributes := #[] }, { accessFlags := 10, nameIndex := 217, descriptorIndex := 218, attributes := #[] }, { accessFlags := 10, nameIndex := 221, descriptorIndex := 222, attributes := #[] }, { accessFlags := 8, nameIndex := 562, descriptorIndex := 563, attributes := #[] }])
  fields := #[{ name := "in", type := (.object "java/io/InputStream"), accessFlags := 25, slot := 0, constantValue := 0 }, { name := "out", type := (.object "java/io/PrintStream"), accessFlags := 25, slot := 1, constantValue := 0 }, { name := "err", type := (.object "java/io/PrintStream"), accessFlags := 25, slot := 2, constantValue := 0 }, { name := "initialIn", type := (.object "java/io/InputStream"), accessFlags := 10, slot := 3, constantValue := 0 }, { name := "NEVER", type := .int, accessFlags := 26, slot := 4, constantValue := 0 }, { name := "MAYBE", type := .int, accessFlags := 26, slot := 5, constantValue := 0 }, { name := "allowSecurityManager", type := .int, accessFlags := 10, slot := 6, constantValue := 0 }, { name := "security", type := (.object "java/lang/SecurityManager"), accessFlags := 74, slot := 7, constantValue := 0 }, { name := "notSupportedJnuEncoding", type := (.object "java/lang/String"), accessFlags := 10, slot := 8, constantValue := 0 }, { name := "cons", type := (.object "java/io/Console"), accessFlags := 74, slot := 9, constantValue := 0 }, { name := "initialErrStream", type := (.object "java/io/PrintStream"), accessFlags := 74, slot := 10, constantValue := 0 }, { name := "props", type := (.object "java/util/Properties"), accessFlags := 10, slot := 11, constantValue := 0 }, { name := "lineSeparator", type := (.object "java/lang/String"), accessFlags := 10, slot := 12, constantValue := 0 }, { name := "bootLayer", type := (.object "java/lang/ModuleLayer"), accessFlags := 8, slot := 13, constantValue := 0 }]
  methods := #[k24m0, k24m1]
  instanceTypes := #[]
  staticTypes := #[(.object "java/io/InputStream"), (.object "java/io/PrintStream"), (.object "java/io/PrintStream"), (.object "java/io/InputStream"), .int, .int, .int, (.object "java/lang/SecurityManager"), (.object "java/lang/String"), (.object "java/io/Console"), (.object "java/io/PrintStream"), (.object "java/util/Properties"), (.object "java/lang/String"), (.object "java/lang/ModuleLayer")]
  resolved := Array.replicate 834 none
  statics := none }

def pool25 : Array CpInfo := pool [(4, .class_ 6), (1, u "java/lang/Object"), (0, u "<init>"), (0, u "()V"), (5, .class_ 16), (1, u "java/lang/StringLatin1"), (104, u "$assertionsDisabled"), (0, u "Z"), (98, .class_ 223), (1, u "java/lang/StringLatin1$LinesSpliterator"), (166, .class_ 391), (0, u "java/lang/StringLatin1$CharsSpliterator")] 3

def k25m0 : Method := { name := "<init>", desc := "()V", sig := { parameters := [], returnType := none }, accessFlags := 0, code := none }
/-- java/lang/StringLatin1 -/
def k25 : Class := { plain "java/lang/StringLatin1" (some 0) with
  accessFlags := 48
  interfaces := #[]
  cf := some (fileOf pool25 14 #[.nestMembers #[390, 221]] #[{ accessFlags := 0, nameIndex := 7, descriptorIndex := 8, attributes := #[] }] 48 4 #[] #[{ accessFlags := 4120, nameIndex := 121, descriptorIndex := 122, attributes := #[] }])
  fields := #[{ name := "$assertionsDisabled", type := .boolean, accessFlags := 4120, slot := 0, constantValue := 0 }]
  methods := #[k25m0]
  instanceTypes := #[]
  staticTypes := #[.boolean]
  resolved := Array.replicate 395 none
  statics := none }

def pool26 : Array CpInfo := pool [(2, .class_ 4), (1, u "java/lang/Object"), (0, u "<init>"), (0, u "()V"), (17, .class_ 26), (1, u "jdk/internal/util/Preconditions"), (28, .class_ 56), (0, u "jdk/internal/util/Preconditions$4"), (57, .class_ 115), (0, u "jdk/internal/util/Preconditions$1"), (7, u "SIOOBE_FORMATTER"), (0, u "Ljava/util/function/BiFunction;"), (0, .class_ 126), (0, u "jdk/internal/util/Preconditions$2"), (3, u "AIOOBE_FORMATTER"), (0, .class_ 132), (0, u "jdk/internal/util/Preconditions$3"), (3, u "IOOBE_FORMATTER")] 57

def k26m0 : Method := { name := "<init>", desc := "()V", sig := { parameters := [], returnType := none }, accessFlags := 1, code := none }
/-- jdk/internal/util/Preconditions -/
def k26 : Class := { plain "jdk/internal/util/Preconditions" (some 0) with
  accessFlags := 33
  interfaces := #[]
  cf := some (fileOf pool26 24 #[.nestMembers #[55, 131, 125, 114]] #[{ accessFlags := 1, nameIndex := 5, descriptorIndex := 6, attributes := #[] }] 33 2 #[] #[{ accessFlags := 25, nameIndex := 123, descriptorIndex := 124, attributes := #[] }, { accessFlags := 25, nameIndex := 130, descriptorIndex := 124, attributes := #[] }, { accessFlags := 25, nameIndex := 136, descriptorIndex := 124, attributes := #[] }])
  fields := #[{ name := "SIOOBE_FORMATTER", type := (.object "java/util/function/BiFunction"), accessFlags := 25, slot := 0, constantValue := 0 }, { name := "AIOOBE_FORMATTER", type := (.object "java/util/function/BiFunction"), accessFlags := 25, slot := 1, constantValue := 0 }, { name := "IOOBE_FORMATTER", type := (.object "java/util/function/BiFunction"), accessFlags := 25, slot := 2, constantValue := 0 }]
  methods := #[k26m0]
  instanceTypes := #[]
  staticTypes := #[(.object "java/util/function/BiFunction"), (.object "java/util/function/BiFunction"), (.object "java/util/function/BiFunction")]
  resolved := Array.replicate 194 none
  statics := some 2 }

def pool27 : Array CpInfo := pool [(1, u "java/lang/Class"), (0, .class_ 1), (0, u "java/lang/Object"), (0, .class_ 3)] 3

/-- java/lang/Class -/
def k27 : Class := { plain "java/lang/Class" (some 0) with
  accessFlags := 49
  interfaces := #[]
  cf := some (fileOf pool27 2 #[] #[] 49 4 #[] #[])
  fields := #[]
  methods := #[]
  instanceTypes := #[]
  staticTypes := #[]
  resolved := Array.replicate 8 none
  statics := none }

/-- the primitive byte -/
def k28 : Class := { plain "byte" none with kind := .primitive 'B', accessFlags := 0x411 }
/-- [B -/
def k29 : Class := { plain "[B" (some 0) with kind := .array 28 .byte, interfaces := #[19, 2], accessFlags := 1041 }

/-- the primitive char -/
def k30 : Class := { plain "char" none with kind := .primitive 'C', accessFlags := 0x411 }
/-- [C -/
def k31 : Class := { plain "[C" (some 0) with kind := .array 30 .char, interfaces := #[19, 2], accessFlags := 1041 }

/-- the primitive int -/
def k32 : Class := { plain "int" none with kind := .primitive 'I', accessFlags := 0x411 }
/-- [I -/
def k33 : Class := { plain "[I" (some 0) with kind := .array 32 .int, interfaces := #[19, 2], accessFlags := 1041 }

/-- [Ljava/lang/Object; -/
def k34 : Class := { plain "[Ljava/lang/Object;" (some 0) with kind := .array 0 (.object "java/lang/Object"), interfaces := #[19, 2], accessFlags := 1041, mirror := some 3 }

def heap : Heap := #[{ cls := 7, slots := #[.long 0, .int 1, .null, .int 0, .null, .int 0, .int 0], vm := .statics 7 },
  { cls := 10, slots := #[.ref 4, .ref 5, .ref 6, .ref 7, .ref 8, .ref 9, .ref 10, .null], vm := .statics 10 },
  { cls := 26, slots := #[.null, .null, .null], vm := .statics 26 },
  { cls := 27, slots := #[], vm := .mirror 34 },
  { cls := 10, slots := #[.null, .int 0, .int 0, .null, .null], vm := .none },
  { cls := 10, slots := #[.null, .int 1, .int 0, .null, .null], vm := .none },
  { cls := 10, slots := #[.null, .int 2, .int 0, .null, .null], vm := .none },
  { cls := 10, slots := #[.null, .int 3, .int 0, .null, .null], vm := .none },
  { cls := 10, slots := #[.null, .int 4, .int 0, .null, .null], vm := .none },
  { cls := 10, slots := #[.null, .int 5, .int 0, .null, .null], vm := .none },
  { cls := 10, slots := #[.null, .int 6, .int 0, .null, .null], vm := .none }]
def classes : Array Class := #[k0, k1, k2, k3, k4, k5, k6, k7, k8, k9, k10, k11, k12, k13, k14, k15, k16, k17, k18, k19, k20, k21, k22, k23, k24, k25, k26, k27, k28, k29, k30, k31, k32, k33, k34]
def interned : List (Array UInt16 × Addr) := []
def slotsUsed : Nat := 53
def theMethod : MethodId := ⟨1, 2⟩
def args0 : Array Value := #[.int 5, .int 2, .int 1, .int 2, .int 3]
def aboutOver (below : List Frame) : State where
  vm := { classes := classes, interned := interned.toArray }
  heap := heap
  slotsUsed := slotsUsed
  threads := #[{ frames := .invoking theMethod args0 :: below }]
def below0 : List Frame := [.native { method := ⟨0, 0⟩, args := #[] }]
def about1 : State := aboutOver below0
def p0 : Program := .bare "" "" ""
def e0 : Env := launch0.env 0 0 0
theorem w_frames : about1.frames = Frame.invoking theMethod args0 :: below0 := rfl
set_option maxRecDepth 65536 in
theorem w_args : argsFit about1.vm theMethod args0 = true := by decide +kernel
set_option maxRecDepth 65536 in
theorem w_heap : heapFits about1 = true := by decide +kernel
set_option maxRecDepth 65536 in
theorem w_runnable : about1.curStatus? = some .runnable := by decide +kernel
set_option maxRecDepth 65536 in
theorem w_alone : about1.alone = true := by decide +kernel
set_option maxRecDepth 65536 in
theorem w_named : about1.methodNamed? x = some theMethod := by decide +kernel
set_option maxRecDepth 65536 in
theorem w_hears : about1.hears theMethod below0 = true := by decide +kernel
set_option maxRecDepth 65536 in
theorem w_ripe : about1.ripe theMethod args0 below0 = true := by decide +kernel
theorem w_running : about1.status = .running := rfl
set_option maxRecDepth 65536 in
theorem w_room : about1.hasRoom e0.platform room_1 = true :=
  launch0.hasRoom_least _ room_1 (by decide +kernel) (by decide +kernel) (by decide +kernel) (by decide +kernel) (by decide +kernel) (by decide +kernel)
theorem allAtoms_all (ts : List Jvm.Cond) (a : Array Jvm.Value) (st : Jvm.State) : (allAtoms ts).before a st = ts.all (fun c => c.before a st) := by
  induction ts with
  | nil => rfl
  | cons c t ih =>
    show (Jvm.Cond.and c (allAtoms t)).before a st = _
    rw [Jvm.Cond.before_and, ih, List.all_cons]
def words1 : List Jvm.Cond := Jvm.Cond.code x code maxLocals ret :: tables_1
/-- a 'code' word, met by the world's own term for the bytes: nothing is compared byte by byte -/
theorem code_word {y : MethodName} {bytes : ByteArray} {mx : Nat} {rt : Option FieldType} {a : Array Value} {s : State} {m : MethodId} {meth : Method} {c : Code} (h1 : s.methodNamed? y = some m) (h2 : s.vm.method? m = some meth) (h3 : meth.code = some c) (h4 : c.code = bytes)
    (h5 : (c.maxLocals == mx && c.exceptionTable.isEmpty && decide (c.maxStack ≤ mostOperands) && decide (meth.sig.returnType = rt) && !meth.locks && decide (parseMethodDescriptor y.desc = some meth.sig)) = true) : (Jvm.Cond.code y bytes mx rt).before a s = true := by
  simp only [Bool.and_eq_true, beq_iff_eq, Bool.not_eq_true', decide_eq_true_eq] at h5
  obtain ⟨⟨⟨⟨⟨g1, g2⟩, g3⟩, g4⟩, g5⟩, g6⟩ := h5
  simp [Cond.before, Cond.holds, Cond.value, h1, h2, h3, h4, g1, g2, g3, g4, g5, g6]
def isCode : Jvm.Cond → Bool
  | .code _ _ _ _ => true
  | _ => false
theorem all_split {L : List Jvm.Cond} {P : Jvm.Cond → Bool} (h1 : L.all (fun c => isCode c || P c) = true) (h2 : ∀ c ∈ L.filter isCode, P c = true) : L.all P = true := by
  refine List.all_eq_true.mpr fun c hc => ?_
  have h := List.all_eq_true.mp h1 c hc
  rcases Bool.eq_false_or_eq_true (isCode c) with hi | hi
  · exact h2 c (List.mem_filter.mpr ⟨hc, hi⟩)
  · simpa [hi] using h
set_option maxRecDepth 65536 in
theorem w_c0 : (Jvm.Cond.code x code maxLocals ret).before args0 about1 = true := code_word (m := ⟨1, 2⟩) (meth := k1m2) (c := k1c2) (by decide +kernel) rfl rfl rfl (by decide +kernel)
set_option maxRecDepth 65536 in
theorem w_c1 : (Jvm.Cond.code ({ cls := "java/lang/String", name := "<init>", desc := "([C)V" } : Jvm.MethodName) jdk_42_method_3_code (2 : Nat) (Option.none : Option Jvm.ClassFile.FieldType)).before args0 about1 = true := code_word (m := ⟨7, 1⟩) (meth := k7m1) (c := k7c1) (by decide +kernel) rfl rfl rfl (by decide +kernel)
set_option maxRecDepth 65536 in
theorem w_c2 : (Jvm.Cond.code ({ cls := "java/lang/String", name := "<init>", desc := "([CIILjava/lang/Void;)V" } : Jvm.MethodName) jdk_42_method_149_code (6 : Nat) (Option.none : Option Jvm.ClassFile.FieldType)).before args0 about1 = true := code_word (m := ⟨7, 2⟩) (meth := k7m2) (c := k7c2) (by decide +kernel) rfl rfl rfl (by decide +kernel)
set_option maxRecDepth 65536 in
theorem w_c3 : (Jvm.Cond.code ({ cls := "java/lang/Object", name := "<init>", desc := "()V" } : Jvm.MethodName) object_method_1_code (1 : Nat) (Option.none : Option Jvm.ClassFile.FieldType)).before args0 about1 = true := code_word (m := ⟨0, 0⟩) (meth := k0m0) (c := k0c0) (by decide +kernel) rfl rfl rfl (by decide +kernel)
set_option maxRecDepth 65536 in
theorem w_c4 : (Jvm.Cond.code ({ cls := "java/lang/StringUTF16", name := "compress", desc := "([CII)[B" } : Jvm.MethodName) jdk_52_method_16_code (6 : Nat) (Option.some (Jvm.ClassFile.FieldType.array Jvm.ClassFile.FieldType.byte))).before args0 about1 = true := code_word (m := ⟨8, 2⟩) (meth := k8m2) (c := k8c2) (by decide +kernel) rfl rfl rfl (by decide +kernel)
set_option maxRecDepth 65536 in
theorem w_c5 : (Jvm.Cond.code ({ cls := "java/lang/StringUTF16", name := "compress", desc := "([CI[BII)I" } : Jvm.MethodName) jdk_52_method_21_code (7 : Nat) (Option.some Jvm.ClassFile.FieldType.int)).before args0 about1 = true := code_word (m := ⟨8, 3⟩) (meth := k8m3) (c := k8c3) (by decide +kernel) rfl rfl rfl (by decide +kernel)
set_option maxRecDepth 65536 in
theorem w_c6 : (Jvm.Cond.code ({ cls := "java/lang/StringUTF16", name := "coderFromArrayLen", desc := "([BI)B" } : Jvm.MethodName) jdk_52_method_15_code (2 : Nat) (Option.some Jvm.ClassFile.FieldType.byte)).before args0 about1 = true := code_word (m := ⟨8, 1⟩) (meth := k8m1) (c := k8c1) (by decide +kernel) rfl rfl rfl (by decide +kernel)
set_option maxRecDepth 65536 in
theorem w_c7 : (Jvm.Cond.code ({ cls := "com/example/lucid_policy/lucidpolicy/parse/SymbolDeclaredPinLaw", name := "kindOf", desc := "(I)Lcom/example/lucid_policy/lucidpolicy/parse/SymbolKind;" } : Jvm.MethodName) method_2_code (2 : Nat) (Option.some (Jvm.ClassFile.FieldType.object "com/example/lucid_policy/lucidpolicy/parse/SymbolKind"))).before args0 about1 = true := code_word (m := ⟨1, 1⟩) (meth := k1m1) (c := k1c1) (by decide +kernel) rfl rfl rfl (by decide +kernel)
set_option maxRecDepth 65536 in
theorem w_c8 : (Jvm.Cond.code ({ cls := "com/example/lucid_policy/lucidpolicy/parse/Symbol", name := "<init>", desc := "(Ljava/lang/String;)V" } : Jvm.MethodName) prog_160_method_1_code (2 : Nat) (Option.none : Option Jvm.ClassFile.FieldType)).before args0 about1 = true := code_word (m := ⟨11, 0⟩) (meth := k11m0) (c := k11c0) (by decide +kernel) rfl rfl rfl (by decide +kernel)
set_option maxRecDepth 65536 in
theorem w_c9 : (Jvm.Cond.code ({ cls := "java/util/ArrayList", name := "<init>", desc := "(I)V" } : Jvm.MethodName) jdk_38_method_1_code (2 : Nat) (Option.none : Option Jvm.ClassFile.FieldType)).before args0 about1 = true := code_word (m := ⟨20, 0⟩) (meth := k20m0) (c := k20c0) (by decide +kernel) rfl rfl rfl (by decide +kernel)
set_option maxRecDepth 65536 in
theorem w_c10 : (Jvm.Cond.code ({ cls := "java/util/AbstractList", name := "<init>", desc := "()V" } : Jvm.MethodName) jdk_39_method_1_code (1 : Nat) (Option.none : Option Jvm.ClassFile.FieldType)).before args0 about1 = true := code_word (m := ⟨17, 0⟩) (meth := k17m0) (c := k17c0) (by decide +kernel) rfl rfl rfl (by decide +kernel)
set_option maxRecDepth 65536 in
theorem w_c11 : (Jvm.Cond.code ({ cls := "java/util/AbstractCollection", name := "<init>", desc := "()V" } : Jvm.MethodName) jdk_22_method_1_code (1 : Nat) (Option.none : Option Jvm.ClassFile.FieldType)).before args0 about1 = true := code_word (m := ⟨14, 0⟩) (meth := k14m0) (c := k14c0) (by decide +kernel) rfl rfl rfl (by decide +kernel)
set_option maxRecDepth 65536 in
theorem w_c12 : (Jvm.Cond.code ({ cls := "com/example/lucid_policy/lucidpolicy/parse/Symbol", name := "declared", desc := "()Z" } : Jvm.MethodName) prog_160_method_5_code (1 : Nat) (Option.some Jvm.ClassFile.FieldType.boolean)).before args0 about1 = true := code_word (m := ⟨11, 2⟩) (meth := k11m2) (c := k11c2) (by decide +kernel) rfl rfl rfl (by decide +kernel)
set_option maxRecDepth 65536 in
theorem w_c13 : (Jvm.Cond.code ({ cls := "com/example/lucid_policy/lucidpolicy/parse/Symbol", name := "kind", desc := "()Lcom/example/lucid_policy/lucidpolicy/parse/SymbolKind;" } : Jvm.MethodName) prog_160_method_3_code (1 : Nat) (Option.some (Jvm.ClassFile.FieldType.object "com/example/lucid_policy/lucidpolicy/parse/SymbolKind"))).before args0 about1 = true := code_word (m := ⟨11, 1⟩) (meth := k11m1) (c := k11c1) (by decide +kernel) rfl rfl rfl (by decide +kernel)
set_option maxRecDepth 65536 in
theorem w_c14 : (Jvm.Cond.code ({ cls := "com/example/lucid_policy/lucidpolicy/parse/Symbol", name := "require", desc := "(Lcom/example/lucid_policy/lucidpolicy/parse/Block;)V" } : Jvm.MethodName) prog_160_method_7_code (2 : Nat) (Option.none : Option Jvm.ClassFile.FieldType)).before args0 about1 = true := code_word (m := ⟨11, 4⟩) (meth := k11m4) (c := k11c4) (by decide +kernel) rfl rfl rfl (by decide +kernel)
set_option maxRecDepth 65536 in
theorem w_c15 : (Jvm.Cond.code ({ cls := "java/util/ArrayList", name := "add", desc := "(Ljava/lang/Object;)Z" } : Jvm.MethodName) jdk_38_method_25_code (2 : Nat) (Option.some Jvm.ClassFile.FieldType.boolean)).before args0 about1 = true := code_word (m := ⟨20, 5⟩) (meth := k20m5) (c := k20c5) (by decide +kernel) rfl rfl rfl (by decide +kernel)
set_option maxRecDepth 65536 in
theorem w_c16 : (Jvm.Cond.code ({ cls := "java/util/ArrayList", name := "add", desc := "(Ljava/lang/Object;[Ljava/lang/Object;I)V" } : Jvm.MethodName) jdk_38_method_24_code (4 : Nat) (Option.none : Option Jvm.ClassFile.FieldType)).before args0 about1 = true := code_word (m := ⟨20, 4⟩) (meth := k20m4) (c := k20c4) (by decide +kernel) rfl rfl rfl (by decide +kernel)
set_option maxRecDepth 65536 in
theorem w_c17 : (Jvm.Cond.code ({ cls := "com/example/lucid_policy/lucidpolicy/parse/Symbol", name := "declare", desc := "(Lcom/example/lucid_policy/lucidpolicy/parse/SymbolKind;Lcom/example/lucid_policy/lucidpolicy/model/SourceLocation;Lcom/example/lucid_policy/lucidpolicy/parse/Block;)V" } : Jvm.MethodName) prog_160_method_6_code (4 : Nat) (Option.none : Option Jvm.ClassFile.FieldType)).before args0 about1 = true := code_word (m := ⟨11, 3⟩) (meth := k11m3) (c := k11c3) (by decide +kernel) rfl rfl rfl (by decide +kernel)
set_option maxRecDepth 65536 in
theorem w_c18 : (Jvm.Cond.code ({ cls := "java/util/ArrayList", name := "grow", desc := "()[Ljava/lang/Object;" } : Jvm.MethodName) jdk_38_method_7_code (1 : Nat) (Option.some (Jvm.ClassFile.FieldType.array (Jvm.ClassFile.FieldType.object "java/lang/Object")))).before args0 about1 = true := code_word (m := ⟨20, 3⟩) (meth := k20m3) (c := k20c3) (by decide +kernel) rfl rfl rfl (by decide +kernel)
set_option maxRecDepth 65536 in
theorem w_c19 : (Jvm.Cond.code ({ cls := "java/util/ArrayList", name := "grow", desc := "(I)[Ljava/lang/Object;" } : Jvm.MethodName) jdk_38_method_6_code (4 : Nat) (Option.some (Jvm.ClassFile.FieldType.array (Jvm.ClassFile.FieldType.object "java/lang/Object")))).before args0 about1 = true := code_word (m := ⟨20, 2⟩) (meth := k20m2) (c := k20c2) (by decide +kernel) rfl rfl rfl (by decide +kernel)
set_option maxRecDepth 65536 in
theorem w_c20 : (Jvm.Cond.code ({ cls := "jdk/internal/util/ArraysSupport", name := "newLength", desc := "(III)I" } : Jvm.MethodName) jdk_48_method_27_code (4 : Nat) (Option.some Jvm.ClassFile.FieldType.int)).before args0 about1 = true := code_word (m := ⟨21, 1⟩) (meth := k21m1) (c := k21c1) (by decide +kernel) rfl rfl rfl (by decide +kernel)
set_option maxRecDepth 65536 in
theorem w_c21 : (Jvm.Cond.code ({ cls := "java/lang/Math", name := "max", desc := "(II)I" } : Jvm.MethodName) jdk_29_method_65_code (2 : Nat) (Option.some Jvm.ClassFile.FieldType.int)).before args0 about1 = true := code_word (m := ⟨22, 1⟩) (meth := k22m1) (c := k22c1) (by decide +kernel) rfl rfl rfl (by decide +kernel)
set_option maxRecDepth 65536 in
theorem w_c22 : (Jvm.Cond.code ({ cls := "java/util/Arrays", name := "copyOf", desc := "([Ljava/lang/Object;I)[Ljava/lang/Object;" } : Jvm.MethodName) jdk_65_method_119_code (2 : Nat) (Option.some (Jvm.ClassFile.FieldType.array (Jvm.ClassFile.FieldType.object "java/lang/Object")))).before args0 about1 = true := code_word (m := ⟨23, 1⟩) (meth := k23m1) (c := k23c1) (by decide +kernel) rfl rfl rfl (by decide +kernel)
set_option maxRecDepth 65536 in
theorem w_c23 : (Jvm.Cond.code ({ cls := "java/util/Arrays", name := "copyOf", desc := "([Ljava/lang/Object;ILjava/lang/Class;)[Ljava/lang/Object;" } : Jvm.MethodName) jdk_65_method_120_code (4 : Nat) (Option.some (Jvm.ClassFile.FieldType.array (Jvm.ClassFile.FieldType.object "java/lang/Object")))).before args0 about1 = true := code_word (m := ⟨23, 2⟩) (meth := k23m2) (c := k23c2) (by decide +kernel) rfl rfl rfl (by decide +kernel)
set_option maxRecDepth 65536 in
theorem w_c24 : (Jvm.Cond.code ({ cls := "java/lang/Math", name := "min", desc := "(II)I" } : Jvm.MethodName) jdk_29_method_69_code (2 : Nat) (Option.some Jvm.ClassFile.FieldType.int)).before args0 about1 = true := code_word (m := ⟨22, 2⟩) (meth := k22m2) (c := k22c2) (by decide +kernel) rfl rfl rfl (by decide +kernel)
def codes1 : List Jvm.Cond := [Jvm.Cond.code x code maxLocals ret, Jvm.Cond.code ({ cls := "java/lang/String", name := "<init>", desc := "([C)V" } : Jvm.MethodName) jdk_42_method_3_code (2 : Nat) (Option.none : Option Jvm.ClassFile.FieldType), Jvm.Cond.code ({ cls := "java/lang/String", name := "<init>", desc := "([CIILjava/lang/Void;)V" } : Jvm.MethodName) jdk_42_method_149_code (6 : Nat) (Option.none : Option Jvm.ClassFile.FieldType), Jvm.Cond.code ({ cls := "java/lang/Object", name := "<init>", desc := "()V" } : Jvm.MethodName) object_method_1_code (1 : Nat) (Option.none : Option Jvm.ClassFile.FieldType), Jvm.Cond.code ({ cls := "java/lang/StringUTF16", name := "compress", desc := "([CII)[B" } : Jvm.MethodName) jdk_52_method_16_code (6 : Nat) (Option.some (Jvm.ClassFile.FieldType.array Jvm.ClassFile.FieldType.byte)), Jvm.Cond.code ({ cls := "java/lang/StringUTF16", name := "compress", desc := "([CI[BII)I" } : Jvm.MethodName) jdk_52_method_21_code (7 : Nat) (Option.some Jvm.ClassFile.FieldType.int), Jvm.Cond.code ({ cls := "java/lang/StringUTF16", name := "coderFromArrayLen", desc := "([BI)B" } : Jvm.MethodName) jdk_52_method_15_code (2 : Nat) (Option.some Jvm.ClassFile.FieldType.byte), Jvm.Cond.code ({ cls := "com/example/lucid_policy/lucidpolicy/parse/SymbolDeclaredPinLaw", name := "kindOf", desc := "(I)Lcom/example/lucid_policy/lucidpolicy/parse/SymbolKind;" } : Jvm.MethodName) method_2_code (2 : Nat) (Option.some (Jvm.ClassFile.FieldType.object "com/example/lucid_policy/lucidpolicy/parse/SymbolKind")), Jvm.Cond.code ({ cls := "com/example/lucid_policy/lucidpolicy/parse/Symbol", name := "<init>", desc := "(Ljava/lang/String;)V" } : Jvm.MethodName) prog_160_method_1_code (2 : Nat) (Option.none : Option Jvm.ClassFile.FieldType), Jvm.Cond.code ({ cls := "java/util/ArrayList", name := "<init>", desc := "(I)V" } : Jvm.MethodName) jdk_38_method_1_code (2 : Nat) (Option.none : Option Jvm.ClassFile.FieldType), Jvm.Cond.code ({ cls := "java/util/AbstractList", name := "<init>", desc := "()V" } : Jvm.MethodName) jdk_39_method_1_code (1 : Nat) (Option.none : Option Jvm.ClassFile.FieldType), Jvm.Cond.code ({ cls := "java/util/AbstractCollection", name := "<init>", desc := "()V" } : Jvm.MethodName) jdk_22_method_1_code (1 : Nat) (Option.none : Option Jvm.ClassFile.FieldType), Jvm.Cond.code ({ cls := "com/example/lucid_policy/lucidpolicy/parse/Symbol", name := "declared", desc := "()Z" } : Jvm.MethodName) prog_160_method_5_code (1 : Nat) (Option.some Jvm.ClassFile.FieldType.boolean), Jvm.Cond.code ({ cls := "com/example/lucid_policy/lucidpolicy/parse/Symbol", name := "kind", desc := "()Lcom/example/lucid_policy/lucidpolicy/parse/SymbolKind;" } : Jvm.MethodName) prog_160_method_3_code (1 : Nat) (Option.some (Jvm.ClassFile.FieldType.object "com/example/lucid_policy/lucidpolicy/parse/SymbolKind")), Jvm.Cond.code ({ cls := "com/example/lucid_policy/lucidpolicy/parse/Symbol", name := "require", desc := "(Lcom/example/lucid_policy/lucidpolicy/parse/Block;)V" } : Jvm.MethodName) prog_160_method_7_code (2 : Nat) (Option.none : Option Jvm.ClassFile.FieldType), Jvm.Cond.code ({ cls := "java/util/ArrayList", name := "add", desc := "(Ljava/lang/Object;)Z" } : Jvm.MethodName) jdk_38_method_25_code (2 : Nat) (Option.some Jvm.ClassFile.FieldType.boolean), Jvm.Cond.code ({ cls := "java/util/ArrayList", name := "add", desc := "(Ljava/lang/Object;[Ljava/lang/Object;I)V" } : Jvm.MethodName) jdk_38_method_24_code (4 : Nat) (Option.none : Option Jvm.ClassFile.FieldType), Jvm.Cond.code ({ cls := "com/example/lucid_policy/lucidpolicy/parse/Symbol", name := "declare", desc := "(Lcom/example/lucid_policy/lucidpolicy/parse/SymbolKind;Lcom/example/lucid_policy/lucidpolicy/model/SourceLocation;Lcom/example/lucid_policy/lucidpolicy/parse/Block;)V" } : Jvm.MethodName) prog_160_method_6_code (4 : Nat) (Option.none : Option Jvm.ClassFile.FieldType), Jvm.Cond.code ({ cls := "java/util/ArrayList", name := "grow", desc := "()[Ljava/lang/Object;" } : Jvm.MethodName) jdk_38_method_7_code (1 : Nat) (Option.some (Jvm.ClassFile.FieldType.array (Jvm.ClassFile.FieldType.object "java/lang/Object"))), Jvm.Cond.code ({ cls := "java/util/ArrayList", name := "grow", desc := "(I)[Ljava/lang/Object;" } : Jvm.MethodName) jdk_38_method_6_code (4 : Nat) (Option.some (Jvm.ClassFile.FieldType.array (Jvm.ClassFile.FieldType.object "java/lang/Object"))), Jvm.Cond.code ({ cls := "jdk/internal/util/ArraysSupport", name := "newLength", desc := "(III)I" } : Jvm.MethodName) jdk_48_method_27_code (4 : Nat) (Option.some Jvm.ClassFile.FieldType.int), Jvm.Cond.code ({ cls := "java/lang/Math", name := "max", desc := "(II)I" } : Jvm.MethodName) jdk_29_method_65_code (2 : Nat) (Option.some Jvm.ClassFile.FieldType.int), Jvm.Cond.code ({ cls := "java/util/Arrays", name := "copyOf", desc := "([Ljava/lang/Object;I)[Ljava/lang/Object;" } : Jvm.MethodName) jdk_65_method_119_code (2 : Nat) (Option.some (Jvm.ClassFile.FieldType.array (Jvm.ClassFile.FieldType.object "java/lang/Object"))), Jvm.Cond.code ({ cls := "java/util/Arrays", name := "copyOf", desc := "([Ljava/lang/Object;ILjava/lang/Class;)[Ljava/lang/Object;" } : Jvm.MethodName) jdk_65_method_120_code (4 : Nat) (Option.some (Jvm.ClassFile.FieldType.array (Jvm.ClassFile.FieldType.object "java/lang/Object"))), Jvm.Cond.code ({ cls := "java/lang/Math", name := "min", desc := "(II)I" } : Jvm.MethodName) jdk_29_method_69_code (2 : Nat) (Option.some Jvm.ClassFile.FieldType.int)]
set_option maxRecDepth 65536 in
theorem codes_eq : words1.filter isCode = codes1 := rfl
theorem w_codes : ∀ c ∈ words1.filter isCode, c.before args0 about1 = true := by
  rw [codes_eq]
  intro c hc
  simp only [codes1, List.mem_cons, List.not_mem_nil, or_false] at hc
  rcases hc with rfl | rfl | rfl | rfl | rfl | rfl | rfl | rfl | rfl | rfl | rfl | rfl | rfl | rfl | rfl | rfl | rfl | rfl | rfl | rfl | rfl | rfl | rfl | rfl | rfl
  · exact w_c0
  · exact w_c1
  · exact w_c2
  · exact w_c3
  · exact w_c4
  · exact w_c5
  · exact w_c6
  · exact w_c7
  · exact w_c8
  · exact w_c9
  · exact w_c10
  · exact w_c11
  · exact w_c12
  · exact w_c13
  · exact w_c14
  · exact w_c15
  · exact w_c16
  · exact w_c17
  · exact w_c18
  · exact w_c19
  · exact w_c20
  · exact w_c21
  · exact w_c22
  · exact w_c23
  · exact w_c24
set_option maxRecDepth 65536 in
theorem w_t1 : (words1.take 24).all (fun c => isCode c || c.before args0 about1) = true := by decide +kernel
set_option maxRecDepth 65536 in
theorem w_t2 : ((words1.drop 24).take 24).all (fun c => isCode c || c.before args0 about1) = true := by decide +kernel
set_option maxRecDepth 65536 in
theorem w_t3 : (((words1.drop 24).drop 24).take 24).all (fun c => isCode c || c.before args0 about1) = true := by decide +kernel
set_option maxRecDepth 65536 in
theorem w_t4 : ((((words1.drop 24).drop 24).drop 24).take 24).all (fun c => isCode c || c.before args0 about1) = true := by decide +kernel
set_option maxRecDepth 65536 in
theorem w_t5 : (((((words1.drop 24).drop 24).drop 24).drop 24).take 24).all (fun c => isCode c || c.before args0 about1) = true := by decide +kernel
set_option maxRecDepth 65536 in
theorem w_t6 : ((((((words1.drop 24).drop 24).drop 24).drop 24).drop 24).take 24).all (fun c => isCode c || c.before args0 about1) = true := by decide +kernel
set_option maxRecDepth 65536 in
theorem w_t7 : (((((((words1.drop 24).drop 24).drop 24).drop 24).drop 24).drop 24).take 24).all (fun c => isCode c || c.before args0 about1) = true := by decide +kernel
set_option maxRecDepth 65536 in
theorem w_t8 : (((((((words1.drop 24).drop 24).drop 24).drop 24).drop 24).drop 24).drop 24).all (fun c => isCode c || c.before args0 about1) = true := by decide +kernel
theorem w_tables : (allAtoms (Jvm.Cond.code x code maxLocals ret :: tables_1)).before args0 about1 = true := by
  rw [allAtoms_all]
  show words1.all (fun c => c.before args0 about1) = true
  refine all_split ?_ w_codes
  rw [← List.take_append_drop 24 words1, List.all_append, w_t1, ← List.take_append_drop 24 (words1.drop 24), List.all_append, w_t2, ← List.take_append_drop 24 ((words1.drop 24).drop 24), List.all_append, w_t3, ← List.take_append_drop 24 (((words1.drop 24).drop 24).drop 24), List.all_append, w_t4, ← List.take_append_drop 24 ((((words1.drop 24).drop 24).drop 24).drop 24), List.all_append, w_t5, ← List.take_append_drop 24 (((((words1.drop 24).drop 24).drop 24).drop 24).drop 24), List.all_append, w_t6, ← List.take_append_drop 24 ((((((words1.drop 24).drop 24).drop 24).drop 24).drop 24).drop 24), List.all_append, w_t7, w_t8]
  rfl
set_option maxRecDepth 65536 in
theorem w_rest : rest_1_c.before args0 about1 = true := by decide +kernel
set_option maxRecDepth 65536 in
theorem w_case : (Jvm.Cond.and given_1 narrow_1).before args0 about1 = true := by decide +kernel
theorem w_applies : (headSpec (Jvm.Cond.code x code maxLocals ret :: tables_1) room_1).applies x e0.platform about1 = true :=
  (Spec.applies_iff w_frames).mpr ⟨w_running, w_runnable, w_alone, w_named, w_hears, w_ripe, w_room, w_tables⟩
theorem atStart : AtStart classFile x code maxLocals ret World_1 tables_1 room_1 Calls_1 rest_1 Pre_1 launch0 p0 e0 about1 theMethod args0 below0 :=
  ⟨lists_1, trivial, launch0.admits_env _ _ _, launch0.least_env, fairChoices_fair.cas, fairChoices_fair.clock, w_frames, w_args, w_heap, w_applies, ⟨⟨34, k34, 3, by decide +kernel, rfl, rfl, _, rfl, rfl⟩, trivial⟩, w_rest, w_case⟩
end start1
theorem witness_1 : WitnessClaimed_1 := ⟨start1.p0, start1.e0, start1.about1, start1.theMethod, start1.args0, start1.below0, start1.atStart⟩
end Jvm.Pilot.@@N@@
