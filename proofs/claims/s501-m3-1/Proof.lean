import JvmDerived
import JvmDerived.Pilot.@@N@@Statement
import JvmDerived.Pilot.@@N@@Code
set_option linter.unusedVariables false
set_option linter.unusedSimpArgs false
namespace Jvm.RoadKit
open Sem ClassFile Op Lib Jvm.Stand Jvm.Free Jvm.LawKit
section New
variable {p : Program} {l : Launch} {e : Env} {R : Room} {s : State} {m : MethodId} {args : Array Value} {below : List Frame} {meth : Method} {c : Code} {T : State} {locs : List Loc} {cells slots : Nat}
theorem own_retI (X : Stand p l e R s m args below meth c T locs cells slots) (hx : p.tables.exec = Jvm.exec) {pc : Nat} {Ls : Array Slot} {z : Int32} {rest : List Value} (hret : meth.sig.returnType = some .int) (hd : decode c.code pc = .ok (.ireturn, 1)) {fs : List Frame}
    (hl : ∀ (f : JFrame) (acts : List Action), f.method = m → f.locked = none → f.entered = [] → (doReturn e (T.setTop f) acts (some (.int z))).1 = T.setFrames fs) : Steps p.tables e below (T.setTop (mkF m pc Ls (.int z :: rest))) (T.setFrames fs) :=
  retOut X hx hret rfl (Or.inl ⟨rfl, Or.inl rfl, z, rfl⟩) hd hl
theorem own_retJ (X : Stand p l e R s m args below meth c T locs cells slots) (hx : p.tables.exec = Jvm.exec) {pc : Nat} {Ls : Array Slot} {z : Int64} {rest : List Value} (hret : meth.sig.returnType = some .long) (hd : decode c.code pc = .ok (.lreturn, 1)) {fs : List Frame}
    (hl : ∀ (f : JFrame) (acts : List Action), f.method = m → f.locked = none → f.entered = [] → (doReturn e (T.setTop f) acts (some (.long z))).1 = T.setFrames fs) : Steps p.tables e below (T.setTop (mkF m pc Ls (.long z :: rest))) (T.setFrames fs) :=
  retOut X hx hret rfl (Or.inr (Or.inl ⟨rfl, rfl, z, rfl⟩)) hd hl
theorem own_retA (X : Stand p l e R s m args below meth c T locs cells slots) (hx : p.tables.exec = Jvm.exec) {pc : Nat} {Ls : Array Slot} {w : Value} {t : FieldType} {rest : List Value} (hret : meth.sig.returnType = some t) (hn : narrow t w = w) (ht : t.isReference = true) (hw : w.isRef = true) (hd : decode c.code pc = .ok (.areturn, 1)) {fs : List Frame}
    (hl : ∀ (f : JFrame) (acts : List Action), f.method = m → f.locked = none → f.entered = [] → (doReturn e (T.setTop f) acts (some w)).1 = T.setFrames fs) : Steps p.tables e below (T.setTop (mkF m pc Ls (w :: rest))) (T.setFrames fs) :=
  retOut X hx hret hn (Or.inr (Or.inr (Or.inr (Or.inr ⟨rfl, ht, hw⟩)))) hd hl
end New
abbrev OwnGo (tb : Tables) (e : Env) (below : List Frame) (K : State → Outcome → Prop) (st : State) : Prop := ∃ s₂ o, Steps tb e below st s₂ ∧ s₂.status = .running ∧ Ended s₂ below o ∧ K s₂ o
theorem OwnGo.back {tb : Tables} {e : Env} {below : List Frame} {K : State → Outcome → Prop} {st : State} (st' : State) (h : ∀ t, Steps tb e below st' t → Steps tb e below st t) (g : OwnGo tb e below K st') : OwnGo tb e below K st := by
  obtain ⟨s₂, o, h1, h2⟩ := g
  exact ⟨s₂, o, h _ h1, h2⟩
abbrev OwnMg (tb : Tables) (e : Env) (below : List Frame) (D : State → Prop) (st : State) : Prop := ∃ st', D st' ∧ ∀ t, Steps tb e below st' t → Steps tb e below st t
theorem OwnMg.back {tb : Tables} {e : Env} {below : List Frame} {D : State → Prop} {st : State} (st' : State) (h : ∀ t, Steps tb e below st' t → Steps tb e below st t) (g : OwnMg tb e below D st') : OwnMg tb e below D st := by
  obtain ⟨s₂, h1, h2⟩ := g
  exact ⟨s₂, h1, fun t k => h t (h2 t k)⟩
theorem own_not {P Q : Prop} (h : P ↔ Q) (n : ¬ Q) : ¬ P := fun q => n (h.mp q)
theorem own_ne {a b n : Nat} (h : a < n) (q : b = n) : a ≠ b := Nat.ne_of_lt (q ▸ h)
theorem own_ne' {a b n : Nat} (h : a < n) (q : n ≤ b) : a ≠ b := Nat.ne_of_lt (Nat.lt_of_lt_of_le h q)
end Jvm.RoadKit
namespace Jvm.Pilot.@@N@@
open Jvm Jvm.ClassFile Sem Op Lib Jvm.Free Jvm.Stand Jvm.LawKit Jvm.RoadKit Bundle Jvm.Pilot.@@N@@.Jvm.D
theorem own_pn0 : plainName "com/example/tallyframe/tallyframe/KindFigures" = true := by first | (simp [plainName, overriddenIn]; done) | decide +kernel
theorem own_d3_0 : decode prog_5_method_1_code 0 = .ok (.aload_n 0, 1) := by decide +kernel
theorem own_d3_1 : decode prog_5_method_1_code 1 = .ok (.invokespecial 1, 3) := by decide +kernel
theorem own_d3_4 : decode prog_5_method_1_code 4 = .ok (.aload_n 0, 1) := by decide +kernel
theorem own_d3_5 : decode prog_5_method_1_code 5 = .ok (.bipush 8, 2) := by decide +kernel
theorem own_d3_7 : decode prog_5_method_1_code 7 = .ok (.anewarray 9, 3) := by decide +kernel
theorem own_d3_10 : decode prog_5_method_1_code 10 = .ok (.putfield 11, 3) := by decide +kernel
theorem own_d3_13 : decode prog_5_method_1_code 13 = .ok (.aload_n 0, 1) := by decide +kernel
theorem own_d3_14 : decode prog_5_method_1_code 14 = .ok (.bipush 8, 2) := by decide +kernel
theorem own_d3_16 : decode prog_5_method_1_code 16 = .ok (.newarray .long, 2) := by decide +kernel
theorem own_d3_18 : decode prog_5_method_1_code 18 = .ok (.putfield 15, 3) := by decide +kernel
theorem own_d3_21 : decode prog_5_method_1_code 21 = .ok (.aload_n 0, 1) := by decide +kernel
theorem own_d3_22 : decode prog_5_method_1_code 22 = .ok (.bipush 8, 2) := by decide +kernel
theorem own_d3_24 : decode prog_5_method_1_code 24 = .ok (.newarray .long, 2) := by decide +kernel
theorem own_d3_26 : decode prog_5_method_1_code 26 = .ok (.putfield 19, 3) := by decide +kernel
theorem own_d3_29 : decode prog_5_method_1_code 29 = .ok (.return_, 1) := by decide +kernel
theorem own_pn1 : plainName "com/example/tallyframe/tallyframe/Ledger" = true := by first | (simp [plainName, overriddenIn]; done) | decide +kernel
theorem own_d1_0 : decode prog_6_method_1_code 0 = .ok (.aload_n 0, 1) := by decide +kernel
theorem own_d1_1 : decode prog_6_method_1_code 1 = .ok (.invokespecial 1, 3) := by decide +kernel
theorem own_d1_4 : decode prog_6_method_1_code 4 = .ok (.aload_n 0, 1) := by decide +kernel
theorem own_d1_5 : decode prog_6_method_1_code 5 = .ok (.new 7, 3) := by decide +kernel
theorem own_d1_8 : decode prog_6_method_1_code 8 = .ok (.dup, 1) := by decide +kernel
theorem own_d1_9 : decode prog_6_method_1_code 9 = .ok (.invokespecial 9, 3) := by decide +kernel
theorem own_pd0 : parseMethodDescriptor "()V" = some ⟨[], none⟩ := by decide +kernel
theorem own_d1_12 : decode prog_6_method_1_code 12 = .ok (.putfield 10, 3) := by decide +kernel
theorem own_d1_15 : decode prog_6_method_1_code 15 = .ok (.return_, 1) := by decide +kernel
theorem own_d14_0 : decode prog_5_method_2_code 0 = .ok (.aload_n 0, 1) := by decide +kernel
theorem own_d14_1 : decode prog_5_method_2_code 1 = .ok (.getfield 22, 3) := by decide +kernel
theorem own_d14_4 : decode prog_5_method_2_code 4 = .ok (.istore 6, 2) := by decide +kernel
theorem own_d14_6 : decode prog_5_method_2_code 6 = .ok (.aload_n 0, 1) := by decide +kernel
theorem own_d14_7 : decode prog_5_method_2_code 7 = .ok (.getfield 11, 3) := by decide +kernel
theorem own_d14_10 : decode prog_5_method_2_code 10 = .ok (.iload 6, 2) := by decide +kernel
theorem own_d14_12 : decode prog_5_method_2_code 12 = .ok (.aaload, 1) := by decide +kernel
theorem own_d14_13 : decode prog_5_method_2_code 13 = .ok (.aload_n 1, 1) := by decide +kernel
theorem own_d14_14 : decode prog_5_method_2_code 14 = .ok (.if_acmp .eq 16, 3) := by decide +kernel
theorem own_d14_30 : decode prog_5_method_2_code 30 = .ok (.aload_n 0, 1) := by decide +kernel
theorem own_d14_31 : decode prog_5_method_2_code 31 = .ok (.getfield 15, 3) := by decide +kernel
theorem own_d14_34 : decode prog_5_method_2_code 34 = .ok (.iload 6, 2) := by decide +kernel
theorem own_d14_36 : decode prog_5_method_2_code 36 = .ok (.dup2, 1) := by decide +kernel
theorem own_d14_37 : decode prog_5_method_2_code 37 = .ok (.laload, 1) := by decide +kernel
theorem own_d14_38 : decode prog_5_method_2_code 38 = .ok (.lload_n 2, 1) := by decide +kernel
theorem own_d14_39 : decode prog_5_method_2_code 39 = .ok (.ladd, 1) := by decide +kernel
theorem own_d14_40 : decode prog_5_method_2_code 40 = .ok (.lastore, 1) := by decide +kernel
theorem own_d14_41 : decode prog_5_method_2_code 41 = .ok (.aload_n 0, 1) := by decide +kernel
theorem own_d14_42 : decode prog_5_method_2_code 42 = .ok (.getfield 19, 3) := by decide +kernel
theorem own_d14_45 : decode prog_5_method_2_code 45 = .ok (.iload 6, 2) := by decide +kernel
theorem own_d14_47 : decode prog_5_method_2_code 47 = .ok (.dup2, 1) := by decide +kernel
theorem own_d14_48 : decode prog_5_method_2_code 48 = .ok (.laload, 1) := by decide +kernel
theorem own_d14_49 : decode prog_5_method_2_code 49 = .ok (.lload 4, 2) := by decide +kernel
theorem own_d14_51 : decode prog_5_method_2_code 51 = .ok (.ladd, 1) := by decide +kernel
theorem own_d14_52 : decode prog_5_method_2_code 52 = .ok (.lastore, 1) := by decide +kernel
theorem own_d14_53 : decode prog_5_method_2_code 53 = .ok (.return_, 1) := by decide +kernel
theorem own_d12_0 : decode prog_6_method_4_code 0 = .ok (.aload_n 0, 1) := by decide +kernel
theorem own_d12_1 : decode prog_6_method_4_code 1 = .ok (.getfield 20, 3) := by decide +kernel
theorem own_d12_4 : decode prog_6_method_4_code 4 = .ok (.aload_n 0, 1) := by decide +kernel
theorem own_d12_5 : decode prog_6_method_4_code 5 = .ok (.getfield 43, 3) := by decide +kernel
theorem own_d12_8 : decode prog_6_method_4_code 8 = .ok (.lsub, 1) := by decide +kernel
theorem own_d12_9 : decode prog_6_method_4_code 9 = .ok (.lreturn, 1) := by decide +kernel
theorem own_pn2 : plainFor (⟨"java/lang/Math", "max", "(JJ)J"⟩ : MethodName) = true := by decide +kernel
theorem own_d13_0 : decode jdk_29_method_66_code 0 = .ok (.lload_n 0, 1) := by decide +kernel
theorem own_d13_1 : decode jdk_29_method_66_code 1 = .ok (.lload_n 2, 1) := by decide +kernel
theorem own_d13_2 : decode jdk_29_method_66_code 2 = .ok (.lcmp, 1) := by decide +kernel
theorem own_d13_3 : decode jdk_29_method_66_code 3 = .ok (.ifCond .lt 7, 3) := by decide +kernel
theorem own_d13_10 : decode jdk_29_method_66_code 10 = .ok (.lload_n 2, 1) := by decide +kernel
theorem own_d13_11 : decode jdk_29_method_66_code 11 = .ok (.lreturn, 1) := by decide +kernel
theorem own_d13_6 : decode jdk_29_method_66_code 6 = .ok (.lload_n 0, 1) := by decide +kernel
theorem own_d13_7 : decode jdk_29_method_66_code 7 = .ok (.goto 4, 3) := by decide +kernel
theorem own_d11_0 : decode prog_6_method_2_code 0 = .ok (.aload_n 0, 1) := by decide +kernel
theorem own_d11_1 : decode prog_6_method_2_code 1 = .ok (.dup, 1) := by decide +kernel
theorem own_d11_2 : decode prog_6_method_2_code 2 = .ok (.getfield 16, 3) := by decide +kernel
theorem own_d11_5 : decode prog_6_method_2_code 5 = .ok (.lconst 1, 1) := by decide +kernel
theorem own_d11_6 : decode prog_6_method_2_code 6 = .ok (.ladd, 1) := by decide +kernel
theorem own_d11_7 : decode prog_6_method_2_code 7 = .ok (.putfield 16, 3) := by decide +kernel
theorem own_d11_10 : decode prog_6_method_2_code 10 = .ok (.aload_n 0, 1) := by decide +kernel
theorem own_d11_11 : decode prog_6_method_2_code 11 = .ok (.dup, 1) := by decide +kernel
theorem own_d11_12 : decode prog_6_method_2_code 12 = .ok (.getfield 20, 3) := by decide +kernel
theorem own_d11_15 : decode prog_6_method_2_code 15 = .ok (.lload_n 2, 1) := by decide +kernel
theorem own_d11_16 : decode prog_6_method_2_code 16 = .ok (.ladd, 1) := by decide +kernel
theorem own_d11_17 : decode prog_6_method_2_code 17 = .ok (.putfield 20, 3) := by decide +kernel
theorem own_d11_20 : decode prog_6_method_2_code 20 = .ok (.aload_n 0, 1) := by decide +kernel
theorem own_d11_21 : decode prog_6_method_2_code 21 = .ok (.aload_n 0, 1) := by decide +kernel
theorem own_d11_22 : decode prog_6_method_2_code 22 = .ok (.getfield 23, 3) := by decide +kernel
theorem own_d11_25 : decode prog_6_method_2_code 25 = .ok (.aload_n 0, 1) := by decide +kernel
theorem own_d11_26 : decode prog_6_method_2_code 26 = .ok (.invokevirtual 26, 3) := by decide +kernel
theorem own_pd1 : parseMethodDescriptor "()J" = some ⟨[], some .long⟩ := by decide +kernel
theorem own_d11_29 : decode prog_6_method_2_code 29 = .ok (.invokestatic 30, 3) := by decide +kernel
theorem own_pd2 : parseMethodDescriptor "(JJ)J" = some ⟨[.long, .long], some .long⟩ := by decide +kernel
theorem own_d11_32 : decode prog_6_method_2_code 32 = .ok (.putfield 23, 3) := by decide +kernel
theorem own_d11_35 : decode prog_6_method_2_code 35 = .ok (.aload_n 0, 1) := by decide +kernel
theorem own_d11_36 : decode prog_6_method_2_code 36 = .ok (.getfield 10, 3) := by decide +kernel
theorem own_d11_39 : decode prog_6_method_2_code 39 = .ok (.aload_n 1, 1) := by decide +kernel
theorem own_d11_40 : decode prog_6_method_2_code 40 = .ok (.lconst 1, 1) := by decide +kernel
theorem own_d11_41 : decode prog_6_method_2_code 41 = .ok (.lload_n 2, 1) := by decide +kernel
theorem own_d11_42 : decode prog_6_method_2_code 42 = .ok (.invokevirtual 36, 3) := by decide +kernel
theorem own_pd3 : parseMethodDescriptor "(Ljava/lang/Class;JJ)V" = some ⟨[(.object "java/lang/Class"), .long, .long], none⟩ := by decide +kernel
theorem own_d11_45 : decode prog_6_method_2_code 45 = .ok (.return_, 1) := by decide +kernel
theorem own_d15_0 : decode prog_6_method_3_code 0 = .ok (.aload_n 0, 1) := by decide +kernel
theorem own_d15_1 : decode prog_6_method_3_code 1 = .ok (.dup, 1) := by decide +kernel
theorem own_d15_2 : decode prog_6_method_3_code 2 = .ok (.getfield 40, 3) := by decide +kernel
theorem own_d15_5 : decode prog_6_method_3_code 5 = .ok (.lconst 1, 1) := by decide +kernel
theorem own_d15_6 : decode prog_6_method_3_code 6 = .ok (.ladd, 1) := by decide +kernel
theorem own_d15_7 : decode prog_6_method_3_code 7 = .ok (.putfield 40, 3) := by decide +kernel
theorem own_d15_10 : decode prog_6_method_3_code 10 = .ok (.aload_n 0, 1) := by decide +kernel
theorem own_d15_11 : decode prog_6_method_3_code 11 = .ok (.dup, 1) := by decide +kernel
theorem own_d15_12 : decode prog_6_method_3_code 12 = .ok (.getfield 43, 3) := by decide +kernel
theorem own_d15_15 : decode prog_6_method_3_code 15 = .ok (.lload_n 2, 1) := by decide +kernel
theorem own_d15_16 : decode prog_6_method_3_code 16 = .ok (.ladd, 1) := by decide +kernel
theorem own_d15_17 : decode prog_6_method_3_code 17 = .ok (.putfield 43, 3) := by decide +kernel
theorem own_d15_20 : decode prog_6_method_3_code 20 = .ok (.aload_n 0, 1) := by decide +kernel
theorem own_d15_21 : decode prog_6_method_3_code 21 = .ok (.getfield 10, 3) := by decide +kernel
theorem own_d15_24 : decode prog_6_method_3_code 24 = .ok (.aload_n 1, 1) := by decide +kernel
theorem own_d15_25 : decode prog_6_method_3_code 25 = .ok (.ldc2_w 46, 3) := by decide +kernel
theorem own_d15_28 : decode prog_6_method_3_code 28 = .ok (.lload_n 2, 1) := by decide +kernel
theorem own_d15_29 : decode prog_6_method_3_code 29 = .ok (.lneg, 1) := by decide +kernel
theorem own_d15_30 : decode prog_6_method_3_code 30 = .ok (.invokevirtual 36, 3) := by decide +kernel
theorem own_d15_33 : decode prog_6_method_3_code 33 = .ok (.return_, 1) := by decide +kernel
theorem own_pn3 : plainName "com/example/tallyframe/tallyframe/LedgerTallyPinLaw" = true := by first | (simp [plainName, overriddenIn]; done) | decide +kernel
theorem own_d4_0 : decode method_2_code 0 = .ok (.iload_n 1, 1) := by decide +kernel
theorem own_d4_1 : decode method_2_code 1 = .ok (.ifCond .eq 22, 3) := by decide +kernel
theorem own_d4_23 : decode method_2_code 23 = .ok (.return_, 1) := by decide +kernel
theorem own_d4_4 : decode method_2_code 4 = .ok (.iload_n 2, 1) := by decide +kernel
theorem own_d4_5 : decode method_2_code 5 = .ok (.ifCond .eq 12, 3) := by decide +kernel
theorem own_d4_17 : decode method_2_code 17 = .ok (.aload_n 0, 1) := by decide +kernel
theorem own_d4_18 : decode method_2_code 18 = .ok (.aconst_null, 1) := by decide +kernel
theorem own_d4_19 : decode method_2_code 19 = .ok (.lload_n 3, 1) := by decide +kernel
theorem own_d4_20 : decode method_2_code 20 = .ok (.invokevirtual 13, 3) := by decide +kernel
theorem own_pd4 : parseMethodDescriptor "(Ljava/lang/Class;J)V" = some ⟨[(.object "java/lang/Class"), .long], none⟩ := by decide +kernel
theorem own_d4_8 : decode method_2_code 8 = .ok (.aload_n 0, 1) := by decide +kernel
theorem own_d4_9 : decode method_2_code 9 = .ok (.aconst_null, 1) := by decide +kernel
theorem own_d4_10 : decode method_2_code 10 = .ok (.lload_n 3, 1) := by decide +kernel
theorem own_d4_11 : decode method_2_code 11 = .ok (.invokevirtual 7, 3) := by decide +kernel
theorem own_d4_14 : decode method_2_code 14 = .ok (.goto 9, 3) := by decide +kernel
theorem own_pn4 : plainName "com/example/tallyframe/tallyframe/Tally" = true := by first | (simp [plainName, overriddenIn]; done) | decide +kernel
theorem own_d6_0 : decode prog_25_method_1_code 0 = .ok (.aload_n 0, 1) := by decide +kernel
theorem own_d6_1 : decode prog_25_method_1_code 1 = .ok (.invokespecial 1, 3) := by decide +kernel
theorem own_d6_4 : decode prog_25_method_1_code 4 = .ok (.aload_n 0, 1) := by decide +kernel
theorem own_d6_5 : decode prog_25_method_1_code 5 = .ok (.lload_n 1, 1) := by decide +kernel
theorem own_d6_6 : decode prog_25_method_1_code 6 = .ok (.putfield 7, 3) := by decide +kernel
theorem own_d6_9 : decode prog_25_method_1_code 9 = .ok (.aload_n 0, 1) := by decide +kernel
theorem own_d6_10 : decode prog_25_method_1_code 10 = .ok (.lload_n 3, 1) := by decide +kernel
theorem own_d6_11 : decode prog_25_method_1_code 11 = .ok (.putfield 13, 3) := by decide +kernel
theorem own_d6_14 : decode prog_25_method_1_code 14 = .ok (.aload_n 0, 1) := by decide +kernel
theorem own_d6_15 : decode prog_25_method_1_code 15 = .ok (.lload 5, 2) := by decide +kernel
theorem own_d6_17 : decode prog_25_method_1_code 17 = .ok (.putfield 16, 3) := by decide +kernel
theorem own_d6_20 : decode prog_25_method_1_code 20 = .ok (.aload_n 0, 1) := by decide +kernel
theorem own_d6_21 : decode prog_25_method_1_code 21 = .ok (.lload 7, 2) := by decide +kernel
theorem own_d6_23 : decode prog_25_method_1_code 23 = .ok (.putfield 19, 3) := by decide +kernel
theorem own_d6_26 : decode prog_25_method_1_code 26 = .ok (.return_, 1) := by decide +kernel
theorem own_d5_0 : decode prog_6_method_9_code 0 = .ok (.new 55, 3) := by decide +kernel
theorem own_d5_3 : decode prog_6_method_9_code 3 = .ok (.dup, 1) := by decide +kernel
theorem own_d5_4 : decode prog_6_method_9_code 4 = .ok (.aload_n 0, 1) := by decide +kernel
theorem own_d5_5 : decode prog_6_method_9_code 5 = .ok (.getfield 16, 3) := by decide +kernel
theorem own_d5_8 : decode prog_6_method_9_code 8 = .ok (.aload_n 0, 1) := by decide +kernel
theorem own_d5_9 : decode prog_6_method_9_code 9 = .ok (.getfield 20, 3) := by decide +kernel
theorem own_d5_12 : decode prog_6_method_9_code 12 = .ok (.aload_n 0, 1) := by decide +kernel
theorem own_d5_13 : decode prog_6_method_9_code 13 = .ok (.getfield 40, 3) := by decide +kernel
theorem own_d5_16 : decode prog_6_method_9_code 16 = .ok (.aload_n 0, 1) := by decide +kernel
theorem own_d5_17 : decode prog_6_method_9_code 17 = .ok (.getfield 43, 3) := by decide +kernel
theorem own_d5_20 : decode prog_6_method_9_code 20 = .ok (.invokespecial 57, 3) := by decide +kernel
theorem own_pd5 : parseMethodDescriptor "(JJJJ)V" = some ⟨[.long, .long, .long, .long], none⟩ := by decide +kernel
theorem own_d5_23 : decode prog_6_method_9_code 23 = .ok (.areturn, 1) := by decide +kernel
theorem own_d7_0 : decode prog_25_method_2_code 0 = .ok (.aload_n 0, 1) := by decide +kernel
theorem own_d7_1 : decode prog_25_method_2_code 1 = .ok (.getfield 7, 3) := by decide +kernel
theorem own_d7_4 : decode prog_25_method_2_code 4 = .ok (.lreturn, 1) := by decide +kernel
theorem own_d8_0 : decode prog_25_method_3_code 0 = .ok (.aload_n 0, 1) := by decide +kernel
theorem own_d8_1 : decode prog_25_method_3_code 1 = .ok (.getfield 13, 3) := by decide +kernel
theorem own_d8_4 : decode prog_25_method_3_code 4 = .ok (.lreturn, 1) := by decide +kernel
theorem own_d9_0 : decode prog_25_method_4_code 0 = .ok (.aload_n 0, 1) := by decide +kernel
theorem own_d9_1 : decode prog_25_method_4_code 1 = .ok (.getfield 16, 3) := by decide +kernel
theorem own_d9_4 : decode prog_25_method_4_code 4 = .ok (.lreturn, 1) := by decide +kernel
theorem own_d10_0 : decode prog_25_method_5_code 0 = .ok (.aload_n 0, 1) := by decide +kernel
theorem own_d10_1 : decode prog_25_method_5_code 1 = .ok (.getfield 19, 3) := by decide +kernel
theorem own_d10_4 : decode prog_25_method_5_code 4 = .ok (.lreturn, 1) := by decide +kernel
theorem own_pd6 : parseMethodDescriptor "(Lcom/example/tallyframe/tallyframe/Ledger;ZZJ)V" = some ⟨[(.object "com/example/tallyframe/tallyframe/Ledger"), .boolean, .boolean, .long], none⟩ := by decide +kernel
theorem own_pd7 : parseMethodDescriptor "()Lcom/example/tallyframe/tallyframe/Tally;" = some ⟨[], some (.object "com/example/tallyframe/tallyframe/Tally")⟩ := by decide +kernel
theorem own_kf_ef (m : MethodId) (x0 : Addr) : entryFrame m #[(.ref x0)] 1 = mkF m 0 #[.val (.ref x0)] [] := by first | (simp [entryFrame, mkF, argsToLocals, Value.category]; done) | rfl
def own_kf_Q (Z : State) (kf : Addr) (h0 : Heap) (n0 : Nat) (rv : Option Value) (hN : Heap) (LL : List Loc) : Prop := ∃ (ak : Addr), ∃ (aj : Addr), ∃ (ab : Addr), ∃ (kk : ClassId), ∃ (kj : ClassId), ∃ (kb : ClassId), rv = none ∧ Fr n0 LL ∧ Keep h0 hN [kf] ∧ h0.size ≤ ak ∧ h0.size ≤ aj ∧ h0.size ≤ ab ∧ ak ≠ aj ∧ ak ≠ ab ∧ aj ≠ ab ∧ Exa Z hN kf "com/example/tallyframe/tallyframe/KindFigures" ∧ Fld Z hN kf "com/example/tallyframe/tallyframe/KindFigures" "lastSlot" "I" (.int (0 : Int32)) ∧ Fld Z hN kf "com/example/tallyframe/tallyframe/KindFigures" "kinds" "[Ljava/lang/Class;" (.ref ak) ∧ Fld Z hN kf "com/example/tallyframe/tallyframe/KindFigures" "objects" "[J" (.ref aj) ∧ Fld Z hN kf "com/example/tallyframe/tallyframe/KindFigures" "bytes" "[J" (.ref ab) ∧ Arv Z hN ak kk (.object "java/lang/Class") (8 : Int32) [.null] .null ∧ Arv Z hN aj kj .long (8 : Int32) [(.long (0 : Int64))] (.long (0 : Int64)) ∧ Arv Z hN ab kb .long (8 : Int32) [(.long (0 : Int64))] (.long (0 : Int64))
set_option maxRecDepth 65536 in
set_option maxHeartbeats 40000000 in
theorem own_kf (l : Launch) (Z : State) (a0 : Array Value) (hw : ∀ d ∈ tables_1, d.before a0 Z = true) (ws : List Jvm.Cond) (kf : Addr) (h0 : Heap) (n0 : Nat) (Z0 : n0 ≤ h0.size) (H0 : Exa Z h0 kf "com/example/tallyframe/tallyframe/KindFigures") (H1 : Fld Z h0 kf "com/example/tallyframe/tallyframe/KindFigures" "lastSlot" "I" (.int (0 : Int32))) (H2 : Fld Z h0 kf "com/example/tallyframe/tallyframe/KindFigures" "kinds" "[Ljava/lang/Class;" .null) (H3 : Fld Z h0 kf "com/example/tallyframe/tallyframe/KindFigures" "objects" "[J" .null) (H4 : Fld Z h0 kf "com/example/tallyframe/tallyframe/KindFigures" "bytes" "[J" .null) (H5 : n0 ≤ kf) :
    MetFree l (⟨"com/example/tallyframe/tallyframe/KindFigures", "<init>", "()V"⟩ : MethodName) (head1 (Jvm.Cond.code (⟨"com/example/tallyframe/tallyframe/KindFigures", "<init>", "()V"⟩ : MethodName) prog_5_method_1_code 1 none :: ws) ({ frames := 1, cells := 3, slots := 24, locals := 12 } : Room)) (fun aa UU => aa = #[(.ref kf)] ∧ Z.Warmed39 UU.vm ∧ UU.heap = h0) (fun _ _ _ _ _ => True) (fun _ UU oo UU' => ∃ rv LL, oo = .returned rv ∧ own_kf_Q Z kf h0 n0 rv UU'.heap LL ∧ FrameEnd UU oo UU' LL ({ frames := 1, cells := 3, slots := 24, locals := 12 } : Room).cells ({ frames := 1, cells := 3, slots := 24, locals := 12 } : Room).slots) := by
  refine MetFree.of_bodySF (plainFor_of_name own_pn0) hisR ?_
  intro p e s m args below meth c s₁ Bd hml0 hP hK
  obtain ⟨rfl, hZ, hh⟩ := hP
  have hx := Bd.exec
  have hby := Bd.bytes
  have hml : c.maxLocals = 1 := hml0
  have hown : s.vm.findClass "com/example/tallyframe/tallyframe/KindFigures" = some m.cls := findClass_of_methodNamed Bd.named
  have hnm := (name_of_methodNamed Bd.named Bd.method).1
  have X0 : Stand p l e ({ frames := 1, cells := 3, slots := 24, locals := 12 } : Room) s m #[(.ref kf)] below meth c s₁ [] 0 0 := Stand.of_body Bd
  have e0 : s₁.heap = h0 := by rw [← hh, Bd.state]; rfl
  have N0 := Fr.nil n0
  have K0 : Keep h0 h0 [kf] := Keep.refl h0 _
  refine (?_ : OwnGo p.tables e below (fun UU' oo => ∃ rv LL, oo = .returned rv ∧ own_kf_Q Z kf h0 n0 rv UU'.heap LL ∧ FrameEnd s oo UU' LL ({ frames := 1, cells := 3, slots := 24, locals := 12 } : Room).cells ({ frames := 1, cells := 3, slots := 24, locals := 12 } : Room).slots) _)
  refine OwnGo.back (s₁.setTop (mkF m 0 #[.val (.ref kf)] [])) (fun tg kk => castTop (own_kf_ef m kf) kk) ?_
  refine OwnGo.back (s₁.setTop (mkF m 1 #[.val (.ref kf)] [(.ref kf)])) (fun tg kk => XS.aloadN X0.here hx rfl (hb hby own_d3_0) rfl rfl kk) ?_
  obtain ⟨T1, X1, e1, st1⟩ := initO X0 hx hZ hown (hw _ (List.mem_of_getElem? (i := 15) rfl)) (hw _ (List.mem_of_getElem? (i := 7) rfl)) (hw _ (List.mem_of_getElem? (i := 8) rfl)) e0 (g := (mkF m 1 #[.val (.ref kf)] [(.ref kf)])) rfl (by rw [hml]; rfl) rfl (hb hby own_d3_1) (by decide) (W := 0) (by show 2 * 0 + _ ≤ _; exact Nat.le_of_eq rfl) (by decide)
  refine OwnGo.back (T1.setTop (mkF m 4 #[.val (.ref kf)] [])) (fun tg kk => st1 _ kk) ?_
  refine OwnGo.back (T1.setTop (mkF m 5 #[.val (.ref kf)] [(.ref kf)])) (fun tg kk => XS.aloadN X1.here hx rfl (hb hby own_d3_4) rfl rfl kk) ?_
  refine OwnGo.back (T1.setTop (mkF m 7 #[.val (.ref kf)] [(.int (8 : Int32)), (.ref kf)])) (fun tg kk => XS.bipush X1.here hx rfl (hb hby own_d3_5) kk) ?_
  obtain ⟨T2, h2, k2, X2, e2, E2, A2, O2, st2⟩ := newR X1 hx hZ hown (hw _ (List.mem_of_getElem? (i := 16) rfl)) (hw _ (List.mem_of_getElem? (i := 17) rfl)) e1 (g := (mkF m 7 #[.val (.ref kf)] [(.int (8 : Int32)), (.ref kf)])) rfl (hb hby own_d3_7) rfl (by decide) (cap := 8) (by decide) (by decide) (by decide) (by decide)
  obtain ⟨b2, q2⟩ : ∃ z, z = h0.size := ⟨_, rfl⟩
  rw [← q2] at A2 st2
  have n3 : kf ≠ b2 := own_ne H0.lt q2
  have g4 : n0 ≤ b2 := Nat.le_trans Z0 (Nat.le_of_eq q2.symm)
  have s5 : h0.size ≤ b2 := Nat.le_trans K0.1 (Nat.le_of_eq q2.symm)
  have f6 : Exa Z h2 kf "com/example/tallyframe/tallyframe/KindFigures" := H0.ext E2
  have f7 : Fld Z h2 kf "com/example/tallyframe/tallyframe/KindFigures" "lastSlot" "I" (.int (0 : Int32)) := H1.ext E2
  have f8 : Fld Z h2 kf "com/example/tallyframe/tallyframe/KindFigures" "kinds" "[Ljava/lang/Class;" .null := H2.ext E2
  have f9 : Fld Z h2 kf "com/example/tallyframe/tallyframe/KindFigures" "objects" "[J" .null := H3.ext E2
  have f10 : Fld Z h2 kf "com/example/tallyframe/tallyframe/KindFigures" "bytes" "[J" .null := H4.ext E2
  have K11 : Keep h0 h2 [kf] := K0.ext E2
  have Z12 : n0 ≤ h2.size := Nat.le_trans Z0 E2.1
  have f13 : Arv Z h2 b2 k2 (.object "java/lang/Class") (8 : Int32) [.null] .null := (Arv.new A2 (by decide)).pad (pad_rep [] .null 1)
  refine OwnGo.back (T2.setTop (mkF m 10 #[.val (.ref kf)] [(.ref b2), (.ref kf)])) (fun tg kk => st2 _ kk) ?_
  obtain ⟨T14, h14, X14, e14, W14, st14⟩ := putF X2 hx hZ hown (host := "") (Or.inl (hw _ (List.mem_of_getElem? (i := 18) rfl))) Via.refl e2 f8 f6 (Or.inl (hw _ (List.mem_of_getElem? (i := 19) rfl))) (hw _ (List.mem_of_getElem? (i := 10) rfl)) (ty := (.array (.object "java/lang/Class"))) (by decide) rfl rfl (g := (mkF m 10 #[.val (.ref kf)] [(.ref b2), (.ref kf)])) rfl rfl (hb hby own_d3_10)
  have f15 : Fld Z h14 kf "com/example/tallyframe/tallyframe/KindFigures" "kinds" "[Ljava/lang/Class;" (.ref b2) := f8.same W14
  have f16 : Exa Z h14 kf "com/example/tallyframe/tallyframe/KindFigures" := f6.wr W14
  have f17 : Fld Z h14 kf "com/example/tallyframe/tallyframe/KindFigures" "lastSlot" "I" (.int (0 : Int32)) := f7.other W14 (Or.inr (slot_ne (Or.inl (hw _ (List.mem_of_getElem? (i := 101) rfl))) (Or.inl (hw _ (List.mem_of_getElem? (i := 19) rfl))) (by decide) (t := .int) (t' := (.array (.object "java/lang/Class"))) (by decide) (by decide)))
  have f18 : Fld Z h14 kf "com/example/tallyframe/tallyframe/KindFigures" "objects" "[J" .null := f9.other W14 (Or.inr (slot_ne (Or.inl (hw _ (List.mem_of_getElem? (i := 22) rfl))) (Or.inl (hw _ (List.mem_of_getElem? (i := 19) rfl))) (by decide) (t := (.array .long)) (t' := (.array (.object "java/lang/Class"))) (by decide) (by decide)))
  have f19 : Fld Z h14 kf "com/example/tallyframe/tallyframe/KindFigures" "bytes" "[J" .null := f10.other W14 (Or.inr (slot_ne (Or.inl (hw _ (List.mem_of_getElem? (i := 24) rfl))) (Or.inl (hw _ (List.mem_of_getElem? (i := 19) rfl))) (by decide) (t := (.array .long)) (t' := (.array (.object "java/lang/Class"))) (by decide) (by decide)))
  have f20 : Arv Z h14 b2 k2 (.object "java/lang/Class") (8 : Int32) [.null] .null := f13.other W14 (Ne.symm n3)
  have K21 : Keep h0 h14 [kf] := K11.wr W14 (Or.inl (List.mem_of_getElem? (i := 0) rfl))
  have Z22 : n0 ≤ h14.size := Nat.le_trans Z12 (Keep.of_wr W14).1
  have N23 := Fr.snoc X14 N0 H5
  refine OwnGo.back (T14.setTop (mkF m 13 #[.val (.ref kf)] [])) (fun tg kk => st14 _ kk) ?_
  refine OwnGo.back (T14.setTop (mkF m 14 #[.val (.ref kf)] [(.ref kf)])) (fun tg kk => XS.aloadN X14.here hx rfl (hb hby own_d3_13) rfl rfl kk) ?_
  refine OwnGo.back (T14.setTop (mkF m 16 #[.val (.ref kf)] [(.int (8 : Int32)), (.ref kf)])) (fun tg kk => XS.bipush X14.here hx rfl (hb hby own_d3_14) kk) ?_
  obtain ⟨T24, h24, k24, X24, e24, E24, A24, st24⟩ := newP X14 hx hZ (hw _ (List.mem_of_getElem? (i := 20) rfl)) e14 (g := (mkF m 16 #[.val (.ref kf)] [(.int (8 : Int32)), (.ref kf)])) rfl (hb hby own_d3_16) rfl (by decide) (cap := 8) (by decide) (by decide) (by decide) (by decide)
  obtain ⟨b24, q24⟩ : ∃ z, z = h14.size := ⟨_, rfl⟩
  rw [← q24] at A24 st24
  have n25 : kf ≠ b24 := own_ne f16.lt q24
  have n26 : b2 ≠ b24 := own_ne f20.lt q24
  have g27 : n0 ≤ b24 := Nat.le_trans Z22 (Nat.le_of_eq q24.symm)
  have s28 : h0.size ≤ b24 := Nat.le_trans K21.1 (Nat.le_of_eq q24.symm)
  have f29 : Exa Z h24 kf "com/example/tallyframe/tallyframe/KindFigures" := f16.ext E24
  have f30 : Fld Z h24 kf "com/example/tallyframe/tallyframe/KindFigures" "lastSlot" "I" (.int (0 : Int32)) := f17.ext E24
  have f31 : Fld Z h24 kf "com/example/tallyframe/tallyframe/KindFigures" "objects" "[J" .null := f18.ext E24
  have f32 : Fld Z h24 kf "com/example/tallyframe/tallyframe/KindFigures" "bytes" "[J" .null := f19.ext E24
  have f33 : Arv Z h24 b2 k2 (.object "java/lang/Class") (8 : Int32) [.null] .null := f20.ext E24
  have f34 : Fld Z h24 kf "com/example/tallyframe/tallyframe/KindFigures" "kinds" "[Ljava/lang/Class;" (.ref b2) := f15.ext E24
  have K35 : Keep h0 h24 [kf] := K21.ext E24
  have Z36 : n0 ≤ h24.size := Nat.le_trans Z22 E24.1
  have f37 : Arv Z h24 b24 k24 .long (8 : Int32) [(.long (0 : Int64))] (.long (0 : Int64)) := (Arv.new A24 (by decide)).pad (pad_rep [] (.long (0 : Int64)) 1)
  refine OwnGo.back (T24.setTop (mkF m 18 #[.val (.ref kf)] [(.ref b24), (.ref kf)])) (fun tg kk => st24 _ kk) ?_
  obtain ⟨T38, h38, X38, e38, W38, st38⟩ := putF X24 hx hZ hown (host := "") (Or.inl (hw _ (List.mem_of_getElem? (i := 21) rfl))) Via.refl e24 f31 f29 (Or.inl (hw _ (List.mem_of_getElem? (i := 22) rfl))) (hw _ (List.mem_of_getElem? (i := 10) rfl)) (ty := (.array .long)) (by decide) rfl rfl (g := (mkF m 18 #[.val (.ref kf)] [(.ref b24), (.ref kf)])) rfl rfl (hb hby own_d3_18)
  have f39 : Fld Z h38 kf "com/example/tallyframe/tallyframe/KindFigures" "objects" "[J" (.ref b24) := f31.same W38
  have f40 : Exa Z h38 kf "com/example/tallyframe/tallyframe/KindFigures" := f29.wr W38
  have f41 : Fld Z h38 kf "com/example/tallyframe/tallyframe/KindFigures" "lastSlot" "I" (.int (0 : Int32)) := f30.other W38 (Or.inr (slot_ne (Or.inl (hw _ (List.mem_of_getElem? (i := 101) rfl))) (Or.inl (hw _ (List.mem_of_getElem? (i := 22) rfl))) (by decide) (t := .int) (t' := (.array .long)) (by decide) (by decide)))
  have f42 : Fld Z h38 kf "com/example/tallyframe/tallyframe/KindFigures" "bytes" "[J" .null := f32.other W38 (Or.inr (slot_ne (Or.inl (hw _ (List.mem_of_getElem? (i := 24) rfl))) (Or.inl (hw _ (List.mem_of_getElem? (i := 22) rfl))) (by decide) (t := (.array .long)) (t' := (.array .long)) (by decide) (by decide)))
  have f43 : Arv Z h38 b2 k2 (.object "java/lang/Class") (8 : Int32) [.null] .null := f33.other W38 (Ne.symm n3)
  have f44 : Fld Z h38 kf "com/example/tallyframe/tallyframe/KindFigures" "kinds" "[Ljava/lang/Class;" (.ref b2) := f34.other W38 (Or.inr (slot_ne (Or.inl (hw _ (List.mem_of_getElem? (i := 19) rfl))) (Or.inl (hw _ (List.mem_of_getElem? (i := 22) rfl))) (by decide) (t := (.array (.object "java/lang/Class"))) (t' := (.array .long)) (by decide) (by decide)))
  have f45 : Arv Z h38 b24 k24 .long (8 : Int32) [(.long (0 : Int64))] (.long (0 : Int64)) := f37.other W38 (Ne.symm n25)
  have K46 : Keep h0 h38 [kf] := K35.wr W38 (Or.inl (List.mem_of_getElem? (i := 0) rfl))
  have Z47 : n0 ≤ h38.size := Nat.le_trans Z36 (Keep.of_wr W38).1
  have N48 := Fr.snoc X38 N23 H5
  refine OwnGo.back (T38.setTop (mkF m 21 #[.val (.ref kf)] [])) (fun tg kk => st38 _ kk) ?_
  refine OwnGo.back (T38.setTop (mkF m 22 #[.val (.ref kf)] [(.ref kf)])) (fun tg kk => XS.aloadN X38.here hx rfl (hb hby own_d3_21) rfl rfl kk) ?_
  refine OwnGo.back (T38.setTop (mkF m 24 #[.val (.ref kf)] [(.int (8 : Int32)), (.ref kf)])) (fun tg kk => XS.bipush X38.here hx rfl (hb hby own_d3_22) kk) ?_
  obtain ⟨T49, h49, k49, X49, e49, E49, A49, st49⟩ := newP X38 hx hZ (hw _ (List.mem_of_getElem? (i := 20) rfl)) e38 (g := (mkF m 24 #[.val (.ref kf)] [(.int (8 : Int32)), (.ref kf)])) rfl (hb hby own_d3_24) rfl (by decide) (cap := 8) (by decide) (by decide) (by decide) (by decide)
  obtain ⟨b49, q49⟩ : ∃ z, z = h38.size := ⟨_, rfl⟩
  rw [← q49] at A49 st49
  have n50 : kf ≠ b49 := own_ne f40.lt q49
  have n51 : b2 ≠ b49 := own_ne f43.lt q49
  have n52 : b24 ≠ b49 := own_ne f45.lt q49
  have g53 : n0 ≤ b49 := Nat.le_trans Z47 (Nat.le_of_eq q49.symm)
  have s54 : h0.size ≤ b49 := Nat.le_trans K46.1 (Nat.le_of_eq q49.symm)
  have f55 : Exa Z h49 kf "com/example/tallyframe/tallyframe/KindFigures" := f40.ext E49
  have f56 : Fld Z h49 kf "com/example/tallyframe/tallyframe/KindFigures" "lastSlot" "I" (.int (0 : Int32)) := f41.ext E49
  have f57 : Fld Z h49 kf "com/example/tallyframe/tallyframe/KindFigures" "bytes" "[J" .null := f42.ext E49
  have f58 : Arv Z h49 b2 k2 (.object "java/lang/Class") (8 : Int32) [.null] .null := f43.ext E49
  have f59 : Fld Z h49 kf "com/example/tallyframe/tallyframe/KindFigures" "kinds" "[Ljava/lang/Class;" (.ref b2) := f44.ext E49
  have f60 : Arv Z h49 b24 k24 .long (8 : Int32) [(.long (0 : Int64))] (.long (0 : Int64)) := f45.ext E49
  have f61 : Fld Z h49 kf "com/example/tallyframe/tallyframe/KindFigures" "objects" "[J" (.ref b24) := f39.ext E49
  have K62 : Keep h0 h49 [kf] := K46.ext E49
  have Z63 : n0 ≤ h49.size := Nat.le_trans Z47 E49.1
  have f64 : Arv Z h49 b49 k49 .long (8 : Int32) [(.long (0 : Int64))] (.long (0 : Int64)) := (Arv.new A49 (by decide)).pad (pad_rep [] (.long (0 : Int64)) 1)
  refine OwnGo.back (T49.setTop (mkF m 26 #[.val (.ref kf)] [(.ref b49), (.ref kf)])) (fun tg kk => st49 _ kk) ?_
  obtain ⟨T65, h65, X65, e65, W65, st65⟩ := putF X49 hx hZ hown (host := "") (Or.inl (hw _ (List.mem_of_getElem? (i := 23) rfl))) Via.refl e49 f57 f55 (Or.inl (hw _ (List.mem_of_getElem? (i := 24) rfl))) (hw _ (List.mem_of_getElem? (i := 10) rfl)) (ty := (.array .long)) (by decide) rfl rfl (g := (mkF m 26 #[.val (.ref kf)] [(.ref b49), (.ref kf)])) rfl rfl (hb hby own_d3_26)
  have f66 : Fld Z h65 kf "com/example/tallyframe/tallyframe/KindFigures" "bytes" "[J" (.ref b49) := f57.same W65
  have f67 : Exa Z h65 kf "com/example/tallyframe/tallyframe/KindFigures" := f55.wr W65
  have f68 : Fld Z h65 kf "com/example/tallyframe/tallyframe/KindFigures" "lastSlot" "I" (.int (0 : Int32)) := f56.other W65 (Or.inr (slot_ne (Or.inl (hw _ (List.mem_of_getElem? (i := 101) rfl))) (Or.inl (hw _ (List.mem_of_getElem? (i := 24) rfl))) (by decide) (t := .int) (t' := (.array .long)) (by decide) (by decide)))
  have f69 : Arv Z h65 b2 k2 (.object "java/lang/Class") (8 : Int32) [.null] .null := f58.other W65 (Ne.symm n3)
  have f70 : Fld Z h65 kf "com/example/tallyframe/tallyframe/KindFigures" "kinds" "[Ljava/lang/Class;" (.ref b2) := f59.other W65 (Or.inr (slot_ne (Or.inl (hw _ (List.mem_of_getElem? (i := 19) rfl))) (Or.inl (hw _ (List.mem_of_getElem? (i := 24) rfl))) (by decide) (t := (.array (.object "java/lang/Class"))) (t' := (.array .long)) (by decide) (by decide)))
  have f71 : Arv Z h65 b24 k24 .long (8 : Int32) [(.long (0 : Int64))] (.long (0 : Int64)) := f60.other W65 (Ne.symm n25)
  have f72 : Fld Z h65 kf "com/example/tallyframe/tallyframe/KindFigures" "objects" "[J" (.ref b24) := f61.other W65 (Or.inr (slot_ne (Or.inl (hw _ (List.mem_of_getElem? (i := 22) rfl))) (Or.inl (hw _ (List.mem_of_getElem? (i := 24) rfl))) (by decide) (t := (.array .long)) (t' := (.array .long)) (by decide) (by decide)))
  have f73 : Arv Z h65 b49 k49 .long (8 : Int32) [(.long (0 : Int64))] (.long (0 : Int64)) := f64.other W65 (Ne.symm n50)
  have K74 : Keep h0 h65 [kf] := K62.wr W65 (Or.inl (List.mem_of_getElem? (i := 0) rfl))
  have Z75 : n0 ≤ h65.size := Nat.le_trans Z63 (Keep.of_wr W65).1
  have N76 := Fr.snoc X65 N48 H5
  refine OwnGo.back (T65.setTop (mkF m 29 #[.val (.ref kf)] [])) (fun tg kk => st65 _ kk) ?_
  obtain ⟨fs, hr, hrun, hended, hW, hsame⟩ := X65.leave (v := none) (fun _ => rfl)
  refine ⟨_, _, ?_, hrun, hended, _, _, rfl, ?_, ⟨_, rfl⟩, hW, hsame.mono (by decide) (by decide)⟩
  · exact X65.returnOut hx Bd.returns (hb hby own_d3_29) hr
  · show own_kf_Q Z kf h0 n0 _ T65.heap _
    rw [e65]
    exact ⟨b2, b24, b49, k2, k24, k49, rfl, N76, K74, s5, s28, s54, n26, n51, n52, f67, f68, f70, f72, f66, f69, f71, f73⟩
theorem own_lg_ef (m : MethodId) (x0 : Addr) : entryFrame m #[(.ref x0)] 1 = mkF m 0 #[.val (.ref x0)] [] := by first | (simp [entryFrame, mkF, argsToLocals, Value.category]; done) | rfl
def own_lg_Q (Z : State) (lg : Addr) (h0 : Heap) (n0 : Nat) (rv : Option Value) (hN : Heap) (LL : List Loc) : Prop := ∃ (kf : Addr), ∃ (ak : Addr), ∃ (aj : Addr), ∃ (ab : Addr), ∃ (kk : ClassId), ∃ (kj : ClassId), ∃ (kb : ClassId), rv = none ∧ Fr n0 LL ∧ Keep h0 hN [lg] ∧ h0.size ≤ kf ∧ h0.size ≤ ak ∧ h0.size ≤ aj ∧ h0.size ≤ ab ∧ kf ≠ ak ∧ kf ≠ aj ∧ kf ≠ ab ∧ ak ≠ aj ∧ ak ≠ ab ∧ aj ≠ ab ∧ Exa Z hN lg "com/example/tallyframe/tallyframe/Ledger" ∧ Fld Z hN lg "com/example/tallyframe/tallyframe/Ledger" "byKind" "Lcom/example/tallyframe/tallyframe/KindFigures;" (.ref kf) ∧ Fld Z hN lg "com/example/tallyframe/tallyframe/Ledger" "allocatedObjects" "J" (.long (0 : Int64)) ∧ Fld Z hN lg "com/example/tallyframe/tallyframe/Ledger" "allocatedBytes" "J" (.long (0 : Int64)) ∧ Fld Z hN lg "com/example/tallyframe/tallyframe/Ledger" "releasedObjects" "J" (.long (0 : Int64)) ∧ Fld Z hN lg "com/example/tallyframe/tallyframe/Ledger" "releasedBytes" "J" (.long (0 : Int64)) ∧ Fld Z hN lg "com/example/tallyframe/tallyframe/Ledger" "peakLiveBytes" "J" (.long (0 : Int64)) ∧ Exa Z hN kf "com/example/tallyframe/tallyframe/KindFigures" ∧ Fld Z hN kf "com/example/tallyframe/tallyframe/KindFigures" "lastSlot" "I" (.int (0 : Int32)) ∧ Fld Z hN kf "com/example/tallyframe/tallyframe/KindFigures" "kinds" "[Ljava/lang/Class;" (.ref ak) ∧ Fld Z hN kf "com/example/tallyframe/tallyframe/KindFigures" "objects" "[J" (.ref aj) ∧ Fld Z hN kf "com/example/tallyframe/tallyframe/KindFigures" "bytes" "[J" (.ref ab) ∧ Arv Z hN ak kk (.object "java/lang/Class") (8 : Int32) [.null] .null ∧ Arv Z hN aj kj .long (8 : Int32) [(.long (0 : Int64))] (.long (0 : Int64)) ∧ Arv Z hN ab kb .long (8 : Int32) [(.long (0 : Int64))] (.long (0 : Int64))
set_option maxRecDepth 65536 in
set_option maxHeartbeats 40000000 in
theorem own_lg (l : Launch) (Z : State) (a0 : Array Value) (hw : ∀ d ∈ tables_1, d.before a0 Z = true) (ws : List Jvm.Cond) (lg : Addr) (h0 : Heap) (n0 : Nat) (Z0 : n0 ≤ h0.size) (H0 : Exa Z h0 lg "com/example/tallyframe/tallyframe/Ledger") (H1 : Fld Z h0 lg "com/example/tallyframe/tallyframe/Ledger" "byKind" "Lcom/example/tallyframe/tallyframe/KindFigures;" .null) (H2 : Fld Z h0 lg "com/example/tallyframe/tallyframe/Ledger" "allocatedObjects" "J" (.long (0 : Int64))) (H3 : Fld Z h0 lg "com/example/tallyframe/tallyframe/Ledger" "allocatedBytes" "J" (.long (0 : Int64))) (H4 : Fld Z h0 lg "com/example/tallyframe/tallyframe/Ledger" "releasedObjects" "J" (.long (0 : Int64))) (H5 : Fld Z h0 lg "com/example/tallyframe/tallyframe/Ledger" "releasedBytes" "J" (.long (0 : Int64))) (H6 : Fld Z h0 lg "com/example/tallyframe/tallyframe/Ledger" "peakLiveBytes" "J" (.long (0 : Int64))) (H7 : n0 ≤ lg) :
    MetFree l (⟨"com/example/tallyframe/tallyframe/Ledger", "<init>", "()V"⟩ : MethodName) (head1 (Jvm.Cond.code (⟨"com/example/tallyframe/tallyframe/Ledger", "<init>", "()V"⟩ : MethodName) prog_6_method_1_code 1 none :: ws) ({ frames := 2, cells := 4, slots := 29, locals := 26 } : Room)) (fun aa UU => aa = #[(.ref lg)] ∧ Z.Warmed39 UU.vm ∧ UU.heap = h0) (fun _ _ _ _ _ => True) (fun _ UU oo UU' => ∃ rv LL, oo = .returned rv ∧ own_lg_Q Z lg h0 n0 rv UU'.heap LL ∧ FrameEnd UU oo UU' LL ({ frames := 2, cells := 4, slots := 29, locals := 26 } : Room).cells ({ frames := 2, cells := 4, slots := 29, locals := 26 } : Room).slots) := by
  refine MetFree.of_bodySF (plainFor_of_name own_pn1) hisR ?_
  intro p e s m args below meth c s₁ Bd hml0 hP hK
  obtain ⟨rfl, hZ, hh⟩ := hP
  have hx := Bd.exec
  have hby := Bd.bytes
  have hml : c.maxLocals = 1 := hml0
  have hown : s.vm.findClass "com/example/tallyframe/tallyframe/Ledger" = some m.cls := findClass_of_methodNamed Bd.named
  have hnm := (name_of_methodNamed Bd.named Bd.method).1
  have X0 : Stand p l e ({ frames := 2, cells := 4, slots := 29, locals := 26 } : Room) s m #[(.ref lg)] below meth c s₁ [] 0 0 := Stand.of_body Bd
  have e0 : s₁.heap = h0 := by rw [← hh, Bd.state]; rfl
  have N0 := Fr.nil n0
  have K0 : Keep h0 h0 [lg] := Keep.refl h0 _
  refine (?_ : OwnGo p.tables e below (fun UU' oo => ∃ rv LL, oo = .returned rv ∧ own_lg_Q Z lg h0 n0 rv UU'.heap LL ∧ FrameEnd s oo UU' LL ({ frames := 2, cells := 4, slots := 29, locals := 26 } : Room).cells ({ frames := 2, cells := 4, slots := 29, locals := 26 } : Room).slots) _)
  refine OwnGo.back (s₁.setTop (mkF m 0 #[.val (.ref lg)] [])) (fun tg kk => castTop (own_lg_ef m lg) kk) ?_
  refine OwnGo.back (s₁.setTop (mkF m 1 #[.val (.ref lg)] [(.ref lg)])) (fun tg kk => XS.aloadN X0.here hx rfl (hb hby own_d1_0) rfl rfl kk) ?_
  obtain ⟨T1, X1, e1, st1⟩ := initO X0 hx hZ hown (hw _ (List.mem_of_getElem? (i := 6) rfl)) (hw _ (List.mem_of_getElem? (i := 7) rfl)) (hw _ (List.mem_of_getElem? (i := 8) rfl)) e0 (g := (mkF m 1 #[.val (.ref lg)] [(.ref lg)])) rfl (by rw [hml]; rfl) rfl (hb hby own_d1_1) (by decide) (W := 0) (by show 2 * 0 + _ ≤ _; exact Nat.le_of_eq rfl) (by decide)
  refine OwnGo.back (T1.setTop (mkF m 4 #[.val (.ref lg)] [])) (fun tg kk => st1 _ kk) ?_
  refine OwnGo.back (T1.setTop (mkF m 5 #[.val (.ref lg)] [(.ref lg)])) (fun tg kk => XS.aloadN X1.here hx rfl (hb hby own_d1_4) rfl rfl kk) ?_
  obtain ⟨T2, h2, X2, e2, E2, A2, D2, -, st2⟩ := newO X1 hx hZ hown (hw _ (List.mem_of_getElem? (i := 9) rfl)) (hw _ (List.mem_of_getElem? (i := 10) rfl)) (hw _ (List.mem_of_getElem? (i := 11) rfl)) e1 (g := (mkF m 5 #[.val (.ref lg)] [(.ref lg)])) rfl (hb hby own_d1_5) (by decide) (by decide)
  obtain ⟨b2, q2⟩ : ∃ z, z = h0.size := ⟨_, rfl⟩
  rw [← q2] at A2 D2 st2
  have n3 : lg ≠ b2 := own_ne H0.lt q2
  have g4 : n0 ≤ b2 := Nat.le_trans Z0 (Nat.le_of_eq q2.symm)
  have s5 : h0.size ≤ b2 := Nat.le_trans K0.1 (Nat.le_of_eq q2.symm)
  have f6 : Exa Z h2 lg "com/example/tallyframe/tallyframe/Ledger" := H0.ext E2
  have f7 : Fld Z h2 lg "com/example/tallyframe/tallyframe/Ledger" "byKind" "Lcom/example/tallyframe/tallyframe/KindFigures;" .null := H1.ext E2
  have f8 : Fld Z h2 lg "com/example/tallyframe/tallyframe/Ledger" "allocatedObjects" "J" (.long (0 : Int64)) := H2.ext E2
  have f9 : Fld Z h2 lg "com/example/tallyframe/tallyframe/Ledger" "allocatedBytes" "J" (.long (0 : Int64)) := H3.ext E2
  have f10 : Fld Z h2 lg "com/example/tallyframe/tallyframe/Ledger" "releasedObjects" "J" (.long (0 : Int64)) := H4.ext E2
  have f11 : Fld Z h2 lg "com/example/tallyframe/tallyframe/Ledger" "releasedBytes" "J" (.long (0 : Int64)) := H5.ext E2
  have f12 : Fld Z h2 lg "com/example/tallyframe/tallyframe/Ledger" "peakLiveBytes" "J" (.long (0 : Int64)) := H6.ext E2
  have K13 : Keep h0 h2 [lg] := K0.ext E2
  have Z14 : n0 ≤ h2.size := Nat.le_trans Z0 E2.1
  have f15 : Fld Z h2 b2 "com/example/tallyframe/tallyframe/KindFigures" "kinds" "[Ljava/lang/Class;" .null := D2 (Or.inl (hw _ (List.mem_of_getElem? (i := 19) rfl))) (ty := (.array (.object "java/lang/Class"))) (by decide)
  have f16 : Fld Z h2 b2 "com/example/tallyframe/tallyframe/KindFigures" "objects" "[J" .null := D2 (Or.inl (hw _ (List.mem_of_getElem? (i := 22) rfl))) (ty := (.array .long)) (by decide)
  have f17 : Fld Z h2 b2 "com/example/tallyframe/tallyframe/KindFigures" "bytes" "[J" .null := D2 (Or.inl (hw _ (List.mem_of_getElem? (i := 24) rfl))) (ty := (.array .long)) (by decide)
  have f18 : Fld Z h2 b2 "com/example/tallyframe/tallyframe/KindFigures" "lastSlot" "I" (.int (0 : Int32)) := D2 (Or.inl (hw _ (List.mem_of_getElem? (i := 101) rfl))) (ty := .int) (by decide)
  refine OwnGo.back (T2.setTop (mkF m 8 #[.val (.ref lg)] [(.ref b2), (.ref lg)])) (fun tg kk => st2 _ kk) ?_
  refine OwnGo.back (T2.setTop (mkF m 9 #[.val (.ref lg)] [(.ref b2), (.ref b2), (.ref lg)])) (fun tg kk => XS.dup X2.here hx rfl (hb hby own_d1_8) rfl rfl kk) ?_
  obtain ⟨_, _, ⟨T19, L19, k19, n19⟩, -, X19, ⟨Lc19, hQ19, l19, y19, z19⟩, st19⟩ := X2.specialBack hx (y := (⟨"com/example/tallyframe/tallyframe/KindFigures", "<init>", "()V"⟩ : MethodName)) rfl hown (mvT hZ (hw _ (List.mem_of_getElem? (i := 12) rfl))) (mvT hZ (hw _ (List.mem_of_getElem? (i := 13) rfl))) (mvT hZ (hw _ (List.mem_of_getElem? (i := 14) rfl))) (by decide) (backOf (W := 2) (own_kf l Z a0 hw [] b2 h2 n0 Z14 A2 f18 f15 f16 f17 g4) hZ (hw _ (List.mem_of_getElem? (i := 14) rfl)) (hw _ (List.mem_of_getElem? (i := 11) rfl)) (by decide) (by decide)) (g := (mkF m 9 #[.val (.ref lg)] [(.ref b2), (.ref b2), (.ref lg)])) rfl (by rw [hml]; rfl) (Steps.refl _) (a := b2) (argsL := []) (rest := [(.ref b2), (.ref lg)]) (lenOf own_pd0 rfl) rfl (by show 2 * 0 + _ ≤ _; exact Nat.le_of_eq rfl) (hb hby own_d1_9) (fun _ _ => ⟨rfl, e2, (by decide : 1 + 3 ≤ _), (by decide : 5 + 24 ≤ _)⟩)
  dsimp only [Pt.U, Pt.locs, Pt.cells, Pt.slots] at X19 l19 y19 z19 st19 hQ19
  subst l19 y19 z19
  obtain ⟨ak_20, aj_21, ab_22, kk_23, kj_24, kb_25, rfl, N19q, Kc19, po26, po27, po28, po29, po30, po31, po32, po33, po34, po35, po36, po37, po38, po39⟩ := hQ19
  have N19 := Fr.app N0 N19q
  have f40 : Exa Z T19.heap lg "com/example/tallyframe/tallyframe/Ledger" := f6.keep Kc19
  have f41 : Fld Z T19.heap lg "com/example/tallyframe/tallyframe/Ledger" "byKind" "Lcom/example/tallyframe/tallyframe/KindFigures;" .null := f7.keep Kc19 (ninS n3 nin0)
  have f42 : Fld Z T19.heap lg "com/example/tallyframe/tallyframe/Ledger" "allocatedObjects" "J" (.long (0 : Int64)) := f8.keep Kc19 (ninS n3 nin0)
  have f43 : Fld Z T19.heap lg "com/example/tallyframe/tallyframe/Ledger" "allocatedBytes" "J" (.long (0 : Int64)) := f9.keep Kc19 (ninS n3 nin0)
  have f44 : Fld Z T19.heap lg "com/example/tallyframe/tallyframe/Ledger" "releasedObjects" "J" (.long (0 : Int64)) := f10.keep Kc19 (ninS n3 nin0)
  have f45 : Fld Z T19.heap lg "com/example/tallyframe/tallyframe/Ledger" "releasedBytes" "J" (.long (0 : Int64)) := f11.keep Kc19 (ninS n3 nin0)
  have f46 : Fld Z T19.heap lg "com/example/tallyframe/tallyframe/Ledger" "peakLiveBytes" "J" (.long (0 : Int64)) := f12.keep Kc19 (ninS n3 nin0)
  have f47 : Exa Z T19.heap b2 "com/example/tallyframe/tallyframe/KindFigures" := A2.keep Kc19
  have K48 : Keep h0 T19.heap [lg] := K13.trans Kc19 (allS (Or.inr s5) all0)
  have Z49 : n0 ≤ T19.heap.size := Nat.le_trans Z14 Kc19.1
  have n50 : lg ≠ ak_20 := own_ne' f6.lt po26
  have n51 : b2 ≠ ak_20 := own_ne' A2.lt po26
  have g52 : n0 ≤ ak_20 := Nat.le_trans Z14 po26
  have s53 : h0.size ≤ ak_20 := Nat.le_trans K13.1 po26
  have n54 : lg ≠ aj_21 := own_ne' f6.lt po27
  have n55 : b2 ≠ aj_21 := own_ne' A2.lt po27
  have g56 : n0 ≤ aj_21 := Nat.le_trans Z14 po27
  have s57 : h0.size ≤ aj_21 := Nat.le_trans K13.1 po27
  have n58 : lg ≠ ab_22 := own_ne' f6.lt po28
  have n59 : b2 ≠ ab_22 := own_ne' A2.lt po28
  have g60 : n0 ≤ ab_22 := Nat.le_trans Z14 po28
  have s61 : h0.size ≤ ab_22 := Nat.le_trans K13.1 po28
  refine OwnGo.back (T19.setTop (mkF m 12 #[.val (.ref lg)] [(.ref b2), (.ref lg)])) (fun tg kk => st19.trans kk) ?_
  obtain ⟨T62, h62, X62, e62, W62, st62⟩ := putF X19 hx hZ hown (host := "") (Or.inl (hw _ (List.mem_of_getElem? (i := 25) rfl))) Via.refl rfl f41 f40 (Or.inr ⟨(hw _ (List.mem_of_getElem? (i := 26) rfl)), rfl, hnm⟩) (hw _ (List.mem_of_getElem? (i := 1) rfl)) (ty := (.object "com/example/tallyframe/tallyframe/KindFigures")) (by decide) rfl rfl (g := (mkF m 12 #[.val (.ref lg)] [(.ref b2), (.ref lg)])) rfl rfl (hb hby own_d1_12)
  have f63 : Fld Z h62 lg "com/example/tallyframe/tallyframe/Ledger" "byKind" "Lcom/example/tallyframe/tallyframe/KindFigures;" (.ref b2) := f41.same W62
  have f64 : Exa Z h62 lg "com/example/tallyframe/tallyframe/Ledger" := f40.wr W62
  have f65 : Fld Z h62 lg "com/example/tallyframe/tallyframe/Ledger" "allocatedObjects" "J" (.long (0 : Int64)) := f42.other W62 (Or.inr (slot_ne (Or.inl (hw _ (List.mem_of_getElem? (i := 40) rfl))) (Or.inr (hw _ (List.mem_of_getElem? (i := 26) rfl))) (by decide) (t := .long) (t' := (.object "com/example/tallyframe/tallyframe/KindFigures")) (by decide) (by decide)))
  have f66 : Fld Z h62 lg "com/example/tallyframe/tallyframe/Ledger" "allocatedBytes" "J" (.long (0 : Int64)) := f43.other W62 (Or.inr (slot_ne (Or.inl (hw _ (List.mem_of_getElem? (i := 42) rfl))) (Or.inr (hw _ (List.mem_of_getElem? (i := 26) rfl))) (by decide) (t := .long) (t' := (.object "com/example/tallyframe/tallyframe/KindFigures")) (by decide) (by decide)))
  have f67 : Fld Z h62 lg "com/example/tallyframe/tallyframe/Ledger" "releasedObjects" "J" (.long (0 : Int64)) := f44.other W62 (Or.inr (slot_ne (Or.inl (hw _ (List.mem_of_getElem? (i := 44) rfl))) (Or.inr (hw _ (List.mem_of_getElem? (i := 26) rfl))) (by decide) (t := .long) (t' := (.object "com/example/tallyframe/tallyframe/KindFigures")) (by decide) (by decide)))
  have f68 : Fld Z h62 lg "com/example/tallyframe/tallyframe/Ledger" "releasedBytes" "J" (.long (0 : Int64)) := f45.other W62 (Or.inr (slot_ne (Or.inl (hw _ (List.mem_of_getElem? (i := 46) rfl))) (Or.inr (hw _ (List.mem_of_getElem? (i := 26) rfl))) (by decide) (t := .long) (t' := (.object "com/example/tallyframe/tallyframe/KindFigures")) (by decide) (by decide)))
  have f69 : Fld Z h62 lg "com/example/tallyframe/tallyframe/Ledger" "peakLiveBytes" "J" (.long (0 : Int64)) := f46.other W62 (Or.inr (slot_ne (Or.inl (hw _ (List.mem_of_getElem? (i := 85) rfl))) (Or.inr (hw _ (List.mem_of_getElem? (i := 26) rfl))) (by decide) (t := .long) (t' := (.object "com/example/tallyframe/tallyframe/KindFigures")) (by decide) (by decide)))
  have f70 : Exa Z h62 b2 "com/example/tallyframe/tallyframe/KindFigures" := po32.wr W62
  have f71 : Fld Z h62 b2 "com/example/tallyframe/tallyframe/KindFigures" "lastSlot" "I" (.int (0 : Int32)) := po33.other W62 (Or.inl (Ne.symm n3))
  have f72 : Fld Z h62 b2 "com/example/tallyframe/tallyframe/KindFigures" "kinds" "[Ljava/lang/Class;" (.ref ak_20) := po34.other W62 (Or.inl (Ne.symm n3))
  have f73 : Fld Z h62 b2 "com/example/tallyframe/tallyframe/KindFigures" "objects" "[J" (.ref aj_21) := po35.other W62 (Or.inl (Ne.symm n3))
  have f74 : Fld Z h62 b2 "com/example/tallyframe/tallyframe/KindFigures" "bytes" "[J" (.ref ab_22) := po36.other W62 (Or.inl (Ne.symm n3))
  have f75 : Arv Z h62 ak_20 kk_23 (.object "java/lang/Class") (8 : Int32) [.null] .null := po37.other W62 (Ne.symm n50)
  have f76 : Arv Z h62 aj_21 kj_24 .long (8 : Int32) [(.long (0 : Int64))] (.long (0 : Int64)) := po38.other W62 (Ne.symm n54)
  have f77 : Arv Z h62 ab_22 kb_25 .long (8 : Int32) [(.long (0 : Int64))] (.long (0 : Int64)) := po39.other W62 (Ne.symm n58)
  have K78 : Keep h0 h62 [lg] := K48.wr W62 (Or.inl (List.mem_of_getElem? (i := 0) rfl))
  have Z79 : n0 ≤ h62.size := Nat.le_trans Z49 (Keep.of_wr W62).1
  have N80 := Fr.snoc X62 N19 H7
  refine OwnGo.back (T62.setTop (mkF m 15 #[.val (.ref lg)] [])) (fun tg kk => st62 _ kk) ?_
  obtain ⟨fs, hr, hrun, hended, hW, hsame⟩ := X62.leave (v := none) (fun _ => rfl)
  refine ⟨_, _, ?_, hrun, hended, _, _, rfl, ?_, ⟨_, rfl⟩, hW, hsame.mono (by decide) (by decide)⟩
  · exact X62.returnOut hx Bd.returns (hb hby own_d1_15) hr
  · show own_lg_Q Z lg h0 n0 _ T62.heap _
    rw [e62]
    exact ⟨b2, ak_20, aj_21, ab_22, kk_23, kj_24, kb_25, rfl, N80, K78, s5, s53, s57, s61, n51, n55, n59, po29, po30, po31, f64, f63, f65, f66, f67, f68, f69, f70, f71, f72, f73, f74, f75, f76, f77⟩
theorem own_add_ef (m : MethodId) (x0 : Addr) (x2 : Int64) (x3 : Int64) : entryFrame m #[(.ref x0), .null, (.long x2), (.long x3)] 7 = mkF m 0 #[.val (.ref x0), .val .null, .val (.long x2), .second, .val (.long x3), .second, .unset] [] := by first | (simp [entryFrame, mkF, argsToLocals, Value.category]; done) | rfl
def own_add_Q (Z : State) (kf : Addr) (x : Int64) (y : Int64) (ak : Addr) (aj : Addr) (ab : Addr) (kk : ClassId) (kj : ClassId) (kb : ClassId) (o : Int64) (b : Int64) (h0 : Heap) (n0 : Nat) (rv : Option Value) (hN : Heap) (LL : List Loc) : Prop := rv = none ∧ Fr n0 LL ∧ Keep h0 hN [aj, ab] ∧ Arv Z hN aj kj .long (8 : Int32) [(.long (o + x))] (.long (0 : Int64)) ∧ Arv Z hN ab kb .long (8 : Int32) [(.long (b + y))] (.long (0 : Int64))
set_option maxRecDepth 65536 in
set_option maxHeartbeats 40000000 in
theorem own_add (l : Launch) (Z : State) (a0 : Array Value) (hw : ∀ d ∈ tables_1, d.before a0 Z = true) (ws : List Jvm.Cond) (kf : Addr) (x : Int64) (y : Int64) (ak : Addr) (aj : Addr) (ab : Addr) (kk : ClassId) (kj : ClassId) (kb : ClassId) (o : Int64) (b : Int64) (h0 : Heap) (n0 : Nat) (Z0 : n0 ≤ h0.size) (H0 : Fld Z h0 kf "com/example/tallyframe/tallyframe/KindFigures" "lastSlot" "I" (.int (0 : Int32))) (H1 : Fld Z h0 kf "com/example/tallyframe/tallyframe/KindFigures" "kinds" "[Ljava/lang/Class;" (.ref ak)) (H2 : Fld Z h0 kf "com/example/tallyframe/tallyframe/KindFigures" "objects" "[J" (.ref aj)) (H3 : Fld Z h0 kf "com/example/tallyframe/tallyframe/KindFigures" "bytes" "[J" (.ref ab)) (H4 : Arv Z h0 ak kk (.object "java/lang/Class") (8 : Int32) [.null] .null) (H5 : Arv Z h0 aj kj .long (8 : Int32) [(.long o)] (.long (0 : Int64))) (H6 : Arv Z h0 ab kb .long (8 : Int32) [(.long b)] (.long (0 : Int64))) (H7 : n0 ≤ aj) (H8 : n0 ≤ ab) (H9 : kf ≠ ak) (H10 : kf ≠ aj) (H11 : kf ≠ ab) (H12 : ak ≠ aj) (H13 : ak ≠ ab) (H14 : aj ≠ ab) :
    MetFree l (⟨"com/example/tallyframe/tallyframe/KindFigures", "add", "(Ljava/lang/Class;JJ)V"⟩ : MethodName) (head1 (Jvm.Cond.code (⟨"com/example/tallyframe/tallyframe/KindFigures", "add", "(Ljava/lang/Class;JJ)V"⟩ : MethodName) prog_5_method_2_code 7 none :: ws) ({ frames := 0, cells := 0, slots := 0, locals := 0 } : Room)) (fun aa UU => aa = #[(.ref kf), .null, (.long x), (.long y)] ∧ Z.Warmed39 UU.vm ∧ UU.heap = h0) (fun _ _ _ _ _ => True) (fun _ UU oo UU' => ∃ rv LL, oo = .returned rv ∧ own_add_Q Z kf x y ak aj ab kk kj kb o b h0 n0 rv UU'.heap LL ∧ FrameEnd UU oo UU' LL ({ frames := 0, cells := 0, slots := 0, locals := 0 } : Room).cells ({ frames := 0, cells := 0, slots := 0, locals := 0 } : Room).slots) := by
  refine MetFree.of_bodySF (plainFor_of_name own_pn0) hisR ?_
  intro p e s m args below meth c s₁ Bd hml0 hP hK
  obtain ⟨rfl, hZ, hh⟩ := hP
  have hx := Bd.exec
  have hby := Bd.bytes
  have hml : c.maxLocals = 7 := hml0
  have hown : s.vm.findClass "com/example/tallyframe/tallyframe/KindFigures" = some m.cls := findClass_of_methodNamed Bd.named
  have hnm := (name_of_methodNamed Bd.named Bd.method).1
  have X0 : Stand p l e ({ frames := 0, cells := 0, slots := 0, locals := 0 } : Room) s m #[(.ref kf), .null, (.long x), (.long y)] below meth c s₁ [] 0 0 := Stand.of_body Bd
  have e0 : s₁.heap = h0 := by rw [← hh, Bd.state]; rfl
  have N0 := Fr.nil n0
  have K0 : Keep h0 h0 [aj, ab] := Keep.refl h0 _
  refine (?_ : OwnGo p.tables e below (fun UU' oo => ∃ rv LL, oo = .returned rv ∧ own_add_Q Z kf x y ak aj ab kk kj kb o b h0 n0 rv UU'.heap LL ∧ FrameEnd s oo UU' LL ({ frames := 0, cells := 0, slots := 0, locals := 0 } : Room).cells ({ frames := 0, cells := 0, slots := 0, locals := 0 } : Room).slots) _)
  refine OwnGo.back (s₁.setTop (mkF m 0 #[.val (.ref kf), .val .null, .val (.long x), .second, .val (.long y), .second, .unset] [])) (fun tg kk => castTop (own_add_ef m kf x y) kk) ?_
  refine OwnGo.back (s₁.setTop (mkF m 1 #[.val (.ref kf), .val .null, .val (.long x), .second, .val (.long y), .second, .unset] [(.ref kf)])) (fun tg kk => XS.aloadN X0.here hx rfl (hb hby own_d14_0) rfl rfl kk) ?_
  obtain ⟨T1, X1, e1, st1⟩ := getF X0 hx hZ hown (host := "") (Or.inl (hw _ (List.mem_of_getElem? (i := 100) rfl))) Via.refl e0 H0 (g := (mkF m 1 #[.val (.ref kf), .val .null, .val (.long x), .second, .val (.long y), .second, .unset] [(.ref kf)])) rfl rfl (hb hby own_d14_1)
  refine OwnGo.back (T1.setTop (mkF m 4 #[.val (.ref kf), .val .null, .val (.long x), .second, .val (.long y), .second, .unset] [(.int (0 : Int32))])) (fun tg kk => st1 _ kk) ?_
  refine OwnGo.back (T1.setTop (mkF m 6 #[.val (.ref kf), .val .null, .val (.long x), .second, .val (.long y), .second, .val (.int (0 : Int32))] [])) (fun tg kk => XS.istore X1.here hx rfl (hb hby own_d14_4) rfl (l' := #[.val (.ref kf), .val .null, .val (.long x), .second, .val (.long y), .second, .val (.int (0 : Int32))]) rfl kk) ?_
  refine OwnGo.back (T1.setTop (mkF m 7 #[.val (.ref kf), .val .null, .val (.long x), .second, .val (.long y), .second, .val (.int (0 : Int32))] [(.ref kf)])) (fun tg kk => XS.aloadN X1.here hx rfl (hb hby own_d14_6) rfl rfl kk) ?_
  obtain ⟨T2, X2, e2, st2⟩ := getF X1 hx hZ hown (host := "") (Or.inl (hw _ (List.mem_of_getElem? (i := 18) rfl))) Via.refl e1 H1 (g := (mkF m 7 #[.val (.ref kf), .val .null, .val (.long x), .second, .val (.long y), .second, .val (.int (0 : Int32))] [(.ref kf)])) rfl rfl (hb hby own_d14_7)
  refine OwnGo.back (T2.setTop (mkF m 10 #[.val (.ref kf), .val .null, .val (.long x), .second, .val (.long y), .second, .val (.int (0 : Int32))] [(.ref ak)])) (fun tg kk => st2 _ kk) ?_
  refine OwnGo.back (T2.setTop (mkF m 12 #[.val (.ref kf), .val .null, .val (.long x), .second, .val (.long y), .second, .val (.int (0 : Int32))] [(.int (0 : Int32)), (.ref ak)])) (fun tg kk => XS.iload X2.here hx rfl (hb hby own_d14_10) rfl kk) ?_
  obtain ⟨cl_3, Ar_3, qq_3, Sz_3, Ng_3, Hs_3, Gf_3⟩ := id H4
  have hin_3 : ¬ ((0 : Int32) < 0 ∨ cl_3.slots.size ≤ ((0 : Int32)).toNatClampNeg) := inb_of Sz_3 ⟨by decide, by decide⟩
  have hat_3 : cl_3.slots[((0 : Int32)).toNatClampNeg]? = some .null := Has.at Hs_3 hin_3 rfl
  refine OwnGo.back (T2.setTop (mkF m 13 #[.val (.ref kf), .val .null, .val (.long x), .second, .val (.long y), .second, .val (.int (0 : Int32))] [.null])) (fun tg kk => X2.aaload hx (j := (0 : Int32)) (v := .null) (by rw [e2]; exact Ar_3.1) (State.isArrayOf_alike hZ.alike Ar_3.2.1) rfl Ar_3.2.2 hin_3 hat_3 (g := (mkF m 12 #[.val (.ref kf), .val .null, .val (.long x), .second, .val (.long y), .second, .val (.int (0 : Int32))] [(.int (0 : Int32)), (.ref ak)])) rfl rfl (hb hby own_d14_12) _ kk) ?_
  refine OwnGo.back (T2.setTop (mkF m 14 #[.val (.ref kf), .val .null, .val (.long x), .second, .val (.long y), .second, .val (.int (0 : Int32))] [.null, .null])) (fun tg kk => XS.aloadN X2.here hx rfl (hb hby own_d14_13) rfl rfl kk) ?_
  refine OwnGo.back (T2.setTop (mkF m 30 #[.val (.ref kf), .val .null, .val (.long x), .second, .val (.long y), .second, .val (.int (0 : Int32))] [])) (fun tg kk => Jvm.RoadKit.acmp (g := (mkF m 14 #[.val (.ref kf), .val .null, .val (.long x), .second, .val (.long y), .second, .val (.int (0 : Int32))] [.null, .null])) X2 hx rfl rfl rfl (pc0 := 14) (pc' := 30) (same := true) rfl (hb hby own_d14_14) rfl (decide_eq_true rfl) (by decide) (by decide) kk) ?_
  refine OwnGo.back (T2.setTop (mkF m 31 #[.val (.ref kf), .val .null, .val (.long x), .second, .val (.long y), .second, .val (.int (0 : Int32))] [(.ref kf)])) (fun tg kk => XS.aloadN X2.here hx rfl (hb hby own_d14_30) rfl rfl kk) ?_
  obtain ⟨T4, X4, e4, st4⟩ := getF X2 hx hZ hown (host := "") (Or.inl (hw _ (List.mem_of_getElem? (i := 21) rfl))) Via.refl e2 H2 (g := (mkF m 31 #[.val (.ref kf), .val .null, .val (.long x), .second, .val (.long y), .second, .val (.int (0 : Int32))] [(.ref kf)])) rfl rfl (hb hby own_d14_31)
  refine OwnGo.back (T4.setTop (mkF m 34 #[.val (.ref kf), .val .null, .val (.long x), .second, .val (.long y), .second, .val (.int (0 : Int32))] [(.ref aj)])) (fun tg kk => st4 _ kk) ?_
  refine OwnGo.back (T4.setTop (mkF m 36 #[.val (.ref kf), .val .null, .val (.long x), .second, .val (.long y), .second, .val (.int (0 : Int32))] [(.int (0 : Int32)), (.ref aj)])) (fun tg kk => XS.iload X4.here hx rfl (hb hby own_d14_34) rfl kk) ?_
  refine OwnGo.back (T4.setTop (mkF m 37 #[.val (.ref kf), .val .null, .val (.long x), .second, .val (.long y), .second, .val (.int (0 : Int32))] [(.int (0 : Int32)), (.ref aj), (.int (0 : Int32)), (.ref aj)])) (fun tg kk => Jvm.Free.XT.dup2 X4.here hx rfl (hb hby own_d14_36) rfl rfl rfl kk) ?_
  obtain ⟨cl_5, Ar_5, qq_5, Sz_5, Ng_5, Hs_5, Gf_5⟩ := id H5
  have hin_5 : ¬ ((0 : Int32) < 0 ∨ cl_5.slots.size ≤ ((0 : Int32)).toNatClampNeg) := inb_of Sz_5 ⟨by decide, by decide⟩
  have hat_5 : cl_5.slots[((0 : Int32)).toNatClampNeg]? = some (.long o) := Has.at Hs_5 hin_5 rfl
  refine OwnGo.back (T4.setTop (mkF m 38 #[.val (.ref kf), .val .null, .val (.long x), .second, .val (.long y), .second, .val (.int (0 : Int32))] [(.long o), (.int (0 : Int32)), (.ref aj)])) (fun tg kk => X4.laload hx (j := (0 : Int32)) (v := (.long o)) (by rw [e4]; exact Ar_5.1) (State.isArrayOf_alike hZ.alike Ar_5.2.1) Ar_5.2.2 hin_5 hat_5 (g := (mkF m 37 #[.val (.ref kf), .val .null, .val (.long x), .second, .val (.long y), .second, .val (.int (0 : Int32))] [(.int (0 : Int32)), (.ref aj), (.int (0 : Int32)), (.ref aj)])) rfl rfl (hb hby own_d14_37) _ kk) ?_
  refine OwnGo.back (T4.setTop (mkF m 39 #[.val (.ref kf), .val .null, .val (.long x), .second, .val (.long y), .second, .val (.int (0 : Int32))] [(.long x), (.long o), (.int (0 : Int32)), (.ref aj)])) (fun tg kk => XS.lloadN X4.here hx rfl (hb hby own_d14_38) rfl kk) ?_
  refine OwnGo.back (T4.setTop (mkF m 40 #[.val (.ref kf), .val .null, .val (.long x), .second, .val (.long y), .second, .val (.int (0 : Int32))] [(.long (o + x)), (.int (0 : Int32)), (.ref aj)])) (fun tg kk => XS.ladd X4.here hx rfl (hb hby own_d14_39) rfl kk) ?_
  obtain ⟨cl_6, Ar_6, qq_6, Sz_6, Ng_6, Hs_6, Gf_6⟩ := id H5
  have hin_6 : ¬ ((0 : Int32) < 0 ∨ cl_6.slots.size ≤ ((0 : Int32)).toNatClampNeg) := inb_of Sz_6 ⟨by decide, by decide⟩
  obtain ⟨T7, h7, X7, e7, W7, st7⟩ := stJ X4 hx hZ e4 Ar_6 (j := (0 : Int32)) hin_6 (g := (mkF m 40 #[.val (.ref kf), .val .null, .val (.long x), .second, .val (.long y), .second, .val (.int (0 : Int32))] [(.long (o + x)), (.int (0 : Int32)), (.ref aj)])) rfl rfl (hb hby own_d14_40)
  have f8 : Arv Z h7 aj kj .long (8 : Int32) [(.long (o + x))] (.long (0 : Int64)) := Arv.set Ar_6 qq_6 Sz_6 Ng_6 Hs_6 Gf_6 rfl W7 0 rfl (Nat.le_of_ble_eq_true rfl)
  have f9 : Fld Z h7 kf "com/example/tallyframe/tallyframe/KindFigures" "lastSlot" "I" (.int (0 : Int32)) := H0.other W7 (Or.inl H10)
  have f10 : Fld Z h7 kf "com/example/tallyframe/tallyframe/KindFigures" "kinds" "[Ljava/lang/Class;" (.ref ak) := H1.other W7 (Or.inl H10)
  have f11 : Fld Z h7 kf "com/example/tallyframe/tallyframe/KindFigures" "objects" "[J" (.ref aj) := H2.other W7 (Or.inl H10)
  have f12 : Fld Z h7 kf "com/example/tallyframe/tallyframe/KindFigures" "bytes" "[J" (.ref ab) := H3.other W7 (Or.inl H10)
  have f13 : Arv Z h7 ak kk (.object "java/lang/Class") (8 : Int32) [.null] .null := H4.other W7 H12
  have f14 : Arv Z h7 ab kb .long (8 : Int32) [(.long b)] (.long (0 : Int64)) := H6.other W7 (Ne.symm H14)
  have K15 : Keep h0 h7 [aj, ab] := K0.wr W7 (Or.inl (List.mem_of_getElem? (i := 0) rfl))
  have Z16 : n0 ≤ h7.size := Nat.le_trans Z0 (Keep.of_wr W7).1
  have N17 := Fr.snoc X7 N0 H7
  refine OwnGo.back (T7.setTop (mkF m 41 #[.val (.ref kf), .val .null, .val (.long x), .second, .val (.long y), .second, .val (.int (0 : Int32))] [])) (fun tg kk => st7 _ kk) ?_
  refine OwnGo.back (T7.setTop (mkF m 42 #[.val (.ref kf), .val .null, .val (.long x), .second, .val (.long y), .second, .val (.int (0 : Int32))] [(.ref kf)])) (fun tg kk => XS.aloadN X7.here hx rfl (hb hby own_d14_41) rfl rfl kk) ?_
  obtain ⟨T18, X18, e18, st18⟩ := getF X7 hx hZ hown (host := "") (Or.inl (hw _ (List.mem_of_getElem? (i := 23) rfl))) Via.refl e7 f12 (g := (mkF m 42 #[.val (.ref kf), .val .null, .val (.long x), .second, .val (.long y), .second, .val (.int (0 : Int32))] [(.ref kf)])) rfl rfl (hb hby own_d14_42)
  refine OwnGo.back (T18.setTop (mkF m 45 #[.val (.ref kf), .val .null, .val (.long x), .second, .val (.long y), .second, .val (.int (0 : Int32))] [(.ref ab)])) (fun tg kk => st18 _ kk) ?_
  refine OwnGo.back (T18.setTop (mkF m 47 #[.val (.ref kf), .val .null, .val (.long x), .second, .val (.long y), .second, .val (.int (0 : Int32))] [(.int (0 : Int32)), (.ref ab)])) (fun tg kk => XS.iload X18.here hx rfl (hb hby own_d14_45) rfl kk) ?_
  refine OwnGo.back (T18.setTop (mkF m 48 #[.val (.ref kf), .val .null, .val (.long x), .second, .val (.long y), .second, .val (.int (0 : Int32))] [(.int (0 : Int32)), (.ref ab), (.int (0 : Int32)), (.ref ab)])) (fun tg kk => Jvm.Free.XT.dup2 X18.here hx rfl (hb hby own_d14_47) rfl rfl rfl kk) ?_
  obtain ⟨cl_19, Ar_19, qq_19, Sz_19, Ng_19, Hs_19, Gf_19⟩ := id f14
  have hin_19 : ¬ ((0 : Int32) < 0 ∨ cl_19.slots.size ≤ ((0 : Int32)).toNatClampNeg) := inb_of Sz_19 ⟨by decide, by decide⟩
  have hat_19 : cl_19.slots[((0 : Int32)).toNatClampNeg]? = some (.long b) := Has.at Hs_19 hin_19 rfl
  refine OwnGo.back (T18.setTop (mkF m 49 #[.val (.ref kf), .val .null, .val (.long x), .second, .val (.long y), .second, .val (.int (0 : Int32))] [(.long b), (.int (0 : Int32)), (.ref ab)])) (fun tg kk => X18.laload hx (j := (0 : Int32)) (v := (.long b)) (by rw [e18]; exact Ar_19.1) (State.isArrayOf_alike hZ.alike Ar_19.2.1) Ar_19.2.2 hin_19 hat_19 (g := (mkF m 48 #[.val (.ref kf), .val .null, .val (.long x), .second, .val (.long y), .second, .val (.int (0 : Int32))] [(.int (0 : Int32)), (.ref ab), (.int (0 : Int32)), (.ref ab)])) rfl rfl (hb hby own_d14_48) _ kk) ?_
  refine OwnGo.back (T18.setTop (mkF m 51 #[.val (.ref kf), .val .null, .val (.long x), .second, .val (.long y), .second, .val (.int (0 : Int32))] [(.long y), (.long b), (.int (0 : Int32)), (.ref ab)])) (fun tg kk => XS.lload X18.here hx rfl (hb hby own_d14_49) rfl kk) ?_
  refine OwnGo.back (T18.setTop (mkF m 52 #[.val (.ref kf), .val .null, .val (.long x), .second, .val (.long y), .second, .val (.int (0 : Int32))] [(.long (b + y)), (.int (0 : Int32)), (.ref ab)])) (fun tg kk => XS.ladd X18.here hx rfl (hb hby own_d14_51) rfl kk) ?_
  obtain ⟨cl_20, Ar_20, qq_20, Sz_20, Ng_20, Hs_20, Gf_20⟩ := id f14
  have hin_20 : ¬ ((0 : Int32) < 0 ∨ cl_20.slots.size ≤ ((0 : Int32)).toNatClampNeg) := inb_of Sz_20 ⟨by decide, by decide⟩
  obtain ⟨T21, h21, X21, e21, W21, st21⟩ := stJ X18 hx hZ e18 Ar_20 (j := (0 : Int32)) hin_20 (g := (mkF m 52 #[.val (.ref kf), .val .null, .val (.long x), .second, .val (.long y), .second, .val (.int (0 : Int32))] [(.long (b + y)), (.int (0 : Int32)), (.ref ab)])) rfl rfl (hb hby own_d14_52)
  have f22 : Arv Z h21 ab kb .long (8 : Int32) [(.long (b + y))] (.long (0 : Int64)) := Arv.set Ar_20 qq_20 Sz_20 Ng_20 Hs_20 Gf_20 rfl W21 0 rfl (Nat.le_of_ble_eq_true rfl)
  have f23 : Fld Z h21 kf "com/example/tallyframe/tallyframe/KindFigures" "lastSlot" "I" (.int (0 : Int32)) := f9.other W21 (Or.inl H11)
  have f24 : Fld Z h21 kf "com/example/tallyframe/tallyframe/KindFigures" "kinds" "[Ljava/lang/Class;" (.ref ak) := f10.other W21 (Or.inl H11)
  have f25 : Fld Z h21 kf "com/example/tallyframe/tallyframe/KindFigures" "objects" "[J" (.ref aj) := f11.other W21 (Or.inl H11)
  have f26 : Fld Z h21 kf "com/example/tallyframe/tallyframe/KindFigures" "bytes" "[J" (.ref ab) := f12.other W21 (Or.inl H11)
  have f27 : Arv Z h21 ak kk (.object "java/lang/Class") (8 : Int32) [.null] .null := f13.other W21 H13
  have f28 : Arv Z h21 aj kj .long (8 : Int32) [(.long (o + x))] (.long (0 : Int64)) := f8.other W21 H14
  have K29 : Keep h0 h21 [aj, ab] := K15.wr W21 (Or.inl (List.mem_of_getElem? (i := 1) rfl))
  have Z30 : n0 ≤ h21.size := Nat.le_trans Z16 (Keep.of_wr W21).1
  have N31 := Fr.snoc X21 N17 H8
  refine OwnGo.back (T21.setTop (mkF m 53 #[.val (.ref kf), .val .null, .val (.long x), .second, .val (.long y), .second, .val (.int (0 : Int32))] [])) (fun tg kk => st21 _ kk) ?_
  obtain ⟨fs, hr, hrun, hended, hW, hsame⟩ := X21.leave (v := none) (fun _ => rfl)
  refine ⟨_, _, ?_, hrun, hended, _, _, rfl, ?_, ⟨_, rfl⟩, hW, hsame.mono (by decide) (by decide)⟩
  · exact X21.returnOut hx Bd.returns (hb hby own_d14_53) hr
  · show own_add_Q Z kf x y ak aj ab kk kj kb o b h0 n0 _ T21.heap _
    rw [e21]
    exact ⟨rfl, N31, K29, f28, f22⟩
theorem own_live_ef (m : MethodId) (x0 : Addr) : entryFrame m #[(.ref x0)] 1 = mkF m 0 #[.val (.ref x0)] [] := by first | (simp [entryFrame, mkF, argsToLocals, Value.category]; done) | rfl
def own_live_Q (Z : State) (lg : Addr) (v1 : Int64) (v3 : Int64) (h0 : Heap) (n0 : Nat) (rv : Option Value) (hN : Heap) (LL : List Loc) : Prop := rv = some (.long (v1 - v3)) ∧ Fr n0 LL ∧ hN = h0
set_option maxRecDepth 65536 in
set_option maxHeartbeats 40000000 in
theorem own_live (l : Launch) (Z : State) (a0 : Array Value) (hw : ∀ d ∈ tables_1, d.before a0 Z = true) (ws : List Jvm.Cond) (lg : Addr) (v1 : Int64) (v3 : Int64) (h0 : Heap) (n0 : Nat) (Z0 : n0 ≤ h0.size) (H0 : Fld Z h0 lg "com/example/tallyframe/tallyframe/Ledger" "allocatedBytes" "J" (.long v1)) (H1 : Fld Z h0 lg "com/example/tallyframe/tallyframe/Ledger" "releasedBytes" "J" (.long v3)) :
    MetFree l (⟨"com/example/tallyframe/tallyframe/Ledger", "liveBytes", "()J"⟩ : MethodName) (head1 (Jvm.Cond.code (⟨"com/example/tallyframe/tallyframe/Ledger", "liveBytes", "()J"⟩ : MethodName) prog_6_method_4_code 1 (some .long) :: ws) ({ frames := 0, cells := 0, slots := 0, locals := 0 } : Room)) (fun aa UU => aa = #[(.ref lg)] ∧ Z.Warmed39 UU.vm ∧ UU.heap = h0) (fun _ _ _ _ _ => True) (fun _ UU oo UU' => ∃ rv LL, oo = .returned rv ∧ own_live_Q Z lg v1 v3 h0 n0 rv UU'.heap LL ∧ FrameEnd UU oo UU' LL ({ frames := 0, cells := 0, slots := 0, locals := 0 } : Room).cells ({ frames := 0, cells := 0, slots := 0, locals := 0 } : Room).slots) := by
  refine MetFree.of_bodySF (plainFor_of_name own_pn1) hisR ?_
  intro p e s m args below meth c s₁ Bd hml0 hP hK
  obtain ⟨rfl, hZ, hh⟩ := hP
  have hx := Bd.exec
  have hby := Bd.bytes
  have hml : c.maxLocals = 1 := hml0
  have hown : s.vm.findClass "com/example/tallyframe/tallyframe/Ledger" = some m.cls := findClass_of_methodNamed Bd.named
  have hnm := (name_of_methodNamed Bd.named Bd.method).1
  have X0 : Stand p l e ({ frames := 0, cells := 0, slots := 0, locals := 0 } : Room) s m #[(.ref lg)] below meth c s₁ [] 0 0 := Stand.of_body Bd
  have e0 : s₁.heap = h0 := by rw [← hh, Bd.state]; rfl
  have N0 := Fr.nil n0
  have K0 : Keep h0 h0 [] := Keep.refl h0 _
  refine (?_ : OwnGo p.tables e below (fun UU' oo => ∃ rv LL, oo = .returned rv ∧ own_live_Q Z lg v1 v3 h0 n0 rv UU'.heap LL ∧ FrameEnd s oo UU' LL ({ frames := 0, cells := 0, slots := 0, locals := 0 } : Room).cells ({ frames := 0, cells := 0, slots := 0, locals := 0 } : Room).slots) _)
  refine OwnGo.back (s₁.setTop (mkF m 0 #[.val (.ref lg)] [])) (fun tg kk => castTop (own_live_ef m lg) kk) ?_
  refine OwnGo.back (s₁.setTop (mkF m 1 #[.val (.ref lg)] [(.ref lg)])) (fun tg kk => XS.aloadN X0.here hx rfl (hb hby own_d12_0) rfl rfl kk) ?_
  obtain ⟨T1, X1, e1, st1⟩ := getF X0 hx hZ hown (host := "") (Or.inl (hw _ (List.mem_of_getElem? (i := 41) rfl))) Via.refl e0 H0 (g := (mkF m 1 #[.val (.ref lg)] [(.ref lg)])) rfl rfl (hb hby own_d12_1)
  refine OwnGo.back (T1.setTop (mkF m 4 #[.val (.ref lg)] [(.long v1)])) (fun tg kk => st1 _ kk) ?_
  refine OwnGo.back (T1.setTop (mkF m 5 #[.val (.ref lg)] [(.ref lg), (.long v1)])) (fun tg kk => XS.aloadN X1.here hx rfl (hb hby own_d12_4) rfl rfl kk) ?_
  obtain ⟨T2, X2, e2, st2⟩ := getF X1 hx hZ hown (host := "") (Or.inl (hw _ (List.mem_of_getElem? (i := 45) rfl))) Via.refl e1 H1 (g := (mkF m 5 #[.val (.ref lg)] [(.ref lg), (.long v1)])) rfl rfl (hb hby own_d12_5)
  refine OwnGo.back (T2.setTop (mkF m 8 #[.val (.ref lg)] [(.long v3), (.long v1)])) (fun tg kk => st2 _ kk) ?_
  refine OwnGo.back (T2.setTop (mkF m 9 #[.val (.ref lg)] [(.long (v1 - v3))])) (fun tg kk => XS.lsub X2.here hx rfl (hb hby own_d12_8) rfl kk) ?_
  obtain ⟨fs, hr, hrun, hended, hW, hsame⟩ := X2.leave (v := some (.long (v1 - v3))) (fun h => by rw [Bd.returns] at h; cases h)
  refine ⟨_, _, ?_, hrun, hended, _, _, rfl, ?_, ⟨_, rfl⟩, hW, hsame.mono (by decide) (by decide)⟩
  · exact own_retJ X2 hx Bd.returns (hb hby own_d12_9) hr
  · show own_live_Q Z lg v1 v3 h0 n0 _ T2.heap _
    rw [e2]
    exact ⟨rfl, N0, rfl⟩
theorem own_max_ef (m : MethodId) (x0 : Int64) (x1 : Int64) : entryFrame m #[(.long x0), (.long x1)] 4 = mkF m 0 #[.val (.long x0), .second, .val (.long x1), .second] [] := by first | (simp [entryFrame, mkF, argsToLocals, Value.category]; done) | rfl
def own_max_Q (Z : State) (x : Int64) (y : Int64) (h0 : Heap) (n0 : Nat) (rv : Option Value) (hN : Heap) (LL : List Loc) : Prop := ∃ (r : Int64), rv = some (.long r) ∧ Fr n0 LL ∧ hN = h0
set_option maxRecDepth 65536 in
set_option maxHeartbeats 40000000 in
theorem own_max (l : Launch) (Z : State) (a0 : Array Value) (hw : ∀ d ∈ tables_1, d.before a0 Z = true) (ws : List Jvm.Cond) (x : Int64) (y : Int64) (h0 : Heap) (n0 : Nat) (Z0 : n0 ≤ h0.size) :
    MetFree l (⟨"java/lang/Math", "max", "(JJ)J"⟩ : MethodName) (head1 (Jvm.Cond.code (⟨"java/lang/Math", "max", "(JJ)J"⟩ : MethodName) jdk_29_method_66_code 4 (some .long) :: ws) ({ frames := 0, cells := 0, slots := 0, locals := 0 } : Room)) (fun aa UU => aa = #[(.long x), (.long y)] ∧ Z.Warmed39 UU.vm ∧ UU.heap = h0) (fun _ _ _ _ _ => True) (fun _ UU oo UU' => ∃ rv LL, oo = .returned rv ∧ own_max_Q Z x y h0 n0 rv UU'.heap LL ∧ FrameEnd UU oo UU' LL ({ frames := 0, cells := 0, slots := 0, locals := 0 } : Room).cells ({ frames := 0, cells := 0, slots := 0, locals := 0 } : Room).slots) := by
  refine MetFree.of_bodySF own_pn2 hisR ?_
  intro p e s m args below meth c s₁ Bd hml0 hP hK
  obtain ⟨rfl, hZ, hh⟩ := hP
  have hx := Bd.exec
  have hby := Bd.bytes
  have hml : c.maxLocals = 4 := hml0
  have hown : s.vm.findClass "java/lang/Math" = some m.cls := findClass_of_methodNamed Bd.named
  have hnm := (name_of_methodNamed Bd.named Bd.method).1
  have X0 : Stand p l e ({ frames := 0, cells := 0, slots := 0, locals := 0 } : Room) s m #[(.long x), (.long y)] below meth c s₁ [] 0 0 := Stand.of_body Bd
  have e0 : s₁.heap = h0 := by rw [← hh, Bd.state]; rfl
  have N0 := Fr.nil n0
  have K0 : Keep h0 h0 [] := Keep.refl h0 _
  refine (?_ : OwnGo p.tables e below (fun UU' oo => ∃ rv LL, oo = .returned rv ∧ own_max_Q Z x y h0 n0 rv UU'.heap LL ∧ FrameEnd s oo UU' LL ({ frames := 0, cells := 0, slots := 0, locals := 0 } : Room).cells ({ frames := 0, cells := 0, slots := 0, locals := 0 } : Room).slots) _)
  refine OwnGo.back (s₁.setTop (mkF m 0 #[.val (.long x), .second, .val (.long y), .second] [])) (fun tg kk => castTop (own_max_ef m x y) kk) ?_
  refine OwnGo.back (s₁.setTop (mkF m 1 #[.val (.long x), .second, .val (.long y), .second] [(.long x)])) (fun tg kk => XS.lloadN X0.here hx rfl (hb hby own_d13_0) rfl kk) ?_
  refine OwnGo.back (s₁.setTop (mkF m 2 #[.val (.long x), .second, .val (.long y), .second] [(.long y), (.long x)])) (fun tg kk => XS.lloadN X0.here hx rfl (hb hby own_d13_1) rfl kk) ?_
  refine OwnGo.back (s₁.setTop (mkF m 3 #[.val (.long x), .second, .val (.long y), .second] [(.int (lcmpW x y))])) (fun tg kk => XS.lcmp X0.here hx rfl (hb hby own_d13_2) rfl kk) ?_
  by_cases hc1 : x < y
  ·
    refine OwnGo.back (s₁.setTop (mkF m 10 #[.val (.long x), .second, .val (.long y), .second] [])) (fun tg kk => XS.ifYes X0.here hx rfl (pc0 := 3) (pc' := 10) rfl (hb hby own_d13_3) rfl ((if0 _ _).trans (tlt ((lw_lt _ _).mpr hc1)).1) (by decide) (by decide) kk) ?_
    refine OwnGo.back (s₁.setTop (mkF m 11 #[.val (.long x), .second, .val (.long y), .second] [(.long y)])) (fun tg kk => XS.lloadN X0.here hx rfl (hb hby own_d13_10) rfl kk) ?_
    obtain ⟨fs, hr, hrun, hended, hW, hsame⟩ := X0.leave (v := some (.long y)) (fun h => by rw [Bd.returns] at h; cases h)
    refine ⟨_, _, ?_, hrun, hended, _, _, rfl, ?_, ⟨_, rfl⟩, hW, hsame.mono (by decide) (by decide)⟩
    · exact own_retJ X0 hx Bd.returns (hb hby own_d13_11) hr
    · show own_max_Q Z x y h0 n0 _ s₁.heap _
      rw [e0]
      exact ⟨y, rfl, N0, rfl⟩
  ·
    refine OwnGo.back (s₁.setTop (mkF m 6 #[.val (.long x), .second, .val (.long y), .second] [])) (fun tg kk => XS.ifNo X0.here hx rfl (hb hby own_d13_3) rfl ((if0 _ _).trans (flt (own_not (lw_lt _ _) hc1)).1) kk) ?_
    refine OwnGo.back (s₁.setTop (mkF m 7 #[.val (.long x), .second, .val (.long y), .second] [(.long x)])) (fun tg kk => XS.lloadN X0.here hx rfl (hb hby own_d13_6) rfl kk) ?_
    refine OwnGo.back (s₁.setTop (mkF m 11 #[.val (.long x), .second, .val (.long y), .second] [(.long x)])) (fun tg kk => XS.goto X0.here hx rfl (pc0 := 7) (pc' := 11) rfl (hb hby own_d13_7) (by decide) (by decide) kk) ?_
    obtain ⟨fs, hr, hrun, hended, hW, hsame⟩ := X0.leave (v := some (.long x)) (fun h => by rw [Bd.returns] at h; cases h)
    refine ⟨_, _, ?_, hrun, hended, _, _, rfl, ?_, ⟨_, rfl⟩, hW, hsame.mono (by decide) (by decide)⟩
    · exact own_retJ X0 hx Bd.returns (hb hby own_d13_11) hr
    · show own_max_Q Z x y h0 n0 _ s₁.heap _
      rw [e0]
      exact ⟨x, rfl, N0, rfl⟩
theorem own_ra_ef (m : MethodId) (x0 : Addr) (x2 : Int64) : entryFrame m #[(.ref x0), .null, (.long x2)] 4 = mkF m 0 #[.val (.ref x0), .val .null, .val (.long x2), .second] [] := by first | (simp [entryFrame, mkF, argsToLocals, Value.category]; done) | rfl
def own_ra_Q (Z : State) (lg : Addr) (x : Int64) (kf : Addr) (ak : Addr) (aj : Addr) (ab : Addr) (kk : ClassId) (kj : ClassId) (kb : ClassId) (v0 : Int64) (v1 : Int64) (v2 : Int64) (v3 : Int64) (v4 : Int64) (o : Int64) (b : Int64) (h0 : Heap) (n0 : Nat) (rv : Option Value) (hN : Heap) (LL : List Loc) : Prop := ∃ (v4' : Int64), ∃ (o' : Int64), ∃ (b' : Int64), rv = none ∧ Fr n0 LL ∧ Keep h0 hN [lg, aj, ab] ∧ Exa Z hN lg "com/example/tallyframe/tallyframe/Ledger" ∧ Fld Z hN lg "com/example/tallyframe/tallyframe/Ledger" "byKind" "Lcom/example/tallyframe/tallyframe/KindFigures;" (.ref kf) ∧ Fld Z hN lg "com/example/tallyframe/tallyframe/Ledger" "allocatedObjects" "J" (.long (v0 + (1 : Int64))) ∧ Fld Z hN lg "com/example/tallyframe/tallyframe/Ledger" "allocatedBytes" "J" (.long (v1 + x)) ∧ Fld Z hN lg "com/example/tallyframe/tallyframe/Ledger" "releasedObjects" "J" (.long v2) ∧ Fld Z hN lg "com/example/tallyframe/tallyframe/Ledger" "releasedBytes" "J" (.long v3) ∧ Fld Z hN lg "com/example/tallyframe/tallyframe/Ledger" "peakLiveBytes" "J" (.long v4') ∧ Arv Z hN aj kj .long (8 : Int32) [(.long o')] (.long (0 : Int64)) ∧ Arv Z hN ab kb .long (8 : Int32) [(.long b')] (.long (0 : Int64))
set_option maxRecDepth 65536 in
set_option maxHeartbeats 40000000 in
theorem own_ra (l : Launch) (Z : State) (a0 : Array Value) (hw : ∀ d ∈ tables_1, d.before a0 Z = true) (ws : List Jvm.Cond) (lg : Addr) (x : Int64) (kf : Addr) (ak : Addr) (aj : Addr) (ab : Addr) (kk : ClassId) (kj : ClassId) (kb : ClassId) (v0 : Int64) (v1 : Int64) (v2 : Int64) (v3 : Int64) (v4 : Int64) (o : Int64) (b : Int64) (h0 : Heap) (n0 : Nat) (Z0 : n0 ≤ h0.size) (H0 : Exa Z h0 lg "com/example/tallyframe/tallyframe/Ledger") (H1 : Fld Z h0 lg "com/example/tallyframe/tallyframe/Ledger" "byKind" "Lcom/example/tallyframe/tallyframe/KindFigures;" (.ref kf)) (H2 : Fld Z h0 lg "com/example/tallyframe/tallyframe/Ledger" "allocatedObjects" "J" (.long v0)) (H3 : Fld Z h0 lg "com/example/tallyframe/tallyframe/Ledger" "allocatedBytes" "J" (.long v1)) (H4 : Fld Z h0 lg "com/example/tallyframe/tallyframe/Ledger" "releasedObjects" "J" (.long v2)) (H5 : Fld Z h0 lg "com/example/tallyframe/tallyframe/Ledger" "releasedBytes" "J" (.long v3)) (H6 : Fld Z h0 lg "com/example/tallyframe/tallyframe/Ledger" "peakLiveBytes" "J" (.long v4)) (H7 : Exa Z h0 kf "com/example/tallyframe/tallyframe/KindFigures") (H8 : Fld Z h0 kf "com/example/tallyframe/tallyframe/KindFigures" "lastSlot" "I" (.int (0 : Int32))) (H9 : Fld Z h0 kf "com/example/tallyframe/tallyframe/KindFigures" "kinds" "[Ljava/lang/Class;" (.ref ak)) (H10 : Fld Z h0 kf "com/example/tallyframe/tallyframe/KindFigures" "objects" "[J" (.ref aj)) (H11 : Fld Z h0 kf "com/example/tallyframe/tallyframe/KindFigures" "bytes" "[J" (.ref ab)) (H12 : Arv Z h0 ak kk (.object "java/lang/Class") (8 : Int32) [.null] .null) (H13 : Arv Z h0 aj kj .long (8 : Int32) [(.long o)] (.long (0 : Int64))) (H14 : Arv Z h0 ab kb .long (8 : Int32) [(.long b)] (.long (0 : Int64))) (H15 : n0 ≤ lg) (H16 : n0 ≤ aj) (H17 : n0 ≤ ab) (H18 : lg ≠ kf) (H19 : lg ≠ ak) (H20 : lg ≠ aj) (H21 : lg ≠ ab) (H22 : kf ≠ ak) (H23 : kf ≠ aj) (H24 : kf ≠ ab) (H25 : ak ≠ aj) (H26 : ak ≠ ab) (H27 : aj ≠ ab) :
    MetFree l (⟨"com/example/tallyframe/tallyframe/Ledger", "recordAllocation", "(Ljava/lang/Class;J)V"⟩ : MethodName) (head1 (Jvm.Cond.code (⟨"com/example/tallyframe/tallyframe/Ledger", "recordAllocation", "(Ljava/lang/Class;J)V"⟩ : MethodName) prog_6_method_2_code 4 none :: ws) ({ frames := 1, cells := 0, slots := 0, locals := 18 } : Room)) (fun aa UU => aa = #[(.ref lg), .null, (.long x)] ∧ Z.Warmed39 UU.vm ∧ UU.heap = h0) (fun _ _ _ _ _ => True) (fun _ UU oo UU' => ∃ rv LL, oo = .returned rv ∧ own_ra_Q Z lg x kf ak aj ab kk kj kb v0 v1 v2 v3 v4 o b h0 n0 rv UU'.heap LL ∧ FrameEnd UU oo UU' LL ({ frames := 1, cells := 0, slots := 0, locals := 18 } : Room).cells ({ frames := 1, cells := 0, slots := 0, locals := 18 } : Room).slots) := by
  refine MetFree.of_bodySF (plainFor_of_name own_pn1) hisR ?_
  intro p e s m args below meth c s₁ Bd hml0 hP hK
  obtain ⟨rfl, hZ, hh⟩ := hP
  have hx := Bd.exec
  have hby := Bd.bytes
  have hml : c.maxLocals = 4 := hml0
  have hown : s.vm.findClass "com/example/tallyframe/tallyframe/Ledger" = some m.cls := findClass_of_methodNamed Bd.named
  have hnm := (name_of_methodNamed Bd.named Bd.method).1
  have X0 : Stand p l e ({ frames := 1, cells := 0, slots := 0, locals := 18 } : Room) s m #[(.ref lg), .null, (.long x)] below meth c s₁ [] 0 0 := Stand.of_body Bd
  have e0 : s₁.heap = h0 := by rw [← hh, Bd.state]; rfl
  have N0 := Fr.nil n0
  have K0 : Keep h0 h0 [lg, aj, ab] := Keep.refl h0 _
  refine (?_ : OwnGo p.tables e below (fun UU' oo => ∃ rv LL, oo = .returned rv ∧ own_ra_Q Z lg x kf ak aj ab kk kj kb v0 v1 v2 v3 v4 o b h0 n0 rv UU'.heap LL ∧ FrameEnd s oo UU' LL ({ frames := 1, cells := 0, slots := 0, locals := 18 } : Room).cells ({ frames := 1, cells := 0, slots := 0, locals := 18 } : Room).slots) _)
  refine OwnGo.back (s₁.setTop (mkF m 0 #[.val (.ref lg), .val .null, .val (.long x), .second] [])) (fun tg kk => castTop (own_ra_ef m lg x) kk) ?_
  refine OwnGo.back (s₁.setTop (mkF m 1 #[.val (.ref lg), .val .null, .val (.long x), .second] [(.ref lg)])) (fun tg kk => XS.aloadN X0.here hx rfl (hb hby own_d11_0) rfl rfl kk) ?_
  refine OwnGo.back (s₁.setTop (mkF m 2 #[.val (.ref lg), .val .null, .val (.long x), .second] [(.ref lg), (.ref lg)])) (fun tg kk => XS.dup X0.here hx rfl (hb hby own_d11_1) rfl rfl kk) ?_
  obtain ⟨T1, X1, e1, st1⟩ := getF X0 hx hZ hown (host := "") (Or.inl (hw _ (List.mem_of_getElem? (i := 39) rfl))) Via.refl e0 H2 (g := (mkF m 2 #[.val (.ref lg), .val .null, .val (.long x), .second] [(.ref lg), (.ref lg)])) rfl rfl (hb hby own_d11_2)
  refine OwnGo.back (T1.setTop (mkF m 5 #[.val (.ref lg), .val .null, .val (.long x), .second] [(.long v0), (.ref lg)])) (fun tg kk => st1 _ kk) ?_
  refine OwnGo.back (T1.setTop (mkF m 6 #[.val (.ref lg), .val .null, .val (.long x), .second] [(.long (1 : Int64)), (.long v0), (.ref lg)])) (fun tg kk => XS.lconst X1.here hx rfl (hb hby own_d11_5) kk) ?_
  refine OwnGo.back (T1.setTop (mkF m 7 #[.val (.ref lg), .val .null, .val (.long x), .second] [(.long (v0 + (1 : Int64))), (.ref lg)])) (fun tg kk => XS.ladd X1.here hx rfl (hb hby own_d11_6) rfl kk) ?_
  obtain ⟨T2, h2, X2, e2, W2, st2⟩ := putF X1 hx hZ hown (host := "") (Or.inl (hw _ (List.mem_of_getElem? (i := 39) rfl))) Via.refl e1 H2 H0 (Or.inl (hw _ (List.mem_of_getElem? (i := 40) rfl))) (hw _ (List.mem_of_getElem? (i := 1) rfl)) (ty := .long) (by decide) rfl rfl (g := (mkF m 7 #[.val (.ref lg), .val .null, .val (.long x), .second] [(.long (v0 + (1 : Int64))), (.ref lg)])) rfl rfl (hb hby own_d11_7)
  have f3 : Fld Z h2 lg "com/example/tallyframe/tallyframe/Ledger" "allocatedObjects" "J" (.long (v0 + (1 : Int64))) := H2.same W2
  have f4 : Exa Z h2 lg "com/example/tallyframe/tallyframe/Ledger" := H0.wr W2
  have f5 : Fld Z h2 lg "com/example/tallyframe/tallyframe/Ledger" "byKind" "Lcom/example/tallyframe/tallyframe/KindFigures;" (.ref kf) := H1.other W2 (Or.inr (slot_ne (Or.inr (hw _ (List.mem_of_getElem? (i := 26) rfl))) (Or.inl (hw _ (List.mem_of_getElem? (i := 40) rfl))) (by decide) (t := (.object "com/example/tallyframe/tallyframe/KindFigures")) (t' := .long) (by decide) (by decide)))
  have f6 : Fld Z h2 lg "com/example/tallyframe/tallyframe/Ledger" "allocatedBytes" "J" (.long v1) := H3.other W2 (Or.inr (slot_ne (Or.inl (hw _ (List.mem_of_getElem? (i := 42) rfl))) (Or.inl (hw _ (List.mem_of_getElem? (i := 40) rfl))) (by decide) (t := .long) (t' := .long) (by decide) (by decide)))
  have f7 : Fld Z h2 lg "com/example/tallyframe/tallyframe/Ledger" "releasedObjects" "J" (.long v2) := H4.other W2 (Or.inr (slot_ne (Or.inl (hw _ (List.mem_of_getElem? (i := 44) rfl))) (Or.inl (hw _ (List.mem_of_getElem? (i := 40) rfl))) (by decide) (t := .long) (t' := .long) (by decide) (by decide)))
  have f8 : Fld Z h2 lg "com/example/tallyframe/tallyframe/Ledger" "releasedBytes" "J" (.long v3) := H5.other W2 (Or.inr (slot_ne (Or.inl (hw _ (List.mem_of_getElem? (i := 46) rfl))) (Or.inl (hw _ (List.mem_of_getElem? (i := 40) rfl))) (by decide) (t := .long) (t' := .long) (by decide) (by decide)))
  have f9 : Fld Z h2 lg "com/example/tallyframe/tallyframe/Ledger" "peakLiveBytes" "J" (.long v4) := H6.other W2 (Or.inr (slot_ne (Or.inl (hw _ (List.mem_of_getElem? (i := 85) rfl))) (Or.inl (hw _ (List.mem_of_getElem? (i := 40) rfl))) (by decide) (t := .long) (t' := .long) (by decide) (by decide)))
  have f10 : Exa Z h2 kf "com/example/tallyframe/tallyframe/KindFigures" := H7.wr W2
  have f11 : Fld Z h2 kf "com/example/tallyframe/tallyframe/KindFigures" "lastSlot" "I" (.int (0 : Int32)) := H8.other W2 (Or.inl (Ne.symm H18))
  have f12 : Fld Z h2 kf "com/example/tallyframe/tallyframe/KindFigures" "kinds" "[Ljava/lang/Class;" (.ref ak) := H9.other W2 (Or.inl (Ne.symm H18))
  have f13 : Fld Z h2 kf "com/example/tallyframe/tallyframe/KindFigures" "objects" "[J" (.ref aj) := H10.other W2 (Or.inl (Ne.symm H18))
  have f14 : Fld Z h2 kf "com/example/tallyframe/tallyframe/KindFigures" "bytes" "[J" (.ref ab) := H11.other W2 (Or.inl (Ne.symm H18))
  have f15 : Arv Z h2 ak kk (.object "java/lang/Class") (8 : Int32) [.null] .null := H12.other W2 (Ne.symm H19)
  have f16 : Arv Z h2 aj kj .long (8 : Int32) [(.long o)] (.long (0 : Int64)) := H13.other W2 (Ne.symm H20)
  have f17 : Arv Z h2 ab kb .long (8 : Int32) [(.long b)] (.long (0 : Int64)) := H14.other W2 (Ne.symm H21)
  have K18 : Keep h0 h2 [lg, aj, ab] := K0.wr W2 (Or.inl (List.mem_of_getElem? (i := 0) rfl))
  have Z19 : n0 ≤ h2.size := Nat.le_trans Z0 (Keep.of_wr W2).1
  have N20 := Fr.snoc X2 N0 H15
  refine OwnGo.back (T2.setTop (mkF m 10 #[.val (.ref lg), .val .null, .val (.long x), .second] [])) (fun tg kk => st2 _ kk) ?_
  refine OwnGo.back (T2.setTop (mkF m 11 #[.val (.ref lg), .val .null, .val (.long x), .second] [(.ref lg)])) (fun tg kk => XS.aloadN X2.here hx rfl (hb hby own_d11_10) rfl rfl kk) ?_
  refine OwnGo.back (T2.setTop (mkF m 12 #[.val (.ref lg), .val .null, .val (.long x), .second] [(.ref lg), (.ref lg)])) (fun tg kk => XS.dup X2.here hx rfl (hb hby own_d11_11) rfl rfl kk) ?_
  obtain ⟨T21, X21, e21, st21⟩ := getF X2 hx hZ hown (host := "") (Or.inl (hw _ (List.mem_of_getElem? (i := 41) rfl))) Via.refl e2 f6 (g := (mkF m 12 #[.val (.ref lg), .val .null, .val (.long x), .second] [(.ref lg), (.ref lg)])) rfl rfl (hb hby own_d11_12)
  refine OwnGo.back (T21.setTop (mkF m 15 #[.val (.ref lg), .val .null, .val (.long x), .second] [(.long v1), (.ref lg)])) (fun tg kk => st21 _ kk) ?_
  refine OwnGo.back (T21.setTop (mkF m 16 #[.val (.ref lg), .val .null, .val (.long x), .second] [(.long x), (.long v1), (.ref lg)])) (fun tg kk => XS.lloadN X21.here hx rfl (hb hby own_d11_15) rfl kk) ?_
  refine OwnGo.back (T21.setTop (mkF m 17 #[.val (.ref lg), .val .null, .val (.long x), .second] [(.long (v1 + x)), (.ref lg)])) (fun tg kk => XS.ladd X21.here hx rfl (hb hby own_d11_16) rfl kk) ?_
  obtain ⟨T22, h22, X22, e22, W22, st22⟩ := putF X21 hx hZ hown (host := "") (Or.inl (hw _ (List.mem_of_getElem? (i := 41) rfl))) Via.refl e21 f6 f4 (Or.inl (hw _ (List.mem_of_getElem? (i := 42) rfl))) (hw _ (List.mem_of_getElem? (i := 1) rfl)) (ty := .long) (by decide) rfl rfl (g := (mkF m 17 #[.val (.ref lg), .val .null, .val (.long x), .second] [(.long (v1 + x)), (.ref lg)])) rfl rfl (hb hby own_d11_17)
  have f23 : Fld Z h22 lg "com/example/tallyframe/tallyframe/Ledger" "allocatedBytes" "J" (.long (v1 + x)) := f6.same W22
  have f24 : Exa Z h22 lg "com/example/tallyframe/tallyframe/Ledger" := f4.wr W22
  have f25 : Fld Z h22 lg "com/example/tallyframe/tallyframe/Ledger" "byKind" "Lcom/example/tallyframe/tallyframe/KindFigures;" (.ref kf) := f5.other W22 (Or.inr (slot_ne (Or.inr (hw _ (List.mem_of_getElem? (i := 26) rfl))) (Or.inl (hw _ (List.mem_of_getElem? (i := 42) rfl))) (by decide) (t := (.object "com/example/tallyframe/tallyframe/KindFigures")) (t' := .long) (by decide) (by decide)))
  have f26 : Fld Z h22 lg "com/example/tallyframe/tallyframe/Ledger" "releasedObjects" "J" (.long v2) := f7.other W22 (Or.inr (slot_ne (Or.inl (hw _ (List.mem_of_getElem? (i := 44) rfl))) (Or.inl (hw _ (List.mem_of_getElem? (i := 42) rfl))) (by decide) (t := .long) (t' := .long) (by decide) (by decide)))
  have f27 : Fld Z h22 lg "com/example/tallyframe/tallyframe/Ledger" "releasedBytes" "J" (.long v3) := f8.other W22 (Or.inr (slot_ne (Or.inl (hw _ (List.mem_of_getElem? (i := 46) rfl))) (Or.inl (hw _ (List.mem_of_getElem? (i := 42) rfl))) (by decide) (t := .long) (t' := .long) (by decide) (by decide)))
  have f28 : Fld Z h22 lg "com/example/tallyframe/tallyframe/Ledger" "peakLiveBytes" "J" (.long v4) := f9.other W22 (Or.inr (slot_ne (Or.inl (hw _ (List.mem_of_getElem? (i := 85) rfl))) (Or.inl (hw _ (List.mem_of_getElem? (i := 42) rfl))) (by decide) (t := .long) (t' := .long) (by decide) (by decide)))
  have f29 : Exa Z h22 kf "com/example/tallyframe/tallyframe/KindFigures" := f10.wr W22
  have f30 : Fld Z h22 kf "com/example/tallyframe/tallyframe/KindFigures" "lastSlot" "I" (.int (0 : Int32)) := f11.other W22 (Or.inl (Ne.symm H18))
  have f31 : Fld Z h22 kf "com/example/tallyframe/tallyframe/KindFigures" "kinds" "[Ljava/lang/Class;" (.ref ak) := f12.other W22 (Or.inl (Ne.symm H18))
  have f32 : Fld Z h22 kf "com/example/tallyframe/tallyframe/KindFigures" "objects" "[J" (.ref aj) := f13.other W22 (Or.inl (Ne.symm H18))
  have f33 : Fld Z h22 kf "com/example/tallyframe/tallyframe/KindFigures" "bytes" "[J" (.ref ab) := f14.other W22 (Or.inl (Ne.symm H18))
  have f34 : Arv Z h22 ak kk (.object "java/lang/Class") (8 : Int32) [.null] .null := f15.other W22 (Ne.symm H19)
  have f35 : Arv Z h22 aj kj .long (8 : Int32) [(.long o)] (.long (0 : Int64)) := f16.other W22 (Ne.symm H20)
  have f36 : Arv Z h22 ab kb .long (8 : Int32) [(.long b)] (.long (0 : Int64)) := f17.other W22 (Ne.symm H21)
  have f37 : Fld Z h22 lg "com/example/tallyframe/tallyframe/Ledger" "allocatedObjects" "J" (.long (v0 + (1 : Int64))) := f3.other W22 (Or.inr (slot_ne (Or.inl (hw _ (List.mem_of_getElem? (i := 40) rfl))) (Or.inl (hw _ (List.mem_of_getElem? (i := 42) rfl))) (by decide) (t := .long) (t' := .long) (by decide) (by decide)))
  have K38 : Keep h0 h22 [lg, aj, ab] := K18.wr W22 (Or.inl (List.mem_of_getElem? (i := 0) rfl))
  have Z39 : n0 ≤ h22.size := Nat.le_trans Z19 (Keep.of_wr W22).1
  have N40 := Fr.snoc X22 N20 H15
  refine OwnGo.back (T22.setTop (mkF m 20 #[.val (.ref lg), .val .null, .val (.long x), .second] [])) (fun tg kk => st22 _ kk) ?_
  refine OwnGo.back (T22.setTop (mkF m 21 #[.val (.ref lg), .val .null, .val (.long x), .second] [(.ref lg)])) (fun tg kk => XS.aloadN X22.here hx rfl (hb hby own_d11_20) rfl rfl kk) ?_
  refine OwnGo.back (T22.setTop (mkF m 22 #[.val (.ref lg), .val .null, .val (.long x), .second] [(.ref lg), (.ref lg)])) (fun tg kk => XS.aloadN X22.here hx rfl (hb hby own_d11_21) rfl rfl kk) ?_
  obtain ⟨T41, X41, e41, st41⟩ := getF X22 hx hZ hown (host := "") (Or.inl (hw _ (List.mem_of_getElem? (i := 84) rfl))) Via.refl e22 f28 (g := (mkF m 22 #[.val (.ref lg), .val .null, .val (.long x), .second] [(.ref lg), (.ref lg)])) rfl rfl (hb hby own_d11_22)
  refine OwnGo.back (T41.setTop (mkF m 25 #[.val (.ref lg), .val .null, .val (.long x), .second] [(.long v4), (.ref lg)])) (fun tg kk => st41 _ kk) ?_
  refine OwnGo.back (T41.setTop (mkF m 26 #[.val (.ref lg), .val .null, .val (.long x), .second] [(.ref lg), (.long v4), (.ref lg)])) (fun tg kk => XS.aloadN X41.here hx rfl (hb hby own_d11_25) rfl rfl kk) ?_
  obtain ⟨cq42, kq42, q42a, q42b, q42c⟩ := isOf hZ e41 f24
  obtain ⟨_, _, ⟨T42, L42, k42, n42⟩, -, X42, ⟨Lc42, hQ42, l42, y42, z42⟩, st42⟩ := X41.virtualBack hx (y := (⟨"com/example/tallyframe/tallyframe/Ledger", "liveBytes", "()J"⟩ : MethodName)) (z := (⟨"com/example/tallyframe/tallyframe/Ledger", "liveBytes", "()J"⟩ : MethodName)) hown (mvT hZ (hw _ (List.mem_of_getElem? (i := 86) rfl))) (mvT hZ (hw _ (List.mem_of_getElem? (i := 87) rfl))) (notFace_of_selects (args := #[]) (mvT hZ (hw _ (List.mem_of_getElem? (i := 89) rfl)))) (mvT hZ (hw _ (List.mem_of_getElem? (i := 89) rfl))) (mvT hZ (hw _ (List.mem_of_getElem? (i := 88) rfl))) (by decide) (backOf (W := 3) (own_live l Z a0 hw [] lg (v1 + x) v3 h22 n0 Z39 f23 f27) hZ (hw _ (List.mem_of_getElem? (i := 90) rfl)) (hw _ (List.mem_of_getElem? (i := 2) rfl)) (by decide) (by decide)) q42a q42c (g := (mkF m 26 #[.val (.ref lg), .val .null, .val (.long x), .second] [(.ref lg), (.long v4), (.ref lg)])) rfl (by rw [hml]; rfl) (Steps.refl _) (argsL := []) (rest := [(.long v4), (.ref lg)]) (lenOf own_pd1 rfl) rfl (by show 2 * 0 + _ ≤ _; exact Nat.le_of_eq rfl) (hb hby own_d11_26) (fun _ _ => ⟨rfl, e41, (by decide : 0 + 0 ≤ _), (by decide : 0 + 0 ≤ _)⟩)
  dsimp only [Pt.U, Pt.locs, Pt.cells, Pt.slots] at X42 l42 y42 z42 st42 hQ42
  subst l42 y42 z42
  obtain ⟨rfl, N42q, e42⟩ := hQ42
  have N42 := Fr.app N40 N42q
  refine OwnGo.back (T42.setTop (mkF m 29 #[.val (.ref lg), .val .null, .val (.long x), .second] [(.long ((v1 + x) - v3)), (.long v4), (.ref lg)])) (fun tg kk => st42.trans kk) ?_
  obtain ⟨_, _, ⟨T43, L43, k43, n43⟩, -, X43, ⟨Lc43, hQ43, l43, y43, z43⟩, st43⟩ := Jvm.LawKit.callS X42 hx (y := (⟨"java/lang/Math", "max", "(JJ)J"⟩ : MethodName)) hown (mvT hZ (hw _ (List.mem_of_getElem? (i := 91) rfl))) (mvT hZ (hw _ (List.mem_of_getElem? (i := 92) rfl))) (mvT hZ (hw _ (List.mem_of_getElem? (i := 93) rfl))) (mvT hZ (hw _ (List.mem_of_getElem? (i := 94) rfl))) (by decide) (backOf (W := 1) (own_max l Z a0 hw [] v4 ((v1 + x) - v3) h22 n0 Z39 ) hZ (hw _ (List.mem_of_getElem? (i := 94) rfl)) (hw _ (List.mem_of_getElem? (i := 93) rfl)) (by decide) (by decide)) (g := (mkF m 29 #[.val (.ref lg), .val .null, .val (.long x), .second] [(.long ((v1 + x) - v3)), (.long v4), (.ref lg)])) rfl (by rw [hml]; rfl) (argsL := [(.long v4), (.long ((v1 + x) - v3))]) (rest := [(.ref lg)]) (lenOf own_pd2 rfl) rfl (by show 2 * 0 + _ ≤ _; exact Nat.le_of_eq rfl) (hb hby own_d11_29) (fun _ _ => ⟨rfl, e42, (by decide : 0 + 0 ≤ _), (by decide : 0 + 0 ≤ _)⟩)
  dsimp only [Pt.U, Pt.locs, Pt.cells, Pt.slots] at X43 l43 y43 z43 st43 hQ43
  subst l43 y43 z43
  obtain ⟨r_44, rfl, N43q, e43⟩ := hQ43
  have N43 := Fr.app N42 N43q
  refine OwnGo.back (T43.setTop (mkF m 32 #[.val (.ref lg), .val .null, .val (.long x), .second] [(.long r_44), (.ref lg)])) (fun tg kk => st43 _ kk) ?_
  obtain ⟨T45, h45, X45, e45, W45, st45⟩ := putF X43 hx hZ hown (host := "") (Or.inl (hw _ (List.mem_of_getElem? (i := 84) rfl))) Via.refl e43 f28 f24 (Or.inl (hw _ (List.mem_of_getElem? (i := 85) rfl))) (hw _ (List.mem_of_getElem? (i := 1) rfl)) (ty := .long) (by decide) rfl rfl (g := (mkF m 32 #[.val (.ref lg), .val .null, .val (.long x), .second] [(.long r_44), (.ref lg)])) rfl rfl (hb hby own_d11_32)
  have f46 : Fld Z h45 lg "com/example/tallyframe/tallyframe/Ledger" "peakLiveBytes" "J" (.long r_44) := f28.same W45
  have f47 : Exa Z h45 lg "com/example/tallyframe/tallyframe/Ledger" := f24.wr W45
  have f48 : Fld Z h45 lg "com/example/tallyframe/tallyframe/Ledger" "byKind" "Lcom/example/tallyframe/tallyframe/KindFigures;" (.ref kf) := f25.other W45 (Or.inr (slot_ne (Or.inr (hw _ (List.mem_of_getElem? (i := 26) rfl))) (Or.inl (hw _ (List.mem_of_getElem? (i := 85) rfl))) (by decide) (t := (.object "com/example/tallyframe/tallyframe/KindFigures")) (t' := .long) (by decide) (by decide)))
  have f49 : Fld Z h45 lg "com/example/tallyframe/tallyframe/Ledger" "releasedObjects" "J" (.long v2) := f26.other W45 (Or.inr (slot_ne (Or.inl (hw _ (List.mem_of_getElem? (i := 44) rfl))) (Or.inl (hw _ (List.mem_of_getElem? (i := 85) rfl))) (by decide) (t := .long) (t' := .long) (by decide) (by decide)))
  have f50 : Fld Z h45 lg "com/example/tallyframe/tallyframe/Ledger" "releasedBytes" "J" (.long v3) := f27.other W45 (Or.inr (slot_ne (Or.inl (hw _ (List.mem_of_getElem? (i := 46) rfl))) (Or.inl (hw _ (List.mem_of_getElem? (i := 85) rfl))) (by decide) (t := .long) (t' := .long) (by decide) (by decide)))
  have f51 : Exa Z h45 kf "com/example/tallyframe/tallyframe/KindFigures" := f29.wr W45
  have f52 : Fld Z h45 kf "com/example/tallyframe/tallyframe/KindFigures" "lastSlot" "I" (.int (0 : Int32)) := f30.other W45 (Or.inl (Ne.symm H18))
  have f53 : Fld Z h45 kf "com/example/tallyframe/tallyframe/KindFigures" "kinds" "[Ljava/lang/Class;" (.ref ak) := f31.other W45 (Or.inl (Ne.symm H18))
  have f54 : Fld Z h45 kf "com/example/tallyframe/tallyframe/KindFigures" "objects" "[J" (.ref aj) := f32.other W45 (Or.inl (Ne.symm H18))
  have f55 : Fld Z h45 kf "com/example/tallyframe/tallyframe/KindFigures" "bytes" "[J" (.ref ab) := f33.other W45 (Or.inl (Ne.symm H18))
  have f56 : Arv Z h45 ak kk (.object "java/lang/Class") (8 : Int32) [.null] .null := f34.other W45 (Ne.symm H19)
  have f57 : Arv Z h45 aj kj .long (8 : Int32) [(.long o)] (.long (0 : Int64)) := f35.other W45 (Ne.symm H20)
  have f58 : Arv Z h45 ab kb .long (8 : Int32) [(.long b)] (.long (0 : Int64)) := f36.other W45 (Ne.symm H21)
  have f59 : Fld Z h45 lg "com/example/tallyframe/tallyframe/Ledger" "allocatedObjects" "J" (.long (v0 + (1 : Int64))) := f37.other W45 (Or.inr (slot_ne (Or.inl (hw _ (List.mem_of_getElem? (i := 40) rfl))) (Or.inl (hw _ (List.mem_of_getElem? (i := 85) rfl))) (by decide) (t := .long) (t' := .long) (by decide) (by decide)))
  have f60 : Fld Z h45 lg "com/example/tallyframe/tallyframe/Ledger" "allocatedBytes" "J" (.long (v1 + x)) := f23.other W45 (Or.inr (slot_ne (Or.inl (hw _ (List.mem_of_getElem? (i := 42) rfl))) (Or.inl (hw _ (List.mem_of_getElem? (i := 85) rfl))) (by decide) (t := .long) (t' := .long) (by decide) (by decide)))
  have K61 : Keep h0 h45 [lg, aj, ab] := K38.wr W45 (Or.inl (List.mem_of_getElem? (i := 0) rfl))
  have Z62 : n0 ≤ h45.size := Nat.le_trans Z39 (Keep.of_wr W45).1
  have N63 := Fr.snoc X45 N43 H15
  refine OwnGo.back (T45.setTop (mkF m 35 #[.val (.ref lg), .val .null, .val (.long x), .second] [])) (fun tg kk => st45 _ kk) ?_
  refine OwnGo.back (T45.setTop (mkF m 36 #[.val (.ref lg), .val .null, .val (.long x), .second] [(.ref lg)])) (fun tg kk => XS.aloadN X45.here hx rfl (hb hby own_d11_35) rfl rfl kk) ?_
  obtain ⟨T64, X64, e64, st64⟩ := getF X45 hx hZ hown (host := "") (Or.inl (hw _ (List.mem_of_getElem? (i := 25) rfl))) Via.refl e45 f48 (g := (mkF m 36 #[.val (.ref lg), .val .null, .val (.long x), .second] [(.ref lg)])) rfl rfl (hb hby own_d11_36)
  refine OwnGo.back (T64.setTop (mkF m 39 #[.val (.ref lg), .val .null, .val (.long x), .second] [(.ref kf)])) (fun tg kk => st64 _ kk) ?_
  refine OwnGo.back (T64.setTop (mkF m 40 #[.val (.ref lg), .val .null, .val (.long x), .second] [.null, (.ref kf)])) (fun tg kk => XS.aloadN X64.here hx rfl (hb hby own_d11_39) rfl rfl kk) ?_
  refine OwnGo.back (T64.setTop (mkF m 41 #[.val (.ref lg), .val .null, .val (.long x), .second] [(.long (1 : Int64)), .null, (.ref kf)])) (fun tg kk => XS.lconst X64.here hx rfl (hb hby own_d11_40) kk) ?_
  refine OwnGo.back (T64.setTop (mkF m 42 #[.val (.ref lg), .val .null, .val (.long x), .second] [(.long x), (.long (1 : Int64)), .null, (.ref kf)])) (fun tg kk => XS.lloadN X64.here hx rfl (hb hby own_d11_41) rfl kk) ?_
  obtain ⟨cq65, kq65, q65a, q65b, q65c⟩ := isOf hZ e64 f51
  obtain ⟨_, _, ⟨T65, L65, k65, n65⟩, -, X65, ⟨Lc65, hQ65, l65, y65, z65⟩, st65⟩ := X64.virtualBack hx (y := (⟨"com/example/tallyframe/tallyframe/KindFigures", "add", "(Ljava/lang/Class;JJ)V"⟩ : MethodName)) (z := (⟨"com/example/tallyframe/tallyframe/KindFigures", "add", "(Ljava/lang/Class;JJ)V"⟩ : MethodName)) hown (mvT hZ (hw _ (List.mem_of_getElem? (i := 95) rfl))) (mvT hZ (hw _ (List.mem_of_getElem? (i := 96) rfl))) (notFace_of_selects (args := #[]) (mvT hZ (hw _ (List.mem_of_getElem? (i := 98) rfl)))) (mvT hZ (hw _ (List.mem_of_getElem? (i := 98) rfl))) (mvT hZ (hw _ (List.mem_of_getElem? (i := 97) rfl))) (by decide) (backOf (W := 0) (own_add l Z a0 hw [] kf (1 : Int64) x ak aj ab kk kj kb o b h45 n0 Z62 f52 f53 f54 f55 f56 f57 f58 H16 H17 H22 H23 H24 H25 H26 H27) hZ (hw _ (List.mem_of_getElem? (i := 99) rfl)) (hw _ (List.mem_of_getElem? (i := 11) rfl)) (by decide) (by decide)) q65a q65c (g := (mkF m 42 #[.val (.ref lg), .val .null, .val (.long x), .second] [(.long x), (.long (1 : Int64)), .null, (.ref kf)])) rfl (by rw [hml]; rfl) (Steps.refl _) (argsL := [.null, (.long (1 : Int64)), (.long x)]) (rest := []) (lenOf own_pd3 rfl) rfl (by show 2 * 0 + _ ≤ _; exact Nat.le_of_eq rfl) (hb hby own_d11_42) (fun _ _ => ⟨rfl, e64, (by decide : 0 + 0 ≤ _), (by decide : 0 + 0 ≤ _)⟩)
  dsimp only [Pt.U, Pt.locs, Pt.cells, Pt.slots] at X65 l65 y65 z65 st65 hQ65
  subst l65 y65 z65
  obtain ⟨rfl, N65q, Kc65, po66, po67⟩ := hQ65
  have N65 := Fr.app N63 N65q
  have f68 : Exa Z T65.heap lg "com/example/tallyframe/tallyframe/Ledger" := f47.keep Kc65
  have f69 : Fld Z T65.heap lg "com/example/tallyframe/tallyframe/Ledger" "byKind" "Lcom/example/tallyframe/tallyframe/KindFigures;" (.ref kf) := f48.keep Kc65 (ninS H20 (ninS H21 nin0))
  have f70 : Fld Z T65.heap lg "com/example/tallyframe/tallyframe/Ledger" "releasedObjects" "J" (.long v2) := f49.keep Kc65 (ninS H20 (ninS H21 nin0))
  have f71 : Fld Z T65.heap lg "com/example/tallyframe/tallyframe/Ledger" "releasedBytes" "J" (.long v3) := f50.keep Kc65 (ninS H20 (ninS H21 nin0))
  have f72 : Exa Z T65.heap kf "com/example/tallyframe/tallyframe/KindFigures" := f51.keep Kc65
  have f73 : Fld Z T65.heap kf "com/example/tallyframe/tallyframe/KindFigures" "lastSlot" "I" (.int (0 : Int32)) := f52.keep Kc65 (ninS H23 (ninS H24 nin0))
  have f74 : Fld Z T65.heap kf "com/example/tallyframe/tallyframe/KindFigures" "kinds" "[Ljava/lang/Class;" (.ref ak) := f53.keep Kc65 (ninS H23 (ninS H24 nin0))
  have f75 : Fld Z T65.heap kf "com/example/tallyframe/tallyframe/KindFigures" "objects" "[J" (.ref aj) := f54.keep Kc65 (ninS H23 (ninS H24 nin0))
  have f76 : Fld Z T65.heap kf "com/example/tallyframe/tallyframe/KindFigures" "bytes" "[J" (.ref ab) := f55.keep Kc65 (ninS H23 (ninS H24 nin0))
  have f77 : Arv Z T65.heap ak kk (.object "java/lang/Class") (8 : Int32) [.null] .null := f56.keep Kc65 (ninS H25 (ninS H26 nin0))
  have f78 : Fld Z T65.heap lg "com/example/tallyframe/tallyframe/Ledger" "allocatedObjects" "J" (.long (v0 + (1 : Int64))) := f59.keep Kc65 (ninS H20 (ninS H21 nin0))
  have f79 : Fld Z T65.heap lg "com/example/tallyframe/tallyframe/Ledger" "allocatedBytes" "J" (.long (v1 + x)) := f60.keep Kc65 (ninS H20 (ninS H21 nin0))
  have f80 : Fld Z T65.heap lg "com/example/tallyframe/tallyframe/Ledger" "peakLiveBytes" "J" (.long r_44) := f46.keep Kc65 (ninS H20 (ninS H21 nin0))
  have K81 : Keep h0 T65.heap [lg, aj, ab] := K61.trans Kc65 (allS (Or.inl (List.mem_of_getElem? (i := 1) rfl)) (allS (Or.inl (List.mem_of_getElem? (i := 2) rfl)) all0))
  have Z82 : n0 ≤ T65.heap.size := Nat.le_trans Z62 Kc65.1
  refine OwnGo.back (T65.setTop (mkF m 45 #[.val (.ref lg), .val .null, .val (.long x), .second] [])) (fun tg kk => st65.trans kk) ?_
  obtain ⟨fs, hr, hrun, hended, hW, hsame⟩ := X65.leave (v := none) (fun _ => rfl)
  refine ⟨_, _, ?_, hrun, hended, _, _, rfl, ?_, ⟨_, rfl⟩, hW, hsame.mono (by decide) (by decide)⟩
  · exact X65.returnOut hx Bd.returns (hb hby own_d11_45) hr
  · show own_ra_Q Z lg x kf ak aj ab kk kj kb v0 v1 v2 v3 v4 o b h0 n0 _ T65.heap _
    exact ⟨r_44, (o + (1 : Int64)), (b + x), rfl, N65, K81, f68, f69, f78, f79, f70, f71, f80, po66, po67⟩
theorem own_rr_ef (m : MethodId) (x0 : Addr) (x2 : Int64) : entryFrame m #[(.ref x0), .null, (.long x2)] 4 = mkF m 0 #[.val (.ref x0), .val .null, .val (.long x2), .second] [] := by first | (simp [entryFrame, mkF, argsToLocals, Value.category]; done) | rfl
def own_rr_Q (Z : State) (lg : Addr) (x : Int64) (kf : Addr) (ak : Addr) (aj : Addr) (ab : Addr) (kk : ClassId) (kj : ClassId) (kb : ClassId) (v0 : Int64) (v1 : Int64) (v2 : Int64) (v3 : Int64) (v4 : Int64) (o : Int64) (b : Int64) (h0 : Heap) (n0 : Nat) (rv : Option Value) (hN : Heap) (LL : List Loc) : Prop := ∃ (v4' : Int64), ∃ (o' : Int64), ∃ (b' : Int64), rv = none ∧ Fr n0 LL ∧ Keep h0 hN [lg, aj, ab] ∧ Exa Z hN lg "com/example/tallyframe/tallyframe/Ledger" ∧ Fld Z hN lg "com/example/tallyframe/tallyframe/Ledger" "byKind" "Lcom/example/tallyframe/tallyframe/KindFigures;" (.ref kf) ∧ Fld Z hN lg "com/example/tallyframe/tallyframe/Ledger" "allocatedObjects" "J" (.long v0) ∧ Fld Z hN lg "com/example/tallyframe/tallyframe/Ledger" "allocatedBytes" "J" (.long v1) ∧ Fld Z hN lg "com/example/tallyframe/tallyframe/Ledger" "releasedObjects" "J" (.long (v2 + (1 : Int64))) ∧ Fld Z hN lg "com/example/tallyframe/tallyframe/Ledger" "releasedBytes" "J" (.long (v3 + x)) ∧ Fld Z hN lg "com/example/tallyframe/tallyframe/Ledger" "peakLiveBytes" "J" (.long v4') ∧ Arv Z hN aj kj .long (8 : Int32) [(.long o')] (.long (0 : Int64)) ∧ Arv Z hN ab kb .long (8 : Int32) [(.long b')] (.long (0 : Int64))
set_option maxRecDepth 65536 in
set_option maxHeartbeats 40000000 in
theorem own_rr (l : Launch) (Z : State) (a0 : Array Value) (hw : ∀ d ∈ tables_1, d.before a0 Z = true) (ws : List Jvm.Cond) (lg : Addr) (x : Int64) (kf : Addr) (ak : Addr) (aj : Addr) (ab : Addr) (kk : ClassId) (kj : ClassId) (kb : ClassId) (v0 : Int64) (v1 : Int64) (v2 : Int64) (v3 : Int64) (v4 : Int64) (o : Int64) (b : Int64) (h0 : Heap) (n0 : Nat) (Z0 : n0 ≤ h0.size) (H0 : Exa Z h0 lg "com/example/tallyframe/tallyframe/Ledger") (H1 : Fld Z h0 lg "com/example/tallyframe/tallyframe/Ledger" "byKind" "Lcom/example/tallyframe/tallyframe/KindFigures;" (.ref kf)) (H2 : Fld Z h0 lg "com/example/tallyframe/tallyframe/Ledger" "allocatedObjects" "J" (.long v0)) (H3 : Fld Z h0 lg "com/example/tallyframe/tallyframe/Ledger" "allocatedBytes" "J" (.long v1)) (H4 : Fld Z h0 lg "com/example/tallyframe/tallyframe/Ledger" "releasedObjects" "J" (.long v2)) (H5 : Fld Z h0 lg "com/example/tallyframe/tallyframe/Ledger" "releasedBytes" "J" (.long v3)) (H6 : Fld Z h0 lg "com/example/tallyframe/tallyframe/Ledger" "peakLiveBytes" "J" (.long v4)) (H7 : Exa Z h0 kf "com/example/tallyframe/tallyframe/KindFigures") (H8 : Fld Z h0 kf "com/example/tallyframe/tallyframe/KindFigures" "lastSlot" "I" (.int (0 : Int32))) (H9 : Fld Z h0 kf "com/example/tallyframe/tallyframe/KindFigures" "kinds" "[Ljava/lang/Class;" (.ref ak)) (H10 : Fld Z h0 kf "com/example/tallyframe/tallyframe/KindFigures" "objects" "[J" (.ref aj)) (H11 : Fld Z h0 kf "com/example/tallyframe/tallyframe/KindFigures" "bytes" "[J" (.ref ab)) (H12 : Arv Z h0 ak kk (.object "java/lang/Class") (8 : Int32) [.null] .null) (H13 : Arv Z h0 aj kj .long (8 : Int32) [(.long o)] (.long (0 : Int64))) (H14 : Arv Z h0 ab kb .long (8 : Int32) [(.long b)] (.long (0 : Int64))) (H15 : n0 ≤ lg) (H16 : n0 ≤ aj) (H17 : n0 ≤ ab) (H18 : lg ≠ kf) (H19 : lg ≠ ak) (H20 : lg ≠ aj) (H21 : lg ≠ ab) (H22 : kf ≠ ak) (H23 : kf ≠ aj) (H24 : kf ≠ ab) (H25 : ak ≠ aj) (H26 : ak ≠ ab) (H27 : aj ≠ ab) :
    MetFree l (⟨"com/example/tallyframe/tallyframe/Ledger", "recordRelease", "(Ljava/lang/Class;J)V"⟩ : MethodName) (head1 (Jvm.Cond.code (⟨"com/example/tallyframe/tallyframe/Ledger", "recordRelease", "(Ljava/lang/Class;J)V"⟩ : MethodName) prog_6_method_3_code 4 none :: ws) ({ frames := 1, cells := 0, slots := 0, locals := 18 } : Room)) (fun aa UU => aa = #[(.ref lg), .null, (.long x)] ∧ Z.Warmed39 UU.vm ∧ UU.heap = h0) (fun _ _ _ _ _ => True) (fun _ UU oo UU' => ∃ rv LL, oo = .returned rv ∧ own_rr_Q Z lg x kf ak aj ab kk kj kb v0 v1 v2 v3 v4 o b h0 n0 rv UU'.heap LL ∧ FrameEnd UU oo UU' LL ({ frames := 1, cells := 0, slots := 0, locals := 18 } : Room).cells ({ frames := 1, cells := 0, slots := 0, locals := 18 } : Room).slots) := by
  refine MetFree.of_bodySF (plainFor_of_name own_pn1) hisR ?_
  intro p e s m args below meth c s₁ Bd hml0 hP hK
  obtain ⟨rfl, hZ, hh⟩ := hP
  have hx := Bd.exec
  have hby := Bd.bytes
  have hml : c.maxLocals = 4 := hml0
  have hown : s.vm.findClass "com/example/tallyframe/tallyframe/Ledger" = some m.cls := findClass_of_methodNamed Bd.named
  have hnm := (name_of_methodNamed Bd.named Bd.method).1
  have X0 : Stand p l e ({ frames := 1, cells := 0, slots := 0, locals := 18 } : Room) s m #[(.ref lg), .null, (.long x)] below meth c s₁ [] 0 0 := Stand.of_body Bd
  have e0 : s₁.heap = h0 := by rw [← hh, Bd.state]; rfl
  have N0 := Fr.nil n0
  have K0 : Keep h0 h0 [lg, aj, ab] := Keep.refl h0 _
  refine (?_ : OwnGo p.tables e below (fun UU' oo => ∃ rv LL, oo = .returned rv ∧ own_rr_Q Z lg x kf ak aj ab kk kj kb v0 v1 v2 v3 v4 o b h0 n0 rv UU'.heap LL ∧ FrameEnd s oo UU' LL ({ frames := 1, cells := 0, slots := 0, locals := 18 } : Room).cells ({ frames := 1, cells := 0, slots := 0, locals := 18 } : Room).slots) _)
  refine OwnGo.back (s₁.setTop (mkF m 0 #[.val (.ref lg), .val .null, .val (.long x), .second] [])) (fun tg kk => castTop (own_rr_ef m lg x) kk) ?_
  refine OwnGo.back (s₁.setTop (mkF m 1 #[.val (.ref lg), .val .null, .val (.long x), .second] [(.ref lg)])) (fun tg kk => XS.aloadN X0.here hx rfl (hb hby own_d15_0) rfl rfl kk) ?_
  refine OwnGo.back (s₁.setTop (mkF m 2 #[.val (.ref lg), .val .null, .val (.long x), .second] [(.ref lg), (.ref lg)])) (fun tg kk => XS.dup X0.here hx rfl (hb hby own_d15_1) rfl rfl kk) ?_
  obtain ⟨T1, X1, e1, st1⟩ := getF X0 hx hZ hown (host := "") (Or.inl (hw _ (List.mem_of_getElem? (i := 43) rfl))) Via.refl e0 H4 (g := (mkF m 2 #[.val (.ref lg), .val .null, .val (.long x), .second] [(.ref lg), (.ref lg)])) rfl rfl (hb hby own_d15_2)
  refine OwnGo.back (T1.setTop (mkF m 5 #[.val (.ref lg), .val .null, .val (.long x), .second] [(.long v2), (.ref lg)])) (fun tg kk => st1 _ kk) ?_
  refine OwnGo.back (T1.setTop (mkF m 6 #[.val (.ref lg), .val .null, .val (.long x), .second] [(.long (1 : Int64)), (.long v2), (.ref lg)])) (fun tg kk => XS.lconst X1.here hx rfl (hb hby own_d15_5) kk) ?_
  refine OwnGo.back (T1.setTop (mkF m 7 #[.val (.ref lg), .val .null, .val (.long x), .second] [(.long (v2 + (1 : Int64))), (.ref lg)])) (fun tg kk => XS.ladd X1.here hx rfl (hb hby own_d15_6) rfl kk) ?_
  obtain ⟨T2, h2, X2, e2, W2, st2⟩ := putF X1 hx hZ hown (host := "") (Or.inl (hw _ (List.mem_of_getElem? (i := 43) rfl))) Via.refl e1 H4 H0 (Or.inl (hw _ (List.mem_of_getElem? (i := 44) rfl))) (hw _ (List.mem_of_getElem? (i := 1) rfl)) (ty := .long) (by decide) rfl rfl (g := (mkF m 7 #[.val (.ref lg), .val .null, .val (.long x), .second] [(.long (v2 + (1 : Int64))), (.ref lg)])) rfl rfl (hb hby own_d15_7)
  have f3 : Fld Z h2 lg "com/example/tallyframe/tallyframe/Ledger" "releasedObjects" "J" (.long (v2 + (1 : Int64))) := H4.same W2
  have f4 : Exa Z h2 lg "com/example/tallyframe/tallyframe/Ledger" := H0.wr W2
  have f5 : Fld Z h2 lg "com/example/tallyframe/tallyframe/Ledger" "byKind" "Lcom/example/tallyframe/tallyframe/KindFigures;" (.ref kf) := H1.other W2 (Or.inr (slot_ne (Or.inr (hw _ (List.mem_of_getElem? (i := 26) rfl))) (Or.inl (hw _ (List.mem_of_getElem? (i := 44) rfl))) (by decide) (t := (.object "com/example/tallyframe/tallyframe/KindFigures")) (t' := .long) (by decide) (by decide)))
  have f6 : Fld Z h2 lg "com/example/tallyframe/tallyframe/Ledger" "allocatedObjects" "J" (.long v0) := H2.other W2 (Or.inr (slot_ne (Or.inl (hw _ (List.mem_of_getElem? (i := 40) rfl))) (Or.inl (hw _ (List.mem_of_getElem? (i := 44) rfl))) (by decide) (t := .long) (t' := .long) (by decide) (by decide)))
  have f7 : Fld Z h2 lg "com/example/tallyframe/tallyframe/Ledger" "allocatedBytes" "J" (.long v1) := H3.other W2 (Or.inr (slot_ne (Or.inl (hw _ (List.mem_of_getElem? (i := 42) rfl))) (Or.inl (hw _ (List.mem_of_getElem? (i := 44) rfl))) (by decide) (t := .long) (t' := .long) (by decide) (by decide)))
  have f8 : Fld Z h2 lg "com/example/tallyframe/tallyframe/Ledger" "releasedBytes" "J" (.long v3) := H5.other W2 (Or.inr (slot_ne (Or.inl (hw _ (List.mem_of_getElem? (i := 46) rfl))) (Or.inl (hw _ (List.mem_of_getElem? (i := 44) rfl))) (by decide) (t := .long) (t' := .long) (by decide) (by decide)))
  have f9 : Fld Z h2 lg "com/example/tallyframe/tallyframe/Ledger" "peakLiveBytes" "J" (.long v4) := H6.other W2 (Or.inr (slot_ne (Or.inl (hw _ (List.mem_of_getElem? (i := 85) rfl))) (Or.inl (hw _ (List.mem_of_getElem? (i := 44) rfl))) (by decide) (t := .long) (t' := .long) (by decide) (by decide)))
  have f10 : Exa Z h2 kf "com/example/tallyframe/tallyframe/KindFigures" := H7.wr W2
  have f11 : Fld Z h2 kf "com/example/tallyframe/tallyframe/KindFigures" "lastSlot" "I" (.int (0 : Int32)) := H8.other W2 (Or.inl (Ne.symm H18))
  have f12 : Fld Z h2 kf "com/example/tallyframe/tallyframe/KindFigures" "kinds" "[Ljava/lang/Class;" (.ref ak) := H9.other W2 (Or.inl (Ne.symm H18))
  have f13 : Fld Z h2 kf "com/example/tallyframe/tallyframe/KindFigures" "objects" "[J" (.ref aj) := H10.other W2 (Or.inl (Ne.symm H18))
  have f14 : Fld Z h2 kf "com/example/tallyframe/tallyframe/KindFigures" "bytes" "[J" (.ref ab) := H11.other W2 (Or.inl (Ne.symm H18))
  have f15 : Arv Z h2 ak kk (.object "java/lang/Class") (8 : Int32) [.null] .null := H12.other W2 (Ne.symm H19)
  have f16 : Arv Z h2 aj kj .long (8 : Int32) [(.long o)] (.long (0 : Int64)) := H13.other W2 (Ne.symm H20)
  have f17 : Arv Z h2 ab kb .long (8 : Int32) [(.long b)] (.long (0 : Int64)) := H14.other W2 (Ne.symm H21)
  have K18 : Keep h0 h2 [lg, aj, ab] := K0.wr W2 (Or.inl (List.mem_of_getElem? (i := 0) rfl))
  have Z19 : n0 ≤ h2.size := Nat.le_trans Z0 (Keep.of_wr W2).1
  have N20 := Fr.snoc X2 N0 H15
  refine OwnGo.back (T2.setTop (mkF m 10 #[.val (.ref lg), .val .null, .val (.long x), .second] [])) (fun tg kk => st2 _ kk) ?_
  refine OwnGo.back (T2.setTop (mkF m 11 #[.val (.ref lg), .val .null, .val (.long x), .second] [(.ref lg)])) (fun tg kk => XS.aloadN X2.here hx rfl (hb hby own_d15_10) rfl rfl kk) ?_
  refine OwnGo.back (T2.setTop (mkF m 12 #[.val (.ref lg), .val .null, .val (.long x), .second] [(.ref lg), (.ref lg)])) (fun tg kk => XS.dup X2.here hx rfl (hb hby own_d15_11) rfl rfl kk) ?_
  obtain ⟨T21, X21, e21, st21⟩ := getF X2 hx hZ hown (host := "") (Or.inl (hw _ (List.mem_of_getElem? (i := 45) rfl))) Via.refl e2 f8 (g := (mkF m 12 #[.val (.ref lg), .val .null, .val (.long x), .second] [(.ref lg), (.ref lg)])) rfl rfl (hb hby own_d15_12)
  refine OwnGo.back (T21.setTop (mkF m 15 #[.val (.ref lg), .val .null, .val (.long x), .second] [(.long v3), (.ref lg)])) (fun tg kk => st21 _ kk) ?_
  refine OwnGo.back (T21.setTop (mkF m 16 #[.val (.ref lg), .val .null, .val (.long x), .second] [(.long x), (.long v3), (.ref lg)])) (fun tg kk => XS.lloadN X21.here hx rfl (hb hby own_d15_15) rfl kk) ?_
  refine OwnGo.back (T21.setTop (mkF m 17 #[.val (.ref lg), .val .null, .val (.long x), .second] [(.long (v3 + x)), (.ref lg)])) (fun tg kk => XS.ladd X21.here hx rfl (hb hby own_d15_16) rfl kk) ?_
  obtain ⟨T22, h22, X22, e22, W22, st22⟩ := putF X21 hx hZ hown (host := "") (Or.inl (hw _ (List.mem_of_getElem? (i := 45) rfl))) Via.refl e21 f8 f4 (Or.inl (hw _ (List.mem_of_getElem? (i := 46) rfl))) (hw _ (List.mem_of_getElem? (i := 1) rfl)) (ty := .long) (by decide) rfl rfl (g := (mkF m 17 #[.val (.ref lg), .val .null, .val (.long x), .second] [(.long (v3 + x)), (.ref lg)])) rfl rfl (hb hby own_d15_17)
  have f23 : Fld Z h22 lg "com/example/tallyframe/tallyframe/Ledger" "releasedBytes" "J" (.long (v3 + x)) := f8.same W22
  have f24 : Exa Z h22 lg "com/example/tallyframe/tallyframe/Ledger" := f4.wr W22
  have f25 : Fld Z h22 lg "com/example/tallyframe/tallyframe/Ledger" "byKind" "Lcom/example/tallyframe/tallyframe/KindFigures;" (.ref kf) := f5.other W22 (Or.inr (slot_ne (Or.inr (hw _ (List.mem_of_getElem? (i := 26) rfl))) (Or.inl (hw _ (List.mem_of_getElem? (i := 46) rfl))) (by decide) (t := (.object "com/example/tallyframe/tallyframe/KindFigures")) (t' := .long) (by decide) (by decide)))
  have f26 : Fld Z h22 lg "com/example/tallyframe/tallyframe/Ledger" "allocatedObjects" "J" (.long v0) := f6.other W22 (Or.inr (slot_ne (Or.inl (hw _ (List.mem_of_getElem? (i := 40) rfl))) (Or.inl (hw _ (List.mem_of_getElem? (i := 46) rfl))) (by decide) (t := .long) (t' := .long) (by decide) (by decide)))
  have f27 : Fld Z h22 lg "com/example/tallyframe/tallyframe/Ledger" "allocatedBytes" "J" (.long v1) := f7.other W22 (Or.inr (slot_ne (Or.inl (hw _ (List.mem_of_getElem? (i := 42) rfl))) (Or.inl (hw _ (List.mem_of_getElem? (i := 46) rfl))) (by decide) (t := .long) (t' := .long) (by decide) (by decide)))
  have f28 : Fld Z h22 lg "com/example/tallyframe/tallyframe/Ledger" "peakLiveBytes" "J" (.long v4) := f9.other W22 (Or.inr (slot_ne (Or.inl (hw _ (List.mem_of_getElem? (i := 85) rfl))) (Or.inl (hw _ (List.mem_of_getElem? (i := 46) rfl))) (by decide) (t := .long) (t' := .long) (by decide) (by decide)))
  have f29 : Exa Z h22 kf "com/example/tallyframe/tallyframe/KindFigures" := f10.wr W22
  have f30 : Fld Z h22 kf "com/example/tallyframe/tallyframe/KindFigures" "lastSlot" "I" (.int (0 : Int32)) := f11.other W22 (Or.inl (Ne.symm H18))
  have f31 : Fld Z h22 kf "com/example/tallyframe/tallyframe/KindFigures" "kinds" "[Ljava/lang/Class;" (.ref ak) := f12.other W22 (Or.inl (Ne.symm H18))
  have f32 : Fld Z h22 kf "com/example/tallyframe/tallyframe/KindFigures" "objects" "[J" (.ref aj) := f13.other W22 (Or.inl (Ne.symm H18))
  have f33 : Fld Z h22 kf "com/example/tallyframe/tallyframe/KindFigures" "bytes" "[J" (.ref ab) := f14.other W22 (Or.inl (Ne.symm H18))
  have f34 : Arv Z h22 ak kk (.object "java/lang/Class") (8 : Int32) [.null] .null := f15.other W22 (Ne.symm H19)
  have f35 : Arv Z h22 aj kj .long (8 : Int32) [(.long o)] (.long (0 : Int64)) := f16.other W22 (Ne.symm H20)
  have f36 : Arv Z h22 ab kb .long (8 : Int32) [(.long b)] (.long (0 : Int64)) := f17.other W22 (Ne.symm H21)
  have f37 : Fld Z h22 lg "com/example/tallyframe/tallyframe/Ledger" "releasedObjects" "J" (.long (v2 + (1 : Int64))) := f3.other W22 (Or.inr (slot_ne (Or.inl (hw _ (List.mem_of_getElem? (i := 44) rfl))) (Or.inl (hw _ (List.mem_of_getElem? (i := 46) rfl))) (by decide) (t := .long) (t' := .long) (by decide) (by decide)))
  have K38 : Keep h0 h22 [lg, aj, ab] := K18.wr W22 (Or.inl (List.mem_of_getElem? (i := 0) rfl))
  have Z39 : n0 ≤ h22.size := Nat.le_trans Z19 (Keep.of_wr W22).1
  have N40 := Fr.snoc X22 N20 H15
  refine OwnGo.back (T22.setTop (mkF m 20 #[.val (.ref lg), .val .null, .val (.long x), .second] [])) (fun tg kk => st22 _ kk) ?_
  refine OwnGo.back (T22.setTop (mkF m 21 #[.val (.ref lg), .val .null, .val (.long x), .second] [(.ref lg)])) (fun tg kk => XS.aloadN X22.here hx rfl (hb hby own_d15_20) rfl rfl kk) ?_
  obtain ⟨T41, X41, e41, st41⟩ := getF X22 hx hZ hown (host := "") (Or.inl (hw _ (List.mem_of_getElem? (i := 25) rfl))) Via.refl e22 f25 (g := (mkF m 21 #[.val (.ref lg), .val .null, .val (.long x), .second] [(.ref lg)])) rfl rfl (hb hby own_d15_21)
  refine OwnGo.back (T41.setTop (mkF m 24 #[.val (.ref lg), .val .null, .val (.long x), .second] [(.ref kf)])) (fun tg kk => st41 _ kk) ?_
  refine OwnGo.back (T41.setTop (mkF m 25 #[.val (.ref lg), .val .null, .val (.long x), .second] [.null, (.ref kf)])) (fun tg kk => XS.aloadN X41.here hx rfl (hb hby own_d15_24) rfl rfl kk) ?_
  refine OwnGo.back (T41.setTop (mkF m 28 #[.val (.ref lg), .val .null, .val (.long x), .second] [(.long (-1 : Int64)), .null, (.ref kf)])) (fun tg kk => Jvm.Stand.ldc2J X41 hx hown (mvT hZ (hw _ (List.mem_of_getElem? (i := 107) rfl))) rfl (hb hby own_d15_25) kk) ?_
  refine OwnGo.back (T41.setTop (mkF m 29 #[.val (.ref lg), .val .null, .val (.long x), .second] [(.long x), (.long (-1 : Int64)), .null, (.ref kf)])) (fun tg kk => XS.lloadN X41.here hx rfl (hb hby own_d15_28) rfl kk) ?_
  refine OwnGo.back (T41.setTop (mkF m 30 #[.val (.ref lg), .val .null, .val (.long x), .second] [(.long (-x)), (.long (-1 : Int64)), .null, (.ref kf)])) (fun tg kk => XS.lneg X41.here hx rfl (hb hby own_d15_29) rfl kk) ?_
  obtain ⟨cq42, kq42, q42a, q42b, q42c⟩ := isOf hZ e41 f29
  obtain ⟨_, _, ⟨T42, L42, k42, n42⟩, -, X42, ⟨Lc42, hQ42, l42, y42, z42⟩, st42⟩ := X41.virtualBack hx (y := (⟨"com/example/tallyframe/tallyframe/KindFigures", "add", "(Ljava/lang/Class;JJ)V"⟩ : MethodName)) (z := (⟨"com/example/tallyframe/tallyframe/KindFigures", "add", "(Ljava/lang/Class;JJ)V"⟩ : MethodName)) hown (mvT hZ (hw _ (List.mem_of_getElem? (i := 95) rfl))) (mvT hZ (hw _ (List.mem_of_getElem? (i := 96) rfl))) (notFace_of_selects (args := #[]) (mvT hZ (hw _ (List.mem_of_getElem? (i := 98) rfl)))) (mvT hZ (hw _ (List.mem_of_getElem? (i := 98) rfl))) (mvT hZ (hw _ (List.mem_of_getElem? (i := 97) rfl))) (by decide) (backOf (W := 0) (own_add l Z a0 hw [] kf (-1 : Int64) (-x) ak aj ab kk kj kb o b h22 n0 Z39 f30 f31 f32 f33 f34 f35 f36 H16 H17 H22 H23 H24 H25 H26 H27) hZ (hw _ (List.mem_of_getElem? (i := 99) rfl)) (hw _ (List.mem_of_getElem? (i := 11) rfl)) (by decide) (by decide)) q42a q42c (g := (mkF m 30 #[.val (.ref lg), .val .null, .val (.long x), .second] [(.long (-x)), (.long (-1 : Int64)), .null, (.ref kf)])) rfl (by rw [hml]; rfl) (Steps.refl _) (argsL := [.null, (.long (-1 : Int64)), (.long (-x))]) (rest := []) (lenOf own_pd3 rfl) rfl (by show 2 * 0 + _ ≤ _; exact Nat.le_of_eq rfl) (hb hby own_d15_30) (fun _ _ => ⟨rfl, e41, (by decide : 0 + 0 ≤ _), (by decide : 0 + 0 ≤ _)⟩)
  dsimp only [Pt.U, Pt.locs, Pt.cells, Pt.slots] at X42 l42 y42 z42 st42 hQ42
  subst l42 y42 z42
  obtain ⟨rfl, N42q, Kc42, po43, po44⟩ := hQ42
  have N42 := Fr.app N40 N42q
  have f45 : Exa Z T42.heap lg "com/example/tallyframe/tallyframe/Ledger" := f24.keep Kc42
  have f46 : Fld Z T42.heap lg "com/example/tallyframe/tallyframe/Ledger" "byKind" "Lcom/example/tallyframe/tallyframe/KindFigures;" (.ref kf) := f25.keep Kc42 (ninS H20 (ninS H21 nin0))
  have f47 : Fld Z T42.heap lg "com/example/tallyframe/tallyframe/Ledger" "allocatedObjects" "J" (.long v0) := f26.keep Kc42 (ninS H20 (ninS H21 nin0))
  have f48 : Fld Z T42.heap lg "com/example/tallyframe/tallyframe/Ledger" "allocatedBytes" "J" (.long v1) := f27.keep Kc42 (ninS H20 (ninS H21 nin0))
  have f49 : Fld Z T42.heap lg "com/example/tallyframe/tallyframe/Ledger" "peakLiveBytes" "J" (.long v4) := f28.keep Kc42 (ninS H20 (ninS H21 nin0))
  have f50 : Exa Z T42.heap kf "com/example/tallyframe/tallyframe/KindFigures" := f29.keep Kc42
  have f51 : Fld Z T42.heap kf "com/example/tallyframe/tallyframe/KindFigures" "lastSlot" "I" (.int (0 : Int32)) := f30.keep Kc42 (ninS H23 (ninS H24 nin0))
  have f52 : Fld Z T42.heap kf "com/example/tallyframe/tallyframe/KindFigures" "kinds" "[Ljava/lang/Class;" (.ref ak) := f31.keep Kc42 (ninS H23 (ninS H24 nin0))
  have f53 : Fld Z T42.heap kf "com/example/tallyframe/tallyframe/KindFigures" "objects" "[J" (.ref aj) := f32.keep Kc42 (ninS H23 (ninS H24 nin0))
  have f54 : Fld Z T42.heap kf "com/example/tallyframe/tallyframe/KindFigures" "bytes" "[J" (.ref ab) := f33.keep Kc42 (ninS H23 (ninS H24 nin0))
  have f55 : Arv Z T42.heap ak kk (.object "java/lang/Class") (8 : Int32) [.null] .null := f34.keep Kc42 (ninS H25 (ninS H26 nin0))
  have f56 : Fld Z T42.heap lg "com/example/tallyframe/tallyframe/Ledger" "releasedObjects" "J" (.long (v2 + (1 : Int64))) := f37.keep Kc42 (ninS H20 (ninS H21 nin0))
  have f57 : Fld Z T42.heap lg "com/example/tallyframe/tallyframe/Ledger" "releasedBytes" "J" (.long (v3 + x)) := f23.keep Kc42 (ninS H20 (ninS H21 nin0))
  have K58 : Keep h0 T42.heap [lg, aj, ab] := K38.trans Kc42 (allS (Or.inl (List.mem_of_getElem? (i := 1) rfl)) (allS (Or.inl (List.mem_of_getElem? (i := 2) rfl)) all0))
  have Z59 : n0 ≤ T42.heap.size := Nat.le_trans Z39 Kc42.1
  refine OwnGo.back (T42.setTop (mkF m 33 #[.val (.ref lg), .val .null, .val (.long x), .second] [])) (fun tg kk => st42.trans kk) ?_
  obtain ⟨fs, hr, hrun, hended, hW, hsame⟩ := X42.leave (v := none) (fun _ => rfl)
  refine ⟨_, _, ?_, hrun, hended, _, _, rfl, ?_, ⟨_, rfl⟩, hW, hsame.mono (by decide) (by decide)⟩
  · exact X42.returnOut hx Bd.returns (hb hby own_d15_33) hr
  · show own_rr_Q Z lg x kf ak aj ab kk kj kb v0 v1 v2 v3 v4 o b h0 n0 _ T42.heap _
    exact ⟨v4, (o + (-1 : Int64)), (b + (-x)), rfl, N42, K58, f45, f46, f47, f48, f56, f57, f49, po43, po44⟩
theorem own_ev {p a : Int32} {x v0 v1 v2 v3 w0 w1 w2 w3 m0 m1 m2 m3 : Int64} (h : ((p = 0) ∧ m0 = v0 ∧ m1 = v1 ∧ m2 = v2 ∧ m3 = v3) ∨ ((¬ (p = 0)) ∧ (a = 0) ∧ m0 = v0 ∧ m1 = v1 ∧ m2 = (v2 + (1 : Int64)) ∧ m3 = (v3 + x)) ∨ ((¬ (p = 0)) ∧ (¬ (a = 0)) ∧ m0 = (v0 + (1 : Int64)) ∧ m1 = (v1 + x) ∧ m2 = v2 ∧ m3 = v3)) (g : ((p = 0) ∧ w0 = v0 ∧ w1 = v1 ∧ w2 = v2 ∧ w3 = v3) ∨ ((¬ (p = 0)) ∧ (a = 0) ∧ w0 = v0 ∧ w1 = v1 ∧ w2 = (v2 + (1 : Int64)) ∧ w3 = (v3 + x)) ∨ ((¬ (p = 0)) ∧ (¬ (a = 0)) ∧ w0 = (v0 + (1 : Int64)) ∧ w1 = (v1 + x) ∧ w2 = v2 ∧ w3 = v3)) : w0 = m0 ∧ w1 = m1 ∧ w2 = m2 ∧ w3 = m3 := by
  rcases h with ⟨h0, h1, h2, h3, h4⟩ | ⟨h0, h0', h1, h2, h3, h4⟩ | ⟨h0, h0', h1, h2, h3, h4⟩ <;> rcases g with ⟨g0, g1, g2, g3, g4⟩ | ⟨g0, g0', g1, g2, g3, g4⟩ | ⟨g0, g0', g1, g2, g3, g4⟩ <;> first | exact absurd h0 g0 | exact absurd g0 h0 | exact absurd h0' g0' | exact absurd g0' h0' | exact ⟨g1.trans h1.symm, g2.trans h2.symm, g3.trans h3.symm, g4.trans h4.symm⟩
theorem own_ap_ef (m : MethodId) (x0 : Addr) (x1 : Int32) (x2 : Int32) (x3 : Int64) : entryFrame m #[(.ref x0), (.int x1), (.int x2), (.long x3)] 5 = mkF m 0 #[.val (.ref x0), .val (.int x1), .val (.int x2), .val (.long x3), .second] [] := by first | (simp [entryFrame, mkF, argsToLocals, Value.category]; done) | rfl
def own_ap_Q (Z : State) (lg : Addr) (pp : Int32) (av : Int32) (x : Int64) (kf : Addr) (ak : Addr) (aj : Addr) (ab : Addr) (kk : ClassId) (kj : ClassId) (kb : ClassId) (v0 : Int64) (v1 : Int64) (v2 : Int64) (v3 : Int64) (v4 : Int64) (o : Int64) (b : Int64) (h0 : Heap) (n0 : Nat) (rv : Option Value) (hN : Heap) (LL : List Loc) : Prop := ∃ (w0 : Int64), ∃ (w1 : Int64), ∃ (w2 : Int64), ∃ (w3 : Int64), ∃ (v4' : Int64), ∃ (o' : Int64), ∃ (b' : Int64), rv = none ∧ Fr n0 LL ∧ Keep h0 hN [lg, aj, ab] ∧ Exa Z hN lg "com/example/tallyframe/tallyframe/Ledger" ∧ Fld Z hN lg "com/example/tallyframe/tallyframe/Ledger" "byKind" "Lcom/example/tallyframe/tallyframe/KindFigures;" (.ref kf) ∧ Fld Z hN lg "com/example/tallyframe/tallyframe/Ledger" "allocatedObjects" "J" (.long w0) ∧ Fld Z hN lg "com/example/tallyframe/tallyframe/Ledger" "allocatedBytes" "J" (.long w1) ∧ Fld Z hN lg "com/example/tallyframe/tallyframe/Ledger" "releasedObjects" "J" (.long w2) ∧ Fld Z hN lg "com/example/tallyframe/tallyframe/Ledger" "releasedBytes" "J" (.long w3) ∧ Fld Z hN lg "com/example/tallyframe/tallyframe/Ledger" "peakLiveBytes" "J" (.long v4') ∧ Arv Z hN aj kj .long (8 : Int32) [(.long o')] (.long (0 : Int64)) ∧ Arv Z hN ab kb .long (8 : Int32) [(.long b')] (.long (0 : Int64)) ∧ (((pp = 0) ∧ w0 = v0 ∧ w1 = v1 ∧ w2 = v2 ∧ w3 = v3) ∨ ((¬ (pp = 0)) ∧ (av = 0) ∧ w0 = v0 ∧ w1 = v1 ∧ w2 = (v2 + (1 : Int64)) ∧ w3 = (v3 + x)) ∨ ((¬ (pp = 0)) ∧ (¬ (av = 0)) ∧ w0 = (v0 + (1 : Int64)) ∧ w1 = (v1 + x) ∧ w2 = v2 ∧ w3 = v3))
set_option maxRecDepth 65536 in
set_option maxHeartbeats 40000000 in
theorem own_ap (l : Launch) (Z : State) (a0 : Array Value) (hw : ∀ d ∈ tables_1, d.before a0 Z = true) (ws : List Jvm.Cond) (lg : Addr) (pp : Int32) (av : Int32) (x : Int64) (kf : Addr) (ak : Addr) (aj : Addr) (ab : Addr) (kk : ClassId) (kj : ClassId) (kb : ClassId) (v0 : Int64) (v1 : Int64) (v2 : Int64) (v3 : Int64) (v4 : Int64) (o : Int64) (b : Int64) (h0 : Heap) (n0 : Nat) (Z0 : n0 ≤ h0.size) (H0 : Exa Z h0 lg "com/example/tallyframe/tallyframe/Ledger") (H1 : Fld Z h0 lg "com/example/tallyframe/tallyframe/Ledger" "byKind" "Lcom/example/tallyframe/tallyframe/KindFigures;" (.ref kf)) (H2 : Fld Z h0 lg "com/example/tallyframe/tallyframe/Ledger" "allocatedObjects" "J" (.long v0)) (H3 : Fld Z h0 lg "com/example/tallyframe/tallyframe/Ledger" "allocatedBytes" "J" (.long v1)) (H4 : Fld Z h0 lg "com/example/tallyframe/tallyframe/Ledger" "releasedObjects" "J" (.long v2)) (H5 : Fld Z h0 lg "com/example/tallyframe/tallyframe/Ledger" "releasedBytes" "J" (.long v3)) (H6 : Fld Z h0 lg "com/example/tallyframe/tallyframe/Ledger" "peakLiveBytes" "J" (.long v4)) (H7 : Exa Z h0 kf "com/example/tallyframe/tallyframe/KindFigures") (H8 : Fld Z h0 kf "com/example/tallyframe/tallyframe/KindFigures" "lastSlot" "I" (.int (0 : Int32))) (H9 : Fld Z h0 kf "com/example/tallyframe/tallyframe/KindFigures" "kinds" "[Ljava/lang/Class;" (.ref ak)) (H10 : Fld Z h0 kf "com/example/tallyframe/tallyframe/KindFigures" "objects" "[J" (.ref aj)) (H11 : Fld Z h0 kf "com/example/tallyframe/tallyframe/KindFigures" "bytes" "[J" (.ref ab)) (H12 : Arv Z h0 ak kk (.object "java/lang/Class") (8 : Int32) [.null] .null) (H13 : Arv Z h0 aj kj .long (8 : Int32) [(.long o)] (.long (0 : Int64))) (H14 : Arv Z h0 ab kb .long (8 : Int32) [(.long b)] (.long (0 : Int64))) (H15 : n0 ≤ lg) (H16 : n0 ≤ aj) (H17 : n0 ≤ ab) (H18 : lg ≠ kf) (H19 : lg ≠ ak) (H20 : lg ≠ aj) (H21 : lg ≠ ab) (H22 : kf ≠ ak) (H23 : kf ≠ aj) (H24 : kf ≠ ab) (H25 : ak ≠ aj) (H26 : ak ≠ ab) (H27 : aj ≠ ab) :
    MetFree l (⟨"com/example/tallyframe/tallyframe/LedgerTallyPinLaw", "apply", "(Lcom/example/tallyframe/tallyframe/Ledger;ZZJ)V"⟩ : MethodName) (head1 (Jvm.Cond.code (⟨"com/example/tallyframe/tallyframe/LedgerTallyPinLaw", "apply", "(Lcom/example/tallyframe/tallyframe/Ledger;ZZJ)V"⟩ : MethodName) method_2_code 5 none :: ws) ({ frames := 2, cells := 0, slots := 0, locals := 33 } : Room)) (fun aa UU => aa = #[(.ref lg), (.int pp), (.int av), (.long x)] ∧ Z.Warmed39 UU.vm ∧ UU.heap = h0) (fun _ _ _ _ _ => True) (fun _ UU oo UU' => ∃ rv LL, oo = .returned rv ∧ own_ap_Q Z lg pp av x kf ak aj ab kk kj kb v0 v1 v2 v3 v4 o b h0 n0 rv UU'.heap LL ∧ FrameEnd UU oo UU' LL ({ frames := 2, cells := 0, slots := 0, locals := 33 } : Room).cells ({ frames := 2, cells := 0, slots := 0, locals := 33 } : Room).slots) := by
  refine MetFree.of_bodySF (plainFor_of_name own_pn3) hisR ?_
  intro p e s m args below meth c s₁ Bd hml0 hP hK
  obtain ⟨rfl, hZ, hh⟩ := hP
  have hx := Bd.exec
  have hby := Bd.bytes
  have hml : c.maxLocals = 5 := hml0
  have hown : s.vm.findClass "com/example/tallyframe/tallyframe/LedgerTallyPinLaw" = some m.cls := findClass_of_methodNamed Bd.named
  have hnm := (name_of_methodNamed Bd.named Bd.method).1
  have X0 : Stand p l e ({ frames := 2, cells := 0, slots := 0, locals := 33 } : Room) s m #[(.ref lg), (.int pp), (.int av), (.long x)] below meth c s₁ [] 0 0 := Stand.of_body Bd
  have e0 : s₁.heap = h0 := by rw [← hh, Bd.state]; rfl
  have N0 := Fr.nil n0
  have K0 : Keep h0 h0 [lg, aj, ab] := Keep.refl h0 _
  refine (?_ : OwnGo p.tables e below (fun UU' oo => ∃ rv LL, oo = .returned rv ∧ own_ap_Q Z lg pp av x kf ak aj ab kk kj kb v0 v1 v2 v3 v4 o b h0 n0 rv UU'.heap LL ∧ FrameEnd s oo UU' LL ({ frames := 2, cells := 0, slots := 0, locals := 33 } : Room).cells ({ frames := 2, cells := 0, slots := 0, locals := 33 } : Room).slots) _)
  refine OwnGo.back (s₁.setTop (mkF m 0 #[.val (.ref lg), .val (.int pp), .val (.int av), .val (.long x), .second] [])) (fun tg kk => castTop (own_ap_ef m lg pp av x) kk) ?_
  refine OwnGo.back (s₁.setTop (mkF m 1 #[.val (.ref lg), .val (.int pp), .val (.int av), .val (.long x), .second] [(.int pp)])) (fun tg kk => XS.iloadN X0.here hx rfl (hb hby own_d4_0) rfl kk) ?_
  by_cases hc1 : pp = (0 : Int32)
  ·
    refine OwnGo.back (s₁.setTop (mkF m 23 #[.val (.ref lg), .val (.int pp), .val (.int av), .val (.long x), .second] [])) (fun tg kk => XS.ifYes X0.here hx rfl (pc0 := 1) (pc' := 23) rfl (hb hby own_d4_1) rfl ((if0 _ _).trans (teq hc1).1) (by decide) (by decide) kk) ?_
    obtain ⟨fs, hr, hrun, hended, hW, hsame⟩ := X0.leave (v := none) (fun _ => rfl)
    refine ⟨_, _, ?_, hrun, hended, _, _, rfl, ?_, ⟨_, rfl⟩, hW, hsame.mono (by decide) (by decide)⟩
    · exact X0.returnOut hx Bd.returns (hb hby own_d4_23) hr
    · show own_ap_Q Z lg pp av x kf ak aj ab kk kj kb v0 v1 v2 v3 v4 o b h0 n0 _ s₁.heap _
      rw [e0]
      exact ⟨v0, v1, v2, v3, v4, o, b, rfl, N0, K0, H0, H1, H2, H3, H4, H5, H6, H13, H14, (Or.inl ⟨hc1, rfl, rfl, rfl, rfl⟩)⟩
  ·
    refine OwnGo.back (s₁.setTop (mkF m 4 #[.val (.ref lg), .val (.int pp), .val (.int av), .val (.long x), .second] [])) (fun tg kk => XS.ifNo X0.here hx rfl (hb hby own_d4_1) rfl ((if0 _ _).trans (feq hc1).1) kk) ?_
    refine OwnGo.back (s₁.setTop (mkF m 5 #[.val (.ref lg), .val (.int pp), .val (.int av), .val (.long x), .second] [(.int av)])) (fun tg kk => XS.iloadN X0.here hx rfl (hb hby own_d4_4) rfl kk) ?_
    by_cases hc2 : av = (0 : Int32)
    ·
      refine OwnGo.back (s₁.setTop (mkF m 17 #[.val (.ref lg), .val (.int pp), .val (.int av), .val (.long x), .second] [])) (fun tg kk => XS.ifYes X0.here hx rfl (pc0 := 5) (pc' := 17) rfl (hb hby own_d4_5) rfl ((if0 _ _).trans (teq hc2).1) (by decide) (by decide) kk) ?_
      refine OwnGo.back (s₁.setTop (mkF m 18 #[.val (.ref lg), .val (.int pp), .val (.int av), .val (.long x), .second] [(.ref lg)])) (fun tg kk => XS.aloadN X0.here hx rfl (hb hby own_d4_17) rfl rfl kk) ?_
      refine OwnGo.back (s₁.setTop (mkF m 19 #[.val (.ref lg), .val (.int pp), .val (.int av), .val (.long x), .second] [.null, (.ref lg)])) (fun tg kk => XS.aconstNull X0.here hx rfl (hb hby own_d4_18) kk) ?_
      refine OwnGo.back (s₁.setTop (mkF m 20 #[.val (.ref lg), .val (.int pp), .val (.int av), .val (.long x), .second] [(.long x), .null, (.ref lg)])) (fun tg kk => XS.lloadN X0.here hx rfl (hb hby own_d4_19) rfl kk) ?_
      obtain ⟨cq3, kq3, q3a, q3b, q3c⟩ := isOf hZ e0 H0
      obtain ⟨_, _, ⟨T3, L3, k3, n3⟩, -, X3, ⟨Lc3, hQ3, l3, y3, z3⟩, st3⟩ := X0.virtualBack hx (y := (⟨"com/example/tallyframe/tallyframe/Ledger", "recordRelease", "(Ljava/lang/Class;J)V"⟩ : MethodName)) (z := (⟨"com/example/tallyframe/tallyframe/Ledger", "recordRelease", "(Ljava/lang/Class;J)V"⟩ : MethodName)) hown (mvT hZ (hw _ (List.mem_of_getElem? (i := 102) rfl))) (mvT hZ (hw _ (List.mem_of_getElem? (i := 103) rfl))) (notFace_of_selects (args := #[]) (mvT hZ (hw _ (List.mem_of_getElem? (i := 105) rfl)))) (mvT hZ (hw _ (List.mem_of_getElem? (i := 105) rfl))) (mvT hZ (hw _ (List.mem_of_getElem? (i := 104) rfl))) (by decide) (backOf (W := 0) (own_rr l Z a0 hw [] lg x kf ak aj ab kk kj kb v0 v1 v2 v3 v4 o b h0 n0 Z0 H0 H1 H2 H3 H4 H5 H6 H7 H8 H9 H10 H11 H12 H13 H14 H15 H16 H17 H18 H19 H20 H21 H22 H23 H24 H25 H26 H27) hZ (hw _ (List.mem_of_getElem? (i := 106) rfl)) (hw _ (List.mem_of_getElem? (i := 2) rfl)) (by decide) (by decide)) q3a q3c (g := (mkF m 20 #[.val (.ref lg), .val (.int pp), .val (.int av), .val (.long x), .second] [(.long x), .null, (.ref lg)])) rfl (by rw [hml]; rfl) (Steps.refl _) (argsL := [.null, (.long x)]) (rest := []) (lenOf own_pd4 rfl) rfl (by show 2 * 0 + _ ≤ _; exact Nat.le_of_eq rfl) (hb hby own_d4_20) (fun _ _ => ⟨rfl, e0, (by decide : 0 + 0 ≤ _), (by decide : 0 + 0 ≤ _)⟩)
      dsimp only [Pt.U, Pt.locs, Pt.cells, Pt.slots] at X3 l3 y3 z3 st3 hQ3
      subst l3 y3 z3
      obtain ⟨v4__4, o__5, b__6, rfl, N3q, Kc3, po7, po8, po9, po10, po11, po12, po13, po14, po15⟩ := hQ3
      have N3 := Fr.app N0 N3q
      have f16 : Exa Z T3.heap lg "com/example/tallyframe/tallyframe/Ledger" := H0.keep Kc3
      have f17 : Exa Z T3.heap kf "com/example/tallyframe/tallyframe/KindFigures" := H7.keep Kc3
      have f18 : Fld Z T3.heap kf "com/example/tallyframe/tallyframe/KindFigures" "lastSlot" "I" (.int (0 : Int32)) := H8.keep Kc3 (ninS (Ne.symm H18) (ninS H23 (ninS H24 nin0)))
      have f19 : Fld Z T3.heap kf "com/example/tallyframe/tallyframe/KindFigures" "kinds" "[Ljava/lang/Class;" (.ref ak) := H9.keep Kc3 (ninS (Ne.symm H18) (ninS H23 (ninS H24 nin0)))
      have f20 : Fld Z T3.heap kf "com/example/tallyframe/tallyframe/KindFigures" "objects" "[J" (.ref aj) := H10.keep Kc3 (ninS (Ne.symm H18) (ninS H23 (ninS H24 nin0)))
      have f21 : Fld Z T3.heap kf "com/example/tallyframe/tallyframe/KindFigures" "bytes" "[J" (.ref ab) := H11.keep Kc3 (ninS (Ne.symm H18) (ninS H23 (ninS H24 nin0)))
      have f22 : Arv Z T3.heap ak kk (.object "java/lang/Class") (8 : Int32) [.null] .null := H12.keep Kc3 (ninS (Ne.symm H19) (ninS H25 (ninS H26 nin0)))
      have K23 : Keep h0 T3.heap [lg, aj, ab] := K0.trans Kc3 (allS (Or.inl (List.mem_of_getElem? (i := 0) rfl)) (allS (Or.inl (List.mem_of_getElem? (i := 1) rfl)) (allS (Or.inl (List.mem_of_getElem? (i := 2) rfl)) all0)))
      have Z24 : n0 ≤ T3.heap.size := Nat.le_trans Z0 Kc3.1
      refine OwnGo.back (T3.setTop (mkF m 23 #[.val (.ref lg), .val (.int pp), .val (.int av), .val (.long x), .second] [])) (fun tg kk => st3.trans kk) ?_
      obtain ⟨fs, hr, hrun, hended, hW, hsame⟩ := X3.leave (v := none) (fun _ => rfl)
      refine ⟨_, _, ?_, hrun, hended, _, _, rfl, ?_, ⟨_, rfl⟩, hW, hsame.mono (by decide) (by decide)⟩
      · exact X3.returnOut hx Bd.returns (hb hby own_d4_23) hr
      · show own_ap_Q Z lg pp av x kf ak aj ab kk kj kb v0 v1 v2 v3 v4 o b h0 n0 _ T3.heap _
        exact ⟨v0, v1, (v2 + (1 : Int64)), (v3 + x), v4__4, o__5, b__6, rfl, N3, K23, po7, po8, po9, po10, po11, po12, po13, po14, po15, (Or.inr (Or.inl ⟨hc1, hc2, rfl, rfl, rfl, rfl⟩))⟩
    ·
      refine OwnGo.back (s₁.setTop (mkF m 8 #[.val (.ref lg), .val (.int pp), .val (.int av), .val (.long x), .second] [])) (fun tg kk => XS.ifNo X0.here hx rfl (hb hby own_d4_5) rfl ((if0 _ _).trans (feq hc2).1) kk) ?_
      refine OwnGo.back (s₁.setTop (mkF m 9 #[.val (.ref lg), .val (.int pp), .val (.int av), .val (.long x), .second] [(.ref lg)])) (fun tg kk => XS.aloadN X0.here hx rfl (hb hby own_d4_8) rfl rfl kk) ?_
      refine OwnGo.back (s₁.setTop (mkF m 10 #[.val (.ref lg), .val (.int pp), .val (.int av), .val (.long x), .second] [.null, (.ref lg)])) (fun tg kk => XS.aconstNull X0.here hx rfl (hb hby own_d4_9) kk) ?_
      refine OwnGo.back (s₁.setTop (mkF m 11 #[.val (.ref lg), .val (.int pp), .val (.int av), .val (.long x), .second] [(.long x), .null, (.ref lg)])) (fun tg kk => XS.lloadN X0.here hx rfl (hb hby own_d4_10) rfl kk) ?_
      obtain ⟨cq25, kq25, q25a, q25b, q25c⟩ := isOf hZ e0 H0
      obtain ⟨_, _, ⟨T25, L25, k25, n25⟩, -, X25, ⟨Lc25, hQ25, l25, y25, z25⟩, st25⟩ := X0.virtualBack hx (y := (⟨"com/example/tallyframe/tallyframe/Ledger", "recordAllocation", "(Ljava/lang/Class;J)V"⟩ : MethodName)) (z := (⟨"com/example/tallyframe/tallyframe/Ledger", "recordAllocation", "(Ljava/lang/Class;J)V"⟩ : MethodName)) hown (mvT hZ (hw _ (List.mem_of_getElem? (i := 79) rfl))) (mvT hZ (hw _ (List.mem_of_getElem? (i := 80) rfl))) (notFace_of_selects (args := #[]) (mvT hZ (hw _ (List.mem_of_getElem? (i := 82) rfl)))) (mvT hZ (hw _ (List.mem_of_getElem? (i := 82) rfl))) (mvT hZ (hw _ (List.mem_of_getElem? (i := 81) rfl))) (by decide) (backOf (W := 0) (own_ra l Z a0 hw [] lg x kf ak aj ab kk kj kb v0 v1 v2 v3 v4 o b h0 n0 Z0 H0 H1 H2 H3 H4 H5 H6 H7 H8 H9 H10 H11 H12 H13 H14 H15 H16 H17 H18 H19 H20 H21 H22 H23 H24 H25 H26 H27) hZ (hw _ (List.mem_of_getElem? (i := 83) rfl)) (hw _ (List.mem_of_getElem? (i := 2) rfl)) (by decide) (by decide)) q25a q25c (g := (mkF m 11 #[.val (.ref lg), .val (.int pp), .val (.int av), .val (.long x), .second] [(.long x), .null, (.ref lg)])) rfl (by rw [hml]; rfl) (Steps.refl _) (argsL := [.null, (.long x)]) (rest := []) (lenOf own_pd4 rfl) rfl (by show 2 * 0 + _ ≤ _; exact Nat.le_of_eq rfl) (hb hby own_d4_11) (fun _ _ => ⟨rfl, e0, (by decide : 0 + 0 ≤ _), (by decide : 0 + 0 ≤ _)⟩)
      dsimp only [Pt.U, Pt.locs, Pt.cells, Pt.slots] at X25 l25 y25 z25 st25 hQ25
      subst l25 y25 z25
      obtain ⟨v4__26, o__27, b__28, rfl, N25q, Kc25, po29, po30, po31, po32, po33, po34, po35, po36, po37⟩ := hQ25
      have N25 := Fr.app N0 N25q
      have f38 : Exa Z T25.heap lg "com/example/tallyframe/tallyframe/Ledger" := H0.keep Kc25
      have f39 : Exa Z T25.heap kf "com/example/tallyframe/tallyframe/KindFigures" := H7.keep Kc25
      have f40 : Fld Z T25.heap kf "com/example/tallyframe/tallyframe/KindFigures" "lastSlot" "I" (.int (0 : Int32)) := H8.keep Kc25 (ninS (Ne.symm H18) (ninS H23 (ninS H24 nin0)))
      have f41 : Fld Z T25.heap kf "com/example/tallyframe/tallyframe/KindFigures" "kinds" "[Ljava/lang/Class;" (.ref ak) := H9.keep Kc25 (ninS (Ne.symm H18) (ninS H23 (ninS H24 nin0)))
      have f42 : Fld Z T25.heap kf "com/example/tallyframe/tallyframe/KindFigures" "objects" "[J" (.ref aj) := H10.keep Kc25 (ninS (Ne.symm H18) (ninS H23 (ninS H24 nin0)))
      have f43 : Fld Z T25.heap kf "com/example/tallyframe/tallyframe/KindFigures" "bytes" "[J" (.ref ab) := H11.keep Kc25 (ninS (Ne.symm H18) (ninS H23 (ninS H24 nin0)))
      have f44 : Arv Z T25.heap ak kk (.object "java/lang/Class") (8 : Int32) [.null] .null := H12.keep Kc25 (ninS (Ne.symm H19) (ninS H25 (ninS H26 nin0)))
      have K45 : Keep h0 T25.heap [lg, aj, ab] := K0.trans Kc25 (allS (Or.inl (List.mem_of_getElem? (i := 0) rfl)) (allS (Or.inl (List.mem_of_getElem? (i := 1) rfl)) (allS (Or.inl (List.mem_of_getElem? (i := 2) rfl)) all0)))
      have Z46 : n0 ≤ T25.heap.size := Nat.le_trans Z0 Kc25.1
      refine OwnGo.back (T25.setTop (mkF m 14 #[.val (.ref lg), .val (.int pp), .val (.int av), .val (.long x), .second] [])) (fun tg kk => st25.trans kk) ?_
      refine OwnGo.back (T25.setTop (mkF m 23 #[.val (.ref lg), .val (.int pp), .val (.int av), .val (.long x), .second] [])) (fun tg kk => XS.goto X25.here hx rfl (pc0 := 14) (pc' := 23) rfl (hb hby own_d4_14) (by decide) (by decide) kk) ?_
      obtain ⟨fs, hr, hrun, hended, hW, hsame⟩ := X25.leave (v := none) (fun _ => rfl)
      refine ⟨_, _, ?_, hrun, hended, _, _, rfl, ?_, ⟨_, rfl⟩, hW, hsame.mono (by decide) (by decide)⟩
      · exact X25.returnOut hx Bd.returns (hb hby own_d4_23) hr
      · show own_ap_Q Z lg pp av x kf ak aj ab kk kj kb v0 v1 v2 v3 v4 o b h0 n0 _ T25.heap _
        exact ⟨(v0 + (1 : Int64)), (v1 + x), v2, v3, v4__26, o__27, b__28, rfl, N25, K45, po29, po30, po31, po32, po33, po34, po35, po36, po37, (Or.inr (Or.inr ⟨hc1, hc2, rfl, rfl, rfl, rfl⟩))⟩
theorem own_tl_ef (m : MethodId) (x0 : Addr) (x1 : Int64) (x2 : Int64) (x3 : Int64) (x4 : Int64) : entryFrame m #[(.ref x0), (.long x1), (.long x2), (.long x3), (.long x4)] 9 = mkF m 0 #[.val (.ref x0), .val (.long x1), .second, .val (.long x2), .second, .val (.long x3), .second, .val (.long x4), .second] [] := by first | (simp [entryFrame, mkF, argsToLocals, Value.category]; done) | rfl
def own_tl_Q (Z : State) (t : Addr) (v0 : Int64) (v1 : Int64) (v2 : Int64) (v3 : Int64) (h0 : Heap) (n0 : Nat) (rv : Option Value) (hN : Heap) (LL : List Loc) : Prop := rv = none ∧ Fr n0 LL ∧ Keep h0 hN [t] ∧ Exa Z hN t "com/example/tallyframe/tallyframe/Tally" ∧ Fld Z hN t "com/example/tallyframe/tallyframe/Tally" "allocatedObjects" "J" (.long v0) ∧ Fld Z hN t "com/example/tallyframe/tallyframe/Tally" "allocatedBytes" "J" (.long v1) ∧ Fld Z hN t "com/example/tallyframe/tallyframe/Tally" "releasedObjects" "J" (.long v2) ∧ Fld Z hN t "com/example/tallyframe/tallyframe/Tally" "releasedBytes" "J" (.long v3)
set_option maxRecDepth 65536 in
set_option maxHeartbeats 40000000 in
theorem own_tl (l : Launch) (Z : State) (a0 : Array Value) (hw : ∀ d ∈ tables_1, d.before a0 Z = true) (ws : List Jvm.Cond) (t : Addr) (v0 : Int64) (v1 : Int64) (v2 : Int64) (v3 : Int64) (h0 : Heap) (n0 : Nat) (Z0 : n0 ≤ h0.size) (H0 : Exa Z h0 t "com/example/tallyframe/tallyframe/Tally") (H1 : Fld Z h0 t "com/example/tallyframe/tallyframe/Tally" "allocatedObjects" "J" (.long (0 : Int64))) (H2 : Fld Z h0 t "com/example/tallyframe/tallyframe/Tally" "allocatedBytes" "J" (.long (0 : Int64))) (H3 : Fld Z h0 t "com/example/tallyframe/tallyframe/Tally" "releasedObjects" "J" (.long (0 : Int64))) (H4 : Fld Z h0 t "com/example/tallyframe/tallyframe/Tally" "releasedBytes" "J" (.long (0 : Int64))) (H5 : n0 ≤ t) :
    MetFree l (⟨"com/example/tallyframe/tallyframe/Tally", "<init>", "(JJJJ)V"⟩ : MethodName) (head1 (Jvm.Cond.code (⟨"com/example/tallyframe/tallyframe/Tally", "<init>", "(JJJJ)V"⟩ : MethodName) prog_25_method_1_code 9 none :: ws) ({ frames := 1, cells := 0, slots := 0, locals := 12 } : Room)) (fun aa UU => aa = #[(.ref t), (.long v0), (.long v1), (.long v2), (.long v3)] ∧ Z.Warmed39 UU.vm ∧ UU.heap = h0) (fun _ _ _ _ _ => True) (fun _ UU oo UU' => ∃ rv LL, oo = .returned rv ∧ own_tl_Q Z t v0 v1 v2 v3 h0 n0 rv UU'.heap LL ∧ FrameEnd UU oo UU' LL ({ frames := 1, cells := 0, slots := 0, locals := 12 } : Room).cells ({ frames := 1, cells := 0, slots := 0, locals := 12 } : Room).slots) := by
  refine MetFree.of_bodySF (plainFor_of_name own_pn4) hisR ?_
  intro p e s m args below meth c s₁ Bd hml0 hP hK
  obtain ⟨rfl, hZ, hh⟩ := hP
  have hx := Bd.exec
  have hby := Bd.bytes
  have hml : c.maxLocals = 9 := hml0
  have hown : s.vm.findClass "com/example/tallyframe/tallyframe/Tally" = some m.cls := findClass_of_methodNamed Bd.named
  have hnm := (name_of_methodNamed Bd.named Bd.method).1
  have X0 : Stand p l e ({ frames := 1, cells := 0, slots := 0, locals := 12 } : Room) s m #[(.ref t), (.long v0), (.long v1), (.long v2), (.long v3)] below meth c s₁ [] 0 0 := Stand.of_body Bd
  have e0 : s₁.heap = h0 := by rw [← hh, Bd.state]; rfl
  have N0 := Fr.nil n0
  have K0 : Keep h0 h0 [t] := Keep.refl h0 _
  refine (?_ : OwnGo p.tables e below (fun UU' oo => ∃ rv LL, oo = .returned rv ∧ own_tl_Q Z t v0 v1 v2 v3 h0 n0 rv UU'.heap LL ∧ FrameEnd s oo UU' LL ({ frames := 1, cells := 0, slots := 0, locals := 12 } : Room).cells ({ frames := 1, cells := 0, slots := 0, locals := 12 } : Room).slots) _)
  refine OwnGo.back (s₁.setTop (mkF m 0 #[.val (.ref t), .val (.long v0), .second, .val (.long v1), .second, .val (.long v2), .second, .val (.long v3), .second] [])) (fun tg kk => castTop (own_tl_ef m t v0 v1 v2 v3) kk) ?_
  refine OwnGo.back (s₁.setTop (mkF m 1 #[.val (.ref t), .val (.long v0), .second, .val (.long v1), .second, .val (.long v2), .second, .val (.long v3), .second] [(.ref t)])) (fun tg kk => XS.aloadN X0.here hx rfl (hb hby own_d6_0) rfl rfl kk) ?_
  obtain ⟨T1, X1, e1, st1⟩ := initO X0 hx hZ hown (hw _ (List.mem_of_getElem? (i := 50) rfl)) (hw _ (List.mem_of_getElem? (i := 7) rfl)) (hw _ (List.mem_of_getElem? (i := 8) rfl)) e0 (g := (mkF m 1 #[.val (.ref t), .val (.long v0), .second, .val (.long v1), .second, .val (.long v2), .second, .val (.long v3), .second] [(.ref t)])) rfl (by rw [hml]; rfl) rfl (hb hby own_d6_1) (by decide) (W := 0) (by show 2 * 0 + _ ≤ _; exact Nat.le_of_eq rfl) (by decide)
  refine OwnGo.back (T1.setTop (mkF m 4 #[.val (.ref t), .val (.long v0), .second, .val (.long v1), .second, .val (.long v2), .second, .val (.long v3), .second] [])) (fun tg kk => st1 _ kk) ?_
  refine OwnGo.back (T1.setTop (mkF m 5 #[.val (.ref t), .val (.long v0), .second, .val (.long v1), .second, .val (.long v2), .second, .val (.long v3), .second] [(.ref t)])) (fun tg kk => XS.aloadN X1.here hx rfl (hb hby own_d6_4) rfl rfl kk) ?_
  refine OwnGo.back (T1.setTop (mkF m 6 #[.val (.ref t), .val (.long v0), .second, .val (.long v1), .second, .val (.long v2), .second, .val (.long v3), .second] [(.long v0), (.ref t)])) (fun tg kk => XS.lloadN X1.here hx rfl (hb hby own_d6_5) rfl kk) ?_
  obtain ⟨T2, h2, X2, e2, W2, st2⟩ := putF X1 hx hZ hown (host := "") (Or.inl (hw _ (List.mem_of_getElem? (i := 51) rfl))) Via.refl e1 H1 H0 (Or.inr ⟨(hw _ (List.mem_of_getElem? (i := 52) rfl)), rfl, hnm⟩) (hw _ (List.mem_of_getElem? (i := 37) rfl)) (ty := .long) (by decide) rfl rfl (g := (mkF m 6 #[.val (.ref t), .val (.long v0), .second, .val (.long v1), .second, .val (.long v2), .second, .val (.long v3), .second] [(.long v0), (.ref t)])) rfl rfl (hb hby own_d6_6)
  have f3 : Fld Z h2 t "com/example/tallyframe/tallyframe/Tally" "allocatedObjects" "J" (.long v0) := H1.same W2
  have f4 : Exa Z h2 t "com/example/tallyframe/tallyframe/Tally" := H0.wr W2
  have f5 : Fld Z h2 t "com/example/tallyframe/tallyframe/Tally" "allocatedBytes" "J" (.long (0 : Int64)) := H2.other W2 (Or.inr (slot_ne (Or.inr (hw _ (List.mem_of_getElem? (i := 54) rfl))) (Or.inr (hw _ (List.mem_of_getElem? (i := 52) rfl))) (by decide) (t := .long) (t' := .long) (by decide) (by decide)))
  have f6 : Fld Z h2 t "com/example/tallyframe/tallyframe/Tally" "releasedObjects" "J" (.long (0 : Int64)) := H3.other W2 (Or.inr (slot_ne (Or.inr (hw _ (List.mem_of_getElem? (i := 56) rfl))) (Or.inr (hw _ (List.mem_of_getElem? (i := 52) rfl))) (by decide) (t := .long) (t' := .long) (by decide) (by decide)))
  have f7 : Fld Z h2 t "com/example/tallyframe/tallyframe/Tally" "releasedBytes" "J" (.long (0 : Int64)) := H4.other W2 (Or.inr (slot_ne (Or.inr (hw _ (List.mem_of_getElem? (i := 58) rfl))) (Or.inr (hw _ (List.mem_of_getElem? (i := 52) rfl))) (by decide) (t := .long) (t' := .long) (by decide) (by decide)))
  have K8 : Keep h0 h2 [t] := K0.wr W2 (Or.inl (List.mem_of_getElem? (i := 0) rfl))
  have Z9 : n0 ≤ h2.size := Nat.le_trans Z0 (Keep.of_wr W2).1
  have N10 := Fr.snoc X2 N0 H5
  refine OwnGo.back (T2.setTop (mkF m 9 #[.val (.ref t), .val (.long v0), .second, .val (.long v1), .second, .val (.long v2), .second, .val (.long v3), .second] [])) (fun tg kk => st2 _ kk) ?_
  refine OwnGo.back (T2.setTop (mkF m 10 #[.val (.ref t), .val (.long v0), .second, .val (.long v1), .second, .val (.long v2), .second, .val (.long v3), .second] [(.ref t)])) (fun tg kk => XS.aloadN X2.here hx rfl (hb hby own_d6_9) rfl rfl kk) ?_
  refine OwnGo.back (T2.setTop (mkF m 11 #[.val (.ref t), .val (.long v0), .second, .val (.long v1), .second, .val (.long v2), .second, .val (.long v3), .second] [(.long v1), (.ref t)])) (fun tg kk => XS.lloadN X2.here hx rfl (hb hby own_d6_10) rfl kk) ?_
  obtain ⟨T11, h11, X11, e11, W11, st11⟩ := putF X2 hx hZ hown (host := "") (Or.inl (hw _ (List.mem_of_getElem? (i := 53) rfl))) Via.refl e2 f5 f4 (Or.inr ⟨(hw _ (List.mem_of_getElem? (i := 54) rfl)), rfl, hnm⟩) (hw _ (List.mem_of_getElem? (i := 37) rfl)) (ty := .long) (by decide) rfl rfl (g := (mkF m 11 #[.val (.ref t), .val (.long v0), .second, .val (.long v1), .second, .val (.long v2), .second, .val (.long v3), .second] [(.long v1), (.ref t)])) rfl rfl (hb hby own_d6_11)
  have f12 : Fld Z h11 t "com/example/tallyframe/tallyframe/Tally" "allocatedBytes" "J" (.long v1) := f5.same W11
  have f13 : Exa Z h11 t "com/example/tallyframe/tallyframe/Tally" := f4.wr W11
  have f14 : Fld Z h11 t "com/example/tallyframe/tallyframe/Tally" "releasedObjects" "J" (.long (0 : Int64)) := f6.other W11 (Or.inr (slot_ne (Or.inr (hw _ (List.mem_of_getElem? (i := 56) rfl))) (Or.inr (hw _ (List.mem_of_getElem? (i := 54) rfl))) (by decide) (t := .long) (t' := .long) (by decide) (by decide)))
  have f15 : Fld Z h11 t "com/example/tallyframe/tallyframe/Tally" "releasedBytes" "J" (.long (0 : Int64)) := f7.other W11 (Or.inr (slot_ne (Or.inr (hw _ (List.mem_of_getElem? (i := 58) rfl))) (Or.inr (hw _ (List.mem_of_getElem? (i := 54) rfl))) (by decide) (t := .long) (t' := .long) (by decide) (by decide)))
  have f16 : Fld Z h11 t "com/example/tallyframe/tallyframe/Tally" "allocatedObjects" "J" (.long v0) := f3.other W11 (Or.inr (slot_ne (Or.inr (hw _ (List.mem_of_getElem? (i := 52) rfl))) (Or.inr (hw _ (List.mem_of_getElem? (i := 54) rfl))) (by decide) (t := .long) (t' := .long) (by decide) (by decide)))
  have K17 : Keep h0 h11 [t] := K8.wr W11 (Or.inl (List.mem_of_getElem? (i := 0) rfl))
  have Z18 : n0 ≤ h11.size := Nat.le_trans Z9 (Keep.of_wr W11).1
  have N19 := Fr.snoc X11 N10 H5
  refine OwnGo.back (T11.setTop (mkF m 14 #[.val (.ref t), .val (.long v0), .second, .val (.long v1), .second, .val (.long v2), .second, .val (.long v3), .second] [])) (fun tg kk => st11 _ kk) ?_
  refine OwnGo.back (T11.setTop (mkF m 15 #[.val (.ref t), .val (.long v0), .second, .val (.long v1), .second, .val (.long v2), .second, .val (.long v3), .second] [(.ref t)])) (fun tg kk => XS.aloadN X11.here hx rfl (hb hby own_d6_14) rfl rfl kk) ?_
  refine OwnGo.back (T11.setTop (mkF m 17 #[.val (.ref t), .val (.long v0), .second, .val (.long v1), .second, .val (.long v2), .second, .val (.long v3), .second] [(.long v2), (.ref t)])) (fun tg kk => XS.lload X11.here hx rfl (hb hby own_d6_15) rfl kk) ?_
  obtain ⟨T20, h20, X20, e20, W20, st20⟩ := putF X11 hx hZ hown (host := "") (Or.inl (hw _ (List.mem_of_getElem? (i := 55) rfl))) Via.refl e11 f14 f13 (Or.inr ⟨(hw _ (List.mem_of_getElem? (i := 56) rfl)), rfl, hnm⟩) (hw _ (List.mem_of_getElem? (i := 37) rfl)) (ty := .long) (by decide) rfl rfl (g := (mkF m 17 #[.val (.ref t), .val (.long v0), .second, .val (.long v1), .second, .val (.long v2), .second, .val (.long v3), .second] [(.long v2), (.ref t)])) rfl rfl (hb hby own_d6_17)
  have f21 : Fld Z h20 t "com/example/tallyframe/tallyframe/Tally" "releasedObjects" "J" (.long v2) := f14.same W20
  have f22 : Exa Z h20 t "com/example/tallyframe/tallyframe/Tally" := f13.wr W20
  have f23 : Fld Z h20 t "com/example/tallyframe/tallyframe/Tally" "releasedBytes" "J" (.long (0 : Int64)) := f15.other W20 (Or.inr (slot_ne (Or.inr (hw _ (List.mem_of_getElem? (i := 58) rfl))) (Or.inr (hw _ (List.mem_of_getElem? (i := 56) rfl))) (by decide) (t := .long) (t' := .long) (by decide) (by decide)))
  have f24 : Fld Z h20 t "com/example/tallyframe/tallyframe/Tally" "allocatedObjects" "J" (.long v0) := f16.other W20 (Or.inr (slot_ne (Or.inr (hw _ (List.mem_of_getElem? (i := 52) rfl))) (Or.inr (hw _ (List.mem_of_getElem? (i := 56) rfl))) (by decide) (t := .long) (t' := .long) (by decide) (by decide)))
  have f25 : Fld Z h20 t "com/example/tallyframe/tallyframe/Tally" "allocatedBytes" "J" (.long v1) := f12.other W20 (Or.inr (slot_ne (Or.inr (hw _ (List.mem_of_getElem? (i := 54) rfl))) (Or.inr (hw _ (List.mem_of_getElem? (i := 56) rfl))) (by decide) (t := .long) (t' := .long) (by decide) (by decide)))
  have K26 : Keep h0 h20 [t] := K17.wr W20 (Or.inl (List.mem_of_getElem? (i := 0) rfl))
  have Z27 : n0 ≤ h20.size := Nat.le_trans Z18 (Keep.of_wr W20).1
  have N28 := Fr.snoc X20 N19 H5
  refine OwnGo.back (T20.setTop (mkF m 20 #[.val (.ref t), .val (.long v0), .second, .val (.long v1), .second, .val (.long v2), .second, .val (.long v3), .second] [])) (fun tg kk => st20 _ kk) ?_
  refine OwnGo.back (T20.setTop (mkF m 21 #[.val (.ref t), .val (.long v0), .second, .val (.long v1), .second, .val (.long v2), .second, .val (.long v3), .second] [(.ref t)])) (fun tg kk => XS.aloadN X20.here hx rfl (hb hby own_d6_20) rfl rfl kk) ?_
  refine OwnGo.back (T20.setTop (mkF m 23 #[.val (.ref t), .val (.long v0), .second, .val (.long v1), .second, .val (.long v2), .second, .val (.long v3), .second] [(.long v3), (.ref t)])) (fun tg kk => XS.lload X20.here hx rfl (hb hby own_d6_21) rfl kk) ?_
  obtain ⟨T29, h29, X29, e29, W29, st29⟩ := putF X20 hx hZ hown (host := "") (Or.inl (hw _ (List.mem_of_getElem? (i := 57) rfl))) Via.refl e20 f23 f22 (Or.inr ⟨(hw _ (List.mem_of_getElem? (i := 58) rfl)), rfl, hnm⟩) (hw _ (List.mem_of_getElem? (i := 37) rfl)) (ty := .long) (by decide) rfl rfl (g := (mkF m 23 #[.val (.ref t), .val (.long v0), .second, .val (.long v1), .second, .val (.long v2), .second, .val (.long v3), .second] [(.long v3), (.ref t)])) rfl rfl (hb hby own_d6_23)
  have f30 : Fld Z h29 t "com/example/tallyframe/tallyframe/Tally" "releasedBytes" "J" (.long v3) := f23.same W29
  have f31 : Exa Z h29 t "com/example/tallyframe/tallyframe/Tally" := f22.wr W29
  have f32 : Fld Z h29 t "com/example/tallyframe/tallyframe/Tally" "allocatedObjects" "J" (.long v0) := f24.other W29 (Or.inr (slot_ne (Or.inr (hw _ (List.mem_of_getElem? (i := 52) rfl))) (Or.inr (hw _ (List.mem_of_getElem? (i := 58) rfl))) (by decide) (t := .long) (t' := .long) (by decide) (by decide)))
  have f33 : Fld Z h29 t "com/example/tallyframe/tallyframe/Tally" "allocatedBytes" "J" (.long v1) := f25.other W29 (Or.inr (slot_ne (Or.inr (hw _ (List.mem_of_getElem? (i := 54) rfl))) (Or.inr (hw _ (List.mem_of_getElem? (i := 58) rfl))) (by decide) (t := .long) (t' := .long) (by decide) (by decide)))
  have f34 : Fld Z h29 t "com/example/tallyframe/tallyframe/Tally" "releasedObjects" "J" (.long v2) := f21.other W29 (Or.inr (slot_ne (Or.inr (hw _ (List.mem_of_getElem? (i := 56) rfl))) (Or.inr (hw _ (List.mem_of_getElem? (i := 58) rfl))) (by decide) (t := .long) (t' := .long) (by decide) (by decide)))
  have K35 : Keep h0 h29 [t] := K26.wr W29 (Or.inl (List.mem_of_getElem? (i := 0) rfl))
  have Z36 : n0 ≤ h29.size := Nat.le_trans Z27 (Keep.of_wr W29).1
  have N37 := Fr.snoc X29 N28 H5
  refine OwnGo.back (T29.setTop (mkF m 26 #[.val (.ref t), .val (.long v0), .second, .val (.long v1), .second, .val (.long v2), .second, .val (.long v3), .second] [])) (fun tg kk => st29 _ kk) ?_
  obtain ⟨fs, hr, hrun, hended, hW, hsame⟩ := X29.leave (v := none) (fun _ => rfl)
  refine ⟨_, _, ?_, hrun, hended, _, _, rfl, ?_, ⟨_, rfl⟩, hW, hsame.mono (by decide) (by decide)⟩
  · exact X29.returnOut hx Bd.returns (hb hby own_d6_26) hr
  · show own_tl_Q Z t v0 v1 v2 v3 h0 n0 _ T29.heap _
    rw [e29]
    exact ⟨rfl, N37, K35, f31, f32, f33, f34, f30⟩
theorem own_ta_ef (m : MethodId) (x0 : Addr) : entryFrame m #[(.ref x0)] 1 = mkF m 0 #[.val (.ref x0)] [] := by first | (simp [entryFrame, mkF, argsToLocals, Value.category]; done) | rfl
def own_ta_Q (Z : State) (lg : Addr) (v0 : Int64) (v1 : Int64) (v2 : Int64) (v3 : Int64) (h0 : Heap) (n0 : Nat) (rv : Option Value) (hN : Heap) (LL : List Loc) : Prop := ∃ (t : Addr), rv = some (.ref t) ∧ Fr n0 LL ∧ Keep h0 hN [] ∧ h0.size ≤ t ∧ Exa Z hN t "com/example/tallyframe/tallyframe/Tally" ∧ Fld Z hN t "com/example/tallyframe/tallyframe/Tally" "allocatedObjects" "J" (.long v0) ∧ Fld Z hN t "com/example/tallyframe/tallyframe/Tally" "allocatedBytes" "J" (.long v1) ∧ Fld Z hN t "com/example/tallyframe/tallyframe/Tally" "releasedObjects" "J" (.long v2) ∧ Fld Z hN t "com/example/tallyframe/tallyframe/Tally" "releasedBytes" "J" (.long v3)
set_option maxRecDepth 65536 in
set_option maxHeartbeats 40000000 in
theorem own_ta (l : Launch) (Z : State) (a0 : Array Value) (hw : ∀ d ∈ tables_1, d.before a0 Z = true) (ws : List Jvm.Cond) (lg : Addr) (v0 : Int64) (v1 : Int64) (v2 : Int64) (v3 : Int64) (h0 : Heap) (n0 : Nat) (Z0 : n0 ≤ h0.size) (H0 : Fld Z h0 lg "com/example/tallyframe/tallyframe/Ledger" "allocatedObjects" "J" (.long v0)) (H1 : Fld Z h0 lg "com/example/tallyframe/tallyframe/Ledger" "allocatedBytes" "J" (.long v1)) (H2 : Fld Z h0 lg "com/example/tallyframe/tallyframe/Ledger" "releasedObjects" "J" (.long v2)) (H3 : Fld Z h0 lg "com/example/tallyframe/tallyframe/Ledger" "releasedBytes" "J" (.long v3)) :
    MetFree l (⟨"com/example/tallyframe/tallyframe/Ledger", "tally", "()Lcom/example/tallyframe/tallyframe/Tally;"⟩ : MethodName) (head1 (Jvm.Cond.code (⟨"com/example/tallyframe/tallyframe/Ledger", "tally", "()Lcom/example/tallyframe/tallyframe/Tally;"⟩ : MethodName) prog_6_method_9_code 1 (some (.object "com/example/tallyframe/tallyframe/Tally")) :: ws) ({ frames := 2, cells := 1, slots := 4, locals := 33 } : Room)) (fun aa UU => aa = #[(.ref lg)] ∧ Z.Warmed39 UU.vm ∧ UU.heap = h0) (fun _ _ _ _ _ => True) (fun _ UU oo UU' => ∃ rv LL, oo = .returned rv ∧ own_ta_Q Z lg v0 v1 v2 v3 h0 n0 rv UU'.heap LL ∧ FrameEnd UU oo UU' LL ({ frames := 2, cells := 1, slots := 4, locals := 33 } : Room).cells ({ frames := 2, cells := 1, slots := 4, locals := 33 } : Room).slots) := by
  refine MetFree.of_bodySF (plainFor_of_name own_pn1) hisR ?_
  intro p e s m args below meth c s₁ Bd hml0 hP hK
  obtain ⟨rfl, hZ, hh⟩ := hP
  have hx := Bd.exec
  have hby := Bd.bytes
  have hml : c.maxLocals = 1 := hml0
  have hown : s.vm.findClass "com/example/tallyframe/tallyframe/Ledger" = some m.cls := findClass_of_methodNamed Bd.named
  have hnm := (name_of_methodNamed Bd.named Bd.method).1
  have X0 : Stand p l e ({ frames := 2, cells := 1, slots := 4, locals := 33 } : Room) s m #[(.ref lg)] below meth c s₁ [] 0 0 := Stand.of_body Bd
  have e0 : s₁.heap = h0 := by rw [← hh, Bd.state]; rfl
  have N0 := Fr.nil n0
  have K0 : Keep h0 h0 [] := Keep.refl h0 _
  refine (?_ : OwnGo p.tables e below (fun UU' oo => ∃ rv LL, oo = .returned rv ∧ own_ta_Q Z lg v0 v1 v2 v3 h0 n0 rv UU'.heap LL ∧ FrameEnd s oo UU' LL ({ frames := 2, cells := 1, slots := 4, locals := 33 } : Room).cells ({ frames := 2, cells := 1, slots := 4, locals := 33 } : Room).slots) _)
  refine OwnGo.back (s₁.setTop (mkF m 0 #[.val (.ref lg)] [])) (fun tg kk => castTop (own_ta_ef m lg) kk) ?_
  obtain ⟨T1, h1, X1, e1, E1, A1, D1, -, st1⟩ := newO X0 hx hZ hown (hw _ (List.mem_of_getElem? (i := 36) rfl)) (hw _ (List.mem_of_getElem? (i := 37) rfl)) (hw _ (List.mem_of_getElem? (i := 38) rfl)) e0 (g := (mkF m 0 #[.val (.ref lg)] [])) rfl (hb hby own_d5_0) (by decide) (by decide)
  obtain ⟨b1, q1⟩ : ∃ z, z = h0.size := ⟨_, rfl⟩
  rw [← q1] at A1 D1 st1
  have n2 : lg ≠ b1 := own_ne H0.lt q1
  have g3 : n0 ≤ b1 := Nat.le_trans Z0 (Nat.le_of_eq q1.symm)
  have s4 : h0.size ≤ b1 := Nat.le_trans K0.1 (Nat.le_of_eq q1.symm)
  have f5 : Fld Z h1 lg "com/example/tallyframe/tallyframe/Ledger" "allocatedObjects" "J" (.long v0) := H0.ext E1
  have f6 : Fld Z h1 lg "com/example/tallyframe/tallyframe/Ledger" "allocatedBytes" "J" (.long v1) := H1.ext E1
  have f7 : Fld Z h1 lg "com/example/tallyframe/tallyframe/Ledger" "releasedObjects" "J" (.long v2) := H2.ext E1
  have f8 : Fld Z h1 lg "com/example/tallyframe/tallyframe/Ledger" "releasedBytes" "J" (.long v3) := H3.ext E1
  have K9 : Keep h0 h1 [] := K0.ext E1
  have Z10 : n0 ≤ h1.size := Nat.le_trans Z0 E1.1
  have f11 : Fld Z h1 b1 "com/example/tallyframe/tallyframe/Tally" "allocatedObjects" "J" (.long (0 : Int64)) := D1 (Or.inr (hw _ (List.mem_of_getElem? (i := 52) rfl))) (ty := .long) (by decide)
  have f12 : Fld Z h1 b1 "com/example/tallyframe/tallyframe/Tally" "allocatedBytes" "J" (.long (0 : Int64)) := D1 (Or.inr (hw _ (List.mem_of_getElem? (i := 54) rfl))) (ty := .long) (by decide)
  have f13 : Fld Z h1 b1 "com/example/tallyframe/tallyframe/Tally" "releasedObjects" "J" (.long (0 : Int64)) := D1 (Or.inr (hw _ (List.mem_of_getElem? (i := 56) rfl))) (ty := .long) (by decide)
  have f14 : Fld Z h1 b1 "com/example/tallyframe/tallyframe/Tally" "releasedBytes" "J" (.long (0 : Int64)) := D1 (Or.inr (hw _ (List.mem_of_getElem? (i := 58) rfl))) (ty := .long) (by decide)
  refine OwnGo.back (T1.setTop (mkF m 3 #[.val (.ref lg)] [(.ref b1)])) (fun tg kk => st1 _ kk) ?_
  refine OwnGo.back (T1.setTop (mkF m 4 #[.val (.ref lg)] [(.ref b1), (.ref b1)])) (fun tg kk => XS.dup X1.here hx rfl (hb hby own_d5_3) rfl rfl kk) ?_
  refine OwnGo.back (T1.setTop (mkF m 5 #[.val (.ref lg)] [(.ref lg), (.ref b1), (.ref b1)])) (fun tg kk => XS.aloadN X1.here hx rfl (hb hby own_d5_4) rfl rfl kk) ?_
  obtain ⟨T15, X15, e15, st15⟩ := getF X1 hx hZ hown (host := "") (Or.inl (hw _ (List.mem_of_getElem? (i := 39) rfl))) Via.refl e1 f5 (g := (mkF m 5 #[.val (.ref lg)] [(.ref lg), (.ref b1), (.ref b1)])) rfl rfl (hb hby own_d5_5)
  refine OwnGo.back (T15.setTop (mkF m 8 #[.val (.ref lg)] [(.long v0), (.ref b1), (.ref b1)])) (fun tg kk => st15 _ kk) ?_
  refine OwnGo.back (T15.setTop (mkF m 9 #[.val (.ref lg)] [(.ref lg), (.long v0), (.ref b1), (.ref b1)])) (fun tg kk => XS.aloadN X15.here hx rfl (hb hby own_d5_8) rfl rfl kk) ?_
  obtain ⟨T16, X16, e16, st16⟩ := getF X15 hx hZ hown (host := "") (Or.inl (hw _ (List.mem_of_getElem? (i := 41) rfl))) Via.refl e15 f6 (g := (mkF m 9 #[.val (.ref lg)] [(.ref lg), (.long v0), (.ref b1), (.ref b1)])) rfl rfl (hb hby own_d5_9)
  refine OwnGo.back (T16.setTop (mkF m 12 #[.val (.ref lg)] [(.long v1), (.long v0), (.ref b1), (.ref b1)])) (fun tg kk => st16 _ kk) ?_
  refine OwnGo.back (T16.setTop (mkF m 13 #[.val (.ref lg)] [(.ref lg), (.long v1), (.long v0), (.ref b1), (.ref b1)])) (fun tg kk => XS.aloadN X16.here hx rfl (hb hby own_d5_12) rfl rfl kk) ?_
  obtain ⟨T17, X17, e17, st17⟩ := getF X16 hx hZ hown (host := "") (Or.inl (hw _ (List.mem_of_getElem? (i := 43) rfl))) Via.refl e16 f7 (g := (mkF m 13 #[.val (.ref lg)] [(.ref lg), (.long v1), (.long v0), (.ref b1), (.ref b1)])) rfl rfl (hb hby own_d5_13)
  refine OwnGo.back (T17.setTop (mkF m 16 #[.val (.ref lg)] [(.long v2), (.long v1), (.long v0), (.ref b1), (.ref b1)])) (fun tg kk => st17 _ kk) ?_
  refine OwnGo.back (T17.setTop (mkF m 17 #[.val (.ref lg)] [(.ref lg), (.long v2), (.long v1), (.long v0), (.ref b1), (.ref b1)])) (fun tg kk => XS.aloadN X17.here hx rfl (hb hby own_d5_16) rfl rfl kk) ?_
  obtain ⟨T18, X18, e18, st18⟩ := getF X17 hx hZ hown (host := "") (Or.inl (hw _ (List.mem_of_getElem? (i := 45) rfl))) Via.refl e17 f8 (g := (mkF m 17 #[.val (.ref lg)] [(.ref lg), (.long v2), (.long v1), (.long v0), (.ref b1), (.ref b1)])) rfl rfl (hb hby own_d5_17)
  refine OwnGo.back (T18.setTop (mkF m 20 #[.val (.ref lg)] [(.long v3), (.long v2), (.long v1), (.long v0), (.ref b1), (.ref b1)])) (fun tg kk => st18 _ kk) ?_
  obtain ⟨_, _, ⟨T19, L19, k19, n19⟩, -, X19, ⟨Lc19, hQ19, l19, y19, z19⟩, st19⟩ := X18.specialBack hx (y := (⟨"com/example/tallyframe/tallyframe/Tally", "<init>", "(JJJJ)V"⟩ : MethodName)) rfl hown (mvT hZ (hw _ (List.mem_of_getElem? (i := 47) rfl))) (mvT hZ (hw _ (List.mem_of_getElem? (i := 48) rfl))) (mvT hZ (hw _ (List.mem_of_getElem? (i := 49) rfl))) (by decide) (backOf (W := 1) (own_tl l Z a0 hw [] b1 v0 v1 v2 v3 h1 n0 Z10 A1 f11 f12 f13 f14 g3) hZ (hw _ (List.mem_of_getElem? (i := 49) rfl)) (hw _ (List.mem_of_getElem? (i := 38) rfl)) (by decide) (by decide)) (g := (mkF m 20 #[.val (.ref lg)] [(.long v3), (.long v2), (.long v1), (.long v0), (.ref b1), (.ref b1)])) rfl (by rw [hml]; rfl) (Steps.refl _) (a := b1) (argsL := [(.long v0), (.long v1), (.long v2), (.long v3)]) (rest := [(.ref b1)]) (lenOf own_pd5 rfl) rfl (by show 2 * 0 + _ ≤ _; exact Nat.le_of_eq rfl) (hb hby own_d5_20) (fun _ _ => ⟨rfl, e18, (by decide : 1 + 0 ≤ _), (by decide : 4 + 0 ≤ _)⟩)
  dsimp only [Pt.U, Pt.locs, Pt.cells, Pt.slots] at X19 l19 y19 z19 st19 hQ19
  subst l19 y19 z19
  obtain ⟨rfl, N19q, Kc19, po20, po21, po22, po23, po24⟩ := hQ19
  have N19 := Fr.app N0 N19q
  have f25 : Fld Z T19.heap lg "com/example/tallyframe/tallyframe/Ledger" "allocatedObjects" "J" (.long v0) := f5.keep Kc19 (ninS n2 nin0)
  have f26 : Fld Z T19.heap lg "com/example/tallyframe/tallyframe/Ledger" "allocatedBytes" "J" (.long v1) := f6.keep Kc19 (ninS n2 nin0)
  have f27 : Fld Z T19.heap lg "com/example/tallyframe/tallyframe/Ledger" "releasedObjects" "J" (.long v2) := f7.keep Kc19 (ninS n2 nin0)
  have f28 : Fld Z T19.heap lg "com/example/tallyframe/tallyframe/Ledger" "releasedBytes" "J" (.long v3) := f8.keep Kc19 (ninS n2 nin0)
  have f29 : Exa Z T19.heap b1 "com/example/tallyframe/tallyframe/Tally" := A1.keep Kc19
  have K30 : Keep h0 T19.heap [] := K9.trans Kc19 (allS (Or.inr s4) all0)
  have Z31 : n0 ≤ T19.heap.size := Nat.le_trans Z10 Kc19.1
  refine OwnGo.back (T19.setTop (mkF m 23 #[.val (.ref lg)] [(.ref b1)])) (fun tg kk => st19.trans kk) ?_
  obtain ⟨fs, hr, hrun, hended, hW, hsame⟩ := X19.leave (v := some (.ref b1)) (fun h => by rw [Bd.returns] at h; cases h)
  refine ⟨_, _, ?_, hrun, hended, _, _, rfl, ?_, ⟨_, rfl⟩, hW, hsame.mono (by decide) (by decide)⟩
  · exact own_retA X19 hx Bd.returns rfl rfl rfl (hb hby own_d5_23) hr
  · show own_ta_Q Z lg v0 v1 v2 v3 h0 n0 _ T19.heap _
    exact ⟨b1, rfl, N19, K30, s4, po20, po21, po22, po23, po24⟩
theorem own_g0_ef (m : MethodId) (x0 : Addr) : entryFrame m #[(.ref x0)] 1 = mkF m 0 #[.val (.ref x0)] [] := by first | (simp [entryFrame, mkF, argsToLocals, Value.category]; done) | rfl
def own_g0_Q (Z : State) (t : Addr) (v : Int64) (h0 : Heap) (n0 : Nat) (rv : Option Value) (hN : Heap) (LL : List Loc) : Prop := rv = some (.long v) ∧ Fr n0 LL ∧ hN = h0
set_option maxRecDepth 65536 in
set_option maxHeartbeats 40000000 in
theorem own_g0 (l : Launch) (Z : State) (a0 : Array Value) (hw : ∀ d ∈ tables_1, d.before a0 Z = true) (ws : List Jvm.Cond) (t : Addr) (v : Int64) (h0 : Heap) (n0 : Nat) (Z0 : n0 ≤ h0.size) (F : Fld Z h0 t "com/example/tallyframe/tallyframe/Tally" "allocatedObjects" "J" (.long v)) :
    MetFree l (⟨"com/example/tallyframe/tallyframe/Tally", "allocatedObjects", "()J"⟩ : MethodName) (head1 (Jvm.Cond.code (⟨"com/example/tallyframe/tallyframe/Tally", "allocatedObjects", "()J"⟩ : MethodName) prog_25_method_2_code 1 (some .long) :: ws) ({ frames := 0, cells := 0, slots := 0, locals := 0 } : Room)) (fun aa UU => aa = #[(.ref t)] ∧ Z.Warmed39 UU.vm ∧ UU.heap = h0) (fun _ _ _ _ _ => True) (fun _ UU oo UU' => ∃ rv LL, oo = .returned rv ∧ own_g0_Q Z t v h0 n0 rv UU'.heap LL ∧ FrameEnd UU oo UU' LL ({ frames := 0, cells := 0, slots := 0, locals := 0 } : Room).cells ({ frames := 0, cells := 0, slots := 0, locals := 0 } : Room).slots) := by
  refine MetFree.of_bodySF (plainFor_of_name own_pn4) hisR ?_
  intro p e s m args below meth c s₁ Bd hml0 hP hK
  obtain ⟨rfl, hZ, hh⟩ := hP
  have hx := Bd.exec
  have hby := Bd.bytes
  have hml : c.maxLocals = 1 := hml0
  have hown : s.vm.findClass "com/example/tallyframe/tallyframe/Tally" = some m.cls := findClass_of_methodNamed Bd.named
  have hnm := (name_of_methodNamed Bd.named Bd.method).1
  have X0 : Stand p l e ({ frames := 0, cells := 0, slots := 0, locals := 0 } : Room) s m #[(.ref t)] below meth c s₁ [] 0 0 := Stand.of_body Bd
  have e0 : s₁.heap = h0 := by rw [← hh, Bd.state]; rfl
  have N0 := Fr.nil n0
  have K0 : Keep h0 h0 [] := Keep.refl h0 _
  refine (?_ : OwnGo p.tables e below (fun UU' oo => ∃ rv LL, oo = .returned rv ∧ own_g0_Q Z t v h0 n0 rv UU'.heap LL ∧ FrameEnd s oo UU' LL ({ frames := 0, cells := 0, slots := 0, locals := 0 } : Room).cells ({ frames := 0, cells := 0, slots := 0, locals := 0 } : Room).slots) _)
  refine OwnGo.back (s₁.setTop (mkF m 0 #[.val (.ref t)] [])) (fun tg kk => castTop (own_g0_ef m t) kk) ?_
  refine OwnGo.back (s₁.setTop (mkF m 1 #[.val (.ref t)] [(.ref t)])) (fun tg kk => XS.aloadN X0.here hx rfl (hb hby own_d7_0) rfl rfl kk) ?_
  obtain ⟨T1, X1, e1, st1⟩ := getF X0 hx hZ hown (host := "") (Or.inl (hw _ (List.mem_of_getElem? (i := 51) rfl))) Via.refl e0 F (g := (mkF m 1 #[.val (.ref t)] [(.ref t)])) rfl rfl (hb hby own_d7_1)
  refine OwnGo.back (T1.setTop (mkF m 4 #[.val (.ref t)] [(.long v)])) (fun tg kk => st1 _ kk) ?_
  obtain ⟨fs, hr, hrun, hended, hW, hsame⟩ := X1.leave (v := some (.long v)) (fun h => by rw [Bd.returns] at h; cases h)
  refine ⟨_, _, ?_, hrun, hended, _, _, rfl, ?_, ⟨_, rfl⟩, hW, hsame.mono (by decide) (by decide)⟩
  · exact own_retJ X1 hx Bd.returns (hb hby own_d7_4) hr
  · show own_g0_Q Z t v h0 n0 _ T1.heap _
    rw [e1]
    exact ⟨rfl, N0, rfl⟩
theorem own_g1_ef (m : MethodId) (x0 : Addr) : entryFrame m #[(.ref x0)] 1 = mkF m 0 #[.val (.ref x0)] [] := by first | (simp [entryFrame, mkF, argsToLocals, Value.category]; done) | rfl
def own_g1_Q (Z : State) (t : Addr) (v : Int64) (h0 : Heap) (n0 : Nat) (rv : Option Value) (hN : Heap) (LL : List Loc) : Prop := rv = some (.long v) ∧ Fr n0 LL ∧ hN = h0
set_option maxRecDepth 65536 in
set_option maxHeartbeats 40000000 in
theorem own_g1 (l : Launch) (Z : State) (a0 : Array Value) (hw : ∀ d ∈ tables_1, d.before a0 Z = true) (ws : List Jvm.Cond) (t : Addr) (v : Int64) (h0 : Heap) (n0 : Nat) (Z0 : n0 ≤ h0.size) (F : Fld Z h0 t "com/example/tallyframe/tallyframe/Tally" "allocatedBytes" "J" (.long v)) :
    MetFree l (⟨"com/example/tallyframe/tallyframe/Tally", "allocatedBytes", "()J"⟩ : MethodName) (head1 (Jvm.Cond.code (⟨"com/example/tallyframe/tallyframe/Tally", "allocatedBytes", "()J"⟩ : MethodName) prog_25_method_3_code 1 (some .long) :: ws) ({ frames := 0, cells := 0, slots := 0, locals := 0 } : Room)) (fun aa UU => aa = #[(.ref t)] ∧ Z.Warmed39 UU.vm ∧ UU.heap = h0) (fun _ _ _ _ _ => True) (fun _ UU oo UU' => ∃ rv LL, oo = .returned rv ∧ own_g1_Q Z t v h0 n0 rv UU'.heap LL ∧ FrameEnd UU oo UU' LL ({ frames := 0, cells := 0, slots := 0, locals := 0 } : Room).cells ({ frames := 0, cells := 0, slots := 0, locals := 0 } : Room).slots) := by
  refine MetFree.of_bodySF (plainFor_of_name own_pn4) hisR ?_
  intro p e s m args below meth c s₁ Bd hml0 hP hK
  obtain ⟨rfl, hZ, hh⟩ := hP
  have hx := Bd.exec
  have hby := Bd.bytes
  have hml : c.maxLocals = 1 := hml0
  have hown : s.vm.findClass "com/example/tallyframe/tallyframe/Tally" = some m.cls := findClass_of_methodNamed Bd.named
  have hnm := (name_of_methodNamed Bd.named Bd.method).1
  have X0 : Stand p l e ({ frames := 0, cells := 0, slots := 0, locals := 0 } : Room) s m #[(.ref t)] below meth c s₁ [] 0 0 := Stand.of_body Bd
  have e0 : s₁.heap = h0 := by rw [← hh, Bd.state]; rfl
  have N0 := Fr.nil n0
  have K0 : Keep h0 h0 [] := Keep.refl h0 _
  refine (?_ : OwnGo p.tables e below (fun UU' oo => ∃ rv LL, oo = .returned rv ∧ own_g1_Q Z t v h0 n0 rv UU'.heap LL ∧ FrameEnd s oo UU' LL ({ frames := 0, cells := 0, slots := 0, locals := 0 } : Room).cells ({ frames := 0, cells := 0, slots := 0, locals := 0 } : Room).slots) _)
  refine OwnGo.back (s₁.setTop (mkF m 0 #[.val (.ref t)] [])) (fun tg kk => castTop (own_g1_ef m t) kk) ?_
  refine OwnGo.back (s₁.setTop (mkF m 1 #[.val (.ref t)] [(.ref t)])) (fun tg kk => XS.aloadN X0.here hx rfl (hb hby own_d8_0) rfl rfl kk) ?_
  obtain ⟨T1, X1, e1, st1⟩ := getF X0 hx hZ hown (host := "") (Or.inl (hw _ (List.mem_of_getElem? (i := 53) rfl))) Via.refl e0 F (g := (mkF m 1 #[.val (.ref t)] [(.ref t)])) rfl rfl (hb hby own_d8_1)
  refine OwnGo.back (T1.setTop (mkF m 4 #[.val (.ref t)] [(.long v)])) (fun tg kk => st1 _ kk) ?_
  obtain ⟨fs, hr, hrun, hended, hW, hsame⟩ := X1.leave (v := some (.long v)) (fun h => by rw [Bd.returns] at h; cases h)
  refine ⟨_, _, ?_, hrun, hended, _, _, rfl, ?_, ⟨_, rfl⟩, hW, hsame.mono (by decide) (by decide)⟩
  · exact own_retJ X1 hx Bd.returns (hb hby own_d8_4) hr
  · show own_g1_Q Z t v h0 n0 _ T1.heap _
    rw [e1]
    exact ⟨rfl, N0, rfl⟩
theorem own_g2_ef (m : MethodId) (x0 : Addr) : entryFrame m #[(.ref x0)] 1 = mkF m 0 #[.val (.ref x0)] [] := by first | (simp [entryFrame, mkF, argsToLocals, Value.category]; done) | rfl
def own_g2_Q (Z : State) (t : Addr) (v : Int64) (h0 : Heap) (n0 : Nat) (rv : Option Value) (hN : Heap) (LL : List Loc) : Prop := rv = some (.long v) ∧ Fr n0 LL ∧ hN = h0
set_option maxRecDepth 65536 in
set_option maxHeartbeats 40000000 in
theorem own_g2 (l : Launch) (Z : State) (a0 : Array Value) (hw : ∀ d ∈ tables_1, d.before a0 Z = true) (ws : List Jvm.Cond) (t : Addr) (v : Int64) (h0 : Heap) (n0 : Nat) (Z0 : n0 ≤ h0.size) (F : Fld Z h0 t "com/example/tallyframe/tallyframe/Tally" "releasedObjects" "J" (.long v)) :
    MetFree l (⟨"com/example/tallyframe/tallyframe/Tally", "releasedObjects", "()J"⟩ : MethodName) (head1 (Jvm.Cond.code (⟨"com/example/tallyframe/tallyframe/Tally", "releasedObjects", "()J"⟩ : MethodName) prog_25_method_4_code 1 (some .long) :: ws) ({ frames := 0, cells := 0, slots := 0, locals := 0 } : Room)) (fun aa UU => aa = #[(.ref t)] ∧ Z.Warmed39 UU.vm ∧ UU.heap = h0) (fun _ _ _ _ _ => True) (fun _ UU oo UU' => ∃ rv LL, oo = .returned rv ∧ own_g2_Q Z t v h0 n0 rv UU'.heap LL ∧ FrameEnd UU oo UU' LL ({ frames := 0, cells := 0, slots := 0, locals := 0 } : Room).cells ({ frames := 0, cells := 0, slots := 0, locals := 0 } : Room).slots) := by
  refine MetFree.of_bodySF (plainFor_of_name own_pn4) hisR ?_
  intro p e s m args below meth c s₁ Bd hml0 hP hK
  obtain ⟨rfl, hZ, hh⟩ := hP
  have hx := Bd.exec
  have hby := Bd.bytes
  have hml : c.maxLocals = 1 := hml0
  have hown : s.vm.findClass "com/example/tallyframe/tallyframe/Tally" = some m.cls := findClass_of_methodNamed Bd.named
  have hnm := (name_of_methodNamed Bd.named Bd.method).1
  have X0 : Stand p l e ({ frames := 0, cells := 0, slots := 0, locals := 0 } : Room) s m #[(.ref t)] below meth c s₁ [] 0 0 := Stand.of_body Bd
  have e0 : s₁.heap = h0 := by rw [← hh, Bd.state]; rfl
  have N0 := Fr.nil n0
  have K0 : Keep h0 h0 [] := Keep.refl h0 _
  refine (?_ : OwnGo p.tables e below (fun UU' oo => ∃ rv LL, oo = .returned rv ∧ own_g2_Q Z t v h0 n0 rv UU'.heap LL ∧ FrameEnd s oo UU' LL ({ frames := 0, cells := 0, slots := 0, locals := 0 } : Room).cells ({ frames := 0, cells := 0, slots := 0, locals := 0 } : Room).slots) _)
  refine OwnGo.back (s₁.setTop (mkF m 0 #[.val (.ref t)] [])) (fun tg kk => castTop (own_g2_ef m t) kk) ?_
  refine OwnGo.back (s₁.setTop (mkF m 1 #[.val (.ref t)] [(.ref t)])) (fun tg kk => XS.aloadN X0.here hx rfl (hb hby own_d9_0) rfl rfl kk) ?_
  obtain ⟨T1, X1, e1, st1⟩ := getF X0 hx hZ hown (host := "") (Or.inl (hw _ (List.mem_of_getElem? (i := 55) rfl))) Via.refl e0 F (g := (mkF m 1 #[.val (.ref t)] [(.ref t)])) rfl rfl (hb hby own_d9_1)
  refine OwnGo.back (T1.setTop (mkF m 4 #[.val (.ref t)] [(.long v)])) (fun tg kk => st1 _ kk) ?_
  obtain ⟨fs, hr, hrun, hended, hW, hsame⟩ := X1.leave (v := some (.long v)) (fun h => by rw [Bd.returns] at h; cases h)
  refine ⟨_, _, ?_, hrun, hended, _, _, rfl, ?_, ⟨_, rfl⟩, hW, hsame.mono (by decide) (by decide)⟩
  · exact own_retJ X1 hx Bd.returns (hb hby own_d9_4) hr
  · show own_g2_Q Z t v h0 n0 _ T1.heap _
    rw [e1]
    exact ⟨rfl, N0, rfl⟩
theorem own_g3_ef (m : MethodId) (x0 : Addr) : entryFrame m #[(.ref x0)] 1 = mkF m 0 #[.val (.ref x0)] [] := by first | (simp [entryFrame, mkF, argsToLocals, Value.category]; done) | rfl
def own_g3_Q (Z : State) (t : Addr) (v : Int64) (h0 : Heap) (n0 : Nat) (rv : Option Value) (hN : Heap) (LL : List Loc) : Prop := rv = some (.long v) ∧ Fr n0 LL ∧ hN = h0
set_option maxRecDepth 65536 in
set_option maxHeartbeats 40000000 in
theorem own_g3 (l : Launch) (Z : State) (a0 : Array Value) (hw : ∀ d ∈ tables_1, d.before a0 Z = true) (ws : List Jvm.Cond) (t : Addr) (v : Int64) (h0 : Heap) (n0 : Nat) (Z0 : n0 ≤ h0.size) (F : Fld Z h0 t "com/example/tallyframe/tallyframe/Tally" "releasedBytes" "J" (.long v)) :
    MetFree l (⟨"com/example/tallyframe/tallyframe/Tally", "releasedBytes", "()J"⟩ : MethodName) (head1 (Jvm.Cond.code (⟨"com/example/tallyframe/tallyframe/Tally", "releasedBytes", "()J"⟩ : MethodName) prog_25_method_5_code 1 (some .long) :: ws) ({ frames := 0, cells := 0, slots := 0, locals := 0 } : Room)) (fun aa UU => aa = #[(.ref t)] ∧ Z.Warmed39 UU.vm ∧ UU.heap = h0) (fun _ _ _ _ _ => True) (fun _ UU oo UU' => ∃ rv LL, oo = .returned rv ∧ own_g3_Q Z t v h0 n0 rv UU'.heap LL ∧ FrameEnd UU oo UU' LL ({ frames := 0, cells := 0, slots := 0, locals := 0 } : Room).cells ({ frames := 0, cells := 0, slots := 0, locals := 0 } : Room).slots) := by
  refine MetFree.of_bodySF (plainFor_of_name own_pn4) hisR ?_
  intro p e s m args below meth c s₁ Bd hml0 hP hK
  obtain ⟨rfl, hZ, hh⟩ := hP
  have hx := Bd.exec
  have hby := Bd.bytes
  have hml : c.maxLocals = 1 := hml0
  have hown : s.vm.findClass "com/example/tallyframe/tallyframe/Tally" = some m.cls := findClass_of_methodNamed Bd.named
  have hnm := (name_of_methodNamed Bd.named Bd.method).1
  have X0 : Stand p l e ({ frames := 0, cells := 0, slots := 0, locals := 0 } : Room) s m #[(.ref t)] below meth c s₁ [] 0 0 := Stand.of_body Bd
  have e0 : s₁.heap = h0 := by rw [← hh, Bd.state]; rfl
  have N0 := Fr.nil n0
  have K0 : Keep h0 h0 [] := Keep.refl h0 _
  refine (?_ : OwnGo p.tables e below (fun UU' oo => ∃ rv LL, oo = .returned rv ∧ own_g3_Q Z t v h0 n0 rv UU'.heap LL ∧ FrameEnd s oo UU' LL ({ frames := 0, cells := 0, slots := 0, locals := 0 } : Room).cells ({ frames := 0, cells := 0, slots := 0, locals := 0 } : Room).slots) _)
  refine OwnGo.back (s₁.setTop (mkF m 0 #[.val (.ref t)] [])) (fun tg kk => castTop (own_g3_ef m t) kk) ?_
  refine OwnGo.back (s₁.setTop (mkF m 1 #[.val (.ref t)] [(.ref t)])) (fun tg kk => XS.aloadN X0.here hx rfl (hb hby own_d10_0) rfl rfl kk) ?_
  obtain ⟨T1, X1, e1, st1⟩ := getF X0 hx hZ hown (host := "") (Or.inl (hw _ (List.mem_of_getElem? (i := 57) rfl))) Via.refl e0 F (g := (mkF m 1 #[.val (.ref t)] [(.ref t)])) rfl rfl (hb hby own_d10_1)
  refine OwnGo.back (T1.setTop (mkF m 4 #[.val (.ref t)] [(.long v)])) (fun tg kk => st1 _ kk) ?_
  obtain ⟨fs, hr, hrun, hended, hW, hsame⟩ := X1.leave (v := some (.long v)) (fun h => by rw [Bd.returns] at h; cases h)
  refine ⟨_, _, ?_, hrun, hended, _, _, rfl, ?_, ⟨_, rfl⟩, hW, hsame.mono (by decide) (by decide)⟩
  · exact own_retJ X1 hx Bd.returns (hb hby own_d10_4) hr
  · show own_g3_Q Z t v h0 n0 _ T1.heap _
    rw [e1]
    exact ⟨rfl, N0, rfl⟩
theorem own_law_ef (m : MethodId) (x0 : Int64) (x1 : Int64) (x2 : Int64) (x3 : Int32) : entryFrame m #[(.long x0), (.long x1), (.long x2), (.int x3)] maxLocals = mkF m 0 #[.val (.long x0), .second, .val (.long x1), .second, .val (.long x2), .second, .val (.int x3), .unset, .unset, .unset, .unset, .unset, .unset, .unset, .unset, .unset, .unset, .unset, .unset, .unset, .unset, .unset, .unset] [] := by first | (simp [entryFrame, mkF, argsToLocals, Value.category, maxLocals]; done) | rfl
def own_law_Q (Z : State) (p1 : Int64) (p2 : Int64) (p3 : Int64) (p4 : Int32) (h0 : Heap) (n0 : Nat) (rv : Option Value) (hN : Heap) (LL : List Loc) : Prop := rv = some (.int (1 : Int32)) ∧ Fr n0 LL ∧ Keep h0 hN []
set_option maxRecDepth 65536 in
set_option maxHeartbeats 40000000 in
theorem own_law (l : Launch) (Z : State) (a0 : Array Value) (hw : ∀ d ∈ tables_1, d.before a0 Z = true) (ws : List Jvm.Cond) (p1 : Int64) (p2 : Int64) (p3 : Int64) (p4 : Int32) (h0 : Heap) (n0 : Nat) (Z0 : n0 ≤ h0.size) :
    MetFree l x (head1 (Jvm.Cond.code x code maxLocals ret :: ws) room_1) (fun aa UU => aa = #[(.long p1), (.long p2), (.long p3), (.int p4)] ∧ Z.Warmed39 UU.vm ∧ UU.heap = h0) (fun _ _ _ _ _ => True) (fun _ UU oo UU' => ∃ rv LL, oo = .returned rv ∧ own_law_Q Z p1 p2 p3 p4 h0 n0 rv UU'.heap LL ∧ FrameEnd UU oo UU' LL room_1.cells room_1.slots) := by
  refine MetFree.of_bodySF (plainFor_of_name own_pn3) hisR ?_
  intro p e s m args below meth c s₁ Bd hml0 hP hK
  obtain ⟨rfl, hZ, hh⟩ := hP
  have hx := Bd.exec
  have hby := Bd.bytes
  have hml : c.maxLocals = 23 := hml0
  have hown : s.vm.findClass "com/example/tallyframe/tallyframe/LedgerTallyPinLaw" = some m.cls := findClass_of_methodNamed Bd.named
  have hnm := (name_of_methodNamed Bd.named Bd.method).1
  have X0 : Stand p l e room_1 s m #[(.long p1), (.long p2), (.long p3), (.int p4)] below meth c s₁ [] 0 0 := Stand.of_body Bd
  have e0 : s₁.heap = h0 := by rw [← hh, Bd.state]; rfl
  have N0 := Fr.nil n0
  have K0 : Keep h0 h0 [] := Keep.refl h0 _
  refine (?_ : OwnGo p.tables e below (fun UU' oo => ∃ rv LL, oo = .returned rv ∧ own_law_Q Z p1 p2 p3 p4 h0 n0 rv UU'.heap LL ∧ FrameEnd s oo UU' LL room_1.cells room_1.slots) _)
  refine OwnGo.back (s₁.setTop (mkF m 0 #[.val (.long p1), .second, .val (.long p2), .second, .val (.long p3), .second, .val (.int p4), .unset, .unset, .unset, .unset, .unset, .unset, .unset, .unset, .unset, .unset, .unset, .unset, .unset, .unset, .unset, .unset] [])) (fun tg kk => castTop (own_law_ef m p1 p2 p3 p4) kk) ?_
  obtain ⟨_, ⟨m2, rfl, hm3⟩, dm4⟩ : OwnMg p.tables e below (fun st' => ∃ (m2 : Int32), st' = s₁.setTop (mkF m 12 #[.val (.long p1), .second, .val (.long p2), .second, .val (.long p3), .second, .val (.int p4), .unset, .unset, .unset, .unset, .unset, .unset, .unset, .unset, .unset, .unset, .unset, .unset, .unset, .unset, .unset, .unset] [(.int m2)]) ∧ ((((p4 &&& (1 : Int32)) = (0 : Int32)) ∧ m2 = (0 : Int32)) ∨ ((¬ ((p4 &&& (1 : Int32)) = (0 : Int32))) ∧ m2 = (1 : Int32)))) (s₁.setTop (mkF m 0 #[.val (.long p1), .second, .val (.long p2), .second, .val (.long p3), .second, .val (.int p4), .unset, .unset, .unset, .unset, .unset, .unset, .unset, .unset, .unset, .unset, .unset, .unset, .unset, .unset, .unset, .unset] [])) := by
    refine OwnMg.back (s₁.setTop (mkF m 2 #[.val (.long p1), .second, .val (.long p2), .second, .val (.long p3), .second, .val (.int p4), .unset, .unset, .unset, .unset, .unset, .unset, .unset, .unset, .unset, .unset, .unset, .unset, .unset, .unset, .unset, .unset] [(.int p4)])) (fun tg kk => XS.iload X0.here hx rfl (hb hby at_0) rfl kk) ?_
    refine OwnMg.back (s₁.setTop (mkF m 3 #[.val (.long p1), .second, .val (.long p2), .second, .val (.long p3), .second, .val (.int p4), .unset, .unset, .unset, .unset, .unset, .unset, .unset, .unset, .unset, .unset, .unset, .unset, .unset, .unset, .unset, .unset] [(.int (1 : Int32)), (.int p4)])) (fun tg kk => XS.iconst X0.here hx rfl (hb hby at_2) kk) ?_
    refine OwnMg.back (s₁.setTop (mkF m 4 #[.val (.long p1), .second, .val (.long p2), .second, .val (.long p3), .second, .val (.int p4), .unset, .unset, .unset, .unset, .unset, .unset, .unset, .unset, .unset, .unset, .unset, .unset, .unset, .unset, .unset, .unset] [(.int (p4 &&& (1 : Int32)))])) (fun tg kk => XS.iand X0.here hx rfl (hb hby at_3) rfl kk) ?_
    by_cases hc10 : (p4 &&& (1 : Int32)) = (0 : Int32)
    ·
      refine OwnMg.back (s₁.setTop (mkF m 11 #[.val (.long p1), .second, .val (.long p2), .second, .val (.long p3), .second, .val (.int p4), .unset, .unset, .unset, .unset, .unset, .unset, .unset, .unset, .unset, .unset, .unset, .unset, .unset, .unset, .unset, .unset] [])) (fun tg kk => XS.ifYes X0.here hx rfl (pc0 := 4) (pc' := 11) rfl (hb hby at_4) rfl ((if0 _ _).trans (teq hc10).1) (by decide) (by decide) kk) ?_
      refine OwnMg.back (s₁.setTop (mkF m 12 #[.val (.long p1), .second, .val (.long p2), .second, .val (.long p3), .second, .val (.int p4), .unset, .unset, .unset, .unset, .unset, .unset, .unset, .unset, .unset, .unset, .unset, .unset, .unset, .unset, .unset, .unset] [(.int (0 : Int32))])) (fun tg kk => XS.iconst X0.here hx rfl (hb hby at_11) kk) ?_
      exact ⟨_, ⟨(0 : Int32), rfl, Or.inl ⟨hc10, rfl⟩⟩, fun tg kk => kk⟩
    ·
      refine OwnMg.back (s₁.setTop (mkF m 7 #[.val (.long p1), .second, .val (.long p2), .second, .val (.long p3), .second, .val (.int p4), .unset, .unset, .unset, .unset, .unset, .unset, .unset, .unset, .unset, .unset, .unset, .unset, .unset, .unset, .unset, .unset] [])) (fun tg kk => XS.ifNo X0.here hx rfl (hb hby at_4) rfl ((if0 _ _).trans (feq hc10).1) kk) ?_
      refine OwnMg.back (s₁.setTop (mkF m 8 #[.val (.long p1), .second, .val (.long p2), .second, .val (.long p3), .second, .val (.int p4), .unset, .unset, .unset, .unset, .unset, .unset, .unset, .unset, .unset, .unset, .unset, .unset, .unset, .unset, .unset, .unset] [(.int (1 : Int32))])) (fun tg kk => XS.iconst X0.here hx rfl (hb hby at_7) kk) ?_
      refine OwnMg.back (s₁.setTop (mkF m 12 #[.val (.long p1), .second, .val (.long p2), .second, .val (.long p3), .second, .val (.int p4), .unset, .unset, .unset, .unset, .unset, .unset, .unset, .unset, .unset, .unset, .unset, .unset, .unset, .unset, .unset, .unset] [(.int (1 : Int32))])) (fun tg kk => XS.goto X0.here hx rfl (pc0 := 8) (pc' := 12) rfl (hb hby at_8) (by decide) (by decide) kk) ?_
      exact ⟨_, ⟨(1 : Int32), rfl, Or.inr (⟨hc10, rfl⟩)⟩, fun tg kk => kk⟩
  refine OwnGo.back (s₁.setTop (mkF m 12 #[.val (.long p1), .second, .val (.long p2), .second, .val (.long p3), .second, .val (.int p4), .unset, .unset, .unset, .unset, .unset, .unset, .unset, .unset, .unset, .unset, .unset, .unset, .unset, .unset, .unset, .unset] [(.int m2)])) dm4 ?_
  refine OwnGo.back (s₁.setTop (mkF m 14 #[.val (.long p1), .second, .val (.long p2), .second, .val (.long p3), .second, .val (.int p4), .val (.int m2), .unset, .unset, .unset, .unset, .unset, .unset, .unset, .unset, .unset, .unset, .unset, .unset, .unset, .unset, .unset] [])) (fun tg kk => XS.istore X0.here hx rfl (hb hby at_12) rfl (l' := #[.val (.long p1), .second, .val (.long p2), .second, .val (.long p3), .second, .val (.int p4), .val (.int m2), .unset, .unset, .unset, .unset, .unset, .unset, .unset, .unset, .unset, .unset, .unset, .unset, .unset, .unset, .unset]) rfl kk) ?_
  obtain ⟨_, ⟨m12, rfl, hm13⟩, dm14⟩ : OwnMg p.tables e below (fun st' => ∃ (m12 : Int32), st' = s₁.setTop (mkF m 26 #[.val (.long p1), .second, .val (.long p2), .second, .val (.long p3), .second, .val (.int p4), .val (.int m2), .unset, .unset, .unset, .unset, .unset, .unset, .unset, .unset, .unset, .unset, .unset, .unset, .unset, .unset, .unset] [(.int m12)]) ∧ ((((p4 &&& (2 : Int32)) = (0 : Int32)) ∧ m12 = (0 : Int32)) ∨ ((¬ ((p4 &&& (2 : Int32)) = (0 : Int32))) ∧ m12 = (1 : Int32)))) (s₁.setTop (mkF m 14 #[.val (.long p1), .second, .val (.long p2), .second, .val (.long p3), .second, .val (.int p4), .val (.int m2), .unset, .unset, .unset, .unset, .unset, .unset, .unset, .unset, .unset, .unset, .unset, .unset, .unset, .unset, .unset] [])) := by
    refine OwnMg.back (s₁.setTop (mkF m 16 #[.val (.long p1), .second, .val (.long p2), .second, .val (.long p3), .second, .val (.int p4), .val (.int m2), .unset, .unset, .unset, .unset, .unset, .unset, .unset, .unset, .unset, .unset, .unset, .unset, .unset, .unset, .unset] [(.int p4)])) (fun tg kk => XS.iload X0.here hx rfl (hb hby at_14) rfl kk) ?_
    refine OwnMg.back (s₁.setTop (mkF m 17 #[.val (.long p1), .second, .val (.long p2), .second, .val (.long p3), .second, .val (.int p4), .val (.int m2), .unset, .unset, .unset, .unset, .unset, .unset, .unset, .unset, .unset, .unset, .unset, .unset, .unset, .unset, .unset] [(.int (2 : Int32)), (.int p4)])) (fun tg kk => XS.iconst X0.here hx rfl (hb hby at_16) kk) ?_
    refine OwnMg.back (s₁.setTop (mkF m 18 #[.val (.long p1), .second, .val (.long p2), .second, .val (.long p3), .second, .val (.int p4), .val (.int m2), .unset, .unset, .unset, .unset, .unset, .unset, .unset, .unset, .unset, .unset, .unset, .unset, .unset, .unset, .unset] [(.int (p4 &&& (2 : Int32)))])) (fun tg kk => XS.iand X0.here hx rfl (hb hby at_17) rfl kk) ?_
    by_cases hc20 : (p4 &&& (2 : Int32)) = (0 : Int32)
    ·
      refine OwnMg.back (s₁.setTop (mkF m 25 #[.val (.long p1), .second, .val (.long p2), .second, .val (.long p3), .second, .val (.int p4), .val (.int m2), .unset, .unset, .unset, .unset, .unset, .unset, .unset, .unset, .unset, .unset, .unset, .unset, .unset, .unset, .unset] [])) (fun tg kk => XS.ifYes X0.here hx rfl (pc0 := 18) (pc' := 25) rfl (hb hby at_18) rfl ((if0 _ _).trans (teq hc20).1) (by decide) (by decide) kk) ?_
      refine OwnMg.back (s₁.setTop (mkF m 26 #[.val (.long p1), .second, .val (.long p2), .second, .val (.long p3), .second, .val (.int p4), .val (.int m2), .unset, .unset, .unset, .unset, .unset, .unset, .unset, .unset, .unset, .unset, .unset, .unset, .unset, .unset, .unset] [(.int (0 : Int32))])) (fun tg kk => XS.iconst X0.here hx rfl (hb hby at_25) kk) ?_
      exact ⟨_, ⟨(0 : Int32), rfl, Or.inl ⟨hc20, rfl⟩⟩, fun tg kk => kk⟩
    ·
      refine OwnMg.back (s₁.setTop (mkF m 21 #[.val (.long p1), .second, .val (.long p2), .second, .val (.long p3), .second, .val (.int p4), .val (.int m2), .unset, .unset, .unset, .unset, .unset, .unset, .unset, .unset, .unset, .unset, .unset, .unset, .unset, .unset, .unset] [])) (fun tg kk => XS.ifNo X0.here hx rfl (hb hby at_18) rfl ((if0 _ _).trans (feq hc20).1) kk) ?_
      refine OwnMg.back (s₁.setTop (mkF m 22 #[.val (.long p1), .second, .val (.long p2), .second, .val (.long p3), .second, .val (.int p4), .val (.int m2), .unset, .unset, .unset, .unset, .unset, .unset, .unset, .unset, .unset, .unset, .unset, .unset, .unset, .unset, .unset] [(.int (1 : Int32))])) (fun tg kk => XS.iconst X0.here hx rfl (hb hby at_21) kk) ?_
      refine OwnMg.back (s₁.setTop (mkF m 26 #[.val (.long p1), .second, .val (.long p2), .second, .val (.long p3), .second, .val (.int p4), .val (.int m2), .unset, .unset, .unset, .unset, .unset, .unset, .unset, .unset, .unset, .unset, .unset, .unset, .unset, .unset, .unset] [(.int (1 : Int32))])) (fun tg kk => XS.goto X0.here hx rfl (pc0 := 22) (pc' := 26) rfl (hb hby at_22) (by decide) (by decide) kk) ?_
      exact ⟨_, ⟨(1 : Int32), rfl, Or.inr (⟨hc20, rfl⟩)⟩, fun tg kk => kk⟩
  refine OwnGo.back (s₁.setTop (mkF m 26 #[.val (.long p1), .second, .val (.long p2), .second, .val (.long p3), .second, .val (.int p4), .val (.int m2), .unset, .unset, .unset, .unset, .unset, .unset, .unset, .unset, .unset, .unset, .unset, .unset, .unset, .unset, .unset] [(.int m12)])) dm14 ?_
  refine OwnGo.back (s₁.setTop (mkF m 28 #[.val (.long p1), .second, .val (.long p2), .second, .val (.long p3), .second, .val (.int p4), .val (.int m2), .val (.int m12), .unset, .unset, .unset, .unset, .unset, .unset, .unset, .unset, .unset, .unset, .unset, .unset, .unset, .unset] [])) (fun tg kk => XS.istore X0.here hx rfl (hb hby at_26) rfl (l' := #[.val (.long p1), .second, .val (.long p2), .second, .val (.long p3), .second, .val (.int p4), .val (.int m2), .val (.int m12), .unset, .unset, .unset, .unset, .unset, .unset, .unset, .unset, .unset, .unset, .unset, .unset, .unset, .unset]) rfl kk) ?_
  obtain ⟨_, ⟨m22, rfl, hm23⟩, dm24⟩ : OwnMg p.tables e below (fun st' => ∃ (m22 : Int32), st' = s₁.setTop (mkF m 40 #[.val (.long p1), .second, .val (.long p2), .second, .val (.long p3), .second, .val (.int p4), .val (.int m2), .val (.int m12), .unset, .unset, .unset, .unset, .unset, .unset, .unset, .unset, .unset, .unset, .unset, .unset, .unset, .unset] [(.int m22)]) ∧ ((((p4 &&& (4 : Int32)) = (0 : Int32)) ∧ m22 = (0 : Int32)) ∨ ((¬ ((p4 &&& (4 : Int32)) = (0 : Int32))) ∧ m22 = (1 : Int32)))) (s₁.setTop (mkF m 28 #[.val (.long p1), .second, .val (.long p2), .second, .val (.long p3), .second, .val (.int p4), .val (.int m2), .val (.int m12), .unset, .unset, .unset, .unset, .unset, .unset, .unset, .unset, .unset, .unset, .unset, .unset, .unset, .unset] [])) := by
    refine OwnMg.back (s₁.setTop (mkF m 30 #[.val (.long p1), .second, .val (.long p2), .second, .val (.long p3), .second, .val (.int p4), .val (.int m2), .val (.int m12), .unset, .unset, .unset, .unset, .unset, .unset, .unset, .unset, .unset, .unset, .unset, .unset, .unset, .unset] [(.int p4)])) (fun tg kk => XS.iload X0.here hx rfl (hb hby at_28) rfl kk) ?_
    refine OwnMg.back (s₁.setTop (mkF m 31 #[.val (.long p1), .second, .val (.long p2), .second, .val (.long p3), .second, .val (.int p4), .val (.int m2), .val (.int m12), .unset, .unset, .unset, .unset, .unset, .unset, .unset, .unset, .unset, .unset, .unset, .unset, .unset, .unset] [(.int (4 : Int32)), (.int p4)])) (fun tg kk => XS.iconst X0.here hx rfl (hb hby at_30) kk) ?_
    refine OwnMg.back (s₁.setTop (mkF m 32 #[.val (.long p1), .second, .val (.long p2), .second, .val (.long p3), .second, .val (.int p4), .val (.int m2), .val (.int m12), .unset, .unset, .unset, .unset, .unset, .unset, .unset, .unset, .unset, .unset, .unset, .unset, .unset, .unset] [(.int (p4 &&& (4 : Int32)))])) (fun tg kk => XS.iand X0.here hx rfl (hb hby at_31) rfl kk) ?_
    by_cases hc30 : (p4 &&& (4 : Int32)) = (0 : Int32)
    ·
      refine OwnMg.back (s₁.setTop (mkF m 39 #[.val (.long p1), .second, .val (.long p2), .second, .val (.long p3), .second, .val (.int p4), .val (.int m2), .val (.int m12), .unset, .unset, .unset, .unset, .unset, .unset, .unset, .unset, .unset, .unset, .unset, .unset, .unset, .unset] [])) (fun tg kk => XS.ifYes X0.here hx rfl (pc0 := 32) (pc' := 39) rfl (hb hby at_32) rfl ((if0 _ _).trans (teq hc30).1) (by decide) (by decide) kk) ?_
      refine OwnMg.back (s₁.setTop (mkF m 40 #[.val (.long p1), .second, .val (.long p2), .second, .val (.long p3), .second, .val (.int p4), .val (.int m2), .val (.int m12), .unset, .unset, .unset, .unset, .unset, .unset, .unset, .unset, .unset, .unset, .unset, .unset, .unset, .unset] [(.int (0 : Int32))])) (fun tg kk => XS.iconst X0.here hx rfl (hb hby at_39) kk) ?_
      exact ⟨_, ⟨(0 : Int32), rfl, Or.inl ⟨hc30, rfl⟩⟩, fun tg kk => kk⟩
    ·
      refine OwnMg.back (s₁.setTop (mkF m 35 #[.val (.long p1), .second, .val (.long p2), .second, .val (.long p3), .second, .val (.int p4), .val (.int m2), .val (.int m12), .unset, .unset, .unset, .unset, .unset, .unset, .unset, .unset, .unset, .unset, .unset, .unset, .unset, .unset] [])) (fun tg kk => XS.ifNo X0.here hx rfl (hb hby at_32) rfl ((if0 _ _).trans (feq hc30).1) kk) ?_
      refine OwnMg.back (s₁.setTop (mkF m 36 #[.val (.long p1), .second, .val (.long p2), .second, .val (.long p3), .second, .val (.int p4), .val (.int m2), .val (.int m12), .unset, .unset, .unset, .unset, .unset, .unset, .unset, .unset, .unset, .unset, .unset, .unset, .unset, .unset] [(.int (1 : Int32))])) (fun tg kk => XS.iconst X0.here hx rfl (hb hby at_35) kk) ?_
      refine OwnMg.back (s₁.setTop (mkF m 40 #[.val (.long p1), .second, .val (.long p2), .second, .val (.long p3), .second, .val (.int p4), .val (.int m2), .val (.int m12), .unset, .unset, .unset, .unset, .unset, .unset, .unset, .unset, .unset, .unset, .unset, .unset, .unset, .unset] [(.int (1 : Int32))])) (fun tg kk => XS.goto X0.here hx rfl (pc0 := 36) (pc' := 40) rfl (hb hby at_36) (by decide) (by decide) kk) ?_
      exact ⟨_, ⟨(1 : Int32), rfl, Or.inr (⟨hc30, rfl⟩)⟩, fun tg kk => kk⟩
  refine OwnGo.back (s₁.setTop (mkF m 40 #[.val (.long p1), .second, .val (.long p2), .second, .val (.long p3), .second, .val (.int p4), .val (.int m2), .val (.int m12), .unset, .unset, .unset, .unset, .unset, .unset, .unset, .unset, .unset, .unset, .unset, .unset, .unset, .unset] [(.int m22)])) dm24 ?_
  refine OwnGo.back (s₁.setTop (mkF m 42 #[.val (.long p1), .second, .val (.long p2), .second, .val (.long p3), .second, .val (.int p4), .val (.int m2), .val (.int m12), .val (.int m22), .unset, .unset, .unset, .unset, .unset, .unset, .unset, .unset, .unset, .unset, .unset, .unset, .unset] [])) (fun tg kk => XS.istore X0.here hx rfl (hb hby at_40) rfl (l' := #[.val (.long p1), .second, .val (.long p2), .second, .val (.long p3), .second, .val (.int p4), .val (.int m2), .val (.int m12), .val (.int m22), .unset, .unset, .unset, .unset, .unset, .unset, .unset, .unset, .unset, .unset, .unset, .unset, .unset]) rfl kk) ?_
  obtain ⟨_, ⟨m32, rfl, hm33⟩, dm34⟩ : OwnMg p.tables e below (fun st' => ∃ (m32 : Int32), st' = s₁.setTop (mkF m 55 #[.val (.long p1), .second, .val (.long p2), .second, .val (.long p3), .second, .val (.int p4), .val (.int m2), .val (.int m12), .val (.int m22), .unset, .unset, .unset, .unset, .unset, .unset, .unset, .unset, .unset, .unset, .unset, .unset, .unset] [(.int m32)]) ∧ ((((p4 &&& (8 : Int32)) = (0 : Int32)) ∧ m32 = (0 : Int32)) ∨ ((¬ ((p4 &&& (8 : Int32)) = (0 : Int32))) ∧ m32 = (1 : Int32)))) (s₁.setTop (mkF m 42 #[.val (.long p1), .second, .val (.long p2), .second, .val (.long p3), .second, .val (.int p4), .val (.int m2), .val (.int m12), .val (.int m22), .unset, .unset, .unset, .unset, .unset, .unset, .unset, .unset, .unset, .unset, .unset, .unset, .unset] [])) := by
    refine OwnMg.back (s₁.setTop (mkF m 44 #[.val (.long p1), .second, .val (.long p2), .second, .val (.long p3), .second, .val (.int p4), .val (.int m2), .val (.int m12), .val (.int m22), .unset, .unset, .unset, .unset, .unset, .unset, .unset, .unset, .unset, .unset, .unset, .unset, .unset] [(.int p4)])) (fun tg kk => XS.iload X0.here hx rfl (hb hby at_42) rfl kk) ?_
    refine OwnMg.back (s₁.setTop (mkF m 46 #[.val (.long p1), .second, .val (.long p2), .second, .val (.long p3), .second, .val (.int p4), .val (.int m2), .val (.int m12), .val (.int m22), .unset, .unset, .unset, .unset, .unset, .unset, .unset, .unset, .unset, .unset, .unset, .unset, .unset] [(.int (8 : Int32)), (.int p4)])) (fun tg kk => XS.bipush X0.here hx rfl (hb hby at_44) kk) ?_
    refine OwnMg.back (s₁.setTop (mkF m 47 #[.val (.long p1), .second, .val (.long p2), .second, .val (.long p3), .second, .val (.int p4), .val (.int m2), .val (.int m12), .val (.int m22), .unset, .unset, .unset, .unset, .unset, .unset, .unset, .unset, .unset, .unset, .unset, .unset, .unset] [(.int (p4 &&& (8 : Int32)))])) (fun tg kk => XS.iand X0.here hx rfl (hb hby at_46) rfl kk) ?_
    by_cases hc40 : (p4 &&& (8 : Int32)) = (0 : Int32)
    ·
      refine OwnMg.back (s₁.setTop (mkF m 54 #[.val (.long p1), .second, .val (.long p2), .second, .val (.long p3), .second, .val (.int p4), .val (.int m2), .val (.int m12), .val (.int m22), .unset, .unset, .unset, .unset, .unset, .unset, .unset, .unset, .unset, .unset, .unset, .unset, .unset] [])) (fun tg kk => XS.ifYes X0.here hx rfl (pc0 := 47) (pc' := 54) rfl (hb hby at_47) rfl ((if0 _ _).trans (teq hc40).1) (by decide) (by decide) kk) ?_
      refine OwnMg.back (s₁.setTop (mkF m 55 #[.val (.long p1), .second, .val (.long p2), .second, .val (.long p3), .second, .val (.int p4), .val (.int m2), .val (.int m12), .val (.int m22), .unset, .unset, .unset, .unset, .unset, .unset, .unset, .unset, .unset, .unset, .unset, .unset, .unset] [(.int (0 : Int32))])) (fun tg kk => XS.iconst X0.here hx rfl (hb hby at_54) kk) ?_
      exact ⟨_, ⟨(0 : Int32), rfl, Or.inl ⟨hc40, rfl⟩⟩, fun tg kk => kk⟩
    ·
      refine OwnMg.back (s₁.setTop (mkF m 50 #[.val (.long p1), .second, .val (.long p2), .second, .val (.long p3), .second, .val (.int p4), .val (.int m2), .val (.int m12), .val (.int m22), .unset, .unset, .unset, .unset, .unset, .unset, .unset, .unset, .unset, .unset, .unset, .unset, .unset] [])) (fun tg kk => XS.ifNo X0.here hx rfl (hb hby at_47) rfl ((if0 _ _).trans (feq hc40).1) kk) ?_
      refine OwnMg.back (s₁.setTop (mkF m 51 #[.val (.long p1), .second, .val (.long p2), .second, .val (.long p3), .second, .val (.int p4), .val (.int m2), .val (.int m12), .val (.int m22), .unset, .unset, .unset, .unset, .unset, .unset, .unset, .unset, .unset, .unset, .unset, .unset, .unset] [(.int (1 : Int32))])) (fun tg kk => XS.iconst X0.here hx rfl (hb hby at_50) kk) ?_
      refine OwnMg.back (s₁.setTop (mkF m 55 #[.val (.long p1), .second, .val (.long p2), .second, .val (.long p3), .second, .val (.int p4), .val (.int m2), .val (.int m12), .val (.int m22), .unset, .unset, .unset, .unset, .unset, .unset, .unset, .unset, .unset, .unset, .unset, .unset, .unset] [(.int (1 : Int32))])) (fun tg kk => XS.goto X0.here hx rfl (pc0 := 51) (pc' := 55) rfl (hb hby at_51) (by decide) (by decide) kk) ?_
      exact ⟨_, ⟨(1 : Int32), rfl, Or.inr (⟨hc40, rfl⟩)⟩, fun tg kk => kk⟩
  refine OwnGo.back (s₁.setTop (mkF m 55 #[.val (.long p1), .second, .val (.long p2), .second, .val (.long p3), .second, .val (.int p4), .val (.int m2), .val (.int m12), .val (.int m22), .unset, .unset, .unset, .unset, .unset, .unset, .unset, .unset, .unset, .unset, .unset, .unset, .unset] [(.int m32)])) dm34 ?_
  refine OwnGo.back (s₁.setTop (mkF m 57 #[.val (.long p1), .second, .val (.long p2), .second, .val (.long p3), .second, .val (.int p4), .val (.int m2), .val (.int m12), .val (.int m22), .val (.int m32), .unset, .unset, .unset, .unset, .unset, .unset, .unset, .unset, .unset, .unset, .unset, .unset] [])) (fun tg kk => XS.istore X0.here hx rfl (hb hby at_55) rfl (l' := #[.val (.long p1), .second, .val (.long p2), .second, .val (.long p3), .second, .val (.int p4), .val (.int m2), .val (.int m12), .val (.int m22), .val (.int m32), .unset, .unset, .unset, .unset, .unset, .unset, .unset, .unset, .unset, .unset, .unset, .unset]) rfl kk) ?_
  obtain ⟨_, ⟨m42, rfl, hm43⟩, dm44⟩ : OwnMg p.tables e below (fun st' => ∃ (m42 : Int32), st' = s₁.setTop (mkF m 70 #[.val (.long p1), .second, .val (.long p2), .second, .val (.long p3), .second, .val (.int p4), .val (.int m2), .val (.int m12), .val (.int m22), .val (.int m32), .unset, .unset, .unset, .unset, .unset, .unset, .unset, .unset, .unset, .unset, .unset, .unset] [(.int m42)]) ∧ ((((p4 &&& (16 : Int32)) = (0 : Int32)) ∧ m42 = (0 : Int32)) ∨ ((¬ ((p4 &&& (16 : Int32)) = (0 : Int32))) ∧ m42 = (1 : Int32)))) (s₁.setTop (mkF m 57 #[.val (.long p1), .second, .val (.long p2), .second, .val (.long p3), .second, .val (.int p4), .val (.int m2), .val (.int m12), .val (.int m22), .val (.int m32), .unset, .unset, .unset, .unset, .unset, .unset, .unset, .unset, .unset, .unset, .unset, .unset] [])) := by
    refine OwnMg.back (s₁.setTop (mkF m 59 #[.val (.long p1), .second, .val (.long p2), .second, .val (.long p3), .second, .val (.int p4), .val (.int m2), .val (.int m12), .val (.int m22), .val (.int m32), .unset, .unset, .unset, .unset, .unset, .unset, .unset, .unset, .unset, .unset, .unset, .unset] [(.int p4)])) (fun tg kk => XS.iload X0.here hx rfl (hb hby at_57) rfl kk) ?_
    refine OwnMg.back (s₁.setTop (mkF m 61 #[.val (.long p1), .second, .val (.long p2), .second, .val (.long p3), .second, .val (.int p4), .val (.int m2), .val (.int m12), .val (.int m22), .val (.int m32), .unset, .unset, .unset, .unset, .unset, .unset, .unset, .unset, .unset, .unset, .unset, .unset] [(.int (16 : Int32)), (.int p4)])) (fun tg kk => XS.bipush X0.here hx rfl (hb hby at_59) kk) ?_
    refine OwnMg.back (s₁.setTop (mkF m 62 #[.val (.long p1), .second, .val (.long p2), .second, .val (.long p3), .second, .val (.int p4), .val (.int m2), .val (.int m12), .val (.int m22), .val (.int m32), .unset, .unset, .unset, .unset, .unset, .unset, .unset, .unset, .unset, .unset, .unset, .unset] [(.int (p4 &&& (16 : Int32)))])) (fun tg kk => XS.iand X0.here hx rfl (hb hby at_61) rfl kk) ?_
    by_cases hc50 : (p4 &&& (16 : Int32)) = (0 : Int32)
    ·
      refine OwnMg.back (s₁.setTop (mkF m 69 #[.val (.long p1), .second, .val (.long p2), .second, .val (.long p3), .second, .val (.int p4), .val (.int m2), .val (.int m12), .val (.int m22), .val (.int m32), .unset, .unset, .unset, .unset, .unset, .unset, .unset, .unset, .unset, .unset, .unset, .unset] [])) (fun tg kk => XS.ifYes X0.here hx rfl (pc0 := 62) (pc' := 69) rfl (hb hby at_62) rfl ((if0 _ _).trans (teq hc50).1) (by decide) (by decide) kk) ?_
      refine OwnMg.back (s₁.setTop (mkF m 70 #[.val (.long p1), .second, .val (.long p2), .second, .val (.long p3), .second, .val (.int p4), .val (.int m2), .val (.int m12), .val (.int m22), .val (.int m32), .unset, .unset, .unset, .unset, .unset, .unset, .unset, .unset, .unset, .unset, .unset, .unset] [(.int (0 : Int32))])) (fun tg kk => XS.iconst X0.here hx rfl (hb hby at_69) kk) ?_
      exact ⟨_, ⟨(0 : Int32), rfl, Or.inl ⟨hc50, rfl⟩⟩, fun tg kk => kk⟩
    ·
      refine OwnMg.back (s₁.setTop (mkF m 65 #[.val (.long p1), .second, .val (.long p2), .second, .val (.long p3), .second, .val (.int p4), .val (.int m2), .val (.int m12), .val (.int m22), .val (.int m32), .unset, .unset, .unset, .unset, .unset, .unset, .unset, .unset, .unset, .unset, .unset, .unset] [])) (fun tg kk => XS.ifNo X0.here hx rfl (hb hby at_62) rfl ((if0 _ _).trans (feq hc50).1) kk) ?_
      refine OwnMg.back (s₁.setTop (mkF m 66 #[.val (.long p1), .second, .val (.long p2), .second, .val (.long p3), .second, .val (.int p4), .val (.int m2), .val (.int m12), .val (.int m22), .val (.int m32), .unset, .unset, .unset, .unset, .unset, .unset, .unset, .unset, .unset, .unset, .unset, .unset] [(.int (1 : Int32))])) (fun tg kk => XS.iconst X0.here hx rfl (hb hby at_65) kk) ?_
      refine OwnMg.back (s₁.setTop (mkF m 70 #[.val (.long p1), .second, .val (.long p2), .second, .val (.long p3), .second, .val (.int p4), .val (.int m2), .val (.int m12), .val (.int m22), .val (.int m32), .unset, .unset, .unset, .unset, .unset, .unset, .unset, .unset, .unset, .unset, .unset, .unset] [(.int (1 : Int32))])) (fun tg kk => XS.goto X0.here hx rfl (pc0 := 66) (pc' := 70) rfl (hb hby at_66) (by decide) (by decide) kk) ?_
      exact ⟨_, ⟨(1 : Int32), rfl, Or.inr (⟨hc50, rfl⟩)⟩, fun tg kk => kk⟩
  refine OwnGo.back (s₁.setTop (mkF m 70 #[.val (.long p1), .second, .val (.long p2), .second, .val (.long p3), .second, .val (.int p4), .val (.int m2), .val (.int m12), .val (.int m22), .val (.int m32), .unset, .unset, .unset, .unset, .unset, .unset, .unset, .unset, .unset, .unset, .unset, .unset] [(.int m42)])) dm44 ?_
  refine OwnGo.back (s₁.setTop (mkF m 72 #[.val (.long p1), .second, .val (.long p2), .second, .val (.long p3), .second, .val (.int p4), .val (.int m2), .val (.int m12), .val (.int m22), .val (.int m32), .val (.int m42), .unset, .unset, .unset, .unset, .unset, .unset, .unset, .unset, .unset, .unset, .unset] [])) (fun tg kk => XS.istore X0.here hx rfl (hb hby at_70) rfl (l' := #[.val (.long p1), .second, .val (.long p2), .second, .val (.long p3), .second, .val (.int p4), .val (.int m2), .val (.int m12), .val (.int m22), .val (.int m32), .val (.int m42), .unset, .unset, .unset, .unset, .unset, .unset, .unset, .unset, .unset, .unset, .unset]) rfl kk) ?_
  obtain ⟨_, ⟨m52, rfl, hm53⟩, dm54⟩ : OwnMg p.tables e below (fun st' => ∃ (m52 : Int32), st' = s₁.setTop (mkF m 85 #[.val (.long p1), .second, .val (.long p2), .second, .val (.long p3), .second, .val (.int p4), .val (.int m2), .val (.int m12), .val (.int m22), .val (.int m32), .val (.int m42), .unset, .unset, .unset, .unset, .unset, .unset, .unset, .unset, .unset, .unset, .unset] [(.int m52)]) ∧ ((((p4 &&& (32 : Int32)) = (0 : Int32)) ∧ m52 = (0 : Int32)) ∨ ((¬ ((p4 &&& (32 : Int32)) = (0 : Int32))) ∧ m52 = (1 : Int32)))) (s₁.setTop (mkF m 72 #[.val (.long p1), .second, .val (.long p2), .second, .val (.long p3), .second, .val (.int p4), .val (.int m2), .val (.int m12), .val (.int m22), .val (.int m32), .val (.int m42), .unset, .unset, .unset, .unset, .unset, .unset, .unset, .unset, .unset, .unset, .unset] [])) := by
    refine OwnMg.back (s₁.setTop (mkF m 74 #[.val (.long p1), .second, .val (.long p2), .second, .val (.long p3), .second, .val (.int p4), .val (.int m2), .val (.int m12), .val (.int m22), .val (.int m32), .val (.int m42), .unset, .unset, .unset, .unset, .unset, .unset, .unset, .unset, .unset, .unset, .unset] [(.int p4)])) (fun tg kk => XS.iload X0.here hx rfl (hb hby at_72) rfl kk) ?_
    refine OwnMg.back (s₁.setTop (mkF m 76 #[.val (.long p1), .second, .val (.long p2), .second, .val (.long p3), .second, .val (.int p4), .val (.int m2), .val (.int m12), .val (.int m22), .val (.int m32), .val (.int m42), .unset, .unset, .unset, .unset, .unset, .unset, .unset, .unset, .unset, .unset, .unset] [(.int (32 : Int32)), (.int p4)])) (fun tg kk => XS.bipush X0.here hx rfl (hb hby at_74) kk) ?_
    refine OwnMg.back (s₁.setTop (mkF m 77 #[.val (.long p1), .second, .val (.long p2), .second, .val (.long p3), .second, .val (.int p4), .val (.int m2), .val (.int m12), .val (.int m22), .val (.int m32), .val (.int m42), .unset, .unset, .unset, .unset, .unset, .unset, .unset, .unset, .unset, .unset, .unset] [(.int (p4 &&& (32 : Int32)))])) (fun tg kk => XS.iand X0.here hx rfl (hb hby at_76) rfl kk) ?_
    by_cases hc60 : (p4 &&& (32 : Int32)) = (0 : Int32)
    ·
      refine OwnMg.back (s₁.setTop (mkF m 84 #[.val (.long p1), .second, .val (.long p2), .second, .val (.long p3), .second, .val (.int p4), .val (.int m2), .val (.int m12), .val (.int m22), .val (.int m32), .val (.int m42), .unset, .unset, .unset, .unset, .unset, .unset, .unset, .unset, .unset, .unset, .unset] [])) (fun tg kk => XS.ifYes X0.here hx rfl (pc0 := 77) (pc' := 84) rfl (hb hby at_77) rfl ((if0 _ _).trans (teq hc60).1) (by decide) (by decide) kk) ?_
      refine OwnMg.back (s₁.setTop (mkF m 85 #[.val (.long p1), .second, .val (.long p2), .second, .val (.long p3), .second, .val (.int p4), .val (.int m2), .val (.int m12), .val (.int m22), .val (.int m32), .val (.int m42), .unset, .unset, .unset, .unset, .unset, .unset, .unset, .unset, .unset, .unset, .unset] [(.int (0 : Int32))])) (fun tg kk => XS.iconst X0.here hx rfl (hb hby at_84) kk) ?_
      exact ⟨_, ⟨(0 : Int32), rfl, Or.inl ⟨hc60, rfl⟩⟩, fun tg kk => kk⟩
    ·
      refine OwnMg.back (s₁.setTop (mkF m 80 #[.val (.long p1), .second, .val (.long p2), .second, .val (.long p3), .second, .val (.int p4), .val (.int m2), .val (.int m12), .val (.int m22), .val (.int m32), .val (.int m42), .unset, .unset, .unset, .unset, .unset, .unset, .unset, .unset, .unset, .unset, .unset] [])) (fun tg kk => XS.ifNo X0.here hx rfl (hb hby at_77) rfl ((if0 _ _).trans (feq hc60).1) kk) ?_
      refine OwnMg.back (s₁.setTop (mkF m 81 #[.val (.long p1), .second, .val (.long p2), .second, .val (.long p3), .second, .val (.int p4), .val (.int m2), .val (.int m12), .val (.int m22), .val (.int m32), .val (.int m42), .unset, .unset, .unset, .unset, .unset, .unset, .unset, .unset, .unset, .unset, .unset] [(.int (1 : Int32))])) (fun tg kk => XS.iconst X0.here hx rfl (hb hby at_80) kk) ?_
      refine OwnMg.back (s₁.setTop (mkF m 85 #[.val (.long p1), .second, .val (.long p2), .second, .val (.long p3), .second, .val (.int p4), .val (.int m2), .val (.int m12), .val (.int m22), .val (.int m32), .val (.int m42), .unset, .unset, .unset, .unset, .unset, .unset, .unset, .unset, .unset, .unset, .unset] [(.int (1 : Int32))])) (fun tg kk => XS.goto X0.here hx rfl (pc0 := 81) (pc' := 85) rfl (hb hby at_81) (by decide) (by decide) kk) ?_
      exact ⟨_, ⟨(1 : Int32), rfl, Or.inr (⟨hc60, rfl⟩)⟩, fun tg kk => kk⟩
  refine OwnGo.back (s₁.setTop (mkF m 85 #[.val (.long p1), .second, .val (.long p2), .second, .val (.long p3), .second, .val (.int p4), .val (.int m2), .val (.int m12), .val (.int m22), .val (.int m32), .val (.int m42), .unset, .unset, .unset, .unset, .unset, .unset, .unset, .unset, .unset, .unset, .unset] [(.int m52)])) dm54 ?_
  refine OwnGo.back (s₁.setTop (mkF m 87 #[.val (.long p1), .second, .val (.long p2), .second, .val (.long p3), .second, .val (.int p4), .val (.int m2), .val (.int m12), .val (.int m22), .val (.int m32), .val (.int m42), .val (.int m52), .unset, .unset, .unset, .unset, .unset, .unset, .unset, .unset, .unset, .unset] [])) (fun tg kk => XS.istore X0.here hx rfl (hb hby at_85) rfl (l' := #[.val (.long p1), .second, .val (.long p2), .second, .val (.long p3), .second, .val (.int p4), .val (.int m2), .val (.int m12), .val (.int m22), .val (.int m32), .val (.int m42), .val (.int m52), .unset, .unset, .unset, .unset, .unset, .unset, .unset, .unset, .unset, .unset]) rfl kk) ?_
  refine OwnGo.back (s₁.setTop (mkF m 88 #[.val (.long p1), .second, .val (.long p2), .second, .val (.long p3), .second, .val (.int p4), .val (.int m2), .val (.int m12), .val (.int m22), .val (.int m32), .val (.int m42), .val (.int m52), .unset, .unset, .unset, .unset, .unset, .unset, .unset, .unset, .unset, .unset] [(.long (0 : Int64))])) (fun tg kk => XS.lconst X0.here hx rfl (hb hby at_87) kk) ?_
  refine OwnGo.back (s₁.setTop (mkF m 90 #[.val (.long p1), .second, .val (.long p2), .second, .val (.long p3), .second, .val (.int p4), .val (.int m2), .val (.int m12), .val (.int m22), .val (.int m32), .val (.int m42), .val (.int m52), .val (.long (0 : Int64)), .second, .unset, .unset, .unset, .unset, .unset, .unset, .unset, .unset] [])) (fun tg kk => XS.lstore X0.here hx rfl (hb hby at_88) rfl (l' := #[.val (.long p1), .second, .val (.long p2), .second, .val (.long p3), .second, .val (.int p4), .val (.int m2), .val (.int m12), .val (.int m22), .val (.int m32), .val (.int m42), .val (.int m52), .val (.long (0 : Int64)), .second, .unset, .unset, .unset, .unset, .unset, .unset, .unset, .unset]) rfl kk) ?_
  refine OwnGo.back (s₁.setTop (mkF m 91 #[.val (.long p1), .second, .val (.long p2), .second, .val (.long p3), .second, .val (.int p4), .val (.int m2), .val (.int m12), .val (.int m22), .val (.int m32), .val (.int m42), .val (.int m52), .val (.long (0 : Int64)), .second, .unset, .unset, .unset, .unset, .unset, .unset, .unset, .unset] [(.long (0 : Int64))])) (fun tg kk => XS.lconst X0.here hx rfl (hb hby at_90) kk) ?_
  refine OwnGo.back (s₁.setTop (mkF m 93 #[.val (.long p1), .second, .val (.long p2), .second, .val (.long p3), .second, .val (.int p4), .val (.int m2), .val (.int m12), .val (.int m22), .val (.int m32), .val (.int m42), .val (.int m52), .val (.long (0 : Int64)), .second, .val (.long (0 : Int64)), .second, .unset, .unset, .unset, .unset, .unset, .unset] [])) (fun tg kk => XS.lstore X0.here hx rfl (hb hby at_91) rfl (l' := #[.val (.long p1), .second, .val (.long p2), .second, .val (.long p3), .second, .val (.int p4), .val (.int m2), .val (.int m12), .val (.int m22), .val (.int m32), .val (.int m42), .val (.int m52), .val (.long (0 : Int64)), .second, .val (.long (0 : Int64)), .second, .unset, .unset, .unset, .unset, .unset, .unset]) rfl kk) ?_
  refine OwnGo.back (s₁.setTop (mkF m 94 #[.val (.long p1), .second, .val (.long p2), .second, .val (.long p3), .second, .val (.int p4), .val (.int m2), .val (.int m12), .val (.int m22), .val (.int m32), .val (.int m42), .val (.int m52), .val (.long (0 : Int64)), .second, .val (.long (0 : Int64)), .second, .unset, .unset, .unset, .unset, .unset, .unset] [(.long (0 : Int64))])) (fun tg kk => XS.lconst X0.here hx rfl (hb hby at_93) kk) ?_
  refine OwnGo.back (s₁.setTop (mkF m 96 #[.val (.long p1), .second, .val (.long p2), .second, .val (.long p3), .second, .val (.int p4), .val (.int m2), .val (.int m12), .val (.int m22), .val (.int m32), .val (.int m42), .val (.int m52), .val (.long (0 : Int64)), .second, .val (.long (0 : Int64)), .second, .val (.long (0 : Int64)), .second, .unset, .unset, .unset, .unset] [])) (fun tg kk => XS.lstore X0.here hx rfl (hb hby at_94) rfl (l' := #[.val (.long p1), .second, .val (.long p2), .second, .val (.long p3), .second, .val (.int p4), .val (.int m2), .val (.int m12), .val (.int m22), .val (.int m32), .val (.int m42), .val (.int m52), .val (.long (0 : Int64)), .second, .val (.long (0 : Int64)), .second, .val (.long (0 : Int64)), .second, .unset, .unset, .unset, .unset]) rfl kk) ?_
  refine OwnGo.back (s₁.setTop (mkF m 97 #[.val (.long p1), .second, .val (.long p2), .second, .val (.long p3), .second, .val (.int p4), .val (.int m2), .val (.int m12), .val (.int m22), .val (.int m32), .val (.int m42), .val (.int m52), .val (.long (0 : Int64)), .second, .val (.long (0 : Int64)), .second, .val (.long (0 : Int64)), .second, .unset, .unset, .unset, .unset] [(.long (0 : Int64))])) (fun tg kk => XS.lconst X0.here hx rfl (hb hby at_96) kk) ?_
  refine OwnGo.back (s₁.setTop (mkF m 99 #[.val (.long p1), .second, .val (.long p2), .second, .val (.long p3), .second, .val (.int p4), .val (.int m2), .val (.int m12), .val (.int m22), .val (.int m32), .val (.int m42), .val (.int m52), .val (.long (0 : Int64)), .second, .val (.long (0 : Int64)), .second, .val (.long (0 : Int64)), .second, .val (.long (0 : Int64)), .second, .unset, .unset] [])) (fun tg kk => XS.lstore X0.here hx rfl (hb hby at_97) rfl (l' := #[.val (.long p1), .second, .val (.long p2), .second, .val (.long p3), .second, .val (.int p4), .val (.int m2), .val (.int m12), .val (.int m22), .val (.int m32), .val (.int m42), .val (.int m52), .val (.long (0 : Int64)), .second, .val (.long (0 : Int64)), .second, .val (.long (0 : Int64)), .second, .val (.long (0 : Int64)), .second, .unset, .unset]) rfl kk) ?_
  obtain ⟨_, ⟨m63, m64, m65, m66, rfl, hm67⟩, dm68⟩ : OwnMg p.tables e below (fun st' => ∃ (m63 : Int64), ∃ (m64 : Int64), ∃ (m65 : Int64), ∃ (m66 : Int64), st' = s₁.setTop (mkF m 136 #[.val (.long p1), .second, .val (.long p2), .second, .val (.long p3), .second, .val (.int p4), .val (.int m2), .val (.int m12), .val (.int m22), .val (.int m32), .val (.int m42), .val (.int m52), .val (.long m63), .second, .val (.long m64), .second, .val (.long m65), .second, .val (.long m66), .second, .unset, .unset] []) ∧ (((m2 = (0 : Int32)) ∧ m63 = (0 : Int64) ∧ m64 = (0 : Int64) ∧ m65 = (0 : Int64) ∧ m66 = (0 : Int64)) ∨ ((¬ (m2 = (0 : Int32))) ∧ (m12 = (0 : Int32)) ∧ m63 = (0 : Int64) ∧ m64 = (0 : Int64) ∧ m65 = ((0 : Int64) + (1 : Int64)) ∧ m66 = ((0 : Int64) + p1)) ∨ ((¬ (m2 = (0 : Int32))) ∧ (¬ (m12 = (0 : Int32))) ∧ m63 = ((0 : Int64) + (1 : Int64)) ∧ m64 = ((0 : Int64) + p1) ∧ m65 = (0 : Int64) ∧ m66 = (0 : Int64)))) (s₁.setTop (mkF m 99 #[.val (.long p1), .second, .val (.long p2), .second, .val (.long p3), .second, .val (.int p4), .val (.int m2), .val (.int m12), .val (.int m22), .val (.int m32), .val (.int m42), .val (.int m52), .val (.long (0 : Int64)), .second, .val (.long (0 : Int64)), .second, .val (.long (0 : Int64)), .second, .val (.long (0 : Int64)), .second, .unset, .unset] [])) := by
    refine OwnMg.back (s₁.setTop (mkF m 101 #[.val (.long p1), .second, .val (.long p2), .second, .val (.long p3), .second, .val (.int p4), .val (.int m2), .val (.int m12), .val (.int m22), .val (.int m32), .val (.int m42), .val (.int m52), .val (.long (0 : Int64)), .second, .val (.long (0 : Int64)), .second, .val (.long (0 : Int64)), .second, .val (.long (0 : Int64)), .second, .unset, .unset] [(.int m2)])) (fun tg kk => XS.iload X0.here hx rfl (hb hby at_99) rfl kk) ?_
    by_cases hc74 : m2 = (0 : Int32)
    ·
      refine OwnMg.back (s₁.setTop (mkF m 136 #[.val (.long p1), .second, .val (.long p2), .second, .val (.long p3), .second, .val (.int p4), .val (.int m2), .val (.int m12), .val (.int m22), .val (.int m32), .val (.int m42), .val (.int m52), .val (.long (0 : Int64)), .second, .val (.long (0 : Int64)), .second, .val (.long (0 : Int64)), .second, .val (.long (0 : Int64)), .second, .unset, .unset] [])) (fun tg kk => XS.ifYes X0.here hx rfl (pc0 := 101) (pc' := 136) rfl (hb hby at_101) rfl ((if0 _ _).trans (teq hc74).1) (by decide) (by decide) kk) ?_
      exact ⟨_, ⟨(0 : Int64), (0 : Int64), (0 : Int64), (0 : Int64), rfl, Or.inl ⟨hc74, rfl, rfl, rfl, rfl⟩⟩, fun tg kk => kk⟩
    ·
      refine OwnMg.back (s₁.setTop (mkF m 104 #[.val (.long p1), .second, .val (.long p2), .second, .val (.long p3), .second, .val (.int p4), .val (.int m2), .val (.int m12), .val (.int m22), .val (.int m32), .val (.int m42), .val (.int m52), .val (.long (0 : Int64)), .second, .val (.long (0 : Int64)), .second, .val (.long (0 : Int64)), .second, .val (.long (0 : Int64)), .second, .unset, .unset] [])) (fun tg kk => XS.ifNo X0.here hx rfl (hb hby at_101) rfl ((if0 _ _).trans (feq hc74).1) kk) ?_
      refine OwnMg.back (s₁.setTop (mkF m 106 #[.val (.long p1), .second, .val (.long p2), .second, .val (.long p3), .second, .val (.int p4), .val (.int m2), .val (.int m12), .val (.int m22), .val (.int m32), .val (.int m42), .val (.int m52), .val (.long (0 : Int64)), .second, .val (.long (0 : Int64)), .second, .val (.long (0 : Int64)), .second, .val (.long (0 : Int64)), .second, .unset, .unset] [(.int m12)])) (fun tg kk => XS.iload X0.here hx rfl (hb hby at_104) rfl kk) ?_
      by_cases hc75 : m12 = (0 : Int32)
      ·
        refine OwnMg.back (s₁.setTop (mkF m 124 #[.val (.long p1), .second, .val (.long p2), .second, .val (.long p3), .second, .val (.int p4), .val (.int m2), .val (.int m12), .val (.int m22), .val (.int m32), .val (.int m42), .val (.int m52), .val (.long (0 : Int64)), .second, .val (.long (0 : Int64)), .second, .val (.long (0 : Int64)), .second, .val (.long (0 : Int64)), .second, .unset, .unset] [])) (fun tg kk => XS.ifYes X0.here hx rfl (pc0 := 106) (pc' := 124) rfl (hb hby at_106) rfl ((if0 _ _).trans (teq hc75).1) (by decide) (by decide) kk) ?_
        refine OwnMg.back (s₁.setTop (mkF m 126 #[.val (.long p1), .second, .val (.long p2), .second, .val (.long p3), .second, .val (.int p4), .val (.int m2), .val (.int m12), .val (.int m22), .val (.int m32), .val (.int m42), .val (.int m52), .val (.long (0 : Int64)), .second, .val (.long (0 : Int64)), .second, .val (.long (0 : Int64)), .second, .val (.long (0 : Int64)), .second, .unset, .unset] [(.long (0 : Int64))])) (fun tg kk => XS.lload X0.here hx rfl (hb hby at_124) rfl kk) ?_
        refine OwnMg.back (s₁.setTop (mkF m 127 #[.val (.long p1), .second, .val (.long p2), .second, .val (.long p3), .second, .val (.int p4), .val (.int m2), .val (.int m12), .val (.int m22), .val (.int m32), .val (.int m42), .val (.int m52), .val (.long (0 : Int64)), .second, .val (.long (0 : Int64)), .second, .val (.long (0 : Int64)), .second, .val (.long (0 : Int64)), .second, .unset, .unset] [(.long (1 : Int64)), (.long (0 : Int64))])) (fun tg kk => XS.lconst X0.here hx rfl (hb hby at_126) kk) ?_
        refine OwnMg.back (s₁.setTop (mkF m 128 #[.val (.long p1), .second, .val (.long p2), .second, .val (.long p3), .second, .val (.int p4), .val (.int m2), .val (.int m12), .val (.int m22), .val (.int m32), .val (.int m42), .val (.int m52), .val (.long (0 : Int64)), .second, .val (.long (0 : Int64)), .second, .val (.long (0 : Int64)), .second, .val (.long (0 : Int64)), .second, .unset, .unset] [(.long ((0 : Int64) + (1 : Int64)))])) (fun tg kk => XS.ladd X0.here hx rfl (hb hby at_127) rfl kk) ?_
        refine OwnMg.back (s₁.setTop (mkF m 130 #[.val (.long p1), .second, .val (.long p2), .second, .val (.long p3), .second, .val (.int p4), .val (.int m2), .val (.int m12), .val (.int m22), .val (.int m32), .val (.int m42), .val (.int m52), .val (.long (0 : Int64)), .second, .val (.long (0 : Int64)), .second, .val (.long ((0 : Int64) + (1 : Int64))), .second, .val (.long (0 : Int64)), .second, .unset, .unset] [])) (fun tg kk => XS.lstore X0.here hx rfl (hb hby at_128) rfl (l' := #[.val (.long p1), .second, .val (.long p2), .second, .val (.long p3), .second, .val (.int p4), .val (.int m2), .val (.int m12), .val (.int m22), .val (.int m32), .val (.int m42), .val (.int m52), .val (.long (0 : Int64)), .second, .val (.long (0 : Int64)), .second, .val (.long ((0 : Int64) + (1 : Int64))), .second, .val (.long (0 : Int64)), .second, .unset, .unset]) rfl kk) ?_
        refine OwnMg.back (s₁.setTop (mkF m 132 #[.val (.long p1), .second, .val (.long p2), .second, .val (.long p3), .second, .val (.int p4), .val (.int m2), .val (.int m12), .val (.int m22), .val (.int m32), .val (.int m42), .val (.int m52), .val (.long (0 : Int64)), .second, .val (.long (0 : Int64)), .second, .val (.long ((0 : Int64) + (1 : Int64))), .second, .val (.long (0 : Int64)), .second, .unset, .unset] [(.long (0 : Int64))])) (fun tg kk => XS.lload X0.here hx rfl (hb hby at_130) rfl kk) ?_
        refine OwnMg.back (s₁.setTop (mkF m 133 #[.val (.long p1), .second, .val (.long p2), .second, .val (.long p3), .second, .val (.int p4), .val (.int m2), .val (.int m12), .val (.int m22), .val (.int m32), .val (.int m42), .val (.int m52), .val (.long (0 : Int64)), .second, .val (.long (0 : Int64)), .second, .val (.long ((0 : Int64) + (1 : Int64))), .second, .val (.long (0 : Int64)), .second, .unset, .unset] [(.long p1), (.long (0 : Int64))])) (fun tg kk => XS.lloadN X0.here hx rfl (hb hby at_132) rfl kk) ?_
        refine OwnMg.back (s₁.setTop (mkF m 134 #[.val (.long p1), .second, .val (.long p2), .second, .val (.long p3), .second, .val (.int p4), .val (.int m2), .val (.int m12), .val (.int m22), .val (.int m32), .val (.int m42), .val (.int m52), .val (.long (0 : Int64)), .second, .val (.long (0 : Int64)), .second, .val (.long ((0 : Int64) + (1 : Int64))), .second, .val (.long (0 : Int64)), .second, .unset, .unset] [(.long ((0 : Int64) + p1))])) (fun tg kk => XS.ladd X0.here hx rfl (hb hby at_133) rfl kk) ?_
        refine OwnMg.back (s₁.setTop (mkF m 136 #[.val (.long p1), .second, .val (.long p2), .second, .val (.long p3), .second, .val (.int p4), .val (.int m2), .val (.int m12), .val (.int m22), .val (.int m32), .val (.int m42), .val (.int m52), .val (.long (0 : Int64)), .second, .val (.long (0 : Int64)), .second, .val (.long ((0 : Int64) + (1 : Int64))), .second, .val (.long ((0 : Int64) + p1)), .second, .unset, .unset] [])) (fun tg kk => XS.lstore X0.here hx rfl (hb hby at_134) rfl (l' := #[.val (.long p1), .second, .val (.long p2), .second, .val (.long p3), .second, .val (.int p4), .val (.int m2), .val (.int m12), .val (.int m22), .val (.int m32), .val (.int m42), .val (.int m52), .val (.long (0 : Int64)), .second, .val (.long (0 : Int64)), .second, .val (.long ((0 : Int64) + (1 : Int64))), .second, .val (.long ((0 : Int64) + p1)), .second, .unset, .unset]) rfl kk) ?_
        exact ⟨_, ⟨(0 : Int64), (0 : Int64), ((0 : Int64) + (1 : Int64)), ((0 : Int64) + p1), rfl, Or.inr (Or.inl ⟨hc74, hc75, rfl, rfl, rfl, rfl⟩)⟩, fun tg kk => kk⟩
      ·
        refine OwnMg.back (s₁.setTop (mkF m 109 #[.val (.long p1), .second, .val (.long p2), .second, .val (.long p3), .second, .val (.int p4), .val (.int m2), .val (.int m12), .val (.int m22), .val (.int m32), .val (.int m42), .val (.int m52), .val (.long (0 : Int64)), .second, .val (.long (0 : Int64)), .second, .val (.long (0 : Int64)), .second, .val (.long (0 : Int64)), .second, .unset, .unset] [])) (fun tg kk => XS.ifNo X0.here hx rfl (hb hby at_106) rfl ((if0 _ _).trans (feq hc75).1) kk) ?_
        refine OwnMg.back (s₁.setTop (mkF m 111 #[.val (.long p1), .second, .val (.long p2), .second, .val (.long p3), .second, .val (.int p4), .val (.int m2), .val (.int m12), .val (.int m22), .val (.int m32), .val (.int m42), .val (.int m52), .val (.long (0 : Int64)), .second, .val (.long (0 : Int64)), .second, .val (.long (0 : Int64)), .second, .val (.long (0 : Int64)), .second, .unset, .unset] [(.long (0 : Int64))])) (fun tg kk => XS.lload X0.here hx rfl (hb hby at_109) rfl kk) ?_
        refine OwnMg.back (s₁.setTop (mkF m 112 #[.val (.long p1), .second, .val (.long p2), .second, .val (.long p3), .second, .val (.int p4), .val (.int m2), .val (.int m12), .val (.int m22), .val (.int m32), .val (.int m42), .val (.int m52), .val (.long (0 : Int64)), .second, .val (.long (0 : Int64)), .second, .val (.long (0 : Int64)), .second, .val (.long (0 : Int64)), .second, .unset, .unset] [(.long (1 : Int64)), (.long (0 : Int64))])) (fun tg kk => XS.lconst X0.here hx rfl (hb hby at_111) kk) ?_
        refine OwnMg.back (s₁.setTop (mkF m 113 #[.val (.long p1), .second, .val (.long p2), .second, .val (.long p3), .second, .val (.int p4), .val (.int m2), .val (.int m12), .val (.int m22), .val (.int m32), .val (.int m42), .val (.int m52), .val (.long (0 : Int64)), .second, .val (.long (0 : Int64)), .second, .val (.long (0 : Int64)), .second, .val (.long (0 : Int64)), .second, .unset, .unset] [(.long ((0 : Int64) + (1 : Int64)))])) (fun tg kk => XS.ladd X0.here hx rfl (hb hby at_112) rfl kk) ?_
        refine OwnMg.back (s₁.setTop (mkF m 115 #[.val (.long p1), .second, .val (.long p2), .second, .val (.long p3), .second, .val (.int p4), .val (.int m2), .val (.int m12), .val (.int m22), .val (.int m32), .val (.int m42), .val (.int m52), .val (.long ((0 : Int64) + (1 : Int64))), .second, .val (.long (0 : Int64)), .second, .val (.long (0 : Int64)), .second, .val (.long (0 : Int64)), .second, .unset, .unset] [])) (fun tg kk => XS.lstore X0.here hx rfl (hb hby at_113) rfl (l' := #[.val (.long p1), .second, .val (.long p2), .second, .val (.long p3), .second, .val (.int p4), .val (.int m2), .val (.int m12), .val (.int m22), .val (.int m32), .val (.int m42), .val (.int m52), .val (.long ((0 : Int64) + (1 : Int64))), .second, .val (.long (0 : Int64)), .second, .val (.long (0 : Int64)), .second, .val (.long (0 : Int64)), .second, .unset, .unset]) rfl kk) ?_
        refine OwnMg.back (s₁.setTop (mkF m 117 #[.val (.long p1), .second, .val (.long p2), .second, .val (.long p3), .second, .val (.int p4), .val (.int m2), .val (.int m12), .val (.int m22), .val (.int m32), .val (.int m42), .val (.int m52), .val (.long ((0 : Int64) + (1 : Int64))), .second, .val (.long (0 : Int64)), .second, .val (.long (0 : Int64)), .second, .val (.long (0 : Int64)), .second, .unset, .unset] [(.long (0 : Int64))])) (fun tg kk => XS.lload X0.here hx rfl (hb hby at_115) rfl kk) ?_
        refine OwnMg.back (s₁.setTop (mkF m 118 #[.val (.long p1), .second, .val (.long p2), .second, .val (.long p3), .second, .val (.int p4), .val (.int m2), .val (.int m12), .val (.int m22), .val (.int m32), .val (.int m42), .val (.int m52), .val (.long ((0 : Int64) + (1 : Int64))), .second, .val (.long (0 : Int64)), .second, .val (.long (0 : Int64)), .second, .val (.long (0 : Int64)), .second, .unset, .unset] [(.long p1), (.long (0 : Int64))])) (fun tg kk => XS.lloadN X0.here hx rfl (hb hby at_117) rfl kk) ?_
        refine OwnMg.back (s₁.setTop (mkF m 119 #[.val (.long p1), .second, .val (.long p2), .second, .val (.long p3), .second, .val (.int p4), .val (.int m2), .val (.int m12), .val (.int m22), .val (.int m32), .val (.int m42), .val (.int m52), .val (.long ((0 : Int64) + (1 : Int64))), .second, .val (.long (0 : Int64)), .second, .val (.long (0 : Int64)), .second, .val (.long (0 : Int64)), .second, .unset, .unset] [(.long ((0 : Int64) + p1))])) (fun tg kk => XS.ladd X0.here hx rfl (hb hby at_118) rfl kk) ?_
        refine OwnMg.back (s₁.setTop (mkF m 121 #[.val (.long p1), .second, .val (.long p2), .second, .val (.long p3), .second, .val (.int p4), .val (.int m2), .val (.int m12), .val (.int m22), .val (.int m32), .val (.int m42), .val (.int m52), .val (.long ((0 : Int64) + (1 : Int64))), .second, .val (.long ((0 : Int64) + p1)), .second, .val (.long (0 : Int64)), .second, .val (.long (0 : Int64)), .second, .unset, .unset] [])) (fun tg kk => XS.lstore X0.here hx rfl (hb hby at_119) rfl (l' := #[.val (.long p1), .second, .val (.long p2), .second, .val (.long p3), .second, .val (.int p4), .val (.int m2), .val (.int m12), .val (.int m22), .val (.int m32), .val (.int m42), .val (.int m52), .val (.long ((0 : Int64) + (1 : Int64))), .second, .val (.long ((0 : Int64) + p1)), .second, .val (.long (0 : Int64)), .second, .val (.long (0 : Int64)), .second, .unset, .unset]) rfl kk) ?_
        refine OwnMg.back (s₁.setTop (mkF m 136 #[.val (.long p1), .second, .val (.long p2), .second, .val (.long p3), .second, .val (.int p4), .val (.int m2), .val (.int m12), .val (.int m22), .val (.int m32), .val (.int m42), .val (.int m52), .val (.long ((0 : Int64) + (1 : Int64))), .second, .val (.long ((0 : Int64) + p1)), .second, .val (.long (0 : Int64)), .second, .val (.long (0 : Int64)), .second, .unset, .unset] [])) (fun tg kk => XS.goto X0.here hx rfl (pc0 := 121) (pc' := 136) rfl (hb hby at_121) (by decide) (by decide) kk) ?_
        exact ⟨_, ⟨((0 : Int64) + (1 : Int64)), ((0 : Int64) + p1), (0 : Int64), (0 : Int64), rfl, Or.inr (Or.inr (⟨hc74, hc75, rfl, rfl, rfl, rfl⟩))⟩, fun tg kk => kk⟩
  refine OwnGo.back (s₁.setTop (mkF m 136 #[.val (.long p1), .second, .val (.long p2), .second, .val (.long p3), .second, .val (.int p4), .val (.int m2), .val (.int m12), .val (.int m22), .val (.int m32), .val (.int m42), .val (.int m52), .val (.long m63), .second, .val (.long m64), .second, .val (.long m65), .second, .val (.long m66), .second, .unset, .unset] [])) dm68 ?_
  obtain ⟨_, ⟨m78, m79, m80, m81, rfl, hm82⟩, dm83⟩ : OwnMg p.tables e below (fun st' => ∃ (m78 : Int64), ∃ (m79 : Int64), ∃ (m80 : Int64), ∃ (m81 : Int64), st' = s₁.setTop (mkF m 173 #[.val (.long p1), .second, .val (.long p2), .second, .val (.long p3), .second, .val (.int p4), .val (.int m2), .val (.int m12), .val (.int m22), .val (.int m32), .val (.int m42), .val (.int m52), .val (.long m78), .second, .val (.long m79), .second, .val (.long m80), .second, .val (.long m81), .second, .unset, .unset] []) ∧ (((m22 = (0 : Int32)) ∧ m78 = m63 ∧ m79 = m64 ∧ m80 = m65 ∧ m81 = m66) ∨ ((¬ (m22 = (0 : Int32))) ∧ (m32 = (0 : Int32)) ∧ m78 = m63 ∧ m79 = m64 ∧ m80 = (m65 + (1 : Int64)) ∧ m81 = (m66 + p2)) ∨ ((¬ (m22 = (0 : Int32))) ∧ (¬ (m32 = (0 : Int32))) ∧ m78 = (m63 + (1 : Int64)) ∧ m79 = (m64 + p2) ∧ m80 = m65 ∧ m81 = m66))) (s₁.setTop (mkF m 136 #[.val (.long p1), .second, .val (.long p2), .second, .val (.long p3), .second, .val (.int p4), .val (.int m2), .val (.int m12), .val (.int m22), .val (.int m32), .val (.int m42), .val (.int m52), .val (.long m63), .second, .val (.long m64), .second, .val (.long m65), .second, .val (.long m66), .second, .unset, .unset] [])) := by
    refine OwnMg.back (s₁.setTop (mkF m 138 #[.val (.long p1), .second, .val (.long p2), .second, .val (.long p3), .second, .val (.int p4), .val (.int m2), .val (.int m12), .val (.int m22), .val (.int m32), .val (.int m42), .val (.int m52), .val (.long m63), .second, .val (.long m64), .second, .val (.long m65), .second, .val (.long m66), .second, .unset, .unset] [(.int m22)])) (fun tg kk => XS.iload X0.here hx rfl (hb hby at_136) rfl kk) ?_
    by_cases hc89 : m22 = (0 : Int32)
    ·
      refine OwnMg.back (s₁.setTop (mkF m 173 #[.val (.long p1), .second, .val (.long p2), .second, .val (.long p3), .second, .val (.int p4), .val (.int m2), .val (.int m12), .val (.int m22), .val (.int m32), .val (.int m42), .val (.int m52), .val (.long m63), .second, .val (.long m64), .second, .val (.long m65), .second, .val (.long m66), .second, .unset, .unset] [])) (fun tg kk => XS.ifYes X0.here hx rfl (pc0 := 138) (pc' := 173) rfl (hb hby at_138) rfl ((if0 _ _).trans (teq hc89).1) (by decide) (by decide) kk) ?_
      exact ⟨_, ⟨m63, m64, m65, m66, rfl, Or.inl ⟨hc89, rfl, rfl, rfl, rfl⟩⟩, fun tg kk => kk⟩
    ·
      refine OwnMg.back (s₁.setTop (mkF m 141 #[.val (.long p1), .second, .val (.long p2), .second, .val (.long p3), .second, .val (.int p4), .val (.int m2), .val (.int m12), .val (.int m22), .val (.int m32), .val (.int m42), .val (.int m52), .val (.long m63), .second, .val (.long m64), .second, .val (.long m65), .second, .val (.long m66), .second, .unset, .unset] [])) (fun tg kk => XS.ifNo X0.here hx rfl (hb hby at_138) rfl ((if0 _ _).trans (feq hc89).1) kk) ?_
      refine OwnMg.back (s₁.setTop (mkF m 143 #[.val (.long p1), .second, .val (.long p2), .second, .val (.long p3), .second, .val (.int p4), .val (.int m2), .val (.int m12), .val (.int m22), .val (.int m32), .val (.int m42), .val (.int m52), .val (.long m63), .second, .val (.long m64), .second, .val (.long m65), .second, .val (.long m66), .second, .unset, .unset] [(.int m32)])) (fun tg kk => XS.iload X0.here hx rfl (hb hby at_141) rfl kk) ?_
      by_cases hc90 : m32 = (0 : Int32)
      ·
        refine OwnMg.back (s₁.setTop (mkF m 161 #[.val (.long p1), .second, .val (.long p2), .second, .val (.long p3), .second, .val (.int p4), .val (.int m2), .val (.int m12), .val (.int m22), .val (.int m32), .val (.int m42), .val (.int m52), .val (.long m63), .second, .val (.long m64), .second, .val (.long m65), .second, .val (.long m66), .second, .unset, .unset] [])) (fun tg kk => XS.ifYes X0.here hx rfl (pc0 := 143) (pc' := 161) rfl (hb hby at_143) rfl ((if0 _ _).trans (teq hc90).1) (by decide) (by decide) kk) ?_
        refine OwnMg.back (s₁.setTop (mkF m 163 #[.val (.long p1), .second, .val (.long p2), .second, .val (.long p3), .second, .val (.int p4), .val (.int m2), .val (.int m12), .val (.int m22), .val (.int m32), .val (.int m42), .val (.int m52), .val (.long m63), .second, .val (.long m64), .second, .val (.long m65), .second, .val (.long m66), .second, .unset, .unset] [(.long m65)])) (fun tg kk => XS.lload X0.here hx rfl (hb hby at_161) rfl kk) ?_
        refine OwnMg.back (s₁.setTop (mkF m 164 #[.val (.long p1), .second, .val (.long p2), .second, .val (.long p3), .second, .val (.int p4), .val (.int m2), .val (.int m12), .val (.int m22), .val (.int m32), .val (.int m42), .val (.int m52), .val (.long m63), .second, .val (.long m64), .second, .val (.long m65), .second, .val (.long m66), .second, .unset, .unset] [(.long (1 : Int64)), (.long m65)])) (fun tg kk => XS.lconst X0.here hx rfl (hb hby at_163) kk) ?_
        refine OwnMg.back (s₁.setTop (mkF m 165 #[.val (.long p1), .second, .val (.long p2), .second, .val (.long p3), .second, .val (.int p4), .val (.int m2), .val (.int m12), .val (.int m22), .val (.int m32), .val (.int m42), .val (.int m52), .val (.long m63), .second, .val (.long m64), .second, .val (.long m65), .second, .val (.long m66), .second, .unset, .unset] [(.long (m65 + (1 : Int64)))])) (fun tg kk => XS.ladd X0.here hx rfl (hb hby at_164) rfl kk) ?_
        refine OwnMg.back (s₁.setTop (mkF m 167 #[.val (.long p1), .second, .val (.long p2), .second, .val (.long p3), .second, .val (.int p4), .val (.int m2), .val (.int m12), .val (.int m22), .val (.int m32), .val (.int m42), .val (.int m52), .val (.long m63), .second, .val (.long m64), .second, .val (.long (m65 + (1 : Int64))), .second, .val (.long m66), .second, .unset, .unset] [])) (fun tg kk => XS.lstore X0.here hx rfl (hb hby at_165) rfl (l' := #[.val (.long p1), .second, .val (.long p2), .second, .val (.long p3), .second, .val (.int p4), .val (.int m2), .val (.int m12), .val (.int m22), .val (.int m32), .val (.int m42), .val (.int m52), .val (.long m63), .second, .val (.long m64), .second, .val (.long (m65 + (1 : Int64))), .second, .val (.long m66), .second, .unset, .unset]) rfl kk) ?_
        refine OwnMg.back (s₁.setTop (mkF m 169 #[.val (.long p1), .second, .val (.long p2), .second, .val (.long p3), .second, .val (.int p4), .val (.int m2), .val (.int m12), .val (.int m22), .val (.int m32), .val (.int m42), .val (.int m52), .val (.long m63), .second, .val (.long m64), .second, .val (.long (m65 + (1 : Int64))), .second, .val (.long m66), .second, .unset, .unset] [(.long m66)])) (fun tg kk => XS.lload X0.here hx rfl (hb hby at_167) rfl kk) ?_
        refine OwnMg.back (s₁.setTop (mkF m 170 #[.val (.long p1), .second, .val (.long p2), .second, .val (.long p3), .second, .val (.int p4), .val (.int m2), .val (.int m12), .val (.int m22), .val (.int m32), .val (.int m42), .val (.int m52), .val (.long m63), .second, .val (.long m64), .second, .val (.long (m65 + (1 : Int64))), .second, .val (.long m66), .second, .unset, .unset] [(.long p2), (.long m66)])) (fun tg kk => XS.lloadN X0.here hx rfl (hb hby at_169) rfl kk) ?_
        refine OwnMg.back (s₁.setTop (mkF m 171 #[.val (.long p1), .second, .val (.long p2), .second, .val (.long p3), .second, .val (.int p4), .val (.int m2), .val (.int m12), .val (.int m22), .val (.int m32), .val (.int m42), .val (.int m52), .val (.long m63), .second, .val (.long m64), .second, .val (.long (m65 + (1 : Int64))), .second, .val (.long m66), .second, .unset, .unset] [(.long (m66 + p2))])) (fun tg kk => XS.ladd X0.here hx rfl (hb hby at_170) rfl kk) ?_
        refine OwnMg.back (s₁.setTop (mkF m 173 #[.val (.long p1), .second, .val (.long p2), .second, .val (.long p3), .second, .val (.int p4), .val (.int m2), .val (.int m12), .val (.int m22), .val (.int m32), .val (.int m42), .val (.int m52), .val (.long m63), .second, .val (.long m64), .second, .val (.long (m65 + (1 : Int64))), .second, .val (.long (m66 + p2)), .second, .unset, .unset] [])) (fun tg kk => XS.lstore X0.here hx rfl (hb hby at_171) rfl (l' := #[.val (.long p1), .second, .val (.long p2), .second, .val (.long p3), .second, .val (.int p4), .val (.int m2), .val (.int m12), .val (.int m22), .val (.int m32), .val (.int m42), .val (.int m52), .val (.long m63), .second, .val (.long m64), .second, .val (.long (m65 + (1 : Int64))), .second, .val (.long (m66 + p2)), .second, .unset, .unset]) rfl kk) ?_
        exact ⟨_, ⟨m63, m64, (m65 + (1 : Int64)), (m66 + p2), rfl, Or.inr (Or.inl ⟨hc89, hc90, rfl, rfl, rfl, rfl⟩)⟩, fun tg kk => kk⟩
      ·
        refine OwnMg.back (s₁.setTop (mkF m 146 #[.val (.long p1), .second, .val (.long p2), .second, .val (.long p3), .second, .val (.int p4), .val (.int m2), .val (.int m12), .val (.int m22), .val (.int m32), .val (.int m42), .val (.int m52), .val (.long m63), .second, .val (.long m64), .second, .val (.long m65), .second, .val (.long m66), .second, .unset, .unset] [])) (fun tg kk => XS.ifNo X0.here hx rfl (hb hby at_143) rfl ((if0 _ _).trans (feq hc90).1) kk) ?_
        refine OwnMg.back (s₁.setTop (mkF m 148 #[.val (.long p1), .second, .val (.long p2), .second, .val (.long p3), .second, .val (.int p4), .val (.int m2), .val (.int m12), .val (.int m22), .val (.int m32), .val (.int m42), .val (.int m52), .val (.long m63), .second, .val (.long m64), .second, .val (.long m65), .second, .val (.long m66), .second, .unset, .unset] [(.long m63)])) (fun tg kk => XS.lload X0.here hx rfl (hb hby at_146) rfl kk) ?_
        refine OwnMg.back (s₁.setTop (mkF m 149 #[.val (.long p1), .second, .val (.long p2), .second, .val (.long p3), .second, .val (.int p4), .val (.int m2), .val (.int m12), .val (.int m22), .val (.int m32), .val (.int m42), .val (.int m52), .val (.long m63), .second, .val (.long m64), .second, .val (.long m65), .second, .val (.long m66), .second, .unset, .unset] [(.long (1 : Int64)), (.long m63)])) (fun tg kk => XS.lconst X0.here hx rfl (hb hby at_148) kk) ?_
        refine OwnMg.back (s₁.setTop (mkF m 150 #[.val (.long p1), .second, .val (.long p2), .second, .val (.long p3), .second, .val (.int p4), .val (.int m2), .val (.int m12), .val (.int m22), .val (.int m32), .val (.int m42), .val (.int m52), .val (.long m63), .second, .val (.long m64), .second, .val (.long m65), .second, .val (.long m66), .second, .unset, .unset] [(.long (m63 + (1 : Int64)))])) (fun tg kk => XS.ladd X0.here hx rfl (hb hby at_149) rfl kk) ?_
        refine OwnMg.back (s₁.setTop (mkF m 152 #[.val (.long p1), .second, .val (.long p2), .second, .val (.long p3), .second, .val (.int p4), .val (.int m2), .val (.int m12), .val (.int m22), .val (.int m32), .val (.int m42), .val (.int m52), .val (.long (m63 + (1 : Int64))), .second, .val (.long m64), .second, .val (.long m65), .second, .val (.long m66), .second, .unset, .unset] [])) (fun tg kk => XS.lstore X0.here hx rfl (hb hby at_150) rfl (l' := #[.val (.long p1), .second, .val (.long p2), .second, .val (.long p3), .second, .val (.int p4), .val (.int m2), .val (.int m12), .val (.int m22), .val (.int m32), .val (.int m42), .val (.int m52), .val (.long (m63 + (1 : Int64))), .second, .val (.long m64), .second, .val (.long m65), .second, .val (.long m66), .second, .unset, .unset]) rfl kk) ?_
        refine OwnMg.back (s₁.setTop (mkF m 154 #[.val (.long p1), .second, .val (.long p2), .second, .val (.long p3), .second, .val (.int p4), .val (.int m2), .val (.int m12), .val (.int m22), .val (.int m32), .val (.int m42), .val (.int m52), .val (.long (m63 + (1 : Int64))), .second, .val (.long m64), .second, .val (.long m65), .second, .val (.long m66), .second, .unset, .unset] [(.long m64)])) (fun tg kk => XS.lload X0.here hx rfl (hb hby at_152) rfl kk) ?_
        refine OwnMg.back (s₁.setTop (mkF m 155 #[.val (.long p1), .second, .val (.long p2), .second, .val (.long p3), .second, .val (.int p4), .val (.int m2), .val (.int m12), .val (.int m22), .val (.int m32), .val (.int m42), .val (.int m52), .val (.long (m63 + (1 : Int64))), .second, .val (.long m64), .second, .val (.long m65), .second, .val (.long m66), .second, .unset, .unset] [(.long p2), (.long m64)])) (fun tg kk => XS.lloadN X0.here hx rfl (hb hby at_154) rfl kk) ?_
        refine OwnMg.back (s₁.setTop (mkF m 156 #[.val (.long p1), .second, .val (.long p2), .second, .val (.long p3), .second, .val (.int p4), .val (.int m2), .val (.int m12), .val (.int m22), .val (.int m32), .val (.int m42), .val (.int m52), .val (.long (m63 + (1 : Int64))), .second, .val (.long m64), .second, .val (.long m65), .second, .val (.long m66), .second, .unset, .unset] [(.long (m64 + p2))])) (fun tg kk => XS.ladd X0.here hx rfl (hb hby at_155) rfl kk) ?_
        refine OwnMg.back (s₁.setTop (mkF m 158 #[.val (.long p1), .second, .val (.long p2), .second, .val (.long p3), .second, .val (.int p4), .val (.int m2), .val (.int m12), .val (.int m22), .val (.int m32), .val (.int m42), .val (.int m52), .val (.long (m63 + (1 : Int64))), .second, .val (.long (m64 + p2)), .second, .val (.long m65), .second, .val (.long m66), .second, .unset, .unset] [])) (fun tg kk => XS.lstore X0.here hx rfl (hb hby at_156) rfl (l' := #[.val (.long p1), .second, .val (.long p2), .second, .val (.long p3), .second, .val (.int p4), .val (.int m2), .val (.int m12), .val (.int m22), .val (.int m32), .val (.int m42), .val (.int m52), .val (.long (m63 + (1 : Int64))), .second, .val (.long (m64 + p2)), .second, .val (.long m65), .second, .val (.long m66), .second, .unset, .unset]) rfl kk) ?_
        refine OwnMg.back (s₁.setTop (mkF m 173 #[.val (.long p1), .second, .val (.long p2), .second, .val (.long p3), .second, .val (.int p4), .val (.int m2), .val (.int m12), .val (.int m22), .val (.int m32), .val (.int m42), .val (.int m52), .val (.long (m63 + (1 : Int64))), .second, .val (.long (m64 + p2)), .second, .val (.long m65), .second, .val (.long m66), .second, .unset, .unset] [])) (fun tg kk => XS.goto X0.here hx rfl (pc0 := 158) (pc' := 173) rfl (hb hby at_158) (by decide) (by decide) kk) ?_
        exact ⟨_, ⟨(m63 + (1 : Int64)), (m64 + p2), m65, m66, rfl, Or.inr (Or.inr (⟨hc89, hc90, rfl, rfl, rfl, rfl⟩))⟩, fun tg kk => kk⟩
  refine OwnGo.back (s₁.setTop (mkF m 173 #[.val (.long p1), .second, .val (.long p2), .second, .val (.long p3), .second, .val (.int p4), .val (.int m2), .val (.int m12), .val (.int m22), .val (.int m32), .val (.int m42), .val (.int m52), .val (.long m78), .second, .val (.long m79), .second, .val (.long m80), .second, .val (.long m81), .second, .unset, .unset] [])) dm83 ?_
  obtain ⟨_, ⟨m93, m94, m95, m96, rfl, hm97⟩, dm98⟩ : OwnMg p.tables e below (fun st' => ∃ (m93 : Int64), ∃ (m94 : Int64), ∃ (m95 : Int64), ∃ (m96 : Int64), st' = s₁.setTop (mkF m 212 #[.val (.long p1), .second, .val (.long p2), .second, .val (.long p3), .second, .val (.int p4), .val (.int m2), .val (.int m12), .val (.int m22), .val (.int m32), .val (.int m42), .val (.int m52), .val (.long m93), .second, .val (.long m94), .second, .val (.long m95), .second, .val (.long m96), .second, .unset, .unset] []) ∧ (((m42 = (0 : Int32)) ∧ m93 = m78 ∧ m94 = m79 ∧ m95 = m80 ∧ m96 = m81) ∨ ((¬ (m42 = (0 : Int32))) ∧ (m52 = (0 : Int32)) ∧ m93 = m78 ∧ m94 = m79 ∧ m95 = (m80 + (1 : Int64)) ∧ m96 = (m81 + p3)) ∨ ((¬ (m42 = (0 : Int32))) ∧ (¬ (m52 = (0 : Int32))) ∧ m93 = (m78 + (1 : Int64)) ∧ m94 = (m79 + p3) ∧ m95 = m80 ∧ m96 = m81))) (s₁.setTop (mkF m 173 #[.val (.long p1), .second, .val (.long p2), .second, .val (.long p3), .second, .val (.int p4), .val (.int m2), .val (.int m12), .val (.int m22), .val (.int m32), .val (.int m42), .val (.int m52), .val (.long m78), .second, .val (.long m79), .second, .val (.long m80), .second, .val (.long m81), .second, .unset, .unset] [])) := by
    refine OwnMg.back (s₁.setTop (mkF m 175 #[.val (.long p1), .second, .val (.long p2), .second, .val (.long p3), .second, .val (.int p4), .val (.int m2), .val (.int m12), .val (.int m22), .val (.int m32), .val (.int m42), .val (.int m52), .val (.long m78), .second, .val (.long m79), .second, .val (.long m80), .second, .val (.long m81), .second, .unset, .unset] [(.int m42)])) (fun tg kk => XS.iload X0.here hx rfl (hb hby at_173) rfl kk) ?_
    by_cases hc104 : m42 = (0 : Int32)
    ·
      refine OwnMg.back (s₁.setTop (mkF m 212 #[.val (.long p1), .second, .val (.long p2), .second, .val (.long p3), .second, .val (.int p4), .val (.int m2), .val (.int m12), .val (.int m22), .val (.int m32), .val (.int m42), .val (.int m52), .val (.long m78), .second, .val (.long m79), .second, .val (.long m80), .second, .val (.long m81), .second, .unset, .unset] [])) (fun tg kk => XS.ifYes X0.here hx rfl (pc0 := 175) (pc' := 212) rfl (hb hby at_175) rfl ((if0 _ _).trans (teq hc104).1) (by decide) (by decide) kk) ?_
      exact ⟨_, ⟨m78, m79, m80, m81, rfl, Or.inl ⟨hc104, rfl, rfl, rfl, rfl⟩⟩, fun tg kk => kk⟩
    ·
      refine OwnMg.back (s₁.setTop (mkF m 178 #[.val (.long p1), .second, .val (.long p2), .second, .val (.long p3), .second, .val (.int p4), .val (.int m2), .val (.int m12), .val (.int m22), .val (.int m32), .val (.int m42), .val (.int m52), .val (.long m78), .second, .val (.long m79), .second, .val (.long m80), .second, .val (.long m81), .second, .unset, .unset] [])) (fun tg kk => XS.ifNo X0.here hx rfl (hb hby at_175) rfl ((if0 _ _).trans (feq hc104).1) kk) ?_
      refine OwnMg.back (s₁.setTop (mkF m 180 #[.val (.long p1), .second, .val (.long p2), .second, .val (.long p3), .second, .val (.int p4), .val (.int m2), .val (.int m12), .val (.int m22), .val (.int m32), .val (.int m42), .val (.int m52), .val (.long m78), .second, .val (.long m79), .second, .val (.long m80), .second, .val (.long m81), .second, .unset, .unset] [(.int m52)])) (fun tg kk => XS.iload X0.here hx rfl (hb hby at_178) rfl kk) ?_
      by_cases hc105 : m52 = (0 : Int32)
      ·
        refine OwnMg.back (s₁.setTop (mkF m 199 #[.val (.long p1), .second, .val (.long p2), .second, .val (.long p3), .second, .val (.int p4), .val (.int m2), .val (.int m12), .val (.int m22), .val (.int m32), .val (.int m42), .val (.int m52), .val (.long m78), .second, .val (.long m79), .second, .val (.long m80), .second, .val (.long m81), .second, .unset, .unset] [])) (fun tg kk => XS.ifYes X0.here hx rfl (pc0 := 180) (pc' := 199) rfl (hb hby at_180) rfl ((if0 _ _).trans (teq hc105).1) (by decide) (by decide) kk) ?_
        refine OwnMg.back (s₁.setTop (mkF m 201 #[.val (.long p1), .second, .val (.long p2), .second, .val (.long p3), .second, .val (.int p4), .val (.int m2), .val (.int m12), .val (.int m22), .val (.int m32), .val (.int m42), .val (.int m52), .val (.long m78), .second, .val (.long m79), .second, .val (.long m80), .second, .val (.long m81), .second, .unset, .unset] [(.long m80)])) (fun tg kk => XS.lload X0.here hx rfl (hb hby at_199) rfl kk) ?_
        refine OwnMg.back (s₁.setTop (mkF m 202 #[.val (.long p1), .second, .val (.long p2), .second, .val (.long p3), .second, .val (.int p4), .val (.int m2), .val (.int m12), .val (.int m22), .val (.int m32), .val (.int m42), .val (.int m52), .val (.long m78), .second, .val (.long m79), .second, .val (.long m80), .second, .val (.long m81), .second, .unset, .unset] [(.long (1 : Int64)), (.long m80)])) (fun tg kk => XS.lconst X0.here hx rfl (hb hby at_201) kk) ?_
        refine OwnMg.back (s₁.setTop (mkF m 203 #[.val (.long p1), .second, .val (.long p2), .second, .val (.long p3), .second, .val (.int p4), .val (.int m2), .val (.int m12), .val (.int m22), .val (.int m32), .val (.int m42), .val (.int m52), .val (.long m78), .second, .val (.long m79), .second, .val (.long m80), .second, .val (.long m81), .second, .unset, .unset] [(.long (m80 + (1 : Int64)))])) (fun tg kk => XS.ladd X0.here hx rfl (hb hby at_202) rfl kk) ?_
        refine OwnMg.back (s₁.setTop (mkF m 205 #[.val (.long p1), .second, .val (.long p2), .second, .val (.long p3), .second, .val (.int p4), .val (.int m2), .val (.int m12), .val (.int m22), .val (.int m32), .val (.int m42), .val (.int m52), .val (.long m78), .second, .val (.long m79), .second, .val (.long (m80 + (1 : Int64))), .second, .val (.long m81), .second, .unset, .unset] [])) (fun tg kk => XS.lstore X0.here hx rfl (hb hby at_203) rfl (l' := #[.val (.long p1), .second, .val (.long p2), .second, .val (.long p3), .second, .val (.int p4), .val (.int m2), .val (.int m12), .val (.int m22), .val (.int m32), .val (.int m42), .val (.int m52), .val (.long m78), .second, .val (.long m79), .second, .val (.long (m80 + (1 : Int64))), .second, .val (.long m81), .second, .unset, .unset]) rfl kk) ?_
        refine OwnMg.back (s₁.setTop (mkF m 207 #[.val (.long p1), .second, .val (.long p2), .second, .val (.long p3), .second, .val (.int p4), .val (.int m2), .val (.int m12), .val (.int m22), .val (.int m32), .val (.int m42), .val (.int m52), .val (.long m78), .second, .val (.long m79), .second, .val (.long (m80 + (1 : Int64))), .second, .val (.long m81), .second, .unset, .unset] [(.long m81)])) (fun tg kk => XS.lload X0.here hx rfl (hb hby at_205) rfl kk) ?_
        refine OwnMg.back (s₁.setTop (mkF m 209 #[.val (.long p1), .second, .val (.long p2), .second, .val (.long p3), .second, .val (.int p4), .val (.int m2), .val (.int m12), .val (.int m22), .val (.int m32), .val (.int m42), .val (.int m52), .val (.long m78), .second, .val (.long m79), .second, .val (.long (m80 + (1 : Int64))), .second, .val (.long m81), .second, .unset, .unset] [(.long p3), (.long m81)])) (fun tg kk => XS.lload X0.here hx rfl (hb hby at_207) rfl kk) ?_
        refine OwnMg.back (s₁.setTop (mkF m 210 #[.val (.long p1), .second, .val (.long p2), .second, .val (.long p3), .second, .val (.int p4), .val (.int m2), .val (.int m12), .val (.int m22), .val (.int m32), .val (.int m42), .val (.int m52), .val (.long m78), .second, .val (.long m79), .second, .val (.long (m80 + (1 : Int64))), .second, .val (.long m81), .second, .unset, .unset] [(.long (m81 + p3))])) (fun tg kk => XS.ladd X0.here hx rfl (hb hby at_209) rfl kk) ?_
        refine OwnMg.back (s₁.setTop (mkF m 212 #[.val (.long p1), .second, .val (.long p2), .second, .val (.long p3), .second, .val (.int p4), .val (.int m2), .val (.int m12), .val (.int m22), .val (.int m32), .val (.int m42), .val (.int m52), .val (.long m78), .second, .val (.long m79), .second, .val (.long (m80 + (1 : Int64))), .second, .val (.long (m81 + p3)), .second, .unset, .unset] [])) (fun tg kk => XS.lstore X0.here hx rfl (hb hby at_210) rfl (l' := #[.val (.long p1), .second, .val (.long p2), .second, .val (.long p3), .second, .val (.int p4), .val (.int m2), .val (.int m12), .val (.int m22), .val (.int m32), .val (.int m42), .val (.int m52), .val (.long m78), .second, .val (.long m79), .second, .val (.long (m80 + (1 : Int64))), .second, .val (.long (m81 + p3)), .second, .unset, .unset]) rfl kk) ?_
        exact ⟨_, ⟨m78, m79, (m80 + (1 : Int64)), (m81 + p3), rfl, Or.inr (Or.inl ⟨hc104, hc105, rfl, rfl, rfl, rfl⟩)⟩, fun tg kk => kk⟩
      ·
        refine OwnMg.back (s₁.setTop (mkF m 183 #[.val (.long p1), .second, .val (.long p2), .second, .val (.long p3), .second, .val (.int p4), .val (.int m2), .val (.int m12), .val (.int m22), .val (.int m32), .val (.int m42), .val (.int m52), .val (.long m78), .second, .val (.long m79), .second, .val (.long m80), .second, .val (.long m81), .second, .unset, .unset] [])) (fun tg kk => XS.ifNo X0.here hx rfl (hb hby at_180) rfl ((if0 _ _).trans (feq hc105).1) kk) ?_
        refine OwnMg.back (s₁.setTop (mkF m 185 #[.val (.long p1), .second, .val (.long p2), .second, .val (.long p3), .second, .val (.int p4), .val (.int m2), .val (.int m12), .val (.int m22), .val (.int m32), .val (.int m42), .val (.int m52), .val (.long m78), .second, .val (.long m79), .second, .val (.long m80), .second, .val (.long m81), .second, .unset, .unset] [(.long m78)])) (fun tg kk => XS.lload X0.here hx rfl (hb hby at_183) rfl kk) ?_
        refine OwnMg.back (s₁.setTop (mkF m 186 #[.val (.long p1), .second, .val (.long p2), .second, .val (.long p3), .second, .val (.int p4), .val (.int m2), .val (.int m12), .val (.int m22), .val (.int m32), .val (.int m42), .val (.int m52), .val (.long m78), .second, .val (.long m79), .second, .val (.long m80), .second, .val (.long m81), .second, .unset, .unset] [(.long (1 : Int64)), (.long m78)])) (fun tg kk => XS.lconst X0.here hx rfl (hb hby at_185) kk) ?_
        refine OwnMg.back (s₁.setTop (mkF m 187 #[.val (.long p1), .second, .val (.long p2), .second, .val (.long p3), .second, .val (.int p4), .val (.int m2), .val (.int m12), .val (.int m22), .val (.int m32), .val (.int m42), .val (.int m52), .val (.long m78), .second, .val (.long m79), .second, .val (.long m80), .second, .val (.long m81), .second, .unset, .unset] [(.long (m78 + (1 : Int64)))])) (fun tg kk => XS.ladd X0.here hx rfl (hb hby at_186) rfl kk) ?_
        refine OwnMg.back (s₁.setTop (mkF m 189 #[.val (.long p1), .second, .val (.long p2), .second, .val (.long p3), .second, .val (.int p4), .val (.int m2), .val (.int m12), .val (.int m22), .val (.int m32), .val (.int m42), .val (.int m52), .val (.long (m78 + (1 : Int64))), .second, .val (.long m79), .second, .val (.long m80), .second, .val (.long m81), .second, .unset, .unset] [])) (fun tg kk => XS.lstore X0.here hx rfl (hb hby at_187) rfl (l' := #[.val (.long p1), .second, .val (.long p2), .second, .val (.long p3), .second, .val (.int p4), .val (.int m2), .val (.int m12), .val (.int m22), .val (.int m32), .val (.int m42), .val (.int m52), .val (.long (m78 + (1 : Int64))), .second, .val (.long m79), .second, .val (.long m80), .second, .val (.long m81), .second, .unset, .unset]) rfl kk) ?_
        refine OwnMg.back (s₁.setTop (mkF m 191 #[.val (.long p1), .second, .val (.long p2), .second, .val (.long p3), .second, .val (.int p4), .val (.int m2), .val (.int m12), .val (.int m22), .val (.int m32), .val (.int m42), .val (.int m52), .val (.long (m78 + (1 : Int64))), .second, .val (.long m79), .second, .val (.long m80), .second, .val (.long m81), .second, .unset, .unset] [(.long m79)])) (fun tg kk => XS.lload X0.here hx rfl (hb hby at_189) rfl kk) ?_
        refine OwnMg.back (s₁.setTop (mkF m 193 #[.val (.long p1), .second, .val (.long p2), .second, .val (.long p3), .second, .val (.int p4), .val (.int m2), .val (.int m12), .val (.int m22), .val (.int m32), .val (.int m42), .val (.int m52), .val (.long (m78 + (1 : Int64))), .second, .val (.long m79), .second, .val (.long m80), .second, .val (.long m81), .second, .unset, .unset] [(.long p3), (.long m79)])) (fun tg kk => XS.lload X0.here hx rfl (hb hby at_191) rfl kk) ?_
        refine OwnMg.back (s₁.setTop (mkF m 194 #[.val (.long p1), .second, .val (.long p2), .second, .val (.long p3), .second, .val (.int p4), .val (.int m2), .val (.int m12), .val (.int m22), .val (.int m32), .val (.int m42), .val (.int m52), .val (.long (m78 + (1 : Int64))), .second, .val (.long m79), .second, .val (.long m80), .second, .val (.long m81), .second, .unset, .unset] [(.long (m79 + p3))])) (fun tg kk => XS.ladd X0.here hx rfl (hb hby at_193) rfl kk) ?_
        refine OwnMg.back (s₁.setTop (mkF m 196 #[.val (.long p1), .second, .val (.long p2), .second, .val (.long p3), .second, .val (.int p4), .val (.int m2), .val (.int m12), .val (.int m22), .val (.int m32), .val (.int m42), .val (.int m52), .val (.long (m78 + (1 : Int64))), .second, .val (.long (m79 + p3)), .second, .val (.long m80), .second, .val (.long m81), .second, .unset, .unset] [])) (fun tg kk => XS.lstore X0.here hx rfl (hb hby at_194) rfl (l' := #[.val (.long p1), .second, .val (.long p2), .second, .val (.long p3), .second, .val (.int p4), .val (.int m2), .val (.int m12), .val (.int m22), .val (.int m32), .val (.int m42), .val (.int m52), .val (.long (m78 + (1 : Int64))), .second, .val (.long (m79 + p3)), .second, .val (.long m80), .second, .val (.long m81), .second, .unset, .unset]) rfl kk) ?_
        refine OwnMg.back (s₁.setTop (mkF m 212 #[.val (.long p1), .second, .val (.long p2), .second, .val (.long p3), .second, .val (.int p4), .val (.int m2), .val (.int m12), .val (.int m22), .val (.int m32), .val (.int m42), .val (.int m52), .val (.long (m78 + (1 : Int64))), .second, .val (.long (m79 + p3)), .second, .val (.long m80), .second, .val (.long m81), .second, .unset, .unset] [])) (fun tg kk => XS.goto X0.here hx rfl (pc0 := 196) (pc' := 212) rfl (hb hby at_196) (by decide) (by decide) kk) ?_
        exact ⟨_, ⟨(m78 + (1 : Int64)), (m79 + p3), m80, m81, rfl, Or.inr (Or.inr (⟨hc104, hc105, rfl, rfl, rfl, rfl⟩))⟩, fun tg kk => kk⟩
  refine OwnGo.back (s₁.setTop (mkF m 212 #[.val (.long p1), .second, .val (.long p2), .second, .val (.long p3), .second, .val (.int p4), .val (.int m2), .val (.int m12), .val (.int m22), .val (.int m32), .val (.int m42), .val (.int m52), .val (.long m93), .second, .val (.long m94), .second, .val (.long m95), .second, .val (.long m96), .second, .unset, .unset] [])) dm98 ?_
  obtain ⟨T106, h106, X106, e106, E106, A106, D106, -, st106⟩ := newO X0 hx hZ hown (hw _ (List.mem_of_getElem? (i := 0) rfl)) (hw _ (List.mem_of_getElem? (i := 1) rfl)) (hw _ (List.mem_of_getElem? (i := 2) rfl)) e0 (g := (mkF m 212 #[.val (.long p1), .second, .val (.long p2), .second, .val (.long p3), .second, .val (.int p4), .val (.int m2), .val (.int m12), .val (.int m22), .val (.int m32), .val (.int m42), .val (.int m52), .val (.long m93), .second, .val (.long m94), .second, .val (.long m95), .second, .val (.long m96), .second, .unset, .unset] [])) rfl (hb hby at_212) (by decide) (by decide)
  obtain ⟨b106, q106⟩ : ∃ z, z = h0.size := ⟨_, rfl⟩
  rw [← q106] at A106 D106 st106
  have g107 : n0 ≤ b106 := Nat.le_trans Z0 (Nat.le_of_eq q106.symm)
  have s108 : h0.size ≤ b106 := Nat.le_trans K0.1 (Nat.le_of_eq q106.symm)
  have K109 : Keep h0 h106 [] := K0.ext E106
  have Z110 : n0 ≤ h106.size := Nat.le_trans Z0 E106.1
  have f111 : Fld Z h106 b106 "com/example/tallyframe/tallyframe/Ledger" "byKind" "Lcom/example/tallyframe/tallyframe/KindFigures;" .null := D106 (Or.inr (hw _ (List.mem_of_getElem? (i := 26) rfl))) (ty := (.object "com/example/tallyframe/tallyframe/KindFigures")) (by decide)
  have f112 : Fld Z h106 b106 "com/example/tallyframe/tallyframe/Ledger" "allocatedObjects" "J" (.long (0 : Int64)) := D106 (Or.inl (hw _ (List.mem_of_getElem? (i := 40) rfl))) (ty := .long) (by decide)
  have f113 : Fld Z h106 b106 "com/example/tallyframe/tallyframe/Ledger" "allocatedBytes" "J" (.long (0 : Int64)) := D106 (Or.inl (hw _ (List.mem_of_getElem? (i := 42) rfl))) (ty := .long) (by decide)
  have f114 : Fld Z h106 b106 "com/example/tallyframe/tallyframe/Ledger" "releasedObjects" "J" (.long (0 : Int64)) := D106 (Or.inl (hw _ (List.mem_of_getElem? (i := 44) rfl))) (ty := .long) (by decide)
  have f115 : Fld Z h106 b106 "com/example/tallyframe/tallyframe/Ledger" "releasedBytes" "J" (.long (0 : Int64)) := D106 (Or.inl (hw _ (List.mem_of_getElem? (i := 46) rfl))) (ty := .long) (by decide)
  have f116 : Fld Z h106 b106 "com/example/tallyframe/tallyframe/Ledger" "peakLiveBytes" "J" (.long (0 : Int64)) := D106 (Or.inl (hw _ (List.mem_of_getElem? (i := 85) rfl))) (ty := .long) (by decide)
  refine OwnGo.back (T106.setTop (mkF m 215 #[.val (.long p1), .second, .val (.long p2), .second, .val (.long p3), .second, .val (.int p4), .val (.int m2), .val (.int m12), .val (.int m22), .val (.int m32), .val (.int m42), .val (.int m52), .val (.long m93), .second, .val (.long m94), .second, .val (.long m95), .second, .val (.long m96), .second, .unset, .unset] [(.ref b106)])) (fun tg kk => st106 _ kk) ?_
  refine OwnGo.back (T106.setTop (mkF m 216 #[.val (.long p1), .second, .val (.long p2), .second, .val (.long p3), .second, .val (.int p4), .val (.int m2), .val (.int m12), .val (.int m22), .val (.int m32), .val (.int m42), .val (.int m52), .val (.long m93), .second, .val (.long m94), .second, .val (.long m95), .second, .val (.long m96), .second, .unset, .unset] [(.ref b106), (.ref b106)])) (fun tg kk => XS.dup X106.here hx rfl (hb hby at_215) rfl rfl kk) ?_
  obtain ⟨_, _, ⟨T117, L117, k117, n117⟩, -, X117, ⟨Lc117, hQ117, l117, y117, z117⟩, st117⟩ := X106.specialBack hx (y := (⟨"com/example/tallyframe/tallyframe/Ledger", "<init>", "()V"⟩ : MethodName)) rfl hown (mvT hZ (hw _ (List.mem_of_getElem? (i := 3) rfl))) (mvT hZ (hw _ (List.mem_of_getElem? (i := 4) rfl))) (mvT hZ (hw _ (List.mem_of_getElem? (i := 5) rfl))) (by decide) (backOf (W := 1) (own_lg l Z a0 hw [] b106 h106 n0 Z110 A106 f111 f112 f113 f114 f115 f116 g107) hZ (hw _ (List.mem_of_getElem? (i := 5) rfl)) (hw _ (List.mem_of_getElem? (i := 2) rfl)) (by decide) (by decide)) (g := (mkF m 216 #[.val (.long p1), .second, .val (.long p2), .second, .val (.long p3), .second, .val (.int p4), .val (.int m2), .val (.int m12), .val (.int m22), .val (.int m32), .val (.int m42), .val (.int m52), .val (.long m93), .second, .val (.long m94), .second, .val (.long m95), .second, .val (.long m96), .second, .unset, .unset] [(.ref b106), (.ref b106)])) rfl (by rw [hml]; rfl) (Steps.refl _) (a := b106) (argsL := []) (rest := [(.ref b106)]) (lenOf own_pd0 rfl) rfl (by show 2 * 0 + _ ≤ _; exact Nat.le_of_eq rfl) (hb hby at_216) (fun _ _ => ⟨rfl, e106, (by decide : 1 + 4 ≤ _), (by decide : 6 + 29 ≤ _)⟩)
  dsimp only [Pt.U, Pt.locs, Pt.cells, Pt.slots] at X117 l117 y117 z117 st117 hQ117
  subst l117 y117 z117
  obtain ⟨kf_118, ak_119, aj_120, ab_121, kk_122, kj_123, kb_124, rfl, N117q, Kc117, po125, po126, po127, po128, po129, po130, po131, po132, po133, po134, po135, po136, po137, po138, po139, po140, po141, po142, po143, po144, po145, po146, po147, po148, po149⟩ := hQ117
  have N117 := Fr.app N0 N117q
  have f150 : Exa Z T117.heap b106 "com/example/tallyframe/tallyframe/Ledger" := A106.keep Kc117
  have K151 : Keep h0 T117.heap [] := K109.trans Kc117 (allS (Or.inr s108) all0)
  have Z152 : n0 ≤ T117.heap.size := Nat.le_trans Z110 Kc117.1
  have n153 : b106 ≠ kf_118 := own_ne' A106.lt po125
  have g154 : n0 ≤ kf_118 := Nat.le_trans Z110 po125
  have s155 : h0.size ≤ kf_118 := Nat.le_trans K109.1 po125
  have n156 : b106 ≠ ak_119 := own_ne' A106.lt po126
  have g157 : n0 ≤ ak_119 := Nat.le_trans Z110 po126
  have s158 : h0.size ≤ ak_119 := Nat.le_trans K109.1 po126
  have n159 : b106 ≠ aj_120 := own_ne' A106.lt po127
  have g160 : n0 ≤ aj_120 := Nat.le_trans Z110 po127
  have s161 : h0.size ≤ aj_120 := Nat.le_trans K109.1 po127
  have n162 : b106 ≠ ab_121 := own_ne' A106.lt po128
  have g163 : n0 ≤ ab_121 := Nat.le_trans Z110 po128
  have s164 : h0.size ≤ ab_121 := Nat.le_trans K109.1 po128
  refine OwnGo.back (T117.setTop (mkF m 219 #[.val (.long p1), .second, .val (.long p2), .second, .val (.long p3), .second, .val (.int p4), .val (.int m2), .val (.int m12), .val (.int m22), .val (.int m32), .val (.int m42), .val (.int m52), .val (.long m93), .second, .val (.long m94), .second, .val (.long m95), .second, .val (.long m96), .second, .unset, .unset] [(.ref b106)])) (fun tg kk => st117.trans kk) ?_
  refine OwnGo.back (T117.setTop (mkF m 221 #[.val (.long p1), .second, .val (.long p2), .second, .val (.long p3), .second, .val (.int p4), .val (.int m2), .val (.int m12), .val (.int m22), .val (.int m32), .val (.int m42), .val (.int m52), .val (.long m93), .second, .val (.long m94), .second, .val (.long m95), .second, .val (.long m96), .second, .val (.ref b106), .unset] [])) (fun tg kk => XS.astore X117.here hx rfl (hb hby at_219) rfl rfl (l' := #[.val (.long p1), .second, .val (.long p2), .second, .val (.long p3), .second, .val (.int p4), .val (.int m2), .val (.int m12), .val (.int m22), .val (.int m32), .val (.int m42), .val (.int m52), .val (.long m93), .second, .val (.long m94), .second, .val (.long m95), .second, .val (.long m96), .second, .val (.ref b106), .unset]) rfl kk) ?_
  refine OwnGo.back (T117.setTop (mkF m 223 #[.val (.long p1), .second, .val (.long p2), .second, .val (.long p3), .second, .val (.int p4), .val (.int m2), .val (.int m12), .val (.int m22), .val (.int m32), .val (.int m42), .val (.int m52), .val (.long m93), .second, .val (.long m94), .second, .val (.long m95), .second, .val (.long m96), .second, .val (.ref b106), .unset] [(.ref b106)])) (fun tg kk => XS.aload X117.here hx rfl (hb hby at_221) rfl rfl kk) ?_
  refine OwnGo.back (T117.setTop (mkF m 225 #[.val (.long p1), .second, .val (.long p2), .second, .val (.long p3), .second, .val (.int p4), .val (.int m2), .val (.int m12), .val (.int m22), .val (.int m32), .val (.int m42), .val (.int m52), .val (.long m93), .second, .val (.long m94), .second, .val (.long m95), .second, .val (.long m96), .second, .val (.ref b106), .unset] [(.int m2), (.ref b106)])) (fun tg kk => XS.iload X117.here hx rfl (hb hby at_223) rfl kk) ?_
  refine OwnGo.back (T117.setTop (mkF m 227 #[.val (.long p1), .second, .val (.long p2), .second, .val (.long p3), .second, .val (.int p4), .val (.int m2), .val (.int m12), .val (.int m22), .val (.int m32), .val (.int m42), .val (.int m52), .val (.long m93), .second, .val (.long m94), .second, .val (.long m95), .second, .val (.long m96), .second, .val (.ref b106), .unset] [(.int m12), (.int m2), (.ref b106)])) (fun tg kk => XS.iload X117.here hx rfl (hb hby at_225) rfl kk) ?_
  refine OwnGo.back (T117.setTop (mkF m 228 #[.val (.long p1), .second, .val (.long p2), .second, .val (.long p3), .second, .val (.int p4), .val (.int m2), .val (.int m12), .val (.int m22), .val (.int m32), .val (.int m42), .val (.int m52), .val (.long m93), .second, .val (.long m94), .second, .val (.long m95), .second, .val (.long m96), .second, .val (.ref b106), .unset] [(.long p1), (.int m12), (.int m2), (.ref b106)])) (fun tg kk => XS.lloadN X117.here hx rfl (hb hby at_227) rfl kk) ?_
  obtain ⟨_, _, ⟨T165, L165, k165, n165⟩, -, X165, ⟨Lc165, hQ165, l165, y165, z165⟩, st165⟩ := Jvm.LawKit.callS X117 hx (y := (⟨"com/example/tallyframe/tallyframe/LedgerTallyPinLaw", "apply", "(Lcom/example/tallyframe/tallyframe/Ledger;ZZJ)V"⟩ : MethodName)) hown (mvT hZ (hw _ (List.mem_of_getElem? (i := 27) rfl))) (mvT hZ (hw _ (List.mem_of_getElem? (i := 28) rfl))) (mvT hZ (hw _ (List.mem_of_getElem? (i := 29) rfl))) (mvT hZ (hw _ (List.mem_of_getElem? (i := 30) rfl))) (by decide) (backOf (W := 0) (own_ap l Z a0 hw [] b106 m2 m12 p1 kf_118 ak_119 aj_120 ab_121 kk_122 kj_123 kb_124 (0 : Int64) (0 : Int64) (0 : Int64) (0 : Int64) (0 : Int64) (0 : Int64) (0 : Int64) T117.heap n0 Z152 po135 po136 po137 po138 po139 po140 po141 po142 po143 po144 po145 po146 po147 po148 po149 g107 g160 g163 n153 n156 n159 n162 po129 po130 po131 po132 po133 po134) hZ (hw _ (List.mem_of_getElem? (i := 30) rfl)) (hw _ (List.mem_of_getElem? (i := 29) rfl)) (by decide) (by decide)) (g := (mkF m 228 #[.val (.long p1), .second, .val (.long p2), .second, .val (.long p3), .second, .val (.int p4), .val (.int m2), .val (.int m12), .val (.int m22), .val (.int m32), .val (.int m42), .val (.int m52), .val (.long m93), .second, .val (.long m94), .second, .val (.long m95), .second, .val (.long m96), .second, .val (.ref b106), .unset] [(.long p1), (.int m12), (.int m2), (.ref b106)])) rfl (by rw [hml]; rfl) (argsL := [(.ref b106), (.int m2), (.int m12), (.long p1)]) (rest := []) (lenOf own_pd6 rfl) rfl (by show 2 * 0 + _ ≤ _; exact Nat.le_of_eq rfl) (hb hby at_228) (fun _ _ => ⟨rfl, rfl, (by decide : 5 + 0 ≤ _), (by decide : 35 + 0 ≤ _)⟩)
  dsimp only [Pt.U, Pt.locs, Pt.cells, Pt.slots] at X165 l165 y165 z165 st165 hQ165
  subst l165 y165 z165
  obtain ⟨w0_166, w1_167, w2_168, w3_169, v4__170, o__171, b__172, rfl, N165q, Kc165, po173, po174, po175, po176, po177, po178, po179, po180, po181, po182⟩ := hQ165
  have N165 := Fr.app N117 N165q
  have f183 : Exa Z T165.heap b106 "com/example/tallyframe/tallyframe/Ledger" := po135.keep Kc165
  have f184 : Exa Z T165.heap kf_118 "com/example/tallyframe/tallyframe/KindFigures" := po142.keep Kc165
  have f185 : Fld Z T165.heap kf_118 "com/example/tallyframe/tallyframe/KindFigures" "lastSlot" "I" (.int (0 : Int32)) := po143.keep Kc165 (ninS (Ne.symm n153) (ninS po130 (ninS po131 nin0)))
  have f186 : Fld Z T165.heap kf_118 "com/example/tallyframe/tallyframe/KindFigures" "kinds" "[Ljava/lang/Class;" (.ref ak_119) := po144.keep Kc165 (ninS (Ne.symm n153) (ninS po130 (ninS po131 nin0)))
  have f187 : Fld Z T165.heap kf_118 "com/example/tallyframe/tallyframe/KindFigures" "objects" "[J" (.ref aj_120) := po145.keep Kc165 (ninS (Ne.symm n153) (ninS po130 (ninS po131 nin0)))
  have f188 : Fld Z T165.heap kf_118 "com/example/tallyframe/tallyframe/KindFigures" "bytes" "[J" (.ref ab_121) := po146.keep Kc165 (ninS (Ne.symm n153) (ninS po130 (ninS po131 nin0)))
  have f189 : Arv Z T165.heap ak_119 kk_122 (.object "java/lang/Class") (8 : Int32) [.null] .null := po147.keep Kc165 (ninS (Ne.symm n156) (ninS po132 (ninS po133 nin0)))
  have K190 : Keep h0 T165.heap [] := K151.trans Kc165 (allS (Or.inr s108) (allS (Or.inr s161) (allS (Or.inr s164) all0)))
  have Z191 : n0 ≤ T165.heap.size := Nat.le_trans Z152 Kc165.1
  obtain ⟨ev192a, ev192b, ev192c, ev192d⟩ := own_ev hm67 po182
  have f193 : Fld Z T165.heap b106 "com/example/tallyframe/tallyframe/Ledger" "allocatedObjects" "J" (.long m63) := by have h := po175; rw [ev192a] at h; exact h
  have f194 : Fld Z T165.heap b106 "com/example/tallyframe/tallyframe/Ledger" "allocatedBytes" "J" (.long m64) := by have h := po176; rw [ev192b] at h; exact h
  have f195 : Fld Z T165.heap b106 "com/example/tallyframe/tallyframe/Ledger" "releasedObjects" "J" (.long m65) := by have h := po177; rw [ev192c] at h; exact h
  have f196 : Fld Z T165.heap b106 "com/example/tallyframe/tallyframe/Ledger" "releasedBytes" "J" (.long m66) := by have h := po178; rw [ev192d] at h; exact h
  refine OwnGo.back (T165.setTop (mkF m 231 #[.val (.long p1), .second, .val (.long p2), .second, .val (.long p3), .second, .val (.int p4), .val (.int m2), .val (.int m12), .val (.int m22), .val (.int m32), .val (.int m42), .val (.int m52), .val (.long m93), .second, .val (.long m94), .second, .val (.long m95), .second, .val (.long m96), .second, .val (.ref b106), .unset] [])) (fun tg kk => st165 _ kk) ?_
  refine OwnGo.back (T165.setTop (mkF m 233 #[.val (.long p1), .second, .val (.long p2), .second, .val (.long p3), .second, .val (.int p4), .val (.int m2), .val (.int m12), .val (.int m22), .val (.int m32), .val (.int m42), .val (.int m52), .val (.long m93), .second, .val (.long m94), .second, .val (.long m95), .second, .val (.long m96), .second, .val (.ref b106), .unset] [(.ref b106)])) (fun tg kk => XS.aload X165.here hx rfl (hb hby at_231) rfl rfl kk) ?_
  refine OwnGo.back (T165.setTop (mkF m 235 #[.val (.long p1), .second, .val (.long p2), .second, .val (.long p3), .second, .val (.int p4), .val (.int m2), .val (.int m12), .val (.int m22), .val (.int m32), .val (.int m42), .val (.int m52), .val (.long m93), .second, .val (.long m94), .second, .val (.long m95), .second, .val (.long m96), .second, .val (.ref b106), .unset] [(.int m22), (.ref b106)])) (fun tg kk => XS.iload X165.here hx rfl (hb hby at_233) rfl kk) ?_
  refine OwnGo.back (T165.setTop (mkF m 237 #[.val (.long p1), .second, .val (.long p2), .second, .val (.long p3), .second, .val (.int p4), .val (.int m2), .val (.int m12), .val (.int m22), .val (.int m32), .val (.int m42), .val (.int m52), .val (.long m93), .second, .val (.long m94), .second, .val (.long m95), .second, .val (.long m96), .second, .val (.ref b106), .unset] [(.int m32), (.int m22), (.ref b106)])) (fun tg kk => XS.iload X165.here hx rfl (hb hby at_235) rfl kk) ?_
  refine OwnGo.back (T165.setTop (mkF m 238 #[.val (.long p1), .second, .val (.long p2), .second, .val (.long p3), .second, .val (.int p4), .val (.int m2), .val (.int m12), .val (.int m22), .val (.int m32), .val (.int m42), .val (.int m52), .val (.long m93), .second, .val (.long m94), .second, .val (.long m95), .second, .val (.long m96), .second, .val (.ref b106), .unset] [(.long p2), (.int m32), (.int m22), (.ref b106)])) (fun tg kk => XS.lloadN X165.here hx rfl (hb hby at_237) rfl kk) ?_
  obtain ⟨_, _, ⟨T197, L197, k197, n197⟩, -, X197, ⟨Lc197, hQ197, l197, y197, z197⟩, st197⟩ := Jvm.LawKit.callS X165 hx (y := (⟨"com/example/tallyframe/tallyframe/LedgerTallyPinLaw", "apply", "(Lcom/example/tallyframe/tallyframe/Ledger;ZZJ)V"⟩ : MethodName)) hown (mvT hZ (hw _ (List.mem_of_getElem? (i := 27) rfl))) (mvT hZ (hw _ (List.mem_of_getElem? (i := 28) rfl))) (mvT hZ (hw _ (List.mem_of_getElem? (i := 29) rfl))) (mvT hZ (hw _ (List.mem_of_getElem? (i := 30) rfl))) (by decide) (backOf (W := 0) (own_ap l Z a0 hw [] b106 m22 m32 p2 kf_118 ak_119 aj_120 ab_121 kk_122 kj_123 kb_124 m63 m64 m65 m66 v4__170 o__171 b__172 T165.heap n0 Z191 po173 po174 f193 f194 f195 f196 po179 f184 f185 f186 f187 f188 f189 po180 po181 g107 g160 g163 n153 n156 n159 n162 po129 po130 po131 po132 po133 po134) hZ (hw _ (List.mem_of_getElem? (i := 30) rfl)) (hw _ (List.mem_of_getElem? (i := 29) rfl)) (by decide) (by decide)) (g := (mkF m 238 #[.val (.long p1), .second, .val (.long p2), .second, .val (.long p3), .second, .val (.int p4), .val (.int m2), .val (.int m12), .val (.int m22), .val (.int m32), .val (.int m42), .val (.int m52), .val (.long m93), .second, .val (.long m94), .second, .val (.long m95), .second, .val (.long m96), .second, .val (.ref b106), .unset] [(.long p2), (.int m32), (.int m22), (.ref b106)])) rfl (by rw [hml]; rfl) (argsL := [(.ref b106), (.int m22), (.int m32), (.long p2)]) (rest := []) (lenOf own_pd6 rfl) rfl (by show 2 * 0 + _ ≤ _; exact Nat.le_of_eq rfl) (hb hby at_238) (fun _ _ => ⟨rfl, rfl, (by decide : 5 + 0 ≤ _), (by decide : 35 + 0 ≤ _)⟩)
  dsimp only [Pt.U, Pt.locs, Pt.cells, Pt.slots] at X197 l197 y197 z197 st197 hQ197
  subst l197 y197 z197
  obtain ⟨w0_198, w1_199, w2_200, w3_201, v4__202, o__203, b__204, rfl, N197q, Kc197, po205, po206, po207, po208, po209, po210, po211, po212, po213, po214⟩ := hQ197
  have N197 := Fr.app N165 N197q
  have f215 : Exa Z T197.heap b106 "com/example/tallyframe/tallyframe/Ledger" := po173.keep Kc197
  have f216 : Exa Z T197.heap kf_118 "com/example/tallyframe/tallyframe/KindFigures" := f184.keep Kc197
  have f217 : Fld Z T197.heap kf_118 "com/example/tallyframe/tallyframe/KindFigures" "lastSlot" "I" (.int (0 : Int32)) := f185.keep Kc197 (ninS (Ne.symm n153) (ninS po130 (ninS po131 nin0)))
  have f218 : Fld Z T197.heap kf_118 "com/example/tallyframe/tallyframe/KindFigures" "kinds" "[Ljava/lang/Class;" (.ref ak_119) := f186.keep Kc197 (ninS (Ne.symm n153) (ninS po130 (ninS po131 nin0)))
  have f219 : Fld Z T197.heap kf_118 "com/example/tallyframe/tallyframe/KindFigures" "objects" "[J" (.ref aj_120) := f187.keep Kc197 (ninS (Ne.symm n153) (ninS po130 (ninS po131 nin0)))
  have f220 : Fld Z T197.heap kf_118 "com/example/tallyframe/tallyframe/KindFigures" "bytes" "[J" (.ref ab_121) := f188.keep Kc197 (ninS (Ne.symm n153) (ninS po130 (ninS po131 nin0)))
  have f221 : Arv Z T197.heap ak_119 kk_122 (.object "java/lang/Class") (8 : Int32) [.null] .null := f189.keep Kc197 (ninS (Ne.symm n156) (ninS po132 (ninS po133 nin0)))
  have K222 : Keep h0 T197.heap [] := K190.trans Kc197 (allS (Or.inr s108) (allS (Or.inr s161) (allS (Or.inr s164) all0)))
  have Z223 : n0 ≤ T197.heap.size := Nat.le_trans Z191 Kc197.1
  obtain ⟨ev224a, ev224b, ev224c, ev224d⟩ := own_ev hm82 po214
  have f225 : Fld Z T197.heap b106 "com/example/tallyframe/tallyframe/Ledger" "allocatedObjects" "J" (.long m78) := by have h := po207; rw [ev224a] at h; exact h
  have f226 : Fld Z T197.heap b106 "com/example/tallyframe/tallyframe/Ledger" "allocatedBytes" "J" (.long m79) := by have h := po208; rw [ev224b] at h; exact h
  have f227 : Fld Z T197.heap b106 "com/example/tallyframe/tallyframe/Ledger" "releasedObjects" "J" (.long m80) := by have h := po209; rw [ev224c] at h; exact h
  have f228 : Fld Z T197.heap b106 "com/example/tallyframe/tallyframe/Ledger" "releasedBytes" "J" (.long m81) := by have h := po210; rw [ev224d] at h; exact h
  refine OwnGo.back (T197.setTop (mkF m 241 #[.val (.long p1), .second, .val (.long p2), .second, .val (.long p3), .second, .val (.int p4), .val (.int m2), .val (.int m12), .val (.int m22), .val (.int m32), .val (.int m42), .val (.int m52), .val (.long m93), .second, .val (.long m94), .second, .val (.long m95), .second, .val (.long m96), .second, .val (.ref b106), .unset] [])) (fun tg kk => st197 _ kk) ?_
  refine OwnGo.back (T197.setTop (mkF m 243 #[.val (.long p1), .second, .val (.long p2), .second, .val (.long p3), .second, .val (.int p4), .val (.int m2), .val (.int m12), .val (.int m22), .val (.int m32), .val (.int m42), .val (.int m52), .val (.long m93), .second, .val (.long m94), .second, .val (.long m95), .second, .val (.long m96), .second, .val (.ref b106), .unset] [(.ref b106)])) (fun tg kk => XS.aload X197.here hx rfl (hb hby at_241) rfl rfl kk) ?_
  refine OwnGo.back (T197.setTop (mkF m 245 #[.val (.long p1), .second, .val (.long p2), .second, .val (.long p3), .second, .val (.int p4), .val (.int m2), .val (.int m12), .val (.int m22), .val (.int m32), .val (.int m42), .val (.int m52), .val (.long m93), .second, .val (.long m94), .second, .val (.long m95), .second, .val (.long m96), .second, .val (.ref b106), .unset] [(.int m42), (.ref b106)])) (fun tg kk => XS.iload X197.here hx rfl (hb hby at_243) rfl kk) ?_
  refine OwnGo.back (T197.setTop (mkF m 247 #[.val (.long p1), .second, .val (.long p2), .second, .val (.long p3), .second, .val (.int p4), .val (.int m2), .val (.int m12), .val (.int m22), .val (.int m32), .val (.int m42), .val (.int m52), .val (.long m93), .second, .val (.long m94), .second, .val (.long m95), .second, .val (.long m96), .second, .val (.ref b106), .unset] [(.int m52), (.int m42), (.ref b106)])) (fun tg kk => XS.iload X197.here hx rfl (hb hby at_245) rfl kk) ?_
  refine OwnGo.back (T197.setTop (mkF m 249 #[.val (.long p1), .second, .val (.long p2), .second, .val (.long p3), .second, .val (.int p4), .val (.int m2), .val (.int m12), .val (.int m22), .val (.int m32), .val (.int m42), .val (.int m52), .val (.long m93), .second, .val (.long m94), .second, .val (.long m95), .second, .val (.long m96), .second, .val (.ref b106), .unset] [(.long p3), (.int m52), (.int m42), (.ref b106)])) (fun tg kk => XS.lload X197.here hx rfl (hb hby at_247) rfl kk) ?_
  obtain ⟨_, _, ⟨T229, L229, k229, n229⟩, -, X229, ⟨Lc229, hQ229, l229, y229, z229⟩, st229⟩ := Jvm.LawKit.callS X197 hx (y := (⟨"com/example/tallyframe/tallyframe/LedgerTallyPinLaw", "apply", "(Lcom/example/tallyframe/tallyframe/Ledger;ZZJ)V"⟩ : MethodName)) hown (mvT hZ (hw _ (List.mem_of_getElem? (i := 27) rfl))) (mvT hZ (hw _ (List.mem_of_getElem? (i := 28) rfl))) (mvT hZ (hw _ (List.mem_of_getElem? (i := 29) rfl))) (mvT hZ (hw _ (List.mem_of_getElem? (i := 30) rfl))) (by decide) (backOf (W := 0) (own_ap l Z a0 hw [] b106 m42 m52 p3 kf_118 ak_119 aj_120 ab_121 kk_122 kj_123 kb_124 m78 m79 m80 m81 v4__202 o__203 b__204 T197.heap n0 Z223 po205 po206 f225 f226 f227 f228 po211 f216 f217 f218 f219 f220 f221 po212 po213 g107 g160 g163 n153 n156 n159 n162 po129 po130 po131 po132 po133 po134) hZ (hw _ (List.mem_of_getElem? (i := 30) rfl)) (hw _ (List.mem_of_getElem? (i := 29) rfl)) (by decide) (by decide)) (g := (mkF m 249 #[.val (.long p1), .second, .val (.long p2), .second, .val (.long p3), .second, .val (.int p4), .val (.int m2), .val (.int m12), .val (.int m22), .val (.int m32), .val (.int m42), .val (.int m52), .val (.long m93), .second, .val (.long m94), .second, .val (.long m95), .second, .val (.long m96), .second, .val (.ref b106), .unset] [(.long p3), (.int m52), (.int m42), (.ref b106)])) rfl (by rw [hml]; rfl) (argsL := [(.ref b106), (.int m42), (.int m52), (.long p3)]) (rest := []) (lenOf own_pd6 rfl) rfl (by show 2 * 0 + _ ≤ _; exact Nat.le_of_eq rfl) (hb hby at_249) (fun _ _ => ⟨rfl, rfl, (by decide : 5 + 0 ≤ _), (by decide : 35 + 0 ≤ _)⟩)
  dsimp only [Pt.U, Pt.locs, Pt.cells, Pt.slots] at X229 l229 y229 z229 st229 hQ229
  subst l229 y229 z229
  obtain ⟨w0_230, w1_231, w2_232, w3_233, v4__234, o__235, b__236, rfl, N229q, Kc229, po237, po238, po239, po240, po241, po242, po243, po244, po245, po246⟩ := hQ229
  have N229 := Fr.app N197 N229q
  have f247 : Exa Z T229.heap b106 "com/example/tallyframe/tallyframe/Ledger" := po205.keep Kc229
  have f248 : Exa Z T229.heap kf_118 "com/example/tallyframe/tallyframe/KindFigures" := f216.keep Kc229
  have f249 : Fld Z T229.heap kf_118 "com/example/tallyframe/tallyframe/KindFigures" "lastSlot" "I" (.int (0 : Int32)) := f217.keep Kc229 (ninS (Ne.symm n153) (ninS po130 (ninS po131 nin0)))
  have f250 : Fld Z T229.heap kf_118 "com/example/tallyframe/tallyframe/KindFigures" "kinds" "[Ljava/lang/Class;" (.ref ak_119) := f218.keep Kc229 (ninS (Ne.symm n153) (ninS po130 (ninS po131 nin0)))
  have f251 : Fld Z T229.heap kf_118 "com/example/tallyframe/tallyframe/KindFigures" "objects" "[J" (.ref aj_120) := f219.keep Kc229 (ninS (Ne.symm n153) (ninS po130 (ninS po131 nin0)))
  have f252 : Fld Z T229.heap kf_118 "com/example/tallyframe/tallyframe/KindFigures" "bytes" "[J" (.ref ab_121) := f220.keep Kc229 (ninS (Ne.symm n153) (ninS po130 (ninS po131 nin0)))
  have f253 : Arv Z T229.heap ak_119 kk_122 (.object "java/lang/Class") (8 : Int32) [.null] .null := f221.keep Kc229 (ninS (Ne.symm n156) (ninS po132 (ninS po133 nin0)))
  have K254 : Keep h0 T229.heap [] := K222.trans Kc229 (allS (Or.inr s108) (allS (Or.inr s161) (allS (Or.inr s164) all0)))
  have Z255 : n0 ≤ T229.heap.size := Nat.le_trans Z223 Kc229.1
  obtain ⟨ev256a, ev256b, ev256c, ev256d⟩ := own_ev hm97 po246
  have f257 : Fld Z T229.heap b106 "com/example/tallyframe/tallyframe/Ledger" "allocatedObjects" "J" (.long m93) := by have h := po239; rw [ev256a] at h; exact h
  have f258 : Fld Z T229.heap b106 "com/example/tallyframe/tallyframe/Ledger" "allocatedBytes" "J" (.long m94) := by have h := po240; rw [ev256b] at h; exact h
  have f259 : Fld Z T229.heap b106 "com/example/tallyframe/tallyframe/Ledger" "releasedObjects" "J" (.long m95) := by have h := po241; rw [ev256c] at h; exact h
  have f260 : Fld Z T229.heap b106 "com/example/tallyframe/tallyframe/Ledger" "releasedBytes" "J" (.long m96) := by have h := po242; rw [ev256d] at h; exact h
  refine OwnGo.back (T229.setTop (mkF m 252 #[.val (.long p1), .second, .val (.long p2), .second, .val (.long p3), .second, .val (.int p4), .val (.int m2), .val (.int m12), .val (.int m22), .val (.int m32), .val (.int m42), .val (.int m52), .val (.long m93), .second, .val (.long m94), .second, .val (.long m95), .second, .val (.long m96), .second, .val (.ref b106), .unset] [])) (fun tg kk => st229 _ kk) ?_
  refine OwnGo.back (T229.setTop (mkF m 254 #[.val (.long p1), .second, .val (.long p2), .second, .val (.long p3), .second, .val (.int p4), .val (.int m2), .val (.int m12), .val (.int m22), .val (.int m32), .val (.int m42), .val (.int m52), .val (.long m93), .second, .val (.long m94), .second, .val (.long m95), .second, .val (.long m96), .second, .val (.ref b106), .unset] [(.ref b106)])) (fun tg kk => XS.aload X229.here hx rfl (hb hby at_252) rfl rfl kk) ?_
  obtain ⟨cq261, kq261, q261a, q261b, q261c⟩ := isOf hZ rfl po237
  obtain ⟨_, _, ⟨T261, L261, k261, n261⟩, -, X261, ⟨Lc261, hQ261, l261, y261, z261⟩, st261⟩ := X229.virtualBack hx (y := (⟨"com/example/tallyframe/tallyframe/Ledger", "tally", "()Lcom/example/tallyframe/tallyframe/Tally;"⟩ : MethodName)) (z := (⟨"com/example/tallyframe/tallyframe/Ledger", "tally", "()Lcom/example/tallyframe/tallyframe/Tally;"⟩ : MethodName)) hown (mvT hZ (hw _ (List.mem_of_getElem? (i := 31) rfl))) (mvT hZ (hw _ (List.mem_of_getElem? (i := 32) rfl))) (notFace_of_selects (args := #[]) (mvT hZ (hw _ (List.mem_of_getElem? (i := 34) rfl)))) (mvT hZ (hw _ (List.mem_of_getElem? (i := 34) rfl))) (mvT hZ (hw _ (List.mem_of_getElem? (i := 33) rfl))) (by decide) (backOf (W := 0) (own_ta l Z a0 hw [] b106 m93 m94 m95 m96 T229.heap n0 Z255 f257 f258 f259 f260) hZ (hw _ (List.mem_of_getElem? (i := 35) rfl)) (hw _ (List.mem_of_getElem? (i := 2) rfl)) (by decide) (by decide)) q261a q261c (g := (mkF m 254 #[.val (.long p1), .second, .val (.long p2), .second, .val (.long p3), .second, .val (.int p4), .val (.int m2), .val (.int m12), .val (.int m22), .val (.int m32), .val (.int m42), .val (.int m52), .val (.long m93), .second, .val (.long m94), .second, .val (.long m95), .second, .val (.long m96), .second, .val (.ref b106), .unset] [(.ref b106)])) rfl (by rw [hml]; rfl) (Steps.refl _) (argsL := []) (rest := []) (lenOf own_pd7 rfl) rfl (by show 2 * 0 + _ ≤ _; exact Nat.le_of_eq rfl) (hb hby at_254) (fun _ _ => ⟨rfl, rfl, (by decide : 5 + 1 ≤ _), (by decide : 35 + 4 ≤ _)⟩)
  dsimp only [Pt.U, Pt.locs, Pt.cells, Pt.slots] at X261 l261 y261 z261 st261 hQ261
  subst l261 y261 z261
  obtain ⟨t_262, rfl, N261q, Kc261, po263, po264, po265, po266, po267, po268⟩ := hQ261
  have N261 := Fr.app N229 N261q
  have f269 : Exa Z T261.heap b106 "com/example/tallyframe/tallyframe/Ledger" := po237.keep Kc261
  have f270 : Exa Z T261.heap kf_118 "com/example/tallyframe/tallyframe/KindFigures" := f248.keep Kc261
  have f271 : Fld Z T261.heap kf_118 "com/example/tallyframe/tallyframe/KindFigures" "lastSlot" "I" (.int (0 : Int32)) := f249.keep Kc261 nin0
  have f272 : Fld Z T261.heap kf_118 "com/example/tallyframe/tallyframe/KindFigures" "kinds" "[Ljava/lang/Class;" (.ref ak_119) := f250.keep Kc261 nin0
  have f273 : Fld Z T261.heap kf_118 "com/example/tallyframe/tallyframe/KindFigures" "objects" "[J" (.ref aj_120) := f251.keep Kc261 nin0
  have f274 : Fld Z T261.heap kf_118 "com/example/tallyframe/tallyframe/KindFigures" "bytes" "[J" (.ref ab_121) := f252.keep Kc261 nin0
  have f275 : Arv Z T261.heap ak_119 kk_122 (.object "java/lang/Class") (8 : Int32) [.null] .null := f253.keep Kc261 nin0
  have f276 : Fld Z T261.heap b106 "com/example/tallyframe/tallyframe/Ledger" "byKind" "Lcom/example/tallyframe/tallyframe/KindFigures;" (.ref kf_118) := po238.keep Kc261 nin0
  have f277 : Fld Z T261.heap b106 "com/example/tallyframe/tallyframe/Ledger" "peakLiveBytes" "J" (.long v4__234) := po243.keep Kc261 nin0
  have f278 : Arv Z T261.heap aj_120 kj_123 .long (8 : Int32) [(.long o__235)] (.long (0 : Int64)) := po244.keep Kc261 nin0
  have f279 : Arv Z T261.heap ab_121 kb_124 .long (8 : Int32) [(.long b__236)] (.long (0 : Int64)) := po245.keep Kc261 nin0
  have f280 : Fld Z T261.heap b106 "com/example/tallyframe/tallyframe/Ledger" "allocatedObjects" "J" (.long m93) := f257.keep Kc261 nin0
  have f281 : Fld Z T261.heap b106 "com/example/tallyframe/tallyframe/Ledger" "allocatedBytes" "J" (.long m94) := f258.keep Kc261 nin0
  have f282 : Fld Z T261.heap b106 "com/example/tallyframe/tallyframe/Ledger" "releasedObjects" "J" (.long m95) := f259.keep Kc261 nin0
  have f283 : Fld Z T261.heap b106 "com/example/tallyframe/tallyframe/Ledger" "releasedBytes" "J" (.long m96) := f260.keep Kc261 nin0
  have K284 : Keep h0 T261.heap [] := K254.trans Kc261 all0
  have Z285 : n0 ≤ T261.heap.size := Nat.le_trans Z255 Kc261.1
  have n286 : b106 ≠ t_262 := own_ne' po237.lt po263
  have n287 : kf_118 ≠ t_262 := own_ne' f248.lt po263
  have n288 : ak_119 ≠ t_262 := own_ne' f253.lt po263
  have n289 : aj_120 ≠ t_262 := own_ne' po244.lt po263
  have n290 : ab_121 ≠ t_262 := own_ne' po245.lt po263
  have g291 : n0 ≤ t_262 := Nat.le_trans Z255 po263
  have s292 : h0.size ≤ t_262 := Nat.le_trans K254.1 po263
  refine OwnGo.back (T261.setTop (mkF m 257 #[.val (.long p1), .second, .val (.long p2), .second, .val (.long p3), .second, .val (.int p4), .val (.int m2), .val (.int m12), .val (.int m22), .val (.int m32), .val (.int m42), .val (.int m52), .val (.long m93), .second, .val (.long m94), .second, .val (.long m95), .second, .val (.long m96), .second, .val (.ref b106), .unset] [(.ref t_262)])) (fun tg kk => st261.trans kk) ?_
  refine OwnGo.back (T261.setTop (mkF m 259 #[.val (.long p1), .second, .val (.long p2), .second, .val (.long p3), .second, .val (.int p4), .val (.int m2), .val (.int m12), .val (.int m22), .val (.int m32), .val (.int m42), .val (.int m52), .val (.long m93), .second, .val (.long m94), .second, .val (.long m95), .second, .val (.long m96), .second, .val (.ref b106), .val (.ref t_262)] [])) (fun tg kk => XS.astore X261.here hx rfl (hb hby at_257) rfl rfl (l' := #[.val (.long p1), .second, .val (.long p2), .second, .val (.long p3), .second, .val (.int p4), .val (.int m2), .val (.int m12), .val (.int m22), .val (.int m32), .val (.int m42), .val (.int m52), .val (.long m93), .second, .val (.long m94), .second, .val (.long m95), .second, .val (.long m96), .second, .val (.ref b106), .val (.ref t_262)]) rfl kk) ?_
  refine OwnGo.back (T261.setTop (mkF m 261 #[.val (.long p1), .second, .val (.long p2), .second, .val (.long p3), .second, .val (.int p4), .val (.int m2), .val (.int m12), .val (.int m22), .val (.int m32), .val (.int m42), .val (.int m52), .val (.long m93), .second, .val (.long m94), .second, .val (.long m95), .second, .val (.long m96), .second, .val (.ref b106), .val (.ref t_262)] [(.ref t_262)])) (fun tg kk => XS.aload X261.here hx rfl (hb hby at_259) rfl rfl kk) ?_
  obtain ⟨cq293, kq293, q293a, q293b, q293c⟩ := isOf hZ rfl po264
  obtain ⟨_, _, ⟨T293, L293, k293, n293⟩, -, X293, ⟨Lc293, hQ293, l293, y293, z293⟩, st293⟩ := X261.virtualBack hx (y := (⟨"com/example/tallyframe/tallyframe/Tally", "allocatedObjects", "()J"⟩ : MethodName)) (z := (⟨"com/example/tallyframe/tallyframe/Tally", "allocatedObjects", "()J"⟩ : MethodName)) hown (mvT hZ (hw _ (List.mem_of_getElem? (i := 59) rfl))) (mvT hZ (hw _ (List.mem_of_getElem? (i := 60) rfl))) (notFace_of_selects (args := #[]) (mvT hZ (hw _ (List.mem_of_getElem? (i := 62) rfl)))) (mvT hZ (hw _ (List.mem_of_getElem? (i := 62) rfl))) (mvT hZ (hw _ (List.mem_of_getElem? (i := 61) rfl))) (by decide) (backOf (W := 0) (own_g0 l Z a0 hw [] t_262 m93 T261.heap n0 Z285 po265) hZ (hw _ (List.mem_of_getElem? (i := 63) rfl)) (hw _ (List.mem_of_getElem? (i := 38) rfl)) (by decide) (by decide)) q293a q293c (g := (mkF m 261 #[.val (.long p1), .second, .val (.long p2), .second, .val (.long p3), .second, .val (.int p4), .val (.int m2), .val (.int m12), .val (.int m22), .val (.int m32), .val (.int m42), .val (.int m52), .val (.long m93), .second, .val (.long m94), .second, .val (.long m95), .second, .val (.long m96), .second, .val (.ref b106), .val (.ref t_262)] [(.ref t_262)])) rfl (by rw [hml]; rfl) (Steps.refl _) (argsL := []) (rest := []) (lenOf own_pd1 rfl) rfl (by show 2 * 0 + _ ≤ _; exact Nat.le_of_eq rfl) (hb hby at_261) (fun _ _ => ⟨rfl, rfl, (by decide : 6 + 0 ≤ _), (by decide : 39 + 0 ≤ _)⟩)
  dsimp only [Pt.U, Pt.locs, Pt.cells, Pt.slots] at X293 l293 y293 z293 st293 hQ293
  subst l293 y293 z293
  obtain ⟨rfl, N293q, e293⟩ := hQ293
  have N293 := Fr.app N261 N293q
  refine OwnGo.back (T293.setTop (mkF m 264 #[.val (.long p1), .second, .val (.long p2), .second, .val (.long p3), .second, .val (.int p4), .val (.int m2), .val (.int m12), .val (.int m22), .val (.int m32), .val (.int m42), .val (.int m52), .val (.long m93), .second, .val (.long m94), .second, .val (.long m95), .second, .val (.long m96), .second, .val (.ref b106), .val (.ref t_262)] [(.long m93)])) (fun tg kk => st293.trans kk) ?_
  refine OwnGo.back (T293.setTop (mkF m 266 #[.val (.long p1), .second, .val (.long p2), .second, .val (.long p3), .second, .val (.int p4), .val (.int m2), .val (.int m12), .val (.int m22), .val (.int m32), .val (.int m42), .val (.int m52), .val (.long m93), .second, .val (.long m94), .second, .val (.long m95), .second, .val (.long m96), .second, .val (.ref b106), .val (.ref t_262)] [(.long m93), (.long m93)])) (fun tg kk => XS.lload X293.here hx rfl (hb hby at_264) rfl kk) ?_
  refine OwnGo.back (T293.setTop (mkF m 267 #[.val (.long p1), .second, .val (.long p2), .second, .val (.long p3), .second, .val (.int p4), .val (.int m2), .val (.int m12), .val (.int m22), .val (.int m32), .val (.int m42), .val (.int m52), .val (.long m93), .second, .val (.long m94), .second, .val (.long m95), .second, .val (.long m96), .second, .val (.ref b106), .val (.ref t_262)] [(.int (lcmpW m93 m93))])) (fun tg kk => XS.lcmp X293.here hx rfl (hb hby at_266) rfl kk) ?_
  refine OwnGo.back (T293.setTop (mkF m 270 #[.val (.long p1), .second, .val (.long p2), .second, .val (.long p3), .second, .val (.int p4), .val (.int m2), .val (.int m12), .val (.int m22), .val (.int m32), .val (.int m42), .val (.int m52), .val (.long m93), .second, .val (.long m94), .second, .val (.long m95), .second, .val (.long m96), .second, .val (.ref b106), .val (.ref t_262)] [])) (fun tg kk => XS.ifNo X293.here hx rfl (hb hby at_267) rfl ((if0 _ _).trans (teq ((lw_eq _ _).mpr (rfl : m93 = m93))).2) kk) ?_
  refine OwnGo.back (T293.setTop (mkF m 272 #[.val (.long p1), .second, .val (.long p2), .second, .val (.long p3), .second, .val (.int p4), .val (.int m2), .val (.int m12), .val (.int m22), .val (.int m32), .val (.int m42), .val (.int m52), .val (.long m93), .second, .val (.long m94), .second, .val (.long m95), .second, .val (.long m96), .second, .val (.ref b106), .val (.ref t_262)] [(.ref t_262)])) (fun tg kk => XS.aload X293.here hx rfl (hb hby at_270) rfl rfl kk) ?_
  obtain ⟨cq294, kq294, q294a, q294b, q294c⟩ := isOf hZ e293 po264
  obtain ⟨_, _, ⟨T294, L294, k294, n294⟩, -, X294, ⟨Lc294, hQ294, l294, y294, z294⟩, st294⟩ := X293.virtualBack hx (y := (⟨"com/example/tallyframe/tallyframe/Tally", "allocatedBytes", "()J"⟩ : MethodName)) (z := (⟨"com/example/tallyframe/tallyframe/Tally", "allocatedBytes", "()J"⟩ : MethodName)) hown (mvT hZ (hw _ (List.mem_of_getElem? (i := 64) rfl))) (mvT hZ (hw _ (List.mem_of_getElem? (i := 65) rfl))) (notFace_of_selects (args := #[]) (mvT hZ (hw _ (List.mem_of_getElem? (i := 67) rfl)))) (mvT hZ (hw _ (List.mem_of_getElem? (i := 67) rfl))) (mvT hZ (hw _ (List.mem_of_getElem? (i := 66) rfl))) (by decide) (backOf (W := 0) (own_g1 l Z a0 hw [] t_262 m94 T261.heap n0 Z285 po266) hZ (hw _ (List.mem_of_getElem? (i := 68) rfl)) (hw _ (List.mem_of_getElem? (i := 38) rfl)) (by decide) (by decide)) q294a q294c (g := (mkF m 272 #[.val (.long p1), .second, .val (.long p2), .second, .val (.long p3), .second, .val (.int p4), .val (.int m2), .val (.int m12), .val (.int m22), .val (.int m32), .val (.int m42), .val (.int m52), .val (.long m93), .second, .val (.long m94), .second, .val (.long m95), .second, .val (.long m96), .second, .val (.ref b106), .val (.ref t_262)] [(.ref t_262)])) rfl (by rw [hml]; rfl) (Steps.refl _) (argsL := []) (rest := []) (lenOf own_pd1 rfl) rfl (by show 2 * 0 + _ ≤ _; exact Nat.le_of_eq rfl) (hb hby at_272) (fun _ _ => ⟨rfl, e293, (by decide : 6 + 0 ≤ _), (by decide : 39 + 0 ≤ _)⟩)
  dsimp only [Pt.U, Pt.locs, Pt.cells, Pt.slots] at X294 l294 y294 z294 st294 hQ294
  subst l294 y294 z294
  obtain ⟨rfl, N294q, e294⟩ := hQ294
  have N294 := Fr.app N293 N294q
  refine OwnGo.back (T294.setTop (mkF m 275 #[.val (.long p1), .second, .val (.long p2), .second, .val (.long p3), .second, .val (.int p4), .val (.int m2), .val (.int m12), .val (.int m22), .val (.int m32), .val (.int m42), .val (.int m52), .val (.long m93), .second, .val (.long m94), .second, .val (.long m95), .second, .val (.long m96), .second, .val (.ref b106), .val (.ref t_262)] [(.long m94)])) (fun tg kk => st294.trans kk) ?_
  refine OwnGo.back (T294.setTop (mkF m 277 #[.val (.long p1), .second, .val (.long p2), .second, .val (.long p3), .second, .val (.int p4), .val (.int m2), .val (.int m12), .val (.int m22), .val (.int m32), .val (.int m42), .val (.int m52), .val (.long m93), .second, .val (.long m94), .second, .val (.long m95), .second, .val (.long m96), .second, .val (.ref b106), .val (.ref t_262)] [(.long m94), (.long m94)])) (fun tg kk => XS.lload X294.here hx rfl (hb hby at_275) rfl kk) ?_
  refine OwnGo.back (T294.setTop (mkF m 278 #[.val (.long p1), .second, .val (.long p2), .second, .val (.long p3), .second, .val (.int p4), .val (.int m2), .val (.int m12), .val (.int m22), .val (.int m32), .val (.int m42), .val (.int m52), .val (.long m93), .second, .val (.long m94), .second, .val (.long m95), .second, .val (.long m96), .second, .val (.ref b106), .val (.ref t_262)] [(.int (lcmpW m94 m94))])) (fun tg kk => XS.lcmp X294.here hx rfl (hb hby at_277) rfl kk) ?_
  refine OwnGo.back (T294.setTop (mkF m 281 #[.val (.long p1), .second, .val (.long p2), .second, .val (.long p3), .second, .val (.int p4), .val (.int m2), .val (.int m12), .val (.int m22), .val (.int m32), .val (.int m42), .val (.int m52), .val (.long m93), .second, .val (.long m94), .second, .val (.long m95), .second, .val (.long m96), .second, .val (.ref b106), .val (.ref t_262)] [])) (fun tg kk => XS.ifNo X294.here hx rfl (hb hby at_278) rfl ((if0 _ _).trans (teq ((lw_eq _ _).mpr (rfl : m94 = m94))).2) kk) ?_
  refine OwnGo.back (T294.setTop (mkF m 283 #[.val (.long p1), .second, .val (.long p2), .second, .val (.long p3), .second, .val (.int p4), .val (.int m2), .val (.int m12), .val (.int m22), .val (.int m32), .val (.int m42), .val (.int m52), .val (.long m93), .second, .val (.long m94), .second, .val (.long m95), .second, .val (.long m96), .second, .val (.ref b106), .val (.ref t_262)] [(.ref t_262)])) (fun tg kk => XS.aload X294.here hx rfl (hb hby at_281) rfl rfl kk) ?_
  obtain ⟨cq295, kq295, q295a, q295b, q295c⟩ := isOf hZ e294 po264
  obtain ⟨_, _, ⟨T295, L295, k295, n295⟩, -, X295, ⟨Lc295, hQ295, l295, y295, z295⟩, st295⟩ := X294.virtualBack hx (y := (⟨"com/example/tallyframe/tallyframe/Tally", "releasedObjects", "()J"⟩ : MethodName)) (z := (⟨"com/example/tallyframe/tallyframe/Tally", "releasedObjects", "()J"⟩ : MethodName)) hown (mvT hZ (hw _ (List.mem_of_getElem? (i := 69) rfl))) (mvT hZ (hw _ (List.mem_of_getElem? (i := 70) rfl))) (notFace_of_selects (args := #[]) (mvT hZ (hw _ (List.mem_of_getElem? (i := 72) rfl)))) (mvT hZ (hw _ (List.mem_of_getElem? (i := 72) rfl))) (mvT hZ (hw _ (List.mem_of_getElem? (i := 71) rfl))) (by decide) (backOf (W := 0) (own_g2 l Z a0 hw [] t_262 m95 T261.heap n0 Z285 po267) hZ (hw _ (List.mem_of_getElem? (i := 73) rfl)) (hw _ (List.mem_of_getElem? (i := 38) rfl)) (by decide) (by decide)) q295a q295c (g := (mkF m 283 #[.val (.long p1), .second, .val (.long p2), .second, .val (.long p3), .second, .val (.int p4), .val (.int m2), .val (.int m12), .val (.int m22), .val (.int m32), .val (.int m42), .val (.int m52), .val (.long m93), .second, .val (.long m94), .second, .val (.long m95), .second, .val (.long m96), .second, .val (.ref b106), .val (.ref t_262)] [(.ref t_262)])) rfl (by rw [hml]; rfl) (Steps.refl _) (argsL := []) (rest := []) (lenOf own_pd1 rfl) rfl (by show 2 * 0 + _ ≤ _; exact Nat.le_of_eq rfl) (hb hby at_283) (fun _ _ => ⟨rfl, e294, (by decide : 6 + 0 ≤ _), (by decide : 39 + 0 ≤ _)⟩)
  dsimp only [Pt.U, Pt.locs, Pt.cells, Pt.slots] at X295 l295 y295 z295 st295 hQ295
  subst l295 y295 z295
  obtain ⟨rfl, N295q, e295⟩ := hQ295
  have N295 := Fr.app N294 N295q
  refine OwnGo.back (T295.setTop (mkF m 286 #[.val (.long p1), .second, .val (.long p2), .second, .val (.long p3), .second, .val (.int p4), .val (.int m2), .val (.int m12), .val (.int m22), .val (.int m32), .val (.int m42), .val (.int m52), .val (.long m93), .second, .val (.long m94), .second, .val (.long m95), .second, .val (.long m96), .second, .val (.ref b106), .val (.ref t_262)] [(.long m95)])) (fun tg kk => st295.trans kk) ?_
  refine OwnGo.back (T295.setTop (mkF m 288 #[.val (.long p1), .second, .val (.long p2), .second, .val (.long p3), .second, .val (.int p4), .val (.int m2), .val (.int m12), .val (.int m22), .val (.int m32), .val (.int m42), .val (.int m52), .val (.long m93), .second, .val (.long m94), .second, .val (.long m95), .second, .val (.long m96), .second, .val (.ref b106), .val (.ref t_262)] [(.long m95), (.long m95)])) (fun tg kk => XS.lload X295.here hx rfl (hb hby at_286) rfl kk) ?_
  refine OwnGo.back (T295.setTop (mkF m 289 #[.val (.long p1), .second, .val (.long p2), .second, .val (.long p3), .second, .val (.int p4), .val (.int m2), .val (.int m12), .val (.int m22), .val (.int m32), .val (.int m42), .val (.int m52), .val (.long m93), .second, .val (.long m94), .second, .val (.long m95), .second, .val (.long m96), .second, .val (.ref b106), .val (.ref t_262)] [(.int (lcmpW m95 m95))])) (fun tg kk => XS.lcmp X295.here hx rfl (hb hby at_288) rfl kk) ?_
  refine OwnGo.back (T295.setTop (mkF m 292 #[.val (.long p1), .second, .val (.long p2), .second, .val (.long p3), .second, .val (.int p4), .val (.int m2), .val (.int m12), .val (.int m22), .val (.int m32), .val (.int m42), .val (.int m52), .val (.long m93), .second, .val (.long m94), .second, .val (.long m95), .second, .val (.long m96), .second, .val (.ref b106), .val (.ref t_262)] [])) (fun tg kk => XS.ifNo X295.here hx rfl (hb hby at_289) rfl ((if0 _ _).trans (teq ((lw_eq _ _).mpr (rfl : m95 = m95))).2) kk) ?_
  refine OwnGo.back (T295.setTop (mkF m 294 #[.val (.long p1), .second, .val (.long p2), .second, .val (.long p3), .second, .val (.int p4), .val (.int m2), .val (.int m12), .val (.int m22), .val (.int m32), .val (.int m42), .val (.int m52), .val (.long m93), .second, .val (.long m94), .second, .val (.long m95), .second, .val (.long m96), .second, .val (.ref b106), .val (.ref t_262)] [(.ref t_262)])) (fun tg kk => XS.aload X295.here hx rfl (hb hby at_292) rfl rfl kk) ?_
  obtain ⟨cq296, kq296, q296a, q296b, q296c⟩ := isOf hZ e295 po264
  obtain ⟨_, _, ⟨T296, L296, k296, n296⟩, -, X296, ⟨Lc296, hQ296, l296, y296, z296⟩, st296⟩ := X295.virtualBack hx (y := (⟨"com/example/tallyframe/tallyframe/Tally", "releasedBytes", "()J"⟩ : MethodName)) (z := (⟨"com/example/tallyframe/tallyframe/Tally", "releasedBytes", "()J"⟩ : MethodName)) hown (mvT hZ (hw _ (List.mem_of_getElem? (i := 74) rfl))) (mvT hZ (hw _ (List.mem_of_getElem? (i := 75) rfl))) (notFace_of_selects (args := #[]) (mvT hZ (hw _ (List.mem_of_getElem? (i := 77) rfl)))) (mvT hZ (hw _ (List.mem_of_getElem? (i := 77) rfl))) (mvT hZ (hw _ (List.mem_of_getElem? (i := 76) rfl))) (by decide) (backOf (W := 0) (own_g3 l Z a0 hw [] t_262 m96 T261.heap n0 Z285 po268) hZ (hw _ (List.mem_of_getElem? (i := 78) rfl)) (hw _ (List.mem_of_getElem? (i := 38) rfl)) (by decide) (by decide)) q296a q296c (g := (mkF m 294 #[.val (.long p1), .second, .val (.long p2), .second, .val (.long p3), .second, .val (.int p4), .val (.int m2), .val (.int m12), .val (.int m22), .val (.int m32), .val (.int m42), .val (.int m52), .val (.long m93), .second, .val (.long m94), .second, .val (.long m95), .second, .val (.long m96), .second, .val (.ref b106), .val (.ref t_262)] [(.ref t_262)])) rfl (by rw [hml]; rfl) (Steps.refl _) (argsL := []) (rest := []) (lenOf own_pd1 rfl) rfl (by show 2 * 0 + _ ≤ _; exact Nat.le_of_eq rfl) (hb hby at_294) (fun _ _ => ⟨rfl, e295, (by decide : 6 + 0 ≤ _), (by decide : 39 + 0 ≤ _)⟩)
  dsimp only [Pt.U, Pt.locs, Pt.cells, Pt.slots] at X296 l296 y296 z296 st296 hQ296
  subst l296 y296 z296
  obtain ⟨rfl, N296q, e296⟩ := hQ296
  have N296 := Fr.app N295 N296q
  refine OwnGo.back (T296.setTop (mkF m 297 #[.val (.long p1), .second, .val (.long p2), .second, .val (.long p3), .second, .val (.int p4), .val (.int m2), .val (.int m12), .val (.int m22), .val (.int m32), .val (.int m42), .val (.int m52), .val (.long m93), .second, .val (.long m94), .second, .val (.long m95), .second, .val (.long m96), .second, .val (.ref b106), .val (.ref t_262)] [(.long m96)])) (fun tg kk => st296.trans kk) ?_
  refine OwnGo.back (T296.setTop (mkF m 299 #[.val (.long p1), .second, .val (.long p2), .second, .val (.long p3), .second, .val (.int p4), .val (.int m2), .val (.int m12), .val (.int m22), .val (.int m32), .val (.int m42), .val (.int m52), .val (.long m93), .second, .val (.long m94), .second, .val (.long m95), .second, .val (.long m96), .second, .val (.ref b106), .val (.ref t_262)] [(.long m96), (.long m96)])) (fun tg kk => XS.lload X296.here hx rfl (hb hby at_297) rfl kk) ?_
  refine OwnGo.back (T296.setTop (mkF m 300 #[.val (.long p1), .second, .val (.long p2), .second, .val (.long p3), .second, .val (.int p4), .val (.int m2), .val (.int m12), .val (.int m22), .val (.int m32), .val (.int m42), .val (.int m52), .val (.long m93), .second, .val (.long m94), .second, .val (.long m95), .second, .val (.long m96), .second, .val (.ref b106), .val (.ref t_262)] [(.int (lcmpW m96 m96))])) (fun tg kk => XS.lcmp X296.here hx rfl (hb hby at_299) rfl kk) ?_
  refine OwnGo.back (T296.setTop (mkF m 303 #[.val (.long p1), .second, .val (.long p2), .second, .val (.long p3), .second, .val (.int p4), .val (.int m2), .val (.int m12), .val (.int m22), .val (.int m32), .val (.int m42), .val (.int m52), .val (.long m93), .second, .val (.long m94), .second, .val (.long m95), .second, .val (.long m96), .second, .val (.ref b106), .val (.ref t_262)] [])) (fun tg kk => XS.ifNo X296.here hx rfl (hb hby at_300) rfl ((if0 _ _).trans (teq ((lw_eq _ _).mpr (rfl : m96 = m96))).2) kk) ?_
  refine OwnGo.back (T296.setTop (mkF m 304 #[.val (.long p1), .second, .val (.long p2), .second, .val (.long p3), .second, .val (.int p4), .val (.int m2), .val (.int m12), .val (.int m22), .val (.int m32), .val (.int m42), .val (.int m52), .val (.long m93), .second, .val (.long m94), .second, .val (.long m95), .second, .val (.long m96), .second, .val (.ref b106), .val (.ref t_262)] [(.int (1 : Int32))])) (fun tg kk => XS.iconst X296.here hx rfl (hb hby at_303) kk) ?_
  refine OwnGo.back (T296.setTop (mkF m 308 #[.val (.long p1), .second, .val (.long p2), .second, .val (.long p3), .second, .val (.int p4), .val (.int m2), .val (.int m12), .val (.int m22), .val (.int m32), .val (.int m42), .val (.int m52), .val (.long m93), .second, .val (.long m94), .second, .val (.long m95), .second, .val (.long m96), .second, .val (.ref b106), .val (.ref t_262)] [(.int (1 : Int32))])) (fun tg kk => XS.goto X296.here hx rfl (pc0 := 304) (pc' := 308) rfl (hb hby at_304) (by decide) (by decide) kk) ?_
  obtain ⟨fs, hr, hrun, hended, hW, hsame⟩ := X296.leave (v := some (.int (1 : Int32))) (fun h => by rw [Bd.returns] at h; cases h)
  refine ⟨_, _, ?_, hrun, hended, _, _, rfl, ?_, ⟨_, rfl⟩, hW, hsame.mono (by decide) (by decide)⟩
  · exact retN X296 hx (t := .boolean) Bd.returns (by simp) (hb hby at_308) hr
  · show own_law_Q Z p1 p2 p3 p4 h0 n0 _ T296.heap _
    rw [e296]
    exact ⟨rfl, N296, K284⟩
set_option maxRecDepth 65536 in
set_option maxHeartbeats 40000000 in
theorem comes_1 {Post : Tables → Env → Array Value → State → Outcome → State → Prop} (hpost : ∀ tb e args s v u, (limb_1_1.after args s (.returned v) u = true ∧ limb_1_2.after args s (.returned v) u = true ∧ True) → FrameEnd s (.returned v) u (Jvm.fieldLocs frame_1_writes args s ++ Jvm.arrayLocs frame_1_arrays args s ++ Jvm.staticLocs frame_1_statics s) 24 192 → Post tb e args s (.returned v) u) :
    ArmFor flags0 classFile x code maxLocals ret World_1 tables_1 room_1 Calls_1 rest_1 Pre_1 Post := by
  intro l hfl _ _ p e ha hc hk s m args below hf hA hF happ hP
  obtain ⟨hcalls, hrest, hpre⟩ := hP
  obtain ⟨-, -, -, hnamed, -, -, -, hat⟩ := (Spec.applies_iff hf).mp happ
  obtain ⟨hg, hn⟩ := and_e (Cond.before_iff.mp (show (Jvm.Cond.and given_1 narrow_1).before args s = true from hpre))
  obtain ⟨hg0, hg⟩ := and_e hg
  obtain ⟨hg1, hg⟩ := and_e hg
  obtain ⟨hg2, hg⟩ := and_e hg
  obtain ⟨hg3, hg⟩ := and_e hg
  obtain ⟨w0, w1, w2, w3, rfl⟩ : ∃ w0 w1 w2 w3 : Value, args = #[w0, w1, w2, w3] := by
    have hs : args.size = 4 := by simpa [Cond.value, given_1] using hg0
    obtain ⟨L⟩ := args
    match L, hs with
    | [w0, w1, w2, w3], _ => exact ⟨w0, w1, w2, w3, rfl⟩
  have hw := fun d (hd : d ∈ tables_1) => atoms_spec (ws := Jvm.Cond.code x code maxLocals ret :: tables_1) hat d (List.mem_cons_of_mem _ hd)
  have hfit : Fit s := fun {y c} hc i hi => by
    obtain ⟨ha, rfl⟩ := Array.getElem?_eq_some_iff.mp hc
    have q := List.all_eq_true.mp ((Array.all_eq_true_iff_forall_mem.mp hF) _ (Array.getElem_mem ha)) i (List.mem_range.mpr hi)
    simpa [Array.getElem?_eq_getElem hi] using q
  obtain ⟨i0, ei0⟩ := isL_v hg1
  obtain rfl : w0 = (.long i0) := Option.some.inj ei0
  obtain ⟨i1, ei1⟩ := isL_v hg2
  obtain rfl : w1 = (.long i1) := Option.some.inj ei1
  obtain ⟨i2, ei2⟩ := isL_v hg3
  obtain rfl : w2 = (.long i2) := Option.some.inj ei2
  obtain ⟨i3, ei3⟩ := is_v hg
  obtain rfl : w3 = (.int i3) := Option.some.inj ei3
  obtain ⟨n, o, h1, h2, h3, _, L, rfl, ⟨rfl, N, -⟩, hq⟩ := own_law l s _ hw tables_1 i0 i1 i2 i3 s.heap s.heap.size (Nat.le_refl _)  p e ha hc hk s m _ below hf ((Spec.applies_iff_loose hf).mp happ).1 ⟨rfl, State.Warmed39.refl s, rfl⟩ trivial
  refine ⟨n, _, h1, h2, h3, hpost _ _ _ _ _ _ ⟨Cond.after_iff.mpr rfl, Cond.after_iff.mpr (eq_i res_at (Term.int_eval (1)) rfl), trivial⟩ ⟨hq.1, hq.2.1, (hq.2.2.sift fun y hy => Or.inr (N y hy)).mono (by decide) (by decide)⟩⟩
theorem main_1_1 : Claimed_1_1 := comes_1 fun _ _ _ _ _ _ h hF => ⟨h.1, hF⟩
theorem main_1_2 : Claimed_1_2 := comes_1 fun _ _ _ _ _ _ h hF => ⟨h.2.1, hF⟩
end Jvm.Pilot.@@N@@
namespace Jvm.Pilot.@@N@@
open Jvm Jvm.ClassFile Sem Op Lib Jvm.Free Jvm.Stand Jvm.Pilot.@@N@@.Jvm.D
/-! MADE BY PROGRAM (witnessworld.py) out of the Statement's table words and the real class files: 16 classes; the members and pool entries that the words name. The judged class is class 1, her method 2. -/
namespace start1
open Jvm.ClassFile
def u (s : String) : CpInfo := .utf8 (stringToUtf16 s)
/-- a pool by its gaps: so many unusable entries, then the entry; so many at the end -/
def gap : Nat → List CpInfo → List CpInfo
  | 0, r => r
  | n + 1, r => .unusable :: gap n r
def poolList (es : List (Nat × CpInfo)) (last : Nat) : List CpInfo := es.foldr (fun e r => gap e.1 (e.2 :: r)) (gap last [])
def pool (es : List (Nat × CpInfo)) (last : Nat) : Array CpInfo := ⟨poolList es last⟩
def fileOf (pool : Array CpInfo) (this : Nat) (attrs : Array Attribute := #[]) (ms : Array MethodInfo := #[]) (fl : Nat := 33) (sup : Nat := 0) (ifs : Array Nat := #[]) (fds : Array FieldInfo := #[]) : ClassFile where
  minorVersion := 0
  majorVersion := 65
  constantPool := pool
  accessFlags := fl
  thisClass := this
  superClass := sup
  interfaces := ifs
  fields := fds
  methods := ms
  attributes := attrs
def plain (name : String) (sup : Option ClassId) : Class where
  name := name
  kind := .ordinary
  loader := none
  accessFlags := 33
  super := sup
  interfaces := #[]
  cf := none
  fields := #[]
  methods := #[]
  instanceTypes := #[]
  staticTypes := #[]
  resolved := #[]
  callSites := []
  init := .initialized
  statics := none
  mirror := none

def pool0 : Array CpInfo := pool [(5, u "<init>"), (0, u "()V"), (1, .class_ 10), (1, u "java/lang/Object")] 113

def k0c0 : Code := { maxStack := 0, maxLocals := 1, code := object_method_1_code, exceptionTable := #[], attributes := #[] }
def k0m0 : Method := { name := "<init>", desc := "()V", sig := { parameters := [], returnType := none }, accessFlags := 1, code := some k0c0 }
/-- java/lang/Object -/
def k0 : Class := { plain "java/lang/Object" none with
  accessFlags := 33
  interfaces := #[]
  cf := some (fileOf pool0 8 #[] #[{ accessFlags := 1, nameIndex := 5, descriptorIndex := 6, attributes := #[] }] 33 0 #[] #[])
  fields := #[]
  methods := #[k0m0]
  instanceTypes := #[]
  staticTypes := #[]
  resolved := Array.replicate 124 none
  statics := none }

def pool1 : Array CpInfo := pool [(2, .class_ 4), (0, .nameAndType 5 6), (0, u "java/lang/Object"), (0, u "<init>"), (0, u "()V"), (0, .methodref 8 9), (0, .class_ 10), (0, .nameAndType 11 12), (0, u "com/example/tallyframe/tallyframe/Ledger"), (0, u "recordAllocation"), (0, u "(Ljava/lang/Class;J)V"), (0, .methodref 8 14), (0, .nameAndType 15 12), (0, u "recordRelease"), (0, .methodref 8 3), (0, .methodref 18 19), (0, .class_ 20), (0, .nameAndType 21 22), (0, u "com/example/tallyframe/tallyframe/LedgerTallyPinLaw"), (0, u "apply"), (0, u "(Lcom/example/tallyframe/tallyframe/Ledger;ZZJ)V"), (0, .methodref 8 24), (0, .nameAndType 25 26), (0, u "tally"), (0, u "()Lcom/example/tallyframe/tallyframe/Tally;"), (0, .methodref 28 29), (0, .class_ 30), (0, .nameAndType 31 32), (0, u "com/example/tallyframe/tallyframe/Tally"), (0, u "allocatedObjects"), (0, u "()J"), (0, .methodref 28 34), (0, .nameAndType 35 32), (0, u "allocatedBytes"), (0, .methodref 28 37), (0, .nameAndType 38 32), (0, u "releasedObjects"), (0, .methodref 28 40), (0, .nameAndType 41 32), (0, u "releasedBytes"), (3, u "law"), (0, u "(JJJI)Z")] 2

def k1m0 : Method := { name := "<init>", desc := "()V", sig := { parameters := [], returnType := none }, accessFlags := 2, code := none }
def k1c1 : Code := { maxStack := 4, maxLocals := 5, code := method_2_code, exceptionTable := #[], attributes := #[] }
def k1m1 : Method := { name := "apply", desc := "(Lcom/example/tallyframe/tallyframe/Ledger;ZZJ)V", sig := { parameters := [(.object "com/example/tallyframe/tallyframe/Ledger"), .boolean, .boolean, .long], returnType := none }, accessFlags := 10, code := some k1c1 }
def k1c2 : Code := { maxStack := 5, maxLocals := 23, code := code, exceptionTable := #[], attributes := #[] }
def k1m2 : Method := { name := "law", desc := "(JJJI)Z", sig := { parameters := [.long, .long, .long, .int], returnType := some .boolean }, accessFlags := 9, code := some k1c2 }
/-- com/example/tallyframe/tallyframe/LedgerTallyPinLaw -/
def k1 : Class := { plain "com/example/tallyframe/tallyframe/LedgerTallyPinLaw" (some 0) with
  accessFlags := 49
  interfaces := #[]
  cf := some (fileOf pool1 18 #[] #[{ accessFlags := 2, nameIndex := 5, descriptorIndex := 6, attributes := #[] }, { accessFlags := 10, nameIndex := 21, descriptorIndex := 22, attributes := #[] }, { accessFlags := 9, nameIndex := 45, descriptorIndex := 46, attributes := #[] }] 49 2 #[] #[])
  fields := #[]
  methods := #[k1m0, k1m1, k1m2]
  instanceTypes := #[]
  staticTypes := #[]
  resolved := Array.replicate 49 none
  statics := none }

def pool2 : Array CpInfo := pool [(1, .methodref 2 3), (0, .class_ 4), (0, .nameAndType 5 6), (0, u "java/lang/Object"), (0, u "<init>"), (0, u "()V"), (0, .class_ 8), (0, u "com/example/tallyframe/tallyframe/KindFigures"), (0, .methodref 7 3), (0, .fieldref 11 12), (0, .class_ 13), (0, .nameAndType 14 15), (0, u "com/example/tallyframe/tallyframe/Ledger"), (0, u "byKind"), (0, u "Lcom/example/tallyframe/tallyframe/KindFigures;"), (0, .fieldref 11 17), (0, .nameAndType 18 19), (0, u "allocatedObjects"), (0, u "J"), (0, .fieldref 11 21), (0, .nameAndType 22 19), (0, u "allocatedBytes"), (0, .fieldref 11 24), (0, .nameAndType 25 19), (0, u "peakLiveBytes"), (0, .methodref 11 27), (0, .nameAndType 28 29), (0, u "liveBytes"), (0, u "()J"), (0, .methodref 31 32), (0, .class_ 33), (0, .nameAndType 34 35), (0, u "java/lang/Math"), (0, u "max"), (0, u "(JJ)J"), (0, .methodref 7 37), (0, .nameAndType 38 39), (0, u "add"), (0, u "(Ljava/lang/Class;JJ)V"), (0, .fieldref 11 41), (0, .nameAndType 42 19), (0, u "releasedObjects"), (0, .fieldref 11 44), (0, .nameAndType 45 19), (0, u "releasedBytes"), (0, .long 18446744073709551615), (8, .class_ 56), (0, u "com/example/tallyframe/tallyframe/Tally"), (0, .methodref 55 58), (0, .nameAndType 5 59), (0, u "(JJJJ)V"), (6, u "recordAllocation"), (0, u "(Ljava/lang/Class;J)V"), (2, u "recordRelease"), (5, u "tally"), (0, u "()Lcom/example/tallyframe/tallyframe/Tally;"), (5, .class_ 84), (0, u "com/example/tallyframe/tallyframe/Ledger$KindTally")] 2

def k2c0 : Code := { maxStack := 3, maxLocals := 1, code := prog_6_method_1_code, exceptionTable := #[], attributes := #[] }
def k2m0 : Method := { name := "<init>", desc := "()V", sig := { parameters := [], returnType := none }, accessFlags := 0, code := some k2c0 }
def k2c1 : Code := { maxStack := 6, maxLocals := 4, code := prog_6_method_2_code, exceptionTable := #[], attributes := #[] }
def k2m1 : Method := { name := "recordAllocation", desc := "(Ljava/lang/Class;J)V", sig := { parameters := [(.object "java/lang/Class"), .long], returnType := none }, accessFlags := 0, code := some k2c1 }
def k2c2 : Code := { maxStack := 6, maxLocals := 4, code := prog_6_method_3_code, exceptionTable := #[], attributes := #[] }
def k2m2 : Method := { name := "recordRelease", desc := "(Ljava/lang/Class;J)V", sig := { parameters := [(.object "java/lang/Class"), .long], returnType := none }, accessFlags := 0, code := some k2c2 }
def k2c3 : Code := { maxStack := 4, maxLocals := 1, code := prog_6_method_4_code, exceptionTable := #[], attributes := #[] }
def k2m3 : Method := { name := "liveBytes", desc := "()J", sig := { parameters := [], returnType := some .long }, accessFlags := 0, code := some k2c3 }
def k2c4 : Code := { maxStack := 10, maxLocals := 1, code := prog_6_method_9_code, exceptionTable := #[], attributes := #[] }
def k2m4 : Method := { name := "tally", desc := "()Lcom/example/tallyframe/tallyframe/Tally;", sig := { parameters := [], returnType := some (.object "com/example/tallyframe/tallyframe/Tally") }, accessFlags := 0, code := some k2c4 }
/-- com/example/tallyframe/tallyframe/Ledger -/
def k2 : Class := { plain "com/example/tallyframe/tallyframe/Ledger" (some 0) with
  accessFlags := 48
  interfaces := #[]
  cf := some (fileOf pool2 11 #[.nestMembers #[83]] #[{ accessFlags := 0, nameIndex := 5, descriptorIndex := 6, attributes := #[] }, { accessFlags := 0, nameIndex := 66, descriptorIndex := 67, attributes := #[] }, { accessFlags := 0, nameIndex := 70, descriptorIndex := 67, attributes := #[] }, { accessFlags := 0, nameIndex := 28, descriptorIndex := 29, attributes := #[] }, { accessFlags := 0, nameIndex := 76, descriptorIndex := 77, attributes := #[] }] 48 2 #[] #[{ accessFlags := 2, nameIndex := 18, descriptorIndex := 19, attributes := #[] }, { accessFlags := 2, nameIndex := 22, descriptorIndex := 19, attributes := #[] }, { accessFlags := 2, nameIndex := 42, descriptorIndex := 19, attributes := #[] }, { accessFlags := 2, nameIndex := 45, descriptorIndex := 19, attributes := #[] }, { accessFlags := 2, nameIndex := 25, descriptorIndex := 19, attributes := #[] }, { accessFlags := 18, nameIndex := 14, descriptorIndex := 15, attributes := #[] }])
  fields := #[{ name := "allocatedObjects", type := .long, accessFlags := 2, slot := 0, constantValue := 0 }, { name := "allocatedBytes", type := .long, accessFlags := 2, slot := 1, constantValue := 0 }, { name := "releasedObjects", type := .long, accessFlags := 2, slot := 2, constantValue := 0 }, { name := "releasedBytes", type := .long, accessFlags := 2, slot := 3, constantValue := 0 }, { name := "peakLiveBytes", type := .long, accessFlags := 2, slot := 4, constantValue := 0 }, { name := "byKind", type := (.object "com/example/tallyframe/tallyframe/KindFigures"), accessFlags := 18, slot := 5, constantValue := 0 }]
  methods := #[k2m0, k2m1, k2m2, k2m3, k2m4]
  instanceTypes := #[.long, .long, .long, .long, .long, (.object "com/example/tallyframe/tallyframe/KindFigures")]
  staticTypes := #[]
  resolved := Array.replicate 87 none
  statics := none }

def pool3 : Array CpInfo := pool [(1, .methodref 2 3), (0, .class_ 4), (0, .nameAndType 5 6), (0, u "java/lang/Object"), (0, u "<init>"), (0, u "()V"), (0, .class_ 8), (0, u "com/example/tallyframe/tallyframe/KindFigures"), (0, .class_ 10), (0, u "java/lang/Class"), (0, .fieldref 7 12), (0, .nameAndType 13 14), (0, u "kinds"), (0, u "[Ljava/lang/Class;"), (0, .fieldref 7 16), (0, .nameAndType 17 18), (0, u "objects"), (0, u "[J"), (0, .fieldref 7 20), (0, .nameAndType 21 18), (0, u "bytes"), (0, .fieldref 7 23), (0, .nameAndType 24 25), (0, u "lastSlot"), (0, u "I"), (6, u "add"), (0, u "(Ljava/lang/Class;JJ)V"), (32, u "kindCount"), (3, u "FIRST_SLOTS")] 24

def k3c0 : Code := { maxStack := 2, maxLocals := 1, code := prog_5_method_1_code, exceptionTable := #[], attributes := #[] }
def k3m0 : Method := { name := "<init>", desc := "()V", sig := { parameters := [], returnType := none }, accessFlags := 0, code := some k3c0 }
def k3c1 : Code := { maxStack := 6, maxLocals := 7, code := prog_5_method_2_code, exceptionTable := #[], attributes := #[] }
def k3m1 : Method := { name := "add", desc := "(Ljava/lang/Class;JJ)V", sig := { parameters := [(.object "java/lang/Class"), .long, .long], returnType := none }, accessFlags := 0, code := some k3c1 }
/-- com/example/tallyframe/tallyframe/KindFigures -/
def k3 : Class := { plain "com/example/tallyframe/tallyframe/KindFigures" (some 0) with
  accessFlags := 48
  interfaces := #[]
  cf := some (fileOf pool3 7 #[] #[{ accessFlags := 0, nameIndex := 5, descriptorIndex := 6, attributes := #[] }, { accessFlags := 0, nameIndex := 32, descriptorIndex := 33, attributes := #[] }] 48 2 #[] #[{ accessFlags := 26, nameIndex := 70, descriptorIndex := 25, attributes := #[] }, { accessFlags := 2, nameIndex := 13, descriptorIndex := 14, attributes := #[] }, { accessFlags := 2, nameIndex := 17, descriptorIndex := 18, attributes := #[] }, { accessFlags := 2, nameIndex := 21, descriptorIndex := 18, attributes := #[] }, { accessFlags := 2, nameIndex := 66, descriptorIndex := 25, attributes := #[] }, { accessFlags := 2, nameIndex := 24, descriptorIndex := 25, attributes := #[] }])
  fields := #[{ name := "FIRST_SLOTS", type := .int, accessFlags := 26, slot := 0, constantValue := 0 }, { name := "kinds", type := (.array (.object "java/lang/Class")), accessFlags := 2, slot := 0, constantValue := 0 }, { name := "objects", type := (.array .long), accessFlags := 2, slot := 1, constantValue := 0 }, { name := "bytes", type := (.array .long), accessFlags := 2, slot := 2, constantValue := 0 }, { name := "kindCount", type := .int, accessFlags := 2, slot := 3, constantValue := 0 }, { name := "lastSlot", type := .int, accessFlags := 2, slot := 4, constantValue := 0 }]
  methods := #[k3m0, k3m1]
  instanceTypes := #[(.array (.object "java/lang/Class")), (.array .long), (.array .long), .int, .int]
  staticTypes := #[.int]
  resolved := Array.replicate 95 none
  statics := none }

def pool4 : Array CpInfo := pool [(1, u "java/lang/Class"), (0, .class_ 1), (0, u "java/lang/Object"), (0, .class_ 3)] 3

/-- java/lang/Class -/
def k4 : Class := { plain "java/lang/Class" (some 0) with
  accessFlags := 49
  interfaces := #[]
  cf := some (fileOf pool4 2 #[] #[] 49 4 #[] #[])
  fields := #[]
  methods := #[]
  instanceTypes := #[]
  staticTypes := #[]
  resolved := Array.replicate 8 none
  statics := none }

def pool5 : Array CpInfo := pool [(1, .methodref 2 3), (0, .class_ 4), (0, .nameAndType 5 6), (0, u "java/lang/Object"), (0, u "<init>"), (0, u "()V"), (0, .fieldref 8 9), (0, .class_ 10), (0, .nameAndType 11 12), (0, u "com/example/tallyframe/tallyframe/Tally"), (0, u "allocatedObjects"), (0, u "J"), (0, .fieldref 8 14), (0, .nameAndType 15 12), (0, u "allocatedBytes"), (0, .fieldref 8 17), (0, .nameAndType 18 12), (0, u "releasedObjects"), (0, .fieldref 8 20), (0, .nameAndType 21 12), (0, u "releasedBytes"), (17, u "()J"), (9, u "(JJJJ)V")] 11

def k5c0 : Code := { maxStack := 3, maxLocals := 9, code := prog_25_method_1_code, exceptionTable := #[], attributes := #[] }
def k5m0 : Method := { name := "<init>", desc := "(JJJJ)V", sig := { parameters := [.long, .long, .long, .long], returnType := none }, accessFlags := 0, code := some k5c0 }
def k5c1 : Code := { maxStack := 2, maxLocals := 1, code := prog_25_method_2_code, exceptionTable := #[], attributes := #[] }
def k5m1 : Method := { name := "allocatedObjects", desc := "()J", sig := { parameters := [], returnType := some .long }, accessFlags := 1, code := some k5c1 }
def k5c2 : Code := { maxStack := 2, maxLocals := 1, code := prog_25_method_3_code, exceptionTable := #[], attributes := #[] }
def k5m2 : Method := { name := "allocatedBytes", desc := "()J", sig := { parameters := [], returnType := some .long }, accessFlags := 1, code := some k5c2 }
def k5c3 : Code := { maxStack := 2, maxLocals := 1, code := prog_25_method_4_code, exceptionTable := #[], attributes := #[] }
def k5m3 : Method := { name := "releasedObjects", desc := "()J", sig := { parameters := [], returnType := some .long }, accessFlags := 1, code := some k5c3 }
def k5c4 : Code := { maxStack := 2, maxLocals := 1, code := prog_25_method_5_code, exceptionTable := #[], attributes := #[] }
def k5m4 : Method := { name := "releasedBytes", desc := "()J", sig := { parameters := [], returnType := some .long }, accessFlags := 1, code := some k5c4 }
/-- com/example/tallyframe/tallyframe/Tally -/
def k5 : Class := { plain "com/example/tallyframe/tallyframe/Tally" (some 0) with
  accessFlags := 49
  interfaces := #[]
  cf := some (fileOf pool5 8 #[] #[{ accessFlags := 0, nameIndex := 5, descriptorIndex := 49, attributes := #[] }, { accessFlags := 1, nameIndex := 11, descriptorIndex := 39, attributes := #[] }, { accessFlags := 1, nameIndex := 15, descriptorIndex := 39, attributes := #[] }, { accessFlags := 1, nameIndex := 18, descriptorIndex := 39, attributes := #[] }, { accessFlags := 1, nameIndex := 21, descriptorIndex := 39, attributes := #[] }] 49 2 #[] #[{ accessFlags := 18, nameIndex := 11, descriptorIndex := 12, attributes := #[] }, { accessFlags := 18, nameIndex := 15, descriptorIndex := 12, attributes := #[] }, { accessFlags := 18, nameIndex := 18, descriptorIndex := 12, attributes := #[] }, { accessFlags := 18, nameIndex := 21, descriptorIndex := 12, attributes := #[] }])
  fields := #[{ name := "allocatedObjects", type := .long, accessFlags := 18, slot := 0, constantValue := 0 }, { name := "allocatedBytes", type := .long, accessFlags := 18, slot := 1, constantValue := 0 }, { name := "releasedObjects", type := .long, accessFlags := 18, slot := 2, constantValue := 0 }, { name := "releasedBytes", type := .long, accessFlags := 18, slot := 3, constantValue := 0 }]
  methods := #[k5m0, k5m1, k5m2, k5m3, k5m4]
  instanceTypes := #[.long, .long, .long, .long]
  staticTypes := #[]
  resolved := Array.replicate 61 none
  statics := none }

def pool6 : Array CpInfo := pool [(1, .class_ 2), (0, u "java/lang/Math"), (1, .class_ 6), (1, u "java/lang/Object"), (0, u "<init>"), (0, u "()V"), (89, .class_ 100), (1, u "java/lang/Math$RandomNumberGeneratorHolder"), (20, u "(JJ)J"), (50, u "negativeZeroFloatBits"), (0, u "J"), (2, u "negativeZeroDoubleBits"), (21, u "max"), (46, u "$assertionsDisabled"), (0, u "Z"), (91, u "twoToTheDoubleScaleDown"), (0, u "D"), (4, u "twoToTheDoubleScaleUp"), (9, u "E"), (3, u "PI"), (2, u "TAU"), (2, u "DEGREES_TO_RADIANS"), (0, u "RADIANS_TO_DEGREES")] 94

def k6m0 : Method := { name := "<init>", desc := "()V", sig := { parameters := [], returnType := none }, accessFlags := 2, code := none }
def k6c1 : Code := { maxStack := 4, maxLocals := 4, code := jdk_29_method_66_code, exceptionTable := #[], attributes := #[] }
def k6m1 : Method := { name := "max", desc := "(JJ)J", sig := { parameters := [.long, .long], returnType := some .long }, accessFlags := 9, code := some k6c1 }
/-- java/lang/Math -/
def k6 : Class := { plain "java/lang/Math" (some 0) with
  accessFlags := 49
  interfaces := #[]
  cf := some (fileOf pool6 1 #[.nestMembers #[98]] #[{ accessFlags := 2, nameIndex := 7, descriptorIndex := 8, attributes := #[] }, { accessFlags := 9, nameIndex := 198, descriptorIndex := 121, attributes := #[] }] 49 4 #[] #[{ accessFlags := 25, nameIndex := 354, descriptorIndex := 339, attributes := #[] }, { accessFlags := 25, nameIndex := 358, descriptorIndex := 339, attributes := #[] }, { accessFlags := 25, nameIndex := 361, descriptorIndex := 339, attributes := #[] }, { accessFlags := 26, nameIndex := 364, descriptorIndex := 339, attributes := #[] }, { accessFlags := 26, nameIndex := 365, descriptorIndex := 339, attributes := #[] }, { accessFlags := 26, nameIndex := 172, descriptorIndex := 173, attributes := #[] }, { accessFlags := 26, nameIndex := 176, descriptorIndex := 173, attributes := #[] }, { accessFlags := 8, nameIndex := 344, descriptorIndex := 339, attributes := #[] }, { accessFlags := 8, nameIndex := 338, descriptorIndex := 339, attributes := #[] }, { accessFlags := 4120, nameIndex := 245, descriptorIndex := 246, attributes := #[] }])
  fields := #[{ name := "E", type := .double, accessFlags := 25, slot := 0, constantValue := 0 }, { name := "PI", type := .double, accessFlags := 25, slot := 1, constantValue := 0 }, { name := "TAU", type := .double, accessFlags := 25, slot := 2, constantValue := 0 }, { name := "DEGREES_TO_RADIANS", type := .double, accessFlags := 26, slot := 3, constantValue := 0 }, { name := "RADIANS_TO_DEGREES", type := .double, accessFlags := 26, slot := 4, constantValue := 0 }, { name := "negativeZeroFloatBits", type := .long, accessFlags := 26, slot := 5, constantValue := 0 }, { name := "negativeZeroDoubleBits", type := .long, accessFlags := 26, slot := 6, constantValue := 0 }, { name := "twoToTheDoubleScaleUp", type := .double, accessFlags := 8, slot := 7, constantValue := 0 }, { name := "twoToTheDoubleScaleDown", type := .double, accessFlags := 8, slot := 8, constantValue := 0 }, { name := "$assertionsDisabled", type := .boolean, accessFlags := 4120, slot := 9, constantValue := 0 }]
  methods := #[k6m0, k6m1]
  instanceTypes := #[]
  staticTypes := #[.double, .double, .double, .double, .double, .long, .long, .double, .double, .boolean]
  resolved := Array.replicate 460 none
  statics := none }

def pool7 : Array CpInfo := pool [(1, u "java/lang/Cloneable"), (0, .class_ 1), (0, u "java/lang/Object"), (0, .class_ 3)] 3

/-- java/lang/Cloneable -/
def k7 : Class := { plain "java/lang/Cloneable" (some 0) with
  accessFlags := 1537
  interfaces := #[]
  cf := some (fileOf pool7 2 #[] #[] 1537 4 #[] #[])
  fields := #[]
  methods := #[]
  instanceTypes := #[]
  staticTypes := #[]
  resolved := Array.replicate 8 none
  statics := none }

def pool8 : Array CpInfo := pool [(1, .class_ 2), (0, u "java/io/Serializable"), (0, .class_ 4), (0, u "java/lang/Object")] 2

/-- java/io/Serializable -/
def k8 : Class := { plain "java/io/Serializable" (some 0) with
  accessFlags := 1537
  interfaces := #[]
  cf := some (fileOf pool8 1 #[] #[] 1537 3 #[] #[])
  fields := #[]
  methods := #[]
  instanceTypes := #[]
  staticTypes := #[]
  resolved := Array.replicate 7 none
  statics := none }

/-- the primitive byte -/
def k9 : Class := { plain "byte" none with kind := .primitive 'B', accessFlags := 0x411 }
/-- [B -/
def k10 : Class := { plain "[B" (some 0) with kind := .array 9 .byte, interfaces := #[7, 8], accessFlags := 1041 }

/-- the primitive int -/
def k11 : Class := { plain "int" none with kind := .primitive 'I', accessFlags := 0x411 }
/-- [I -/
def k12 : Class := { plain "[I" (some 0) with kind := .array 11 .int, interfaces := #[7, 8], accessFlags := 1041 }

/-- the primitive long -/
def k13 : Class := { plain "long" none with kind := .primitive 'J', accessFlags := 0x411 }
/-- [J -/
def k14 : Class := { plain "[J" (some 0) with kind := .array 13 .long, interfaces := #[7, 8], accessFlags := 1041 }

/-- [Ljava/lang/Class; -/
def k15 : Class := { plain "[Ljava/lang/Class;" (some 0) with kind := .array 4 (.object "java/lang/Class"), interfaces := #[7, 8], accessFlags := 1041 }

def heap : Heap := #[]
def classes : Array Class := #[k0, k1, k2, k3, k4, k5, k6, k7, k8, k9, k10, k11, k12, k13, k14, k15]
def interned : List (Array UInt16 × Addr) := []
def slotsUsed : Nat := 0
def theMethod : MethodId := ⟨1, 2⟩
def args0 : Array Value := #[.long 5, .long 2, .long 7, .int 63]
def aboutOver (below : List Frame) : State where
  vm := { classes := classes, interned := interned.toArray }
  heap := heap
  slotsUsed := slotsUsed
  threads := #[{ frames := .invoking theMethod args0 :: below }]
def below0 : List Frame := [.native { method := ⟨0, 0⟩, args := #[] }]
def about1 : State := aboutOver below0
def p0 : Program := .bare "" "" ""
def e0 : Env := launch0.env 0 0 0
theorem w_frames : about1.frames = Frame.invoking theMethod args0 :: below0 := rfl
set_option maxRecDepth 65536 in
theorem w_args : argsFit about1.vm theMethod args0 = true := by decide +kernel
set_option maxRecDepth 65536 in
theorem w_heap : heapFits about1 = true := by decide +kernel
set_option maxRecDepth 65536 in
theorem w_runnable : about1.curStatus? = some .runnable := by decide +kernel
set_option maxRecDepth 65536 in
theorem w_alone : about1.alone = true := by decide +kernel
set_option maxRecDepth 65536 in
theorem w_named : about1.methodNamed? x = some theMethod := by decide +kernel
set_option maxRecDepth 65536 in
theorem w_hears : about1.hears theMethod below0 = true := by decide +kernel
set_option maxRecDepth 65536 in
theorem w_ripe : about1.ripe theMethod args0 below0 = true := by decide +kernel
theorem w_running : about1.status = .running := rfl
set_option maxRecDepth 65536 in
theorem w_room : about1.hasRoom e0.platform room_1 = true :=
  launch0.hasRoom_least _ room_1 (by decide +kernel) (by decide +kernel) (by decide +kernel) (by decide +kernel) (by decide +kernel) (by decide +kernel)
theorem allAtoms_all (ts : List Jvm.Cond) (a : Array Jvm.Value) (st : Jvm.State) : (allAtoms ts).before a st = ts.all (fun c => c.before a st) := by
  induction ts with
  | nil => rfl
  | cons c t ih =>
    show (Jvm.Cond.and c (allAtoms t)).before a st = _
    rw [Jvm.Cond.before_and, ih, List.all_cons]
def words1 : List Jvm.Cond := Jvm.Cond.code x code maxLocals ret :: tables_1
/-- a 'code' word, met by the world's own term for the bytes: nothing is compared byte by byte -/
theorem code_word {y : MethodName} {bytes : ByteArray} {mx : Nat} {rt : Option FieldType} {a : Array Value} {s : State} {m : MethodId} {meth : Method} {c : Code} (h1 : s.methodNamed? y = some m) (h2 : s.vm.method? m = some meth) (h3 : meth.code = some c) (h4 : c.code = bytes)
    (h5 : (c.maxLocals == mx && c.exceptionTable.isEmpty && decide (c.maxStack ≤ mostOperands) && decide (meth.sig.returnType = rt) && !meth.locks && decide (parseMethodDescriptor y.desc = some meth.sig)) = true) : (Jvm.Cond.code y bytes mx rt).before a s = true := by
  simp only [Bool.and_eq_true, beq_iff_eq, Bool.not_eq_true', decide_eq_true_eq] at h5
  obtain ⟨⟨⟨⟨⟨g1, g2⟩, g3⟩, g4⟩, g5⟩, g6⟩ := h5
  simp [Cond.before, Cond.holds, Cond.value, h1, h2, h3, h4, g1, g2, g3, g4, g5, g6]
def isCode : Jvm.Cond → Bool
  | .code _ _ _ _ => true
  | _ => false
theorem all_split {L : List Jvm.Cond} {P : Jvm.Cond → Bool} (h1 : L.all (fun c => isCode c || P c) = true) (h2 : ∀ c ∈ L.filter isCode, P c = true) : L.all P = true := by
  refine List.all_eq_true.mpr fun c hc => ?_
  have h := List.all_eq_true.mp h1 c hc
  rcases Bool.eq_false_or_eq_true (isCode c) with hi | hi
  · exact h2 c (List.mem_filter.mpr ⟨hc, hi⟩)
  · simpa [hi] using h
set_option maxRecDepth 65536 in
theorem w_c0 : (Jvm.Cond.code x code maxLocals ret).before args0 about1 = true := code_word (m := ⟨1, 2⟩) (meth := k1m2) (c := k1c2) (by decide +kernel) rfl rfl rfl (by decide +kernel)
set_option maxRecDepth 65536 in
theorem w_c1 : (Jvm.Cond.code ({ cls := "com/example/tallyframe/tallyframe/Ledger", name := "<init>", desc := "()V" } : Jvm.MethodName) prog_6_method_1_code (1 : Nat) (Option.none : Option Jvm.ClassFile.FieldType)).before args0 about1 = true := code_word (m := ⟨2, 0⟩) (meth := k2m0) (c := k2c0) (by decide +kernel) rfl rfl rfl (by decide +kernel)
set_option maxRecDepth 65536 in
theorem w_c2 : (Jvm.Cond.code ({ cls := "java/lang/Object", name := "<init>", desc := "()V" } : Jvm.MethodName) object_method_1_code (1 : Nat) (Option.none : Option Jvm.ClassFile.FieldType)).before args0 about1 = true := code_word (m := ⟨0, 0⟩) (meth := k0m0) (c := k0c0) (by decide +kernel) rfl rfl rfl (by decide +kernel)
set_option maxRecDepth 65536 in
theorem w_c3 : (Jvm.Cond.code ({ cls := "com/example/tallyframe/tallyframe/KindFigures", name := "<init>", desc := "()V" } : Jvm.MethodName) prog_5_method_1_code (1 : Nat) (Option.none : Option Jvm.ClassFile.FieldType)).before args0 about1 = true := code_word (m := ⟨3, 0⟩) (meth := k3m0) (c := k3c0) (by decide +kernel) rfl rfl rfl (by decide +kernel)
set_option maxRecDepth 65536 in
theorem w_c4 : (Jvm.Cond.code ({ cls := "com/example/tallyframe/tallyframe/LedgerTallyPinLaw", name := "apply", desc := "(Lcom/example/tallyframe/tallyframe/Ledger;ZZJ)V" } : Jvm.MethodName) method_2_code (5 : Nat) (Option.none : Option Jvm.ClassFile.FieldType)).before args0 about1 = true := code_word (m := ⟨1, 1⟩) (meth := k1m1) (c := k1c1) (by decide +kernel) rfl rfl rfl (by decide +kernel)
set_option maxRecDepth 65536 in
theorem w_c5 : (Jvm.Cond.code ({ cls := "com/example/tallyframe/tallyframe/Ledger", name := "tally", desc := "()Lcom/example/tallyframe/tallyframe/Tally;" } : Jvm.MethodName) prog_6_method_9_code (1 : Nat) (Option.some (Jvm.ClassFile.FieldType.object "com/example/tallyframe/tallyframe/Tally"))).before args0 about1 = true := code_word (m := ⟨2, 4⟩) (meth := k2m4) (c := k2c4) (by decide +kernel) rfl rfl rfl (by decide +kernel)
set_option maxRecDepth 65536 in
theorem w_c6 : (Jvm.Cond.code ({ cls := "com/example/tallyframe/tallyframe/Tally", name := "<init>", desc := "(JJJJ)V" } : Jvm.MethodName) prog_25_method_1_code (9 : Nat) (Option.none : Option Jvm.ClassFile.FieldType)).before args0 about1 = true := code_word (m := ⟨5, 0⟩) (meth := k5m0) (c := k5c0) (by decide +kernel) rfl rfl rfl (by decide +kernel)
set_option maxRecDepth 65536 in
theorem w_c7 : (Jvm.Cond.code ({ cls := "com/example/tallyframe/tallyframe/Tally", name := "allocatedObjects", desc := "()J" } : Jvm.MethodName) prog_25_method_2_code (1 : Nat) (Option.some Jvm.ClassFile.FieldType.long)).before args0 about1 = true := code_word (m := ⟨5, 1⟩) (meth := k5m1) (c := k5c1) (by decide +kernel) rfl rfl rfl (by decide +kernel)
set_option maxRecDepth 65536 in
theorem w_c8 : (Jvm.Cond.code ({ cls := "com/example/tallyframe/tallyframe/Tally", name := "allocatedBytes", desc := "()J" } : Jvm.MethodName) prog_25_method_3_code (1 : Nat) (Option.some Jvm.ClassFile.FieldType.long)).before args0 about1 = true := code_word (m := ⟨5, 2⟩) (meth := k5m2) (c := k5c2) (by decide +kernel) rfl rfl rfl (by decide +kernel)
set_option maxRecDepth 65536 in
theorem w_c9 : (Jvm.Cond.code ({ cls := "com/example/tallyframe/tallyframe/Tally", name := "releasedObjects", desc := "()J" } : Jvm.MethodName) prog_25_method_4_code (1 : Nat) (Option.some Jvm.ClassFile.FieldType.long)).before args0 about1 = true := code_word (m := ⟨5, 3⟩) (meth := k5m3) (c := k5c3) (by decide +kernel) rfl rfl rfl (by decide +kernel)
set_option maxRecDepth 65536 in
theorem w_c10 : (Jvm.Cond.code ({ cls := "com/example/tallyframe/tallyframe/Tally", name := "releasedBytes", desc := "()J" } : Jvm.MethodName) prog_25_method_5_code (1 : Nat) (Option.some Jvm.ClassFile.FieldType.long)).before args0 about1 = true := code_word (m := ⟨5, 4⟩) (meth := k5m4) (c := k5c4) (by decide +kernel) rfl rfl rfl (by decide +kernel)
set_option maxRecDepth 65536 in
theorem w_c11 : (Jvm.Cond.code ({ cls := "com/example/tallyframe/tallyframe/Ledger", name := "recordAllocation", desc := "(Ljava/lang/Class;J)V" } : Jvm.MethodName) prog_6_method_2_code (4 : Nat) (Option.none : Option Jvm.ClassFile.FieldType)).before args0 about1 = true := code_word (m := ⟨2, 1⟩) (meth := k2m1) (c := k2c1) (by decide +kernel) rfl rfl rfl (by decide +kernel)
set_option maxRecDepth 65536 in
theorem w_c12 : (Jvm.Cond.code ({ cls := "com/example/tallyframe/tallyframe/Ledger", name := "liveBytes", desc := "()J" } : Jvm.MethodName) prog_6_method_4_code (1 : Nat) (Option.some Jvm.ClassFile.FieldType.long)).before args0 about1 = true := code_word (m := ⟨2, 3⟩) (meth := k2m3) (c := k2c3) (by decide +kernel) rfl rfl rfl (by decide +kernel)
set_option maxRecDepth 65536 in
theorem w_c13 : (Jvm.Cond.code ({ cls := "java/lang/Math", name := "max", desc := "(JJ)J" } : Jvm.MethodName) jdk_29_method_66_code (4 : Nat) (Option.some Jvm.ClassFile.FieldType.long)).before args0 about1 = true := code_word (m := ⟨6, 1⟩) (meth := k6m1) (c := k6c1) (by decide +kernel) rfl rfl rfl (by decide +kernel)
set_option maxRecDepth 65536 in
theorem w_c14 : (Jvm.Cond.code ({ cls := "com/example/tallyframe/tallyframe/KindFigures", name := "add", desc := "(Ljava/lang/Class;JJ)V" } : Jvm.MethodName) prog_5_method_2_code (7 : Nat) (Option.none : Option Jvm.ClassFile.FieldType)).before args0 about1 = true := code_word (m := ⟨3, 1⟩) (meth := k3m1) (c := k3c1) (by decide +kernel) rfl rfl rfl (by decide +kernel)
set_option maxRecDepth 65536 in
theorem w_c15 : (Jvm.Cond.code ({ cls := "com/example/tallyframe/tallyframe/Ledger", name := "recordRelease", desc := "(Ljava/lang/Class;J)V" } : Jvm.MethodName) prog_6_method_3_code (4 : Nat) (Option.none : Option Jvm.ClassFile.FieldType)).before args0 about1 = true := code_word (m := ⟨2, 2⟩) (meth := k2m2) (c := k2c2) (by decide +kernel) rfl rfl rfl (by decide +kernel)
def codes1 : List Jvm.Cond := [Jvm.Cond.code x code maxLocals ret, Jvm.Cond.code ({ cls := "com/example/tallyframe/tallyframe/Ledger", name := "<init>", desc := "()V" } : Jvm.MethodName) prog_6_method_1_code (1 : Nat) (Option.none : Option Jvm.ClassFile.FieldType), Jvm.Cond.code ({ cls := "java/lang/Object", name := "<init>", desc := "()V" } : Jvm.MethodName) object_method_1_code (1 : Nat) (Option.none : Option Jvm.ClassFile.FieldType), Jvm.Cond.code ({ cls := "com/example/tallyframe/tallyframe/KindFigures", name := "<init>", desc := "()V" } : Jvm.MethodName) prog_5_method_1_code (1 : Nat) (Option.none : Option Jvm.ClassFile.FieldType), Jvm.Cond.code ({ cls := "com/example/tallyframe/tallyframe/LedgerTallyPinLaw", name := "apply", desc := "(Lcom/example/tallyframe/tallyframe/Ledger;ZZJ)V" } : Jvm.MethodName) method_2_code (5 : Nat) (Option.none : Option Jvm.ClassFile.FieldType), Jvm.Cond.code ({ cls := "com/example/tallyframe/tallyframe/Ledger", name := "tally", desc := "()Lcom/example/tallyframe/tallyframe/Tally;" } : Jvm.MethodName) prog_6_method_9_code (1 : Nat) (Option.some (Jvm.ClassFile.FieldType.object "com/example/tallyframe/tallyframe/Tally")), Jvm.Cond.code ({ cls := "com/example/tallyframe/tallyframe/Tally", name := "<init>", desc := "(JJJJ)V" } : Jvm.MethodName) prog_25_method_1_code (9 : Nat) (Option.none : Option Jvm.ClassFile.FieldType), Jvm.Cond.code ({ cls := "com/example/tallyframe/tallyframe/Tally", name := "allocatedObjects", desc := "()J" } : Jvm.MethodName) prog_25_method_2_code (1 : Nat) (Option.some Jvm.ClassFile.FieldType.long), Jvm.Cond.code ({ cls := "com/example/tallyframe/tallyframe/Tally", name := "allocatedBytes", desc := "()J" } : Jvm.MethodName) prog_25_method_3_code (1 : Nat) (Option.some Jvm.ClassFile.FieldType.long), Jvm.Cond.code ({ cls := "com/example/tallyframe/tallyframe/Tally", name := "releasedObjects", desc := "()J" } : Jvm.MethodName) prog_25_method_4_code (1 : Nat) (Option.some Jvm.ClassFile.FieldType.long), Jvm.Cond.code ({ cls := "com/example/tallyframe/tallyframe/Tally", name := "releasedBytes", desc := "()J" } : Jvm.MethodName) prog_25_method_5_code (1 : Nat) (Option.some Jvm.ClassFile.FieldType.long), Jvm.Cond.code ({ cls := "com/example/tallyframe/tallyframe/Ledger", name := "recordAllocation", desc := "(Ljava/lang/Class;J)V" } : Jvm.MethodName) prog_6_method_2_code (4 : Nat) (Option.none : Option Jvm.ClassFile.FieldType), Jvm.Cond.code ({ cls := "com/example/tallyframe/tallyframe/Ledger", name := "liveBytes", desc := "()J" } : Jvm.MethodName) prog_6_method_4_code (1 : Nat) (Option.some Jvm.ClassFile.FieldType.long), Jvm.Cond.code ({ cls := "java/lang/Math", name := "max", desc := "(JJ)J" } : Jvm.MethodName) jdk_29_method_66_code (4 : Nat) (Option.some Jvm.ClassFile.FieldType.long), Jvm.Cond.code ({ cls := "com/example/tallyframe/tallyframe/KindFigures", name := "add", desc := "(Ljava/lang/Class;JJ)V" } : Jvm.MethodName) prog_5_method_2_code (7 : Nat) (Option.none : Option Jvm.ClassFile.FieldType), Jvm.Cond.code ({ cls := "com/example/tallyframe/tallyframe/Ledger", name := "recordRelease", desc := "(Ljava/lang/Class;J)V" } : Jvm.MethodName) prog_6_method_3_code (4 : Nat) (Option.none : Option Jvm.ClassFile.FieldType)]
set_option maxRecDepth 65536 in
theorem codes_eq : words1.filter isCode = codes1 := rfl
theorem w_codes : ∀ c ∈ words1.filter isCode, c.before args0 about1 = true := by
  rw [codes_eq]
  intro c hc
  simp only [codes1, List.mem_cons, List.not_mem_nil, or_false] at hc
  rcases hc with rfl | rfl | rfl | rfl | rfl | rfl | rfl | rfl | rfl | rfl | rfl | rfl | rfl | rfl | rfl | rfl
  · exact w_c0
  · exact w_c1
  · exact w_c2
  · exact w_c3
  · exact w_c4
  · exact w_c5
  · exact w_c6
  · exact w_c7
  · exact w_c8
  · exact w_c9
  · exact w_c10
  · exact w_c11
  · exact w_c12
  · exact w_c13
  · exact w_c14
  · exact w_c15
set_option maxRecDepth 65536 in
theorem w_t1 : (words1.take 24).all (fun c => isCode c || c.before args0 about1) = true := by decide +kernel
set_option maxRecDepth 65536 in
theorem w_t2 : ((words1.drop 24).take 24).all (fun c => isCode c || c.before args0 about1) = true := by decide +kernel
set_option maxRecDepth 65536 in
theorem w_t3 : (((words1.drop 24).drop 24).take 24).all (fun c => isCode c || c.before args0 about1) = true := by decide +kernel
set_option maxRecDepth 65536 in
theorem w_t4 : ((((words1.drop 24).drop 24).drop 24).take 24).all (fun c => isCode c || c.before args0 about1) = true := by decide +kernel
set_option maxRecDepth 65536 in
theorem w_t5 : ((((words1.drop 24).drop 24).drop 24).drop 24).all (fun c => isCode c || c.before args0 about1) = true := by decide +kernel
theorem w_tables : (allAtoms (Jvm.Cond.code x code maxLocals ret :: tables_1)).before args0 about1 = true := by
  rw [allAtoms_all]
  show words1.all (fun c => c.before args0 about1) = true
  refine all_split ?_ w_codes
  rw [← List.take_append_drop 24 words1, List.all_append, w_t1, ← List.take_append_drop 24 (words1.drop 24), List.all_append, w_t2, ← List.take_append_drop 24 ((words1.drop 24).drop 24), List.all_append, w_t3, ← List.take_append_drop 24 (((words1.drop 24).drop 24).drop 24), List.all_append, w_t4, w_t5]
  rfl
set_option maxRecDepth 65536 in
theorem w_case : (Jvm.Cond.and given_1 narrow_1).before args0 about1 = true := by decide +kernel
theorem w_applies : (headSpec (Jvm.Cond.code x code maxLocals ret :: tables_1) room_1).applies x e0.platform about1 = true :=
  (Spec.applies_iff w_frames).mpr ⟨w_running, w_runnable, w_alone, w_named, w_hears, w_ripe, w_room, w_tables⟩
theorem atStart : AtStart classFile x code maxLocals ret World_1 tables_1 room_1 Calls_1 rest_1 Pre_1 launch0 p0 e0 about1 theMethod args0 below0 :=
  ⟨lists_1, trivial, launch0.admits_env _ _ _, launch0.least_env, fairChoices_fair.cas, fairChoices_fair.clock, w_frames, w_args, w_heap, w_applies, trivial, trivial, w_case⟩
end start1
theorem witness_1 : WitnessClaimed_1 := ⟨start1.p0, start1.e0, start1.about1, start1.theMethod, start1.args0, start1.below0, start1.atStart⟩
end Jvm.Pilot.@@N@@
