import JvmDerived
import JvmDerived.Pilot.@@N@@Statement
import JvmDerived.Pilot.@@N@@Code
set_option linter.unusedVariables false
set_option linter.unusedSimpArgs false
namespace Jvm.RoadKit
open Sem ClassFile Op Lib Jvm.Stand Jvm.Free Jvm.LawKit
section New
variable {p : Program} {l : Launch} {e : Env} {R : Room} {s : State} {m : MethodId} {args : Array Value} {below : List Frame} {meth : Method} {c : Code} {T : State} {locs : List Loc} {cells slots : Nat}
theorem own_retI (X : Stand p l e R s m args below meth c T locs cells slots) (hx : p.tables.exec = Jvm.exec) {pc : Nat} {Ls : Array Slot} {z : Int32} {rest : List Value} (hret : meth.sig.returnType = some .int) (hd : decode c.code pc = .ok (.ireturn, 1)) {fs : List Frame}
    (hl : ∀ (f : JFrame) (acts : List Action), f.method = m → f.locked = none → f.entered = [] → (doReturn e (T.setTop f) acts (some (.int z))).1 = T.setFrames fs) : Steps p.tables e below (T.setTop (mkF m pc Ls (.int z :: rest))) (T.setFrames fs) :=
  retOut X hx hret rfl (Or.inl ⟨rfl, Or.inl rfl, z, rfl⟩) hd hl
theorem own_retJ (X : Stand p l e R s m args below meth c T locs cells slots) (hx : p.tables.exec = Jvm.exec) {pc : Nat} {Ls : Array Slot} {z : Int64} {rest : List Value} (hret : meth.sig.returnType = some .long) (hd : decode c.code pc = .ok (.lreturn, 1)) {fs : List Frame}
    (hl : ∀ (f : JFrame) (acts : List Action), f.method = m → f.locked = none → f.entered = [] → (doReturn e (T.setTop f) acts (some (.long z))).1 = T.setFrames fs) : Steps p.tables e below (T.setTop (mkF m pc Ls (.long z :: rest))) (T.setFrames fs) :=
  retOut X hx hret rfl (Or.inr (Or.inl ⟨rfl, rfl, z, rfl⟩)) hd hl
theorem own_retA (X : Stand p l e R s m args below meth c T locs cells slots) (hx : p.tables.exec = Jvm.exec) {pc : Nat} {Ls : Array Slot} {w : Value} {t : FieldType} {rest : List Value} (hret : meth.sig.returnType = some t) (hn : narrow t w = w) (ht : t.isReference = true) (hw : w.isRef = true) (hd : decode c.code pc = .ok (.areturn, 1)) {fs : List Frame}
    (hl : ∀ (f : JFrame) (acts : List Action), f.method = m → f.locked = none → f.entered = [] → (doReturn e (T.setTop f) acts (some w)).1 = T.setFrames fs) : Steps p.tables e below (T.setTop (mkF m pc Ls (w :: rest))) (T.setFrames fs) :=
  retOut X hx hret hn (Or.inr (Or.inr (Or.inr (Or.inr ⟨rfl, ht, hw⟩)))) hd hl
end New
abbrev OwnGo (tb : Tables) (e : Env) (below : List Frame) (K : State → Outcome → Prop) (st : State) : Prop := ∃ s₂ o, Steps tb e below st s₂ ∧ s₂.status = .running ∧ Ended s₂ below o ∧ K s₂ o
theorem OwnGo.back {tb : Tables} {e : Env} {below : List Frame} {K : State → Outcome → Prop} {st : State} (st' : State) (h : ∀ t, Steps tb e below st' t → Steps tb e below st t) (g : OwnGo tb e below K st') : OwnGo tb e below K st := by
  obtain ⟨s₂, o, h1, h2⟩ := g
  exact ⟨s₂, o, h _ h1, h2⟩
abbrev OwnMg (tb : Tables) (e : Env) (below : List Frame) (D : State → Prop) (st : State) : Prop := ∃ st', D st' ∧ ∀ t, Steps tb e below st' t → Steps tb e below st t
theorem OwnMg.back {tb : Tables} {e : Env} {below : List Frame} {D : State → Prop} {st : State} (st' : State) (h : ∀ t, Steps tb e below st' t → Steps tb e below st t) (g : OwnMg tb e below D st') : OwnMg tb e below D st := by
  obtain ⟨s₂, h1, h2⟩ := g
  exact ⟨s₂, h1, fun t k => h t (h2 t k)⟩
theorem own_not {P Q : Prop} (h : P ↔ Q) (n : ¬ Q) : ¬ P := fun q => n (h.mp q)
theorem own_ne {a b n : Nat} (h : a < n) (q : b = n) : a ≠ b := Nat.ne_of_lt (q ▸ h)
theorem own_ne' {a b n : Nat} (h : a < n) (q : n ≤ b) : a ≠ b := Nat.ne_of_lt (Nat.lt_of_lt_of_le h q)
end Jvm.RoadKit
namespace Jvm.Pilot.@@N@@
open Jvm Jvm.ClassFile Sem Op Lib Jvm.Free Jvm.Stand Jvm.LawKit Jvm.RoadKit Bundle Jvm.Pilot.@@N@@.Jvm.D
theorem own_pn0 : plainName "java/lang/Integer" = true := by first | (simp [plainName, overriddenIn]; done) | decide +kernel
theorem own_d3_0 : decode jdk_33_method_47_code 0 = .ok (.iload_n 0, 1) := by decide +kernel
theorem own_d3_1 : decode jdk_33_method_47_code 1 = .ok (.ifCond .gt 14, 3) := by decide +kernel
theorem own_d3_15 : decode jdk_33_method_47_code 15 = .ok (.bipush 31, 2) := by decide +kernel
theorem own_d3_17 : decode jdk_33_method_47_code 17 = .ok (.istore_n 1, 1) := by decide +kernel
theorem own_d3_18 : decode jdk_33_method_47_code 18 = .ok (.iload_n 0, 1) := by decide +kernel
theorem own_d3_19 : decode jdk_33_method_47_code 19 = .ok (.ldc_w 264, 3) := by decide +kernel
theorem own_d3_22 : decode jdk_33_method_47_code 22 = .ok (.if_icmp .lt 11, 3) := by decide +kernel
theorem own_d3_33 : decode jdk_33_method_47_code 33 = .ok (.iload_n 0, 1) := by decide +kernel
theorem own_d3_34 : decode jdk_33_method_47_code 34 = .ok (.sipush 256, 3) := by decide +kernel
theorem own_d3_37 : decode jdk_33_method_47_code 37 = .ok (.if_icmp .lt 11, 3) := by decide +kernel
theorem own_d3_48 : decode jdk_33_method_47_code 48 = .ok (.iload_n 0, 1) := by decide +kernel
theorem own_d3_49 : decode jdk_33_method_47_code 49 = .ok (.bipush 16, 2) := by decide +kernel
theorem own_d3_51 : decode jdk_33_method_47_code 51 = .ok (.if_icmp .lt 10, 3) := by decide +kernel
theorem own_d3_61 : decode jdk_33_method_47_code 61 = .ok (.iload_n 0, 1) := by decide +kernel
theorem own_d3_62 : decode jdk_33_method_47_code 62 = .ok (.iconst 4, 1) := by decide +kernel
theorem own_d3_63 : decode jdk_33_method_47_code 63 = .ok (.if_icmp .lt 10, 3) := by decide +kernel
theorem own_d3_73 : decode jdk_33_method_47_code 73 = .ok (.iload_n 1, 1) := by decide +kernel
theorem own_d3_74 : decode jdk_33_method_47_code 74 = .ok (.iload_n 0, 1) := by decide +kernel
theorem own_d3_75 : decode jdk_33_method_47_code 75 = .ok (.iconst 1, 1) := by decide +kernel
theorem own_d3_76 : decode jdk_33_method_47_code 76 = .ok (.iushr, 1) := by decide +kernel
theorem own_d3_77 : decode jdk_33_method_47_code 77 = .ok (.isub, 1) := by decide +kernel
theorem own_d3_78 : decode jdk_33_method_47_code 78 = .ok (.ireturn, 1) := by decide +kernel
theorem own_d3_66 : decode jdk_33_method_47_code 66 = .ok (.iinc 1 (-2), 3) := by decide +kernel
theorem own_d3_69 : decode jdk_33_method_47_code 69 = .ok (.iload_n 0, 1) := by decide +kernel
theorem own_d3_70 : decode jdk_33_method_47_code 70 = .ok (.iconst 2, 1) := by decide +kernel
theorem own_d3_71 : decode jdk_33_method_47_code 71 = .ok (.iushr, 1) := by decide +kernel
theorem own_d3_72 : decode jdk_33_method_47_code 72 = .ok (.istore_n 0, 1) := by decide +kernel
theorem own_d3_54 : decode jdk_33_method_47_code 54 = .ok (.iinc 1 (-4), 3) := by decide +kernel
theorem own_d3_57 : decode jdk_33_method_47_code 57 = .ok (.iload_n 0, 1) := by decide +kernel
theorem own_d3_58 : decode jdk_33_method_47_code 58 = .ok (.iconst 4, 1) := by decide +kernel
theorem own_d3_59 : decode jdk_33_method_47_code 59 = .ok (.iushr, 1) := by decide +kernel
theorem own_d3_60 : decode jdk_33_method_47_code 60 = .ok (.istore_n 0, 1) := by decide +kernel
theorem own_d3_40 : decode jdk_33_method_47_code 40 = .ok (.iinc 1 (-8), 3) := by decide +kernel
theorem own_d3_43 : decode jdk_33_method_47_code 43 = .ok (.iload_n 0, 1) := by decide +kernel
theorem own_d3_44 : decode jdk_33_method_47_code 44 = .ok (.bipush 8, 2) := by decide +kernel
theorem own_d3_46 : decode jdk_33_method_47_code 46 = .ok (.iushr, 1) := by decide +kernel
theorem own_d3_47 : decode jdk_33_method_47_code 47 = .ok (.istore_n 0, 1) := by decide +kernel
theorem own_d3_25 : decode jdk_33_method_47_code 25 = .ok (.iinc 1 (-16), 3) := by decide +kernel
theorem own_d3_28 : decode jdk_33_method_47_code 28 = .ok (.iload_n 0, 1) := by decide +kernel
theorem own_d3_29 : decode jdk_33_method_47_code 29 = .ok (.bipush 16, 2) := by decide +kernel
theorem own_d3_31 : decode jdk_33_method_47_code 31 = .ok (.iushr, 1) := by decide +kernel
theorem own_d3_32 : decode jdk_33_method_47_code 32 = .ok (.istore_n 0, 1) := by decide +kernel
theorem own_d3_4 : decode jdk_33_method_47_code 4 = .ok (.iload_n 0, 1) := by decide +kernel
theorem own_d3_5 : decode jdk_33_method_47_code 5 = .ok (.ifCond .ne 8, 3) := by decide +kernel
theorem own_d3_13 : decode jdk_33_method_47_code 13 = .ok (.iconst 0, 1) := by decide +kernel
theorem own_d3_14 : decode jdk_33_method_47_code 14 = .ok (.ireturn, 1) := by decide +kernel
theorem own_pn1 : plainName "java/lang/Long" = true := by first | (simp [plainName, overriddenIn]; done) | decide +kernel
theorem own_d2_0 : decode jdk_35_method_48_code 0 = .ok (.lload_n 0, 1) := by decide +kernel
theorem own_d2_1 : decode jdk_35_method_48_code 1 = .ok (.bipush 32, 2) := by decide +kernel
theorem own_d2_3 : decode jdk_35_method_48_code 3 = .ok (.lushr, 1) := by decide +kernel
theorem own_d2_4 : decode jdk_35_method_48_code 4 = .ok (.l2i, 1) := by decide +kernel
theorem own_d2_5 : decode jdk_35_method_48_code 5 = .ok (.istore_n 2, 1) := by decide +kernel
theorem own_d2_6 : decode jdk_35_method_48_code 6 = .ok (.iload_n 2, 1) := by decide +kernel
theorem own_d2_7 : decode jdk_35_method_48_code 7 = .ok (.ifCond .ne 14, 3) := by decide +kernel
theorem own_d2_10 : decode jdk_35_method_48_code 10 = .ok (.bipush 32, 2) := by decide +kernel
theorem own_d2_12 : decode jdk_35_method_48_code 12 = .ok (.lload_n 0, 1) := by decide +kernel
theorem own_d2_13 : decode jdk_35_method_48_code 13 = .ok (.l2i, 1) := by decide +kernel
theorem own_d2_14 : decode jdk_35_method_48_code 14 = .ok (.invokestatic 308, 3) := by decide +kernel
theorem own_pd0 : parseMethodDescriptor "(I)I" = some ⟨[.int], some .int⟩ := by decide +kernel
theorem own_d2_17 : decode jdk_35_method_48_code 17 = .ok (.iadd, 1) := by decide +kernel
theorem own_d2_18 : decode jdk_35_method_48_code 18 = .ok (.goto 7, 3) := by decide +kernel
theorem own_d2_25 : decode jdk_35_method_48_code 25 = .ok (.ireturn, 1) := by decide +kernel
theorem own_d2_21 : decode jdk_35_method_48_code 21 = .ok (.iload_n 2, 1) := by decide +kernel
theorem own_d2_22 : decode jdk_35_method_48_code 22 = .ok (.invokestatic 308, 3) := by decide +kernel
theorem own_pn2 : plainName "com/example/entrave/entrave/Restarts" = true := by first | (simp [plainName, overriddenIn]; done) | decide +kernel
theorem own_d1_0 : decode prog_15_method_5_code 0 = .ok (.lload_n 0, 1) := by decide +kernel
theorem own_d1_1 : decode prog_15_method_5_code 1 = .ok (.lstore_n 2, 1) := by decide +kernel
theorem own_d1_2 : decode prog_15_method_5_code 2 = .ok (.bipush 64, 2) := by decide +kernel
theorem own_d1_4 : decode prog_15_method_5_code 4 = .ok (.lload_n 2, 1) := by decide +kernel
theorem own_d1_5 : decode prog_15_method_5_code 5 = .ok (.invokestatic 54, 3) := by decide +kernel
theorem own_pd1 : parseMethodDescriptor "(J)I" = some ⟨[.long], some .int⟩ := by decide +kernel
theorem own_d1_8 : decode prog_15_method_5_code 8 = .ok (.isub, 1) := by decide +kernel
theorem own_d1_9 : decode prog_15_method_5_code 9 = .ok (.istore 4, 2) := by decide +kernel
theorem own_d1_11 : decode prog_15_method_5_code 11 = .ok (.lload_n 2, 1) := by decide +kernel
theorem own_d1_12 : decode prog_15_method_5_code 12 = .ok (.lconst 1, 1) := by decide +kernel
theorem own_d1_13 : decode prog_15_method_5_code 13 = .ok (.iload 4, 2) := by decide +kernel
theorem own_d1_15 : decode prog_15_method_5_code 15 = .ok (.lshl, 1) := by decide +kernel
theorem own_d1_16 : decode prog_15_method_5_code 16 = .ok (.lconst 1, 1) := by decide +kernel
theorem own_d1_17 : decode prog_15_method_5_code 17 = .ok (.lsub, 1) := by decide +kernel
theorem own_d1_18 : decode prog_15_method_5_code 18 = .ok (.lcmp, 1) := by decide +kernel
theorem own_d1_19 : decode prog_15_method_5_code 19 = .ok (.ifCond .eq 26, 3) := by decide +kernel
theorem own_d1_45 : decode prog_15_method_5_code 45 = .ok (.lconst 1, 1) := by decide +kernel
theorem own_d1_46 : decode prog_15_method_5_code 46 = .ok (.iload 4, 2) := by decide +kernel
theorem own_d1_48 : decode prog_15_method_5_code 48 = .ok (.iconst 1, 1) := by decide +kernel
theorem own_d1_49 : decode prog_15_method_5_code 49 = .ok (.isub, 1) := by decide +kernel
theorem own_d1_50 : decode prog_15_method_5_code 50 = .ok (.lshl, 1) := by decide +kernel
theorem own_d1_51 : decode prog_15_method_5_code 51 = .ok (.lreturn, 1) := by decide +kernel
theorem own_d1_22 : decode prog_15_method_5_code 22 = .ok (.lload_n 2, 1) := by decide +kernel
theorem own_d1_23 : decode prog_15_method_5_code 23 = .ok (.lconst 1, 1) := by decide +kernel
theorem own_d1_24 : decode prog_15_method_5_code 24 = .ok (.iload 4, 2) := by decide +kernel
theorem own_d1_26 : decode prog_15_method_5_code 26 = .ok (.iconst 1, 1) := by decide +kernel
theorem own_d1_27 : decode prog_15_method_5_code 27 = .ok (.isub, 1) := by decide +kernel
theorem own_d1_28 : decode prog_15_method_5_code 28 = .ok (.lshl, 1) := by decide +kernel
theorem own_d1_29 : decode prog_15_method_5_code 29 = .ok (.lconst 1, 1) := by decide +kernel
theorem own_d1_30 : decode prog_15_method_5_code 30 = .ok (.lsub, 1) := by decide +kernel
theorem own_d1_31 : decode prog_15_method_5_code 31 = .ok (.lsub, 1) := by decide +kernel
theorem own_d1_32 : decode prog_15_method_5_code 32 = .ok (.lstore_n 2, 1) := by decide +kernel
theorem own_d1_33 : decode prog_15_method_5_code 33 = .ok (.bipush 64, 2) := by decide +kernel
theorem own_d1_35 : decode prog_15_method_5_code 35 = .ok (.lload_n 2, 1) := by decide +kernel
theorem own_d1_36 : decode prog_15_method_5_code 36 = .ok (.invokestatic 54, 3) := by decide +kernel
theorem own_d1_39 : decode prog_15_method_5_code 39 = .ok (.isub, 1) := by decide +kernel
theorem own_d1_40 : decode prog_15_method_5_code 40 = .ok (.istore 4, 2) := by decide +kernel
theorem own_d1_42 : decode prog_15_method_5_code 42 = .ok (.goto (-31), 3) := by decide +kernel
theorem own_pn3 : plainName "com/example/entrave/entrave/RestartsLubyPinLaw" = true := by first | (simp [plainName, overriddenIn]; done) | decide +kernel
theorem own_pd2 : parseMethodDescriptor "(J)J" = some ⟨[.long], some .long⟩ := by decide +kernel
theorem own_lo0 {x : Int64} (h0 : 0 < x) (h : (((x.toUInt64 >>> ((32 : Int32) &&& 0x3f).toInt64.toUInt64).toInt64).toInt32) = (0 : Int32)) : ¬ (x.toInt32) = 0 := by
  have a := c_lushr x 32 32 (by decide) (by decide)
  have b := c_l2i ((x.toUInt64 >>> ((32 : Int32) &&& 0x3f).toInt64.toUInt64).toInt64)
  have d := c_l2i x
  have r := rng64 x
  have e32 : ((2 ^ 32 : Nat) : Int) = 4294967296 := rfl
  rw [e32] at a
  simp only [Int64.lt_iff_toInt_lt, ← Int32.toInt_inj, Int32.reduceToInt, Int64.reduceToInt] at *
  omega
theorem own_lo {x : Int64} {z : Int32} (h0 : 0 < x) (h : (((x.toUInt64 >>> ((32 : Int32) &&& 0x3f).toInt64.toUInt64).toInt64).toInt32) = (0 : Int32))
    (p : ∃ j : Nat, j ≤ 31 ∧ z.toInt = 31 - j ∧ 2 ^ j ≤ (x.toInt32).toInt % 4294967296 ∧ (x.toInt32).toInt % 4294967296 < 2 ^ (j + 1)) :
    ∃ j : Nat, j ≤ 62 ∧ ((32 : Int32) + z).toInt = 63 - j ∧ 2 ^ j ≤ x.toInt ∧ x.toInt < 2 ^ (j + 1) := by
  have a := c_lushr x 32 32 (by decide) (by decide)
  have b := c_l2i ((x.toUInt64 >>> ((32 : Int32) &&& 0x3f).toInt64.toUInt64).toInt64)
  have d := c_l2i x
  have r := rng64 x
  have e32 : ((2 ^ 32 : Nat) : Int) = 4294967296 := rfl
  rw [e32] at a
  obtain ⟨j, h1, h2, h3, h4⟩ := p
  have s := c_iadd 32 z
  have rr := rng32 ((32 : Int32) + z)
  simp only [Int64.lt_iff_toInt_lt, ← Int32.toInt_inj, Int32.reduceToInt, Int64.reduceToInt] at *
  have e : x.toInt32.toInt % 4294967296 = x.toInt := by omega
  rw [e] at h3 h4
  exact ⟨j, by omega, by omega, h3, h4⟩
theorem own_hi {x y : Int} {j : Nat} (h : y = x / 4294967296) (h1 : 2 ^ j ≤ y) (h2 : y < 2 ^ (j + 1)) : 2 ^ (j + 32) ≤ x ∧ x < 2 ^ (j + 32 + 1) := by
  have e1 : (2 : Int) ^ (j + 32) = 2 ^ j * 4294967296 := by rw [Int.pow_add]; rfl
  have e2 : (2 : Int) ^ (j + 32 + 1) = 2 ^ (j + 1) * 4294967296 := by rw [show j + 32 + 1 = (j + 1) + 32 by omega, Int.pow_add]; rfl
  rw [e1, e2]
  omega
theorem own_lt31 {y : Int} {j : Nat} (h1 : 2 ^ j ≤ y) (h2 : y < 2147483648) : j ≤ 30 := by
  rcases Nat.lt_or_ge j 31 with h | h
  · omega
  · have : (2:Int) ^ 31 ≤ 2 ^ j := by
      have := Nat.pow_le_pow_right (n := 2) (by decide) h
      exact_mod_cast this
    omega
theorem own_hh {x : Int64} {z : Int32} (h0 : 0 < x) (h : ¬ (((x.toUInt64 >>> ((32 : Int32) &&& 0x3f).toInt64.toUInt64).toInt64).toInt32) = (0 : Int32))
    (p : ∃ j : Nat, j ≤ 31 ∧ z.toInt = 31 - j ∧ 2 ^ j ≤ (((x.toUInt64 >>> ((32 : Int32) &&& 0x3f).toInt64.toUInt64).toInt64).toInt32).toInt % 4294967296 ∧ (((x.toUInt64 >>> ((32 : Int32) &&& 0x3f).toInt64.toUInt64).toInt64).toInt32).toInt % 4294967296 < 2 ^ (j + 1)) :
    ∃ j : Nat, j ≤ 62 ∧ z.toInt = 63 - j ∧ 2 ^ j ≤ x.toInt ∧ x.toInt < 2 ^ (j + 1) := by
  have a := c_lushr x 32 32 (by decide) (by decide)
  have b := c_l2i ((x.toUInt64 >>> ((32 : Int32) &&& 0x3f).toInt64.toUInt64).toInt64)
  have r := rng64 x
  have e32 : ((2 ^ 32 : Nat) : Int) = 4294967296 := rfl
  rw [e32] at a
  obtain ⟨j, h1, h2, h3, h4⟩ := p
  have q := rng32 (((x.toUInt64 >>> ((32 : Int32) &&& 0x3f).toInt64.toUInt64).toInt64).toInt32)
  simp only [Int64.lt_iff_toInt_lt, ← Int32.toInt_inj, Int32.reduceToInt, Int64.reduceToInt] at *
  generalize (((x.toUInt64 >>> ((32 : Int32) &&& 0x3f).toInt64.toUInt64).toInt64).toInt32).toInt = y at *
  have e : y % 4294967296 = x.toInt / 4294967296 := by omega
  rw [e] at h3 h4
  have hj := own_lt31 h3 (by omega)
  exact ⟨j + 32, by omega, by omega, own_hi rfl h3 h4⟩
theorem own_t1 : ∀ j : Fin 63, (((1:Int64) <<< ((Int32.ofNat (j.val+1)) &&& 0x3f).toInt64) - 1).toInt = 2^(j.val+1) - 1 := by decide
theorem own_t2 : ∀ j : Fin 63, ((1:Int64) <<< ((Int32.ofNat (j.val+1) - 1) &&& 0x3f).toInt64).toInt = 2^(j.val) := by decide
theorem own_t3 : ∀ j : Fin 63, (((1:Int64) <<< ((Int32.ofNat (j.val+1) - 1) &&& 0x3f).toInt64) - 1).toBitVec.toNat = 2^(j.val) - 1 := by decide
def own_L (r : Nat) : Nat := if h : r + 1 = 2 ^ (Nat.log2 r + 1) ∨ r ≤ 1 then 2 ^ Nat.log2 r else own_L (r - (2 ^ Nat.log2 r - 1))
termination_by r
decreasing_by
  have h1 : 1 < r := by omega
  have h2 : 1 ≤ Nat.log2 r := (Nat.le_log2 (by omega)).mpr (by omega)
  have h3 : 2 ^ 1 ≤ 2 ^ Nat.log2 r := Nat.pow_le_pow_right (by decide) h2
  omega
theorem own_log {r j : Nat} (h1 : 2 ^ j ≤ r) (h2 : r < 2 ^ (j + 1)) : Nat.log2 r = j := by
  have hp : 0 < 2 ^ j := Nat.two_pow_pos j
  have a : j ≤ Nat.log2 r := (Nat.le_log2 (by omega)).mpr h1
  have b : Nat.log2 r < j + 1 := (Nat.log2_lt (by omega)).mpr h2
  omega
theorem own_L_end {r j : Nat} (h1 : 2 ^ j ≤ r) (h2 : r + 1 = 2 ^ (j + 1)) : own_L r = 2 ^ j := by
  have h := own_log h1 (by omega)
  rw [own_L, h, dif_pos (Or.inl h2)]
theorem own_L_step {r j : Nat} (h1 : 2 ^ j ≤ r) (h2 : r < 2 ^ (j + 1)) (h3 : r + 1 ≠ 2 ^ (j + 1)) : own_L r = own_L (r - (2 ^ j - 1)) := by
  have h := own_log h1 h2
  have hr : ¬ r ≤ 1 := by
    intro q
    have hp : 0 < 2 ^ j := Nat.two_pow_pos j
    have : r = 1 := by omega
    subst this
    match j, h1, h3 with
    | 0, _, h3 => exact h3 rfl
    | j + 1, h1, _ =>
      have : 2 ^ 1 ≤ 2 ^ (j + 1) := Nat.pow_le_pow_right (by decide) (by omega)
      omega
  rw [own_L, h, dif_neg (by omega)]
def own_bl (r : Int64) (ln : Int32) : Prop := ∃ j : Nat, j ≤ 62 ∧ ln = Int32.ofNat (j + 1) ∧ 2 ^ j ≤ r.toInt ∧ r.toInt < 2 ^ (j + 1)
theorem own_bl_of {r : Int64} {z : Int32} (h : ∃ j : Nat, j ≤ 62 ∧ z.toInt = 63 - j ∧ 2 ^ j ≤ r.toInt ∧ r.toInt < 2 ^ (j + 1)) : own_bl r ((64 : Int32) - z) := by
  obtain ⟨j, h1, h2, h3, h4⟩ := h
  refine ⟨j, h1, ?_, h3, h4⟩
  have s := c_isub 64 z
  have rr := rng32 ((64 : Int32) - z)
  have e := Int32.toInt_ofNat_of_lt (n := j + 1) (by omega)
  simp only [← Int32.toInt_inj, Int32.reduceToInt] at *
  omega
theorem own_z {r : Int64} (h : 0 < r) : ¬ r.toInt.toNat ≤ 0 := by
  simp only [Int64.lt_iff_toInt_lt, Int64.reduceToInt] at h
  omega
theorem own_cast {j : Nat} {r : Int} (h : 2 ^ j ≤ r) : 2 ^ j ≤ r.toNat := by
  have hp : (0 : Int) < 2 ^ j := Int.pow_pos (by decide)
  have : ((2 ^ j : Nat) : Int) = 2 ^ j := by norm_cast
  omega
theorem own_cast' {j : Nat} {r : Int} (h0 : 0 ≤ r) (h : r < 2 ^ j) : r.toNat < 2 ^ j := by
  have : ((2 ^ j : Nat) : Int) = 2 ^ j := by norm_cast
  omega
theorem own_fin {r : Int64} {ln : Int32} (hb : own_bl r ln) (h : r = (((1 : Int64) <<< (ln &&& 0x3f).toInt64) - (1 : Int64))) :
    ((1 : Int64) <<< ((ln - (1 : Int32)) &&& 0x3f).toInt64).toInt = own_L r.toInt.toNat := by
  obtain ⟨j, h1, rfl, h3, h4⟩ := hb
  have t1 := own_t1 ⟨j, by omega⟩
  have t2 := own_t2 ⟨j, by omega⟩
  dsimp only at t1 t2
  rw [← h] at t1
  have hp : (0 : Int) < 2 ^ j := Int.pow_pos (by decide)
  have e : ((2 ^ (j + 1) : Nat) : Int) = 2 ^ (j + 1) := by norm_cast
  rw [own_L_end (own_cast h3) (by omega), t2]
  norm_cast
theorem own_nx {r : Int64} {ln : Int32} (hb : own_bl r ln) (h : ¬ r = (((1 : Int64) <<< (ln &&& 0x3f).toInt64) - (1 : Int64))) :
    0 < (r - (((1 : Int64) <<< ((ln - (1 : Int32)) &&& 0x3f).toInt64) - (1 : Int64))) ∧ (r - (((1 : Int64) <<< ((ln - (1 : Int32)) &&& 0x3f).toInt64) - (1 : Int64))).toInt.toNat < r.toInt.toNat ∧
      own_L (r - (((1 : Int64) <<< ((ln - (1 : Int32)) &&& 0x3f).toInt64) - (1 : Int64))).toInt.toNat = own_L r.toInt.toNat := by
  obtain ⟨j, h1, rfl, h3, h4⟩ := hb
  have t1 := own_t1 ⟨j, by omega⟩
  have t2 := own_t2 ⟨j, by omega⟩
  dsimp only at t1 t2
  generalize ((1 : Int64) <<< ((Int32.ofNat (j + 1)) &&& 0x3f).toInt64) - (1 : Int64) = u at *
  generalize ((1 : Int64) <<< ((Int32.ofNat (j + 1) - (1 : Int32)) &&& 0x3f).toInt64) = w at *
  have s1 := c_lsub w 1
  have s2 := c_lsub r (w - 1)
  have r1 := rng64 (w - 1)
  have r2 := rng64 (r - (w - 1))
  have rr := rng64 r
  have hp : (0 : Int) < 2 ^ j := Int.pow_pos (by decide)
  have e2 : (2 : Int) ^ (j + 1) = 2 ^ j * 2 := Int.pow_succ ..
  have e : ((2 ^ (j + 1) : Nat) : Int) = 2 ^ (j + 1) := by norm_cast
  have e' : ((2 ^ j : Nat) : Int) = 2 ^ j := by norm_cast
  simp only [Int64.lt_iff_toInt_lt, ← Int64.toInt_inj, Int64.reduceToInt] at *
  have q := own_L_step (own_cast h3) (own_cast' (by omega) h4) (by omega)
  have hj : 1 < (2 : Int) ^ j := by
    rcases Decidable.em (1 < (2 : Int) ^ j) with z | z
    · exact z
    · omega
  refine ⟨by omega, by omega, ?_⟩
  rw [q]
  congr 1
  omega
theorem own_p (x : Int32) : ∃ j : Nat, j ≤ 62 ∧ ((1 : Int64) <<< (((((x &&& (63 : Int32)) % (63 : Int32)) + (1 : Int32)) - (1 : Int32)) &&& 0x3f).toInt64).toInt = 2 ^ j ∧
    (((1 : Int64) <<< (((((x &&& (63 : Int32)) % (63 : Int32)) + (1 : Int32)) - (1 : Int32)) &&& 0x3f).toInt64) - (1 : Int64)).toBitVec.toNat = 2 ^ j - 1 := by
  have h := c_mask x 63 6 (by decide) (by decide)
  have h2 := (c_irem (x &&& 63) 63 63 (by decide)).1 (by omega)
  have s := c_iadd ((x &&& 63) % 63) 1
  have rr := rng32 ((x &&& 63) % 63 + 1)
  obtain ⟨j, hj⟩ : ∃ j : Nat, j = ((x &&& 63) % 63).toInt.toNat := ⟨_, rfl⟩
  have e : ((x &&& 63) % 63) + 1 = Int32.ofNat (j + 1) := by
    have e := Int32.toInt_ofNat_of_lt (n := j + 1) (by omega)
    simp only [← Int32.toInt_inj, Int32.reduceToInt] at *
    omega
  rw [e]
  exact ⟨j, by omega, own_t2 ⟨j, by omega⟩, own_t3 ⟨j, by omega⟩⟩
theorem own_off {b pp m : Int64} {cc : Int32} {j : Nat} (hj0 : j ≤ 62) (hj1 : pp.toInt = 2 ^ j) (hj2 : (pp - (1 : Int64)).toBitVec.toNat = 2 ^ j - 1)
    (h : (((cc &&& (1 : Int32)) = (0 : Int32)) ∧ m = (b &&& (pp - (1 : Int64)))) ∨ ((¬ ((cc &&& (1 : Int32)) = (0 : Int32))) ∧ m = (pp - (1 : Int64)))) : 0 ≤ m.toInt ∧ m.toInt < 2 ^ j := by
  have hp : (0 : Int) < 2 ^ j := Int.pow_pos (by decide)
  have s := c_lsub pp 1
  have r1 := rng64 (pp - 1)
  have r0 := rng64 pp
  have e' : ((2 ^ j : Nat) : Int) = 2 ^ j := by norm_cast
  have k := c_maskL b (pp - 1) j (by omega) hj2
  simp only [Int64.reduceToInt] at s
  rcases h with ⟨-, rfl⟩ | ⟨-, rfl⟩
  · rw [k, e']
    exact ⟨Int.emod_nonneg _ (by omega), Int.emod_lt_of_pos _ hp⟩
  · omega
theorem own_r {pp m : Int64} {j : Nat} (hj0 : j ≤ 62) (hj1 : pp.toInt = 2 ^ j) (ho : 0 ≤ m.toInt ∧ m.toInt < 2 ^ j) : 0 < (pp + m) ∧ (pp + m).toInt = 2 ^ j + m.toInt := by
  have s := c_ladd pp m
  have r1 := rng64 (pp + m)
  have r0 := rng64 pp
  have hp : (0 : Int) < 2 ^ j := Int.pow_pos (by decide)
  have hq : (2 : Int) ^ j ≤ 4611686018427387904 := by
    have t := Nat.pow_le_pow_right (n := 2) (by decide) hj0
    have e : (2 : Nat) ^ 62 = 4611686018427387904 := rfl
    have e' : ((2 ^ j : Nat) : Int) = 2 ^ j := by norm_cast
    rw [e] at t
    omega
  simp only [Int64.lt_iff_toInt_lt, Int64.reduceToInt]
  omega
theorem own_sm {pp m : Int64} {j : Nat} (hj0 : j ≤ 62) (hj1 : pp.toInt = 2 ^ j) (ho : 0 ≤ m.toInt ∧ m.toInt < 2 ^ j) (hn : ¬ m = (pp - (1 : Int64))) : 0 < (((pp + m) - pp) + (1 : Int64)) ∧ (((pp + m) - pp) + (1 : Int64)).toInt = m.toInt + 1 := by
  obtain ⟨-, a⟩ := own_r hj0 hj1 ho
  have s := c_lsub (pp + m) pp
  have s2 := c_ladd ((pp + m) - pp) 1
  have r1 := rng64 ((pp + m) - pp)
  have r2 := rng64 (((pp + m) - pp) + 1)
  have rm := rng64 m
  have hq : (2 : Int) ^ j ≤ 4611686018427387904 := by
    have t := Nat.pow_le_pow_right (n := 2) (by decide) hj0
    have e : (2 : Nat) ^ 62 = 4611686018427387904 := rfl
    have e' : ((2 ^ j : Nat) : Int) = 2 ^ j := by norm_cast
    rw [e] at t
    omega
  simp only [Int64.lt_iff_toInt_lt, Int64.reduceToInt] at *
  omega
theorem own_e1 {pp m w : Int64} {j : Nat} (hj0 : j ≤ 62) (hj1 : pp.toInt = 2 ^ j) (ho : 0 ≤ m.toInt ∧ m.toInt < 2 ^ j) (hm : m = (pp - (1 : Int64))) (hw : w.toInt = own_L (pp + m).toInt.toNat) : w = pp := by
  obtain ⟨-, a⟩ := own_r hj0 hj1 ho
  have s := c_lsub pp 1
  have rm := rng64 m
  rw [← hm] at s
  have e2 : (2 : Int) ^ (j + 1) = 2 ^ j * 2 := Int.pow_succ ..
  have e : ((2 ^ (j + 1) : Nat) : Int) = 2 ^ (j + 1) := by norm_cast
  have r0 := rng64 pp
  simp only [Int64.reduceToInt] at s
  rw [own_L_end (own_cast (j := j) (by omega)) (by omega)] at hw
  rw [← Int64.toInt_inj, hw, hj1]
  norm_cast
theorem own_e2 {pp m w w' : Int64} {j : Nat} (hj0 : j ≤ 62) (hj1 : pp.toInt = 2 ^ j) (ho : 0 ≤ m.toInt ∧ m.toInt < 2 ^ j) (hm : ¬ m = (pp - (1 : Int64))) (hw : w.toInt = own_L (pp + m).toInt.toNat)
    (hw' : w'.toInt = own_L (((pp + m) - pp) + (1 : Int64)).toInt.toNat) : w = w' := by
  obtain ⟨-, a⟩ := own_r hj0 hj1 ho
  obtain ⟨-, b⟩ := own_sm hj0 hj1 ho hm
  have s := c_lsub pp 1
  have rm := rng64 m
  have r1 := rng64 (pp - 1)
  have e2 : (2 : Int) ^ (j + 1) = 2 ^ j * 2 := Int.pow_succ ..
  have e : ((2 ^ (j + 1) : Nat) : Int) = 2 ^ (j + 1) := by norm_cast
  have e' : ((2 ^ j : Nat) : Int) = 2 ^ j := by norm_cast
  have r0 := rng64 pp
  simp only [Int64.reduceToInt, ← Int64.toInt_inj] at s hm ⊢
  rw [own_L_step (own_cast (j := j) (by omega)) (own_cast' (by omega) (by omega)) (by omega)] at hw
  rw [hw, hw', a, b]
  congr 2
  omega

theorem own_ni_ef (m : MethodId) (x0 : Int32) : entryFrame m #[(.int x0)] 2 = mkF m 0 #[.val (.int x0), .unset] [] := by first | (simp [entryFrame, mkF, argsToLocals, Value.category]; done) | rfl
def own_ni_Q (Z : State) (i : Int32) (h0 : Heap) (n0 : Nat) (rv : Option Value) (hN : Heap) (LL : List Loc) : Prop := ∃ (z : Int32), rv = some (.int z) ∧ Fr n0 LL ∧ hN = h0 ∧ (∃ j : Nat, j ≤ 31 ∧ z.toInt = 31 - j ∧ 2 ^ j ≤ i.toInt % 4294967296 ∧ i.toInt % 4294967296 < 2 ^ (j + 1))
set_option maxRecDepth 65536 in
set_option maxHeartbeats 40000000 in
theorem own_ni (l : Launch) (Z : State) (a0 : Array Value) (hw : ∀ d ∈ tables_1, d.before a0 Z = true) (ws : List Jvm.Cond) (i : Int32) (h0 : Heap) (n0 : Nat) (Z0 : n0 ≤ h0.size) (hi : ¬ i = 0) :
    MetFree l (⟨"java/lang/Integer", "numberOfLeadingZeros", "(I)I"⟩ : MethodName) (head1 (Jvm.Cond.code (⟨"java/lang/Integer", "numberOfLeadingZeros", "(I)I"⟩ : MethodName) jdk_33_method_47_code 2 (some .int) :: ws) ({ frames := 0, cells := 0, slots := 0, locals := 0 } : Room)) (fun aa UU => aa = #[(.int i)] ∧ Z.Warmed39 UU.vm ∧ UU.heap = h0) (fun _ _ _ _ _ => True) (fun _ UU oo UU' => ∃ rv LL, oo = .returned rv ∧ own_ni_Q Z i h0 n0 rv UU'.heap LL ∧ FrameEnd UU oo UU' LL ({ frames := 0, cells := 0, slots := 0, locals := 0 } : Room).cells ({ frames := 0, cells := 0, slots := 0, locals := 0 } : Room).slots) := by
  refine MetFree.of_bodySF (plainFor_of_name own_pn0) hisR ?_
  intro p e s m args below meth c s₁ Bd hml0 hP hK
  obtain ⟨rfl, hZ, hh⟩ := hP
  have hx := Bd.exec
  have hby := Bd.bytes
  have hml : c.maxLocals = 2 := hml0
  have hown : s.vm.findClass "java/lang/Integer" = some m.cls := findClass_of_methodNamed Bd.named
  have hnm := (name_of_methodNamed Bd.named Bd.method).1
  have X0 : Stand p l e ({ frames := 0, cells := 0, slots := 0, locals := 0 } : Room) s m #[(.int i)] below meth c s₁ [] 0 0 := Stand.of_body Bd
  have e0 : s₁.heap = h0 := by rw [← hh, Bd.state]; rfl
  have N0 := Fr.nil n0
  have K0 : Keep h0 h0 [] := Keep.refl h0 _
  refine (?_ : OwnGo p.tables e below (fun UU' oo => ∃ rv LL, oo = .returned rv ∧ own_ni_Q Z i h0 n0 rv UU'.heap LL ∧ FrameEnd s oo UU' LL ({ frames := 0, cells := 0, slots := 0, locals := 0 } : Room).cells ({ frames := 0, cells := 0, slots := 0, locals := 0 } : Room).slots) _)
  refine OwnGo.back (s₁.setTop (mkF m 0 #[.val (.int i), .unset] [])) (fun tg kk => castTop (own_ni_ef m i) kk) ?_
  refine OwnGo.back (s₁.setTop (mkF m 1 #[.val (.int i), .unset] [(.int i)])) (fun tg kk => XS.iloadN X0.here hx rfl (hb hby own_d3_0) rfl kk) ?_
  by_cases hc1 : (0 : Int32) < i
  ·
    refine OwnGo.back (s₁.setTop (mkF m 15 #[.val (.int i), .unset] [])) (fun tg kk => XS.ifYes X0.here hx rfl (pc0 := 1) (pc' := 15) rfl (hb hby own_d3_1) rfl ((if0 _ _).trans (tlt hc1).2.2.1) (by decide) (by decide) kk) ?_
    refine OwnGo.back (s₁.setTop (mkF m 17 #[.val (.int i), .unset] [(.int (31 : Int32))])) (fun tg kk => XS.bipush X0.here hx rfl (hb hby own_d3_15) kk) ?_
    refine OwnGo.back (s₁.setTop (mkF m 18 #[.val (.int i), .val (.int (31 : Int32))] [])) (fun tg kk => XS.istoreN X0.here hx rfl (hb hby own_d3_17) rfl (l' := #[.val (.int i), .val (.int (31 : Int32))]) rfl kk) ?_
    refine OwnGo.back (s₁.setTop (mkF m 19 #[.val (.int i), .val (.int (31 : Int32))] [(.int i)])) (fun tg kk => XS.iloadN X0.here hx rfl (hb hby own_d3_18) rfl kk) ?_
    refine OwnGo.back (s₁.setTop (mkF m 22 #[.val (.int i), .val (.int (31 : Int32))] [(.int (65536 : Int32)), (.int i)])) (fun tg kk => Jvm.Stand.ldcWI X0 hx hown (mvT hZ (hw _ (List.mem_of_getElem? (i := 12) rfl))) rfl (hb hby own_d3_19) kk) ?_
    by_cases hc2 : i < (65536 : Int32)
    ·
      refine OwnGo.back (s₁.setTop (mkF m 33 #[.val (.int i), .val (.int (31 : Int32))] [])) (fun tg kk => XS.icmpYes X0.here hx rfl (pc0 := 22) (pc' := 33) rfl (hb hby own_d3_22) rfl (tlt hc2).1 (by decide) (by decide) kk) ?_
      refine OwnGo.back (s₁.setTop (mkF m 34 #[.val (.int i), .val (.int (31 : Int32))] [(.int i)])) (fun tg kk => XS.iloadN X0.here hx rfl (hb hby own_d3_33) rfl kk) ?_
      refine OwnGo.back (s₁.setTop (mkF m 37 #[.val (.int i), .val (.int (31 : Int32))] [(.int (256 : Int32)), (.int i)])) (fun tg kk => XS.sipush X0.here hx rfl (hb hby own_d3_34) kk) ?_
      by_cases hc3 : i < (256 : Int32)
      ·
        refine OwnGo.back (s₁.setTop (mkF m 48 #[.val (.int i), .val (.int (31 : Int32))] [])) (fun tg kk => XS.icmpYes X0.here hx rfl (pc0 := 37) (pc' := 48) rfl (hb hby own_d3_37) rfl (tlt hc3).1 (by decide) (by decide) kk) ?_
        refine OwnGo.back (s₁.setTop (mkF m 49 #[.val (.int i), .val (.int (31 : Int32))] [(.int i)])) (fun tg kk => XS.iloadN X0.here hx rfl (hb hby own_d3_48) rfl kk) ?_
        refine OwnGo.back (s₁.setTop (mkF m 51 #[.val (.int i), .val (.int (31 : Int32))] [(.int (16 : Int32)), (.int i)])) (fun tg kk => XS.bipush X0.here hx rfl (hb hby own_d3_49) kk) ?_
        by_cases hc4 : i < (16 : Int32)
        ·
          refine OwnGo.back (s₁.setTop (mkF m 61 #[.val (.int i), .val (.int (31 : Int32))] [])) (fun tg kk => XS.icmpYes X0.here hx rfl (pc0 := 51) (pc' := 61) rfl (hb hby own_d3_51) rfl (tlt hc4).1 (by decide) (by decide) kk) ?_
          refine OwnGo.back (s₁.setTop (mkF m 62 #[.val (.int i), .val (.int (31 : Int32))] [(.int i)])) (fun tg kk => XS.iloadN X0.here hx rfl (hb hby own_d3_61) rfl kk) ?_
          refine OwnGo.back (s₁.setTop (mkF m 63 #[.val (.int i), .val (.int (31 : Int32))] [(.int (4 : Int32)), (.int i)])) (fun tg kk => XS.iconst X0.here hx rfl (hb hby own_d3_62) kk) ?_
          by_cases hc5 : i < (4 : Int32)
          ·
            refine OwnGo.back (s₁.setTop (mkF m 73 #[.val (.int i), .val (.int (31 : Int32))] [])) (fun tg kk => XS.icmpYes X0.here hx rfl (pc0 := 63) (pc' := 73) rfl (hb hby own_d3_63) rfl (tlt hc5).1 (by decide) (by decide) kk) ?_
            refine OwnGo.back (s₁.setTop (mkF m 74 #[.val (.int i), .val (.int (31 : Int32))] [(.int (31 : Int32))])) (fun tg kk => XS.iloadN X0.here hx rfl (hb hby own_d3_73) rfl kk) ?_
            refine OwnGo.back (s₁.setTop (mkF m 75 #[.val (.int i), .val (.int (31 : Int32))] [(.int i), (.int (31 : Int32))])) (fun tg kk => XS.iloadN X0.here hx rfl (hb hby own_d3_74) rfl kk) ?_
            refine OwnGo.back (s₁.setTop (mkF m 76 #[.val (.int i), .val (.int (31 : Int32))] [(.int (1 : Int32)), (.int i), (.int (31 : Int32))])) (fun tg kk => XS.iconst X0.here hx rfl (hb hby own_d3_75) kk) ?_
            refine OwnGo.back (s₁.setTop (mkF m 77 #[.val (.int i), .val (.int (31 : Int32))] [(.int ((i.toUInt32 >>> ((1 : Int32) &&& 31).toUInt32).toInt32)), (.int (31 : Int32))])) (fun tg kk => XS.iushr X0.here hx rfl (hb hby own_d3_76) rfl kk) ?_
            refine OwnGo.back (s₁.setTop (mkF m 78 #[.val (.int i), .val (.int (31 : Int32))] [(.int ((31 : Int32) - ((i.toUInt32 >>> ((1 : Int32) &&& 31).toUInt32).toInt32)))])) (fun tg kk => XS.isub X0.here hx rfl (hb hby own_d3_77) rfl kk) ?_
            obtain ⟨fs, hr, hrun, hended, hW, hsame⟩ := X0.leave (v := some (.int ((31 : Int32) - ((i.toUInt32 >>> ((1 : Int32) &&& 31).toUInt32).toInt32)))) (fun h => by rw [Bd.returns] at h; cases h)
            refine ⟨_, _, ?_, hrun, hended, _, _, rfl, ?_, ⟨_, rfl⟩, hW, hsame.mono (by decide) (by decide)⟩
            · exact own_retI X0 hx Bd.returns (hb hby own_d3_78) hr
            · show own_ni_Q Z i h0 n0 _ s₁.heap _
              rw [e0]
              exact ⟨((31 : Int32) - ((i.toUInt32 >>> ((1 : Int32) &&& 31).toUInt32).toInt32)), rfl, N0, rfl, (by have b : ((i.toUInt32 >>> ((1 : Int32) &&& 31).toUInt32).toInt32).toInt = i.toInt % 4294967296 / 2 := c_iushr _ _ 1 (by decide) (by decide); have s := c_isub (31 : Int32) ((i.toUInt32 >>> ((1 : Int32) &&& 31).toUInt32).toInt32); have r := rng32 ((31 : Int32) - ((i.toUInt32 >>> ((1 : Int32) &&& 31).toUInt32).toInt32)); have ri := rng32 i; simp only [true_and, and_true, false_and, and_false, or_false, false_or, or_true, true_or, not_true_eq_false, not_false_eq_true, eq_self, Int32.lt_iff_toInt_lt, Int32.le_iff_toInt_le, ← Int32.toInt_inj, Int32.reduceToInt, Int64.lt_iff_toInt_lt, Int64.le_iff_toInt_le, ← Int64.toInt_inj, Int64.reduceToInt] at hc1 hc2 hc3 hc4 hc5 hi s; rcases Decidable.em (i.toInt < 2) with hq | hq; exact ⟨0, by decide, by omega, by omega, by omega⟩; exact ⟨1, by decide, by omega, by omega, by omega⟩)⟩
          ·
            refine OwnGo.back (s₁.setTop (mkF m 66 #[.val (.int i), .val (.int (31 : Int32))] [])) (fun tg kk => XS.icmpNo X0.here hx rfl (hb hby own_d3_63) rfl (flt hc5).1 kk) ?_
            refine OwnGo.back (s₁.setTop (mkF m 69 #[.val (.int i), .val (.int (29 : Int32))] [])) (fun tg kk => XS.iinc X0.here hx rfl (hb hby own_d3_66) rfl (l' := #[.val (.int i), .val (.int (29 : Int32))]) rfl kk) ?_
            refine OwnGo.back (s₁.setTop (mkF m 70 #[.val (.int i), .val (.int (29 : Int32))] [(.int i)])) (fun tg kk => XS.iloadN X0.here hx rfl (hb hby own_d3_69) rfl kk) ?_
            refine OwnGo.back (s₁.setTop (mkF m 71 #[.val (.int i), .val (.int (29 : Int32))] [(.int (2 : Int32)), (.int i)])) (fun tg kk => XS.iconst X0.here hx rfl (hb hby own_d3_70) kk) ?_
            refine OwnGo.back (s₁.setTop (mkF m 72 #[.val (.int i), .val (.int (29 : Int32))] [(.int ((i.toUInt32 >>> ((2 : Int32) &&& 31).toUInt32).toInt32))])) (fun tg kk => XS.iushr X0.here hx rfl (hb hby own_d3_71) rfl kk) ?_
            refine OwnGo.back (s₁.setTop (mkF m 73 #[.val (.int ((i.toUInt32 >>> ((2 : Int32) &&& 31).toUInt32).toInt32)), .val (.int (29 : Int32))] [])) (fun tg kk => XS.istoreN X0.here hx rfl (hb hby own_d3_72) rfl (l' := #[.val (.int ((i.toUInt32 >>> ((2 : Int32) &&& 31).toUInt32).toInt32)), .val (.int (29 : Int32))]) rfl kk) ?_
            refine OwnGo.back (s₁.setTop (mkF m 74 #[.val (.int ((i.toUInt32 >>> ((2 : Int32) &&& 31).toUInt32).toInt32)), .val (.int (29 : Int32))] [(.int (29 : Int32))])) (fun tg kk => XS.iloadN X0.here hx rfl (hb hby own_d3_73) rfl kk) ?_
            refine OwnGo.back (s₁.setTop (mkF m 75 #[.val (.int ((i.toUInt32 >>> ((2 : Int32) &&& 31).toUInt32).toInt32)), .val (.int (29 : Int32))] [(.int ((i.toUInt32 >>> ((2 : Int32) &&& 31).toUInt32).toInt32)), (.int (29 : Int32))])) (fun tg kk => XS.iloadN X0.here hx rfl (hb hby own_d3_74) rfl kk) ?_
            refine OwnGo.back (s₁.setTop (mkF m 76 #[.val (.int ((i.toUInt32 >>> ((2 : Int32) &&& 31).toUInt32).toInt32)), .val (.int (29 : Int32))] [(.int (1 : Int32)), (.int ((i.toUInt32 >>> ((2 : Int32) &&& 31).toUInt32).toInt32)), (.int (29 : Int32))])) (fun tg kk => XS.iconst X0.here hx rfl (hb hby own_d3_75) kk) ?_
            refine OwnGo.back (s₁.setTop (mkF m 77 #[.val (.int ((i.toUInt32 >>> ((2 : Int32) &&& 31).toUInt32).toInt32)), .val (.int (29 : Int32))] [(.int ((((i.toUInt32 >>> ((2 : Int32) &&& 31).toUInt32).toInt32).toUInt32 >>> ((1 : Int32) &&& 31).toUInt32).toInt32)), (.int (29 : Int32))])) (fun tg kk => XS.iushr X0.here hx rfl (hb hby own_d3_76) rfl kk) ?_
            refine OwnGo.back (s₁.setTop (mkF m 78 #[.val (.int ((i.toUInt32 >>> ((2 : Int32) &&& 31).toUInt32).toInt32)), .val (.int (29 : Int32))] [(.int ((29 : Int32) - ((((i.toUInt32 >>> ((2 : Int32) &&& 31).toUInt32).toInt32).toUInt32 >>> ((1 : Int32) &&& 31).toUInt32).toInt32)))])) (fun tg kk => XS.isub X0.here hx rfl (hb hby own_d3_77) rfl kk) ?_
            obtain ⟨fs, hr, hrun, hended, hW, hsame⟩ := X0.leave (v := some (.int ((29 : Int32) - ((((i.toUInt32 >>> ((2 : Int32) &&& 31).toUInt32).toInt32).toUInt32 >>> ((1 : Int32) &&& 31).toUInt32).toInt32)))) (fun h => by rw [Bd.returns] at h; cases h)
            refine ⟨_, _, ?_, hrun, hended, _, _, rfl, ?_, ⟨_, rfl⟩, hW, hsame.mono (by decide) (by decide)⟩
            · exact own_retI X0 hx Bd.returns (hb hby own_d3_78) hr
            · show own_ni_Q Z i h0 n0 _ s₁.heap _
              rw [e0]
              exact ⟨((29 : Int32) - ((((i.toUInt32 >>> ((2 : Int32) &&& 31).toUInt32).toInt32).toUInt32 >>> ((1 : Int32) &&& 31).toUInt32).toInt32)), rfl, N0, rfl, (by have a0 : ((i.toUInt32 >>> ((2 : Int32) &&& 31).toUInt32).toInt32).toInt = i.toInt % 4294967296 / 4 := c_iushr _ _ 2 (by decide) (by decide); have b : ((((i.toUInt32 >>> ((2 : Int32) &&& 31).toUInt32).toInt32).toUInt32 >>> ((1 : Int32) &&& 31).toUInt32).toInt32).toInt = ((i.toUInt32 >>> ((2 : Int32) &&& 31).toUInt32).toInt32).toInt % 4294967296 / 2 := c_iushr _ _ 1 (by decide) (by decide); have s := c_isub (29 : Int32) ((((i.toUInt32 >>> ((2 : Int32) &&& 31).toUInt32).toInt32).toUInt32 >>> ((1 : Int32) &&& 31).toUInt32).toInt32); have r := rng32 ((29 : Int32) - ((((i.toUInt32 >>> ((2 : Int32) &&& 31).toUInt32).toInt32).toUInt32 >>> ((1 : Int32) &&& 31).toUInt32).toInt32)); have ri := rng32 i; simp only [true_and, and_true, false_and, and_false, or_false, false_or, or_true, true_or, not_true_eq_false, not_false_eq_true, eq_self, Int32.lt_iff_toInt_lt, Int32.le_iff_toInt_le, ← Int32.toInt_inj, Int32.reduceToInt, Int64.lt_iff_toInt_lt, Int64.le_iff_toInt_le, ← Int64.toInt_inj, Int64.reduceToInt] at hc1 hc2 hc3 hc4 hc5 hi s; rcases Decidable.em (((i.toUInt32 >>> ((2 : Int32) &&& 31).toUInt32).toInt32).toInt < 2) with hq | hq; exact ⟨2, by decide, by omega, by omega, by omega⟩; exact ⟨3, by decide, by omega, by omega, by omega⟩)⟩
        ·
          refine OwnGo.back (s₁.setTop (mkF m 54 #[.val (.int i), .val (.int (31 : Int32))] [])) (fun tg kk => XS.icmpNo X0.here hx rfl (hb hby own_d3_51) rfl (flt hc4).1 kk) ?_
          refine OwnGo.back (s₁.setTop (mkF m 57 #[.val (.int i), .val (.int (27 : Int32))] [])) (fun tg kk => XS.iinc X0.here hx rfl (hb hby own_d3_54) rfl (l' := #[.val (.int i), .val (.int (27 : Int32))]) rfl kk) ?_
          refine OwnGo.back (s₁.setTop (mkF m 58 #[.val (.int i), .val (.int (27 : Int32))] [(.int i)])) (fun tg kk => XS.iloadN X0.here hx rfl (hb hby own_d3_57) rfl kk) ?_
          refine OwnGo.back (s₁.setTop (mkF m 59 #[.val (.int i), .val (.int (27 : Int32))] [(.int (4 : Int32)), (.int i)])) (fun tg kk => XS.iconst X0.here hx rfl (hb hby own_d3_58) kk) ?_
          refine OwnGo.back (s₁.setTop (mkF m 60 #[.val (.int i), .val (.int (27 : Int32))] [(.int ((i.toUInt32 >>> ((4 : Int32) &&& 31).toUInt32).toInt32))])) (fun tg kk => XS.iushr X0.here hx rfl (hb hby own_d3_59) rfl kk) ?_
          refine OwnGo.back (s₁.setTop (mkF m 61 #[.val (.int ((i.toUInt32 >>> ((4 : Int32) &&& 31).toUInt32).toInt32)), .val (.int (27 : Int32))] [])) (fun tg kk => XS.istoreN X0.here hx rfl (hb hby own_d3_60) rfl (l' := #[.val (.int ((i.toUInt32 >>> ((4 : Int32) &&& 31).toUInt32).toInt32)), .val (.int (27 : Int32))]) rfl kk) ?_
          refine OwnGo.back (s₁.setTop (mkF m 62 #[.val (.int ((i.toUInt32 >>> ((4 : Int32) &&& 31).toUInt32).toInt32)), .val (.int (27 : Int32))] [(.int ((i.toUInt32 >>> ((4 : Int32) &&& 31).toUInt32).toInt32))])) (fun tg kk => XS.iloadN X0.here hx rfl (hb hby own_d3_61) rfl kk) ?_
          refine OwnGo.back (s₁.setTop (mkF m 63 #[.val (.int ((i.toUInt32 >>> ((4 : Int32) &&& 31).toUInt32).toInt32)), .val (.int (27 : Int32))] [(.int (4 : Int32)), (.int ((i.toUInt32 >>> ((4 : Int32) &&& 31).toUInt32).toInt32))])) (fun tg kk => XS.iconst X0.here hx rfl (hb hby own_d3_62) kk) ?_
          by_cases hc6 : ((i.toUInt32 >>> ((4 : Int32) &&& 31).toUInt32).toInt32) < (4 : Int32)
          ·
            refine OwnGo.back (s₁.setTop (mkF m 73 #[.val (.int ((i.toUInt32 >>> ((4 : Int32) &&& 31).toUInt32).toInt32)), .val (.int (27 : Int32))] [])) (fun tg kk => XS.icmpYes X0.here hx rfl (pc0 := 63) (pc' := 73) rfl (hb hby own_d3_63) rfl (tlt hc6).1 (by decide) (by decide) kk) ?_
            refine OwnGo.back (s₁.setTop (mkF m 74 #[.val (.int ((i.toUInt32 >>> ((4 : Int32) &&& 31).toUInt32).toInt32)), .val (.int (27 : Int32))] [(.int (27 : Int32))])) (fun tg kk => XS.iloadN X0.here hx rfl (hb hby own_d3_73) rfl kk) ?_
            refine OwnGo.back (s₁.setTop (mkF m 75 #[.val (.int ((i.toUInt32 >>> ((4 : Int32) &&& 31).toUInt32).toInt32)), .val (.int (27 : Int32))] [(.int ((i.toUInt32 >>> ((4 : Int32) &&& 31).toUInt32).toInt32)), (.int (27 : Int32))])) (fun tg kk => XS.iloadN X0.here hx rfl (hb hby own_d3_74) rfl kk) ?_
            refine OwnGo.back (s₁.setTop (mkF m 76 #[.val (.int ((i.toUInt32 >>> ((4 : Int32) &&& 31).toUInt32).toInt32)), .val (.int (27 : Int32))] [(.int (1 : Int32)), (.int ((i.toUInt32 >>> ((4 : Int32) &&& 31).toUInt32).toInt32)), (.int (27 : Int32))])) (fun tg kk => XS.iconst X0.here hx rfl (hb hby own_d3_75) kk) ?_
            refine OwnGo.back (s₁.setTop (mkF m 77 #[.val (.int ((i.toUInt32 >>> ((4 : Int32) &&& 31).toUInt32).toInt32)), .val (.int (27 : Int32))] [(.int ((((i.toUInt32 >>> ((4 : Int32) &&& 31).toUInt32).toInt32).toUInt32 >>> ((1 : Int32) &&& 31).toUInt32).toInt32)), (.int (27 : Int32))])) (fun tg kk => XS.iushr X0.here hx rfl (hb hby own_d3_76) rfl kk) ?_
            refine OwnGo.back (s₁.setTop (mkF m 78 #[.val (.int ((i.toUInt32 >>> ((4 : Int32) &&& 31).toUInt32).toInt32)), .val (.int (27 : Int32))] [(.int ((27 : Int32) - ((((i.toUInt32 >>> ((4 : Int32) &&& 31).toUInt32).toInt32).toUInt32 >>> ((1 : Int32) &&& 31).toUInt32).toInt32)))])) (fun tg kk => XS.isub X0.here hx rfl (hb hby own_d3_77) rfl kk) ?_
            obtain ⟨fs, hr, hrun, hended, hW, hsame⟩ := X0.leave (v := some (.int ((27 : Int32) - ((((i.toUInt32 >>> ((4 : Int32) &&& 31).toUInt32).toInt32).toUInt32 >>> ((1 : Int32) &&& 31).toUInt32).toInt32)))) (fun h => by rw [Bd.returns] at h; cases h)
            refine ⟨_, _, ?_, hrun, hended, _, _, rfl, ?_, ⟨_, rfl⟩, hW, hsame.mono (by decide) (by decide)⟩
            · exact own_retI X0 hx Bd.returns (hb hby own_d3_78) hr
            · show own_ni_Q Z i h0 n0 _ s₁.heap _
              rw [e0]
              exact ⟨((27 : Int32) - ((((i.toUInt32 >>> ((4 : Int32) &&& 31).toUInt32).toInt32).toUInt32 >>> ((1 : Int32) &&& 31).toUInt32).toInt32)), rfl, N0, rfl, (by have a0 : ((i.toUInt32 >>> ((4 : Int32) &&& 31).toUInt32).toInt32).toInt = i.toInt % 4294967296 / 16 := c_iushr _ _ 4 (by decide) (by decide); have b : ((((i.toUInt32 >>> ((4 : Int32) &&& 31).toUInt32).toInt32).toUInt32 >>> ((1 : Int32) &&& 31).toUInt32).toInt32).toInt = ((i.toUInt32 >>> ((4 : Int32) &&& 31).toUInt32).toInt32).toInt % 4294967296 / 2 := c_iushr _ _ 1 (by decide) (by decide); have s := c_isub (27 : Int32) ((((i.toUInt32 >>> ((4 : Int32) &&& 31).toUInt32).toInt32).toUInt32 >>> ((1 : Int32) &&& 31).toUInt32).toInt32); have r := rng32 ((27 : Int32) - ((((i.toUInt32 >>> ((4 : Int32) &&& 31).toUInt32).toInt32).toUInt32 >>> ((1 : Int32) &&& 31).toUInt32).toInt32)); have ri := rng32 i; simp only [true_and, and_true, false_and, and_false, or_false, false_or, or_true, true_or, not_true_eq_false, not_false_eq_true, eq_self, Int32.lt_iff_toInt_lt, Int32.le_iff_toInt_le, ← Int32.toInt_inj, Int32.reduceToInt, Int64.lt_iff_toInt_lt, Int64.le_iff_toInt_le, ← Int64.toInt_inj, Int64.reduceToInt] at hc1 hc2 hc3 hc4 hc6 hi s; rcases Decidable.em (((i.toUInt32 >>> ((4 : Int32) &&& 31).toUInt32).toInt32).toInt < 2) with hq | hq; exact ⟨4, by decide, by omega, by omega, by omega⟩; exact ⟨5, by decide, by omega, by omega, by omega⟩)⟩
          ·
            refine OwnGo.back (s₁.setTop (mkF m 66 #[.val (.int ((i.toUInt32 >>> ((4 : Int32) &&& 31).toUInt32).toInt32)), .val (.int (27 : Int32))] [])) (fun tg kk => XS.icmpNo X0.here hx rfl (hb hby own_d3_63) rfl (flt hc6).1 kk) ?_
            refine OwnGo.back (s₁.setTop (mkF m 69 #[.val (.int ((i.toUInt32 >>> ((4 : Int32) &&& 31).toUInt32).toInt32)), .val (.int (25 : Int32))] [])) (fun tg kk => XS.iinc X0.here hx rfl (hb hby own_d3_66) rfl (l' := #[.val (.int ((i.toUInt32 >>> ((4 : Int32) &&& 31).toUInt32).toInt32)), .val (.int (25 : Int32))]) rfl kk) ?_
            refine OwnGo.back (s₁.setTop (mkF m 70 #[.val (.int ((i.toUInt32 >>> ((4 : Int32) &&& 31).toUInt32).toInt32)), .val (.int (25 : Int32))] [(.int ((i.toUInt32 >>> ((4 : Int32) &&& 31).toUInt32).toInt32))])) (fun tg kk => XS.iloadN X0.here hx rfl (hb hby own_d3_69) rfl kk) ?_
            refine OwnGo.back (s₁.setTop (mkF m 71 #[.val (.int ((i.toUInt32 >>> ((4 : Int32) &&& 31).toUInt32).toInt32)), .val (.int (25 : Int32))] [(.int (2 : Int32)), (.int ((i.toUInt32 >>> ((4 : Int32) &&& 31).toUInt32).toInt32))])) (fun tg kk => XS.iconst X0.here hx rfl (hb hby own_d3_70) kk) ?_
            refine OwnGo.back (s₁.setTop (mkF m 72 #[.val (.int ((i.toUInt32 >>> ((4 : Int32) &&& 31).toUInt32).toInt32)), .val (.int (25 : Int32))] [(.int ((((i.toUInt32 >>> ((4 : Int32) &&& 31).toUInt32).toInt32).toUInt32 >>> ((2 : Int32) &&& 31).toUInt32).toInt32))])) (fun tg kk => XS.iushr X0.here hx rfl (hb hby own_d3_71) rfl kk) ?_
            refine OwnGo.back (s₁.setTop (mkF m 73 #[.val (.int ((((i.toUInt32 >>> ((4 : Int32) &&& 31).toUInt32).toInt32).toUInt32 >>> ((2 : Int32) &&& 31).toUInt32).toInt32)), .val (.int (25 : Int32))] [])) (fun tg kk => XS.istoreN X0.here hx rfl (hb hby own_d3_72) rfl (l' := #[.val (.int ((((i.toUInt32 >>> ((4 : Int32) &&& 31).toUInt32).toInt32).toUInt32 >>> ((2 : Int32) &&& 31).toUInt32).toInt32)), .val (.int (25 : Int32))]) rfl kk) ?_
            refine OwnGo.back (s₁.setTop (mkF m 74 #[.val (.int ((((i.toUInt32 >>> ((4 : Int32) &&& 31).toUInt32).toInt32).toUInt32 >>> ((2 : Int32) &&& 31).toUInt32).toInt32)), .val (.int (25 : Int32))] [(.int (25 : Int32))])) (fun tg kk => XS.iloadN X0.here hx rfl (hb hby own_d3_73) rfl kk) ?_
            refine OwnGo.back (s₁.setTop (mkF m 75 #[.val (.int ((((i.toUInt32 >>> ((4 : Int32) &&& 31).toUInt32).toInt32).toUInt32 >>> ((2 : Int32) &&& 31).toUInt32).toInt32)), .val (.int (25 : Int32))] [(.int ((((i.toUInt32 >>> ((4 : Int32) &&& 31).toUInt32).toInt32).toUInt32 >>> ((2 : Int32) &&& 31).toUInt32).toInt32)), (.int (25 : Int32))])) (fun tg kk => XS.iloadN X0.here hx rfl (hb hby own_d3_74) rfl kk) ?_
            refine OwnGo.back (s₁.setTop (mkF m 76 #[.val (.int ((((i.toUInt32 >>> ((4 : Int32) &&& 31).toUInt32).toInt32).toUInt32 >>> ((2 : Int32) &&& 31).toUInt32).toInt32)), .val (.int (25 : Int32))] [(.int (1 : Int32)), (.int ((((i.toUInt32 >>> ((4 : Int32) &&& 31).toUInt32).toInt32).toUInt32 >>> ((2 : Int32) &&& 31).toUInt32).toInt32)), (.int (25 : Int32))])) (fun tg kk => XS.iconst X0.here hx rfl (hb hby own_d3_75) kk) ?_
            refine OwnGo.back (s₁.setTop (mkF m 77 #[.val (.int ((((i.toUInt32 >>> ((4 : Int32) &&& 31).toUInt32).toInt32).toUInt32 >>> ((2 : Int32) &&& 31).toUInt32).toInt32)), .val (.int (25 : Int32))] [(.int ((((((i.toUInt32 >>> ((4 : Int32) &&& 31).toUInt32).toInt32).toUInt32 >>> ((2 : Int32) &&& 31).toUInt32).toInt32).toUInt32 >>> ((1 : Int32) &&& 31).toUInt32).toInt32)), (.int (25 : Int32))])) (fun tg kk => XS.iushr X0.here hx rfl (hb hby own_d3_76) rfl kk) ?_
            refine OwnGo.back (s₁.setTop (mkF m 78 #[.val (.int ((((i.toUInt32 >>> ((4 : Int32) &&& 31).toUInt32).toInt32).toUInt32 >>> ((2 : Int32) &&& 31).toUInt32).toInt32)), .val (.int (25 : Int32))] [(.int ((25 : Int32) - ((((((i.toUInt32 >>> ((4 : Int32) &&& 31).toUInt32).toInt32).toUInt32 >>> ((2 : Int32) &&& 31).toUInt32).toInt32).toUInt32 >>> ((1 : Int32) &&& 31).toUInt32).toInt32)))])) (fun tg kk => XS.isub X0.here hx rfl (hb hby own_d3_77) rfl kk) ?_
            obtain ⟨fs, hr, hrun, hended, hW, hsame⟩ := X0.leave (v := some (.int ((25 : Int32) - ((((((i.toUInt32 >>> ((4 : Int32) &&& 31).toUInt32).toInt32).toUInt32 >>> ((2 : Int32) &&& 31).toUInt32).toInt32).toUInt32 >>> ((1 : Int32) &&& 31).toUInt32).toInt32)))) (fun h => by rw [Bd.returns] at h; cases h)
            refine ⟨_, _, ?_, hrun, hended, _, _, rfl, ?_, ⟨_, rfl⟩, hW, hsame.mono (by decide) (by decide)⟩
            · exact own_retI X0 hx Bd.returns (hb hby own_d3_78) hr
            · show own_ni_Q Z i h0 n0 _ s₁.heap _
              rw [e0]
              exact ⟨((25 : Int32) - ((((((i.toUInt32 >>> ((4 : Int32) &&& 31).toUInt32).toInt32).toUInt32 >>> ((2 : Int32) &&& 31).toUInt32).toInt32).toUInt32 >>> ((1 : Int32) &&& 31).toUInt32).toInt32)), rfl, N0, rfl, (by have a0 : ((i.toUInt32 >>> ((4 : Int32) &&& 31).toUInt32).toInt32).toInt = i.toInt % 4294967296 / 16 := c_iushr _ _ 4 (by decide) (by decide); have a1 : ((((i.toUInt32 >>> ((4 : Int32) &&& 31).toUInt32).toInt32).toUInt32 >>> ((2 : Int32) &&& 31).toUInt32).toInt32).toInt = ((i.toUInt32 >>> ((4 : Int32) &&& 31).toUInt32).toInt32).toInt % 4294967296 / 4 := c_iushr _ _ 2 (by decide) (by decide); have b : ((((((i.toUInt32 >>> ((4 : Int32) &&& 31).toUInt32).toInt32).toUInt32 >>> ((2 : Int32) &&& 31).toUInt32).toInt32).toUInt32 >>> ((1 : Int32) &&& 31).toUInt32).toInt32).toInt = ((((i.toUInt32 >>> ((4 : Int32) &&& 31).toUInt32).toInt32).toUInt32 >>> ((2 : Int32) &&& 31).toUInt32).toInt32).toInt % 4294967296 / 2 := c_iushr _ _ 1 (by decide) (by decide); have s := c_isub (25 : Int32) ((((((i.toUInt32 >>> ((4 : Int32) &&& 31).toUInt32).toInt32).toUInt32 >>> ((2 : Int32) &&& 31).toUInt32).toInt32).toUInt32 >>> ((1 : Int32) &&& 31).toUInt32).toInt32); have r := rng32 ((25 : Int32) - ((((((i.toUInt32 >>> ((4 : Int32) &&& 31).toUInt32).toInt32).toUInt32 >>> ((2 : Int32) &&& 31).toUInt32).toInt32).toUInt32 >>> ((1 : Int32) &&& 31).toUInt32).toInt32)); have ri := rng32 i; simp only [true_and, and_true, false_and, and_false, or_false, false_or, or_true, true_or, not_true_eq_false, not_false_eq_true, eq_self, Int32.lt_iff_toInt_lt, Int32.le_iff_toInt_le, ← Int32.toInt_inj, Int32.reduceToInt, Int64.lt_iff_toInt_lt, Int64.le_iff_toInt_le, ← Int64.toInt_inj, Int64.reduceToInt] at hc1 hc2 hc3 hc4 hc6 hi s; rcases Decidable.em (((((i.toUInt32 >>> ((4 : Int32) &&& 31).toUInt32).toInt32).toUInt32 >>> ((2 : Int32) &&& 31).toUInt32).toInt32).toInt < 2) with hq | hq; exact ⟨6, by decide, by omega, by omega, by omega⟩; exact ⟨7, by decide, by omega, by omega, by omega⟩)⟩
      ·
        refine OwnGo.back (s₁.setTop (mkF m 40 #[.val (.int i), .val (.int (31 : Int32))] [])) (fun tg kk => XS.icmpNo X0.here hx rfl (hb hby own_d3_37) rfl (flt hc3).1 kk) ?_
        refine OwnGo.back (s₁.setTop (mkF m 43 #[.val (.int i), .val (.int (23 : Int32))] [])) (fun tg kk => XS.iinc X0.here hx rfl (hb hby own_d3_40) rfl (l' := #[.val (.int i), .val (.int (23 : Int32))]) rfl kk) ?_
        refine OwnGo.back (s₁.setTop (mkF m 44 #[.val (.int i), .val (.int (23 : Int32))] [(.int i)])) (fun tg kk => XS.iloadN X0.here hx rfl (hb hby own_d3_43) rfl kk) ?_
        refine OwnGo.back (s₁.setTop (mkF m 46 #[.val (.int i), .val (.int (23 : Int32))] [(.int (8 : Int32)), (.int i)])) (fun tg kk => XS.bipush X0.here hx rfl (hb hby own_d3_44) kk) ?_
        refine OwnGo.back (s₁.setTop (mkF m 47 #[.val (.int i), .val (.int (23 : Int32))] [(.int ((i.toUInt32 >>> ((8 : Int32) &&& 31).toUInt32).toInt32))])) (fun tg kk => XS.iushr X0.here hx rfl (hb hby own_d3_46) rfl kk) ?_
        refine OwnGo.back (s₁.setTop (mkF m 48 #[.val (.int ((i.toUInt32 >>> ((8 : Int32) &&& 31).toUInt32).toInt32)), .val (.int (23 : Int32))] [])) (fun tg kk => XS.istoreN X0.here hx rfl (hb hby own_d3_47) rfl (l' := #[.val (.int ((i.toUInt32 >>> ((8 : Int32) &&& 31).toUInt32).toInt32)), .val (.int (23 : Int32))]) rfl kk) ?_
        refine OwnGo.back (s₁.setTop (mkF m 49 #[.val (.int ((i.toUInt32 >>> ((8 : Int32) &&& 31).toUInt32).toInt32)), .val (.int (23 : Int32))] [(.int ((i.toUInt32 >>> ((8 : Int32) &&& 31).toUInt32).toInt32))])) (fun tg kk => XS.iloadN X0.here hx rfl (hb hby own_d3_48) rfl kk) ?_
        refine OwnGo.back (s₁.setTop (mkF m 51 #[.val (.int ((i.toUInt32 >>> ((8 : Int32) &&& 31).toUInt32).toInt32)), .val (.int (23 : Int32))] [(.int (16 : Int32)), (.int ((i.toUInt32 >>> ((8 : Int32) &&& 31).toUInt32).toInt32))])) (fun tg kk => XS.bipush X0.here hx rfl (hb hby own_d3_49) kk) ?_
        by_cases hc7 : ((i.toUInt32 >>> ((8 : Int32) &&& 31).toUInt32).toInt32) < (16 : Int32)
        ·
          refine OwnGo.back (s₁.setTop (mkF m 61 #[.val (.int ((i.toUInt32 >>> ((8 : Int32) &&& 31).toUInt32).toInt32)), .val (.int (23 : Int32))] [])) (fun tg kk => XS.icmpYes X0.here hx rfl (pc0 := 51) (pc' := 61) rfl (hb hby own_d3_51) rfl (tlt hc7).1 (by decide) (by decide) kk) ?_
          refine OwnGo.back (s₁.setTop (mkF m 62 #[.val (.int ((i.toUInt32 >>> ((8 : Int32) &&& 31).toUInt32).toInt32)), .val (.int (23 : Int32))] [(.int ((i.toUInt32 >>> ((8 : Int32) &&& 31).toUInt32).toInt32))])) (fun tg kk => XS.iloadN X0.here hx rfl (hb hby own_d3_61) rfl kk) ?_
          refine OwnGo.back (s₁.setTop (mkF m 63 #[.val (.int ((i.toUInt32 >>> ((8 : Int32) &&& 31).toUInt32).toInt32)), .val (.int (23 : Int32))] [(.int (4 : Int32)), (.int ((i.toUInt32 >>> ((8 : Int32) &&& 31).toUInt32).toInt32))])) (fun tg kk => XS.iconst X0.here hx rfl (hb hby own_d3_62) kk) ?_
          by_cases hc8 : ((i.toUInt32 >>> ((8 : Int32) &&& 31).toUInt32).toInt32) < (4 : Int32)
          ·
            refine OwnGo.back (s₁.setTop (mkF m 73 #[.val (.int ((i.toUInt32 >>> ((8 : Int32) &&& 31).toUInt32).toInt32)), .val (.int (23 : Int32))] [])) (fun tg kk => XS.icmpYes X0.here hx rfl (pc0 := 63) (pc' := 73) rfl (hb hby own_d3_63) rfl (tlt hc8).1 (by decide) (by decide) kk) ?_
            refine OwnGo.back (s₁.setTop (mkF m 74 #[.val (.int ((i.toUInt32 >>> ((8 : Int32) &&& 31).toUInt32).toInt32)), .val (.int (23 : Int32))] [(.int (23 : Int32))])) (fun tg kk => XS.iloadN X0.here hx rfl (hb hby own_d3_73) rfl kk) ?_
            refine OwnGo.back (s₁.setTop (mkF m 75 #[.val (.int ((i.toUInt32 >>> ((8 : Int32) &&& 31).toUInt32).toInt32)), .val (.int (23 : Int32))] [(.int ((i.toUInt32 >>> ((8 : Int32) &&& 31).toUInt32).toInt32)), (.int (23 : Int32))])) (fun tg kk => XS.iloadN X0.here hx rfl (hb hby own_d3_74) rfl kk) ?_
            refine OwnGo.back (s₁.setTop (mkF m 76 #[.val (.int ((i.toUInt32 >>> ((8 : Int32) &&& 31).toUInt32).toInt32)), .val (.int (23 : Int32))] [(.int (1 : Int32)), (.int ((i.toUInt32 >>> ((8 : Int32) &&& 31).toUInt32).toInt32)), (.int (23 : Int32))])) (fun tg kk => XS.iconst X0.here hx rfl (hb hby own_d3_75) kk) ?_
            refine OwnGo.back (s₁.setTop (mkF m 77 #[.val (.int ((i.toUInt32 >>> ((8 : Int32) &&& 31).toUInt32).toInt32)), .val (.int (23 : Int32))] [(.int ((((i.toUInt32 >>> ((8 : Int32) &&& 31).toUInt32).toInt32).toUInt32 >>> ((1 : Int32) &&& 31).toUInt32).toInt32)), (.int (23 : Int32))])) (fun tg kk => XS.iushr X0.here hx rfl (hb hby own_d3_76) rfl kk) ?_
            refine OwnGo.back (s₁.setTop (mkF m 78 #[.val (.int ((i.toUInt32 >>> ((8 : Int32) &&& 31).toUInt32).toInt32)), .val (.int (23 : Int32))] [(.int ((23 : Int32) - ((((i.toUInt32 >>> ((8 : Int32) &&& 31).toUInt32).toInt32).toUInt32 >>> ((1 : Int32) &&& 31).toUInt32).toInt32)))])) (fun tg kk => XS.isub X0.here hx rfl (hb hby own_d3_77) rfl kk) ?_
            obtain ⟨fs, hr, hrun, hended, hW, hsame⟩ := X0.leave (v := some (.int ((23 : Int32) - ((((i.toUInt32 >>> ((8 : Int32) &&& 31).toUInt32).toInt32).toUInt32 >>> ((1 : Int32) &&& 31).toUInt32).toInt32)))) (fun h => by rw [Bd.returns] at h; cases h)
            refine ⟨_, _, ?_, hrun, hended, _, _, rfl, ?_, ⟨_, rfl⟩, hW, hsame.mono (by decide) (by decide)⟩
            · exact own_retI X0 hx Bd.returns (hb hby own_d3_78) hr
            · show own_ni_Q Z i h0 n0 _ s₁.heap _
              rw [e0]
              exact ⟨((23 : Int32) - ((((i.toUInt32 >>> ((8 : Int32) &&& 31).toUInt32).toInt32).toUInt32 >>> ((1 : Int32) &&& 31).toUInt32).toInt32)), rfl, N0, rfl, (by have a0 : ((i.toUInt32 >>> ((8 : Int32) &&& 31).toUInt32).toInt32).toInt = i.toInt % 4294967296 / 256 := c_iushr _ _ 8 (by decide) (by decide); have b : ((((i.toUInt32 >>> ((8 : Int32) &&& 31).toUInt32).toInt32).toUInt32 >>> ((1 : Int32) &&& 31).toUInt32).toInt32).toInt = ((i.toUInt32 >>> ((8 : Int32) &&& 31).toUInt32).toInt32).toInt % 4294967296 / 2 := c_iushr _ _ 1 (by decide) (by decide); have s := c_isub (23 : Int32) ((((i.toUInt32 >>> ((8 : Int32) &&& 31).toUInt32).toInt32).toUInt32 >>> ((1 : Int32) &&& 31).toUInt32).toInt32); have r := rng32 ((23 : Int32) - ((((i.toUInt32 >>> ((8 : Int32) &&& 31).toUInt32).toInt32).toUInt32 >>> ((1 : Int32) &&& 31).toUInt32).toInt32)); have ri := rng32 i; simp only [true_and, and_true, false_and, and_false, or_false, false_or, or_true, true_or, not_true_eq_false, not_false_eq_true, eq_self, Int32.lt_iff_toInt_lt, Int32.le_iff_toInt_le, ← Int32.toInt_inj, Int32.reduceToInt, Int64.lt_iff_toInt_lt, Int64.le_iff_toInt_le, ← Int64.toInt_inj, Int64.reduceToInt] at hc1 hc2 hc3 hc7 hc8 hi s; rcases Decidable.em (((i.toUInt32 >>> ((8 : Int32) &&& 31).toUInt32).toInt32).toInt < 2) with hq | hq; exact ⟨8, by decide, by omega, by omega, by omega⟩; exact ⟨9, by decide, by omega, by omega, by omega⟩)⟩
          ·
            refine OwnGo.back (s₁.setTop (mkF m 66 #[.val (.int ((i.toUInt32 >>> ((8 : Int32) &&& 31).toUInt32).toInt32)), .val (.int (23 : Int32))] [])) (fun tg kk => XS.icmpNo X0.here hx rfl (hb hby own_d3_63) rfl (flt hc8).1 kk) ?_
            refine OwnGo.back (s₁.setTop (mkF m 69 #[.val (.int ((i.toUInt32 >>> ((8 : Int32) &&& 31).toUInt32).toInt32)), .val (.int (21 : Int32))] [])) (fun tg kk => XS.iinc X0.here hx rfl (hb hby own_d3_66) rfl (l' := #[.val (.int ((i.toUInt32 >>> ((8 : Int32) &&& 31).toUInt32).toInt32)), .val (.int (21 : Int32))]) rfl kk) ?_
            refine OwnGo.back (s₁.setTop (mkF m 70 #[.val (.int ((i.toUInt32 >>> ((8 : Int32) &&& 31).toUInt32).toInt32)), .val (.int (21 : Int32))] [(.int ((i.toUInt32 >>> ((8 : Int32) &&& 31).toUInt32).toInt32))])) (fun tg kk => XS.iloadN X0.here hx rfl (hb hby own_d3_69) rfl kk) ?_
            refine OwnGo.back (s₁.setTop (mkF m 71 #[.val (.int ((i.toUInt32 >>> ((8 : Int32) &&& 31).toUInt32).toInt32)), .val (.int (21 : Int32))] [(.int (2 : Int32)), (.int ((i.toUInt32 >>> ((8 : Int32) &&& 31).toUInt32).toInt32))])) (fun tg kk => XS.iconst X0.here hx rfl (hb hby own_d3_70) kk) ?_
            refine OwnGo.back (s₁.setTop (mkF m 72 #[.val (.int ((i.toUInt32 >>> ((8 : Int32) &&& 31).toUInt32).toInt32)), .val (.int (21 : Int32))] [(.int ((((i.toUInt32 >>> ((8 : Int32) &&& 31).toUInt32).toInt32).toUInt32 >>> ((2 : Int32) &&& 31).toUInt32).toInt32))])) (fun tg kk => XS.iushr X0.here hx rfl (hb hby own_d3_71) rfl kk) ?_
            refine OwnGo.back (s₁.setTop (mkF m 73 #[.val (.int ((((i.toUInt32 >>> ((8 : Int32) &&& 31).toUInt32).toInt32).toUInt32 >>> ((2 : Int32) &&& 31).toUInt32).toInt32)), .val (.int (21 : Int32))] [])) (fun tg kk => XS.istoreN X0.here hx rfl (hb hby own_d3_72) rfl (l' := #[.val (.int ((((i.toUInt32 >>> ((8 : Int32) &&& 31).toUInt32).toInt32).toUInt32 >>> ((2 : Int32) &&& 31).toUInt32).toInt32)), .val (.int (21 : Int32))]) rfl kk) ?_
            refine OwnGo.back (s₁.setTop (mkF m 74 #[.val (.int ((((i.toUInt32 >>> ((8 : Int32) &&& 31).toUInt32).toInt32).toUInt32 >>> ((2 : Int32) &&& 31).toUInt32).toInt32)), .val (.int (21 : Int32))] [(.int (21 : Int32))])) (fun tg kk => XS.iloadN X0.here hx rfl (hb hby own_d3_73) rfl kk) ?_
            refine OwnGo.back (s₁.setTop (mkF m 75 #[.val (.int ((((i.toUInt32 >>> ((8 : Int32) &&& 31).toUInt32).toInt32).toUInt32 >>> ((2 : Int32) &&& 31).toUInt32).toInt32)), .val (.int (21 : Int32))] [(.int ((((i.toUInt32 >>> ((8 : Int32) &&& 31).toUInt32).toInt32).toUInt32 >>> ((2 : Int32) &&& 31).toUInt32).toInt32)), (.int (21 : Int32))])) (fun tg kk => XS.iloadN X0.here hx rfl (hb hby own_d3_74) rfl kk) ?_
            refine OwnGo.back (s₁.setTop (mkF m 76 #[.val (.int ((((i.toUInt32 >>> ((8 : Int32) &&& 31).toUInt32).toInt32).toUInt32 >>> ((2 : Int32) &&& 31).toUInt32).toInt32)), .val (.int (21 : Int32))] [(.int (1 : Int32)), (.int ((((i.toUInt32 >>> ((8 : Int32) &&& 31).toUInt32).toInt32).toUInt32 >>> ((2 : Int32) &&& 31).toUInt32).toInt32)), (.int (21 : Int32))])) (fun tg kk => XS.iconst X0.here hx rfl (hb hby own_d3_75) kk) ?_
            refine OwnGo.back (s₁.setTop (mkF m 77 #[.val (.int ((((i.toUInt32 >>> ((8 : Int32) &&& 31).toUInt32).toInt32).toUInt32 >>> ((2 : Int32) &&& 31).toUInt32).toInt32)), .val (.int (21 : Int32))] [(.int ((((((i.toUInt32 >>> ((8 : Int32) &&& 31).toUInt32).toInt32).toUInt32 >>> ((2 : Int32) &&& 31).toUInt32).toInt32).toUInt32 >>> ((1 : Int32) &&& 31).toUInt32).toInt32)), (.int (21 : Int32))])) (fun tg kk => XS.iushr X0.here hx rfl (hb hby own_d3_76) rfl kk) ?_
            refine OwnGo.back (s₁.setTop (mkF m 78 #[.val (.int ((((i.toUInt32 >>> ((8 : Int32) &&& 31).toUInt32).toInt32).toUInt32 >>> ((2 : Int32) &&& 31).toUInt32).toInt32)), .val (.int (21 : Int32))] [(.int ((21 : Int32) - ((((((i.toUInt32 >>> ((8 : Int32) &&& 31).toUInt32).toInt32).toUInt32 >>> ((2 : Int32) &&& 31).toUInt32).toInt32).toUInt32 >>> ((1 : Int32) &&& 31).toUInt32).toInt32)))])) (fun tg kk => XS.isub X0.here hx rfl (hb hby own_d3_77) rfl kk) ?_
            obtain ⟨fs, hr, hrun, hended, hW, hsame⟩ := X0.leave (v := some (.int ((21 : Int32) - ((((((i.toUInt32 >>> ((8 : Int32) &&& 31).toUInt32).toInt32).toUInt32 >>> ((2 : Int32) &&& 31).toUInt32).toInt32).toUInt32 >>> ((1 : Int32) &&& 31).toUInt32).toInt32)))) (fun h => by rw [Bd.returns] at h; cases h)
            refine ⟨_, _, ?_, hrun, hended, _, _, rfl, ?_, ⟨_, rfl⟩, hW, hsame.mono (by decide) (by decide)⟩
            · exact own_retI X0 hx Bd.returns (hb hby own_d3_78) hr
            · show own_ni_Q Z i h0 n0 _ s₁.heap _
              rw [e0]
              exact ⟨((21 : Int32) - ((((((i.toUInt32 >>> ((8 : Int32) &&& 31).toUInt32).toInt32).toUInt32 >>> ((2 : Int32) &&& 31).toUInt32).toInt32).toUInt32 >>> ((1 : Int32) &&& 31).toUInt32).toInt32)), rfl, N0, rfl, (by have a0 : ((i.toUInt32 >>> ((8 : Int32) &&& 31).toUInt32).toInt32).toInt = i.toInt % 4294967296 / 256 := c_iushr _ _ 8 (by decide) (by decide); have a1 : ((((i.toUInt32 >>> ((8 : Int32) &&& 31).toUInt32).toInt32).toUInt32 >>> ((2 : Int32) &&& 31).toUInt32).toInt32).toInt = ((i.toUInt32 >>> ((8 : Int32) &&& 31).toUInt32).toInt32).toInt % 4294967296 / 4 := c_iushr _ _ 2 (by decide) (by decide); have b : ((((((i.toUInt32 >>> ((8 : Int32) &&& 31).toUInt32).toInt32).toUInt32 >>> ((2 : Int32) &&& 31).toUInt32).toInt32).toUInt32 >>> ((1 : Int32) &&& 31).toUInt32).toInt32).toInt = ((((i.toUInt32 >>> ((8 : Int32) &&& 31).toUInt32).toInt32).toUInt32 >>> ((2 : Int32) &&& 31).toUInt32).toInt32).toInt % 4294967296 / 2 := c_iushr _ _ 1 (by decide) (by decide); have s := c_isub (21 : Int32) ((((((i.toUInt32 >>> ((8 : Int32) &&& 31).toUInt32).toInt32).toUInt32 >>> ((2 : Int32) &&& 31).toUInt32).toInt32).toUInt32 >>> ((1 : Int32) &&& 31).toUInt32).toInt32); have r := rng32 ((21 : Int32) - ((((((i.toUInt32 >>> ((8 : Int32) &&& 31).toUInt32).toInt32).toUInt32 >>> ((2 : Int32) &&& 31).toUInt32).toInt32).toUInt32 >>> ((1 : Int32) &&& 31).toUInt32).toInt32)); have ri := rng32 i; simp only [true_and, and_true, false_and, and_false, or_false, false_or, or_true, true_or, not_true_eq_false, not_false_eq_true, eq_self, Int32.lt_iff_toInt_lt, Int32.le_iff_toInt_le, ← Int32.toInt_inj, Int32.reduceToInt, Int64.lt_iff_toInt_lt, Int64.le_iff_toInt_le, ← Int64.toInt_inj, Int64.reduceToInt] at hc1 hc2 hc3 hc7 hc8 hi s; rcases Decidable.em (((((i.toUInt32 >>> ((8 : Int32) &&& 31).toUInt32).toInt32).toUInt32 >>> ((2 : Int32) &&& 31).toUInt32).toInt32).toInt < 2) with hq | hq; exact ⟨10, by decide, by omega, by omega, by omega⟩; exact ⟨11, by decide, by omega, by omega, by omega⟩)⟩
        ·
          refine OwnGo.back (s₁.setTop (mkF m 54 #[.val (.int ((i.toUInt32 >>> ((8 : Int32) &&& 31).toUInt32).toInt32)), .val (.int (23 : Int32))] [])) (fun tg kk => XS.icmpNo X0.here hx rfl (hb hby own_d3_51) rfl (flt hc7).1 kk) ?_
          refine OwnGo.back (s₁.setTop (mkF m 57 #[.val (.int ((i.toUInt32 >>> ((8 : Int32) &&& 31).toUInt32).toInt32)), .val (.int (19 : Int32))] [])) (fun tg kk => XS.iinc X0.here hx rfl (hb hby own_d3_54) rfl (l' := #[.val (.int ((i.toUInt32 >>> ((8 : Int32) &&& 31).toUInt32).toInt32)), .val (.int (19 : Int32))]) rfl kk) ?_
          refine OwnGo.back (s₁.setTop (mkF m 58 #[.val (.int ((i.toUInt32 >>> ((8 : Int32) &&& 31).toUInt32).toInt32)), .val (.int (19 : Int32))] [(.int ((i.toUInt32 >>> ((8 : Int32) &&& 31).toUInt32).toInt32))])) (fun tg kk => XS.iloadN X0.here hx rfl (hb hby own_d3_57) rfl kk) ?_
          refine OwnGo.back (s₁.setTop (mkF m 59 #[.val (.int ((i.toUInt32 >>> ((8 : Int32) &&& 31).toUInt32).toInt32)), .val (.int (19 : Int32))] [(.int (4 : Int32)), (.int ((i.toUInt32 >>> ((8 : Int32) &&& 31).toUInt32).toInt32))])) (fun tg kk => XS.iconst X0.here hx rfl (hb hby own_d3_58) kk) ?_
          refine OwnGo.back (s₁.setTop (mkF m 60 #[.val (.int ((i.toUInt32 >>> ((8 : Int32) &&& 31).toUInt32).toInt32)), .val (.int (19 : Int32))] [(.int ((((i.toUInt32 >>> ((8 : Int32) &&& 31).toUInt32).toInt32).toUInt32 >>> ((4 : Int32) &&& 31).toUInt32).toInt32))])) (fun tg kk => XS.iushr X0.here hx rfl (hb hby own_d3_59) rfl kk) ?_
          refine OwnGo.back (s₁.setTop (mkF m 61 #[.val (.int ((((i.toUInt32 >>> ((8 : Int32) &&& 31).toUInt32).toInt32).toUInt32 >>> ((4 : Int32) &&& 31).toUInt32).toInt32)), .val (.int (19 : Int32))] [])) (fun tg kk => XS.istoreN X0.here hx rfl (hb hby own_d3_60) rfl (l' := #[.val (.int ((((i.toUInt32 >>> ((8 : Int32) &&& 31).toUInt32).toInt32).toUInt32 >>> ((4 : Int32) &&& 31).toUInt32).toInt32)), .val (.int (19 : Int32))]) rfl kk) ?_
          refine OwnGo.back (s₁.setTop (mkF m 62 #[.val (.int ((((i.toUInt32 >>> ((8 : Int32) &&& 31).toUInt32).toInt32).toUInt32 >>> ((4 : Int32) &&& 31).toUInt32).toInt32)), .val (.int (19 : Int32))] [(.int ((((i.toUInt32 >>> ((8 : Int32) &&& 31).toUInt32).toInt32).toUInt32 >>> ((4 : Int32) &&& 31).toUInt32).toInt32))])) (fun tg kk => XS.iloadN X0.here hx rfl (hb hby own_d3_61) rfl kk) ?_
          refine OwnGo.back (s₁.setTop (mkF m 63 #[.val (.int ((((i.toUInt32 >>> ((8 : Int32) &&& 31).toUInt32).toInt32).toUInt32 >>> ((4 : Int32) &&& 31).toUInt32).toInt32)), .val (.int (19 : Int32))] [(.int (4 : Int32)), (.int ((((i.toUInt32 >>> ((8 : Int32) &&& 31).toUInt32).toInt32).toUInt32 >>> ((4 : Int32) &&& 31).toUInt32).toInt32))])) (fun tg kk => XS.iconst X0.here hx rfl (hb hby own_d3_62) kk) ?_
          by_cases hc9 : ((((i.toUInt32 >>> ((8 : Int32) &&& 31).toUInt32).toInt32).toUInt32 >>> ((4 : Int32) &&& 31).toUInt32).toInt32) < (4 : Int32)
          ·
            refine OwnGo.back (s₁.setTop (mkF m 73 #[.val (.int ((((i.toUInt32 >>> ((8 : Int32) &&& 31).toUInt32).toInt32).toUInt32 >>> ((4 : Int32) &&& 31).toUInt32).toInt32)), .val (.int (19 : Int32))] [])) (fun tg kk => XS.icmpYes X0.here hx rfl (pc0 := 63) (pc' := 73) rfl (hb hby own_d3_63) rfl (tlt hc9).1 (by decide) (by decide) kk) ?_
            refine OwnGo.back (s₁.setTop (mkF m 74 #[.val (.int ((((i.toUInt32 >>> ((8 : Int32) &&& 31).toUInt32).toInt32).toUInt32 >>> ((4 : Int32) &&& 31).toUInt32).toInt32)), .val (.int (19 : Int32))] [(.int (19 : Int32))])) (fun tg kk => XS.iloadN X0.here hx rfl (hb hby own_d3_73) rfl kk) ?_
            refine OwnGo.back (s₁.setTop (mkF m 75 #[.val (.int ((((i.toUInt32 >>> ((8 : Int32) &&& 31).toUInt32).toInt32).toUInt32 >>> ((4 : Int32) &&& 31).toUInt32).toInt32)), .val (.int (19 : Int32))] [(.int ((((i.toUInt32 >>> ((8 : Int32) &&& 31).toUInt32).toInt32).toUInt32 >>> ((4 : Int32) &&& 31).toUInt32).toInt32)), (.int (19 : Int32))])) (fun tg kk => XS.iloadN X0.here hx rfl (hb hby own_d3_74) rfl kk) ?_
            refine OwnGo.back (s₁.setTop (mkF m 76 #[.val (.int ((((i.toUInt32 >>> ((8 : Int32) &&& 31).toUInt32).toInt32).toUInt32 >>> ((4 : Int32) &&& 31).toUInt32).toInt32)), .val (.int (19 : Int32))] [(.int (1 : Int32)), (.int ((((i.toUInt32 >>> ((8 : Int32) &&& 31).toUInt32).toInt32).toUInt32 >>> ((4 : Int32) &&& 31).toUInt32).toInt32)), (.int (19 : Int32))])) (fun tg kk => XS.iconst X0.here hx rfl (hb hby own_d3_75) kk) ?_
            refine OwnGo.back (s₁.setTop (mkF m 77 #[.val (.int ((((i.toUInt32 >>> ((8 : Int32) &&& 31).toUInt32).toInt32).toUInt32 >>> ((4 : Int32) &&& 31).toUInt32).toInt32)), .val (.int (19 : Int32))] [(.int ((((((i.toUInt32 >>> ((8 : Int32) &&& 31).toUInt32).toInt32).toUInt32 >>> ((4 : Int32) &&& 31).toUInt32).toInt32).toUInt32 >>> ((1 : Int32) &&& 31).toUInt32).toInt32)), (.int (19 : Int32))])) (fun tg kk => XS.iushr X0.here hx rfl (hb hby own_d3_76) rfl kk) ?_
            refine OwnGo.back (s₁.setTop (mkF m 78 #[.val (.int ((((i.toUInt32 >>> ((8 : Int32) &&& 31).toUInt32).toInt32).toUInt32 >>> ((4 : Int32) &&& 31).toUInt32).toInt32)), .val (.int (19 : Int32))] [(.int ((19 : Int32) - ((((((i.toUInt32 >>> ((8 : Int32) &&& 31).toUInt32).toInt32).toUInt32 >>> ((4 : Int32) &&& 31).toUInt32).toInt32).toUInt32 >>> ((1 : Int32) &&& 31).toUInt32).toInt32)))])) (fun tg kk => XS.isub X0.here hx rfl (hb hby own_d3_77) rfl kk) ?_
            obtain ⟨fs, hr, hrun, hended, hW, hsame⟩ := X0.leave (v := some (.int ((19 : Int32) - ((((((i.toUInt32 >>> ((8 : Int32) &&& 31).toUInt32).toInt32).toUInt32 >>> ((4 : Int32) &&& 31).toUInt32).toInt32).toUInt32 >>> ((1 : Int32) &&& 31).toUInt32).toInt32)))) (fun h => by rw [Bd.returns] at h; cases h)
            refine ⟨_, _, ?_, hrun, hended, _, _, rfl, ?_, ⟨_, rfl⟩, hW, hsame.mono (by decide) (by decide)⟩
            · exact own_retI X0 hx Bd.returns (hb hby own_d3_78) hr
            · show own_ni_Q Z i h0 n0 _ s₁.heap _
              rw [e0]
              exact ⟨((19 : Int32) - ((((((i.toUInt32 >>> ((8 : Int32) &&& 31).toUInt32).toInt32).toUInt32 >>> ((4 : Int32) &&& 31).toUInt32).toInt32).toUInt32 >>> ((1 : Int32) &&& 31).toUInt32).toInt32)), rfl, N0, rfl, (by have a0 : ((i.toUInt32 >>> ((8 : Int32) &&& 31).toUInt32).toInt32).toInt = i.toInt % 4294967296 / 256 := c_iushr _ _ 8 (by decide) (by decide); have a1 : ((((i.toUInt32 >>> ((8 : Int32) &&& 31).toUInt32).toInt32).toUInt32 >>> ((4 : Int32) &&& 31).toUInt32).toInt32).toInt = ((i.toUInt32 >>> ((8 : Int32) &&& 31).toUInt32).toInt32).toInt % 4294967296 / 16 := c_iushr _ _ 4 (by decide) (by decide); have b : ((((((i.toUInt32 >>> ((8 : Int32) &&& 31).toUInt32).toInt32).toUInt32 >>> ((4 : Int32) &&& 31).toUInt32).toInt32).toUInt32 >>> ((1 : Int32) &&& 31).toUInt32).toInt32).toInt = ((((i.toUInt32 >>> ((8 : Int32) &&& 31).toUInt32).toInt32).toUInt32 >>> ((4 : Int32) &&& 31).toUInt32).toInt32).toInt % 4294967296 / 2 := c_iushr _ _ 1 (by decide) (by decide); have s := c_isub (19 : Int32) ((((((i.toUInt32 >>> ((8 : Int32) &&& 31).toUInt32).toInt32).toUInt32 >>> ((4 : Int32) &&& 31).toUInt32).toInt32).toUInt32 >>> ((1 : Int32) &&& 31).toUInt32).toInt32); have r := rng32 ((19 : Int32) - ((((((i.toUInt32 >>> ((8 : Int32) &&& 31).toUInt32).toInt32).toUInt32 >>> ((4 : Int32) &&& 31).toUInt32).toInt32).toUInt32 >>> ((1 : Int32) &&& 31).toUInt32).toInt32)); have ri := rng32 i; simp only [true_and, and_true, false_and, and_false, or_false, false_or, or_true, true_or, not_true_eq_false, not_false_eq_true, eq_self, Int32.lt_iff_toInt_lt, Int32.le_iff_toInt_le, ← Int32.toInt_inj, Int32.reduceToInt, Int64.lt_iff_toInt_lt, Int64.le_iff_toInt_le, ← Int64.toInt_inj, Int64.reduceToInt] at hc1 hc2 hc3 hc7 hc9 hi s; rcases Decidable.em (((((i.toUInt32 >>> ((8 : Int32) &&& 31).toUInt32).toInt32).toUInt32 >>> ((4 : Int32) &&& 31).toUInt32).toInt32).toInt < 2) with hq | hq; exact ⟨12, by decide, by omega, by omega, by omega⟩; exact ⟨13, by decide, by omega, by omega, by omega⟩)⟩
          ·
            refine OwnGo.back (s₁.setTop (mkF m 66 #[.val (.int ((((i.toUInt32 >>> ((8 : Int32) &&& 31).toUInt32).toInt32).toUInt32 >>> ((4 : Int32) &&& 31).toUInt32).toInt32)), .val (.int (19 : Int32))] [])) (fun tg kk => XS.icmpNo X0.here hx rfl (hb hby own_d3_63) rfl (flt hc9).1 kk) ?_
            refine OwnGo.back (s₁.setTop (mkF m 69 #[.val (.int ((((i.toUInt32 >>> ((8 : Int32) &&& 31).toUInt32).toInt32).toUInt32 >>> ((4 : Int32) &&& 31).toUInt32).toInt32)), .val (.int (17 : Int32))] [])) (fun tg kk => XS.iinc X0.here hx rfl (hb hby own_d3_66) rfl (l' := #[.val (.int ((((i.toUInt32 >>> ((8 : Int32) &&& 31).toUInt32).toInt32).toUInt32 >>> ((4 : Int32) &&& 31).toUInt32).toInt32)), .val (.int (17 : Int32))]) rfl kk) ?_
            refine OwnGo.back (s₁.setTop (mkF m 70 #[.val (.int ((((i.toUInt32 >>> ((8 : Int32) &&& 31).toUInt32).toInt32).toUInt32 >>> ((4 : Int32) &&& 31).toUInt32).toInt32)), .val (.int (17 : Int32))] [(.int ((((i.toUInt32 >>> ((8 : Int32) &&& 31).toUInt32).toInt32).toUInt32 >>> ((4 : Int32) &&& 31).toUInt32).toInt32))])) (fun tg kk => XS.iloadN X0.here hx rfl (hb hby own_d3_69) rfl kk) ?_
            refine OwnGo.back (s₁.setTop (mkF m 71 #[.val (.int ((((i.toUInt32 >>> ((8 : Int32) &&& 31).toUInt32).toInt32).toUInt32 >>> ((4 : Int32) &&& 31).toUInt32).toInt32)), .val (.int (17 : Int32))] [(.int (2 : Int32)), (.int ((((i.toUInt32 >>> ((8 : Int32) &&& 31).toUInt32).toInt32).toUInt32 >>> ((4 : Int32) &&& 31).toUInt32).toInt32))])) (fun tg kk => XS.iconst X0.here hx rfl (hb hby own_d3_70) kk) ?_
            refine OwnGo.back (s₁.setTop (mkF m 72 #[.val (.int ((((i.toUInt32 >>> ((8 : Int32) &&& 31).toUInt32).toInt32).toUInt32 >>> ((4 : Int32) &&& 31).toUInt32).toInt32)), .val (.int (17 : Int32))] [(.int ((((((i.toUInt32 >>> ((8 : Int32) &&& 31).toUInt32).toInt32).toUInt32 >>> ((4 : Int32) &&& 31).toUInt32).toInt32).toUInt32 >>> ((2 : Int32) &&& 31).toUInt32).toInt32))])) (fun tg kk => XS.iushr X0.here hx rfl (hb hby own_d3_71) rfl kk) ?_
            refine OwnGo.back (s₁.setTop (mkF m 73 #[.val (.int ((((((i.toUInt32 >>> ((8 : Int32) &&& 31).toUInt32).toInt32).toUInt32 >>> ((4 : Int32) &&& 31).toUInt32).toInt32).toUInt32 >>> ((2 : Int32) &&& 31).toUInt32).toInt32)), .val (.int (17 : Int32))] [])) (fun tg kk => XS.istoreN X0.here hx rfl (hb hby own_d3_72) rfl (l' := #[.val (.int ((((((i.toUInt32 >>> ((8 : Int32) &&& 31).toUInt32).toInt32).toUInt32 >>> ((4 : Int32) &&& 31).toUInt32).toInt32).toUInt32 >>> ((2 : Int32) &&& 31).toUInt32).toInt32)), .val (.int (17 : Int32))]) rfl kk) ?_
            refine OwnGo.back (s₁.setTop (mkF m 74 #[.val (.int ((((((i.toUInt32 >>> ((8 : Int32) &&& 31).toUInt32).toInt32).toUInt32 >>> ((4 : Int32) &&& 31).toUInt32).toInt32).toUInt32 >>> ((2 : Int32) &&& 31).toUInt32).toInt32)), .val (.int (17 : Int32))] [(.int (17 : Int32))])) (fun tg kk => XS.iloadN X0.here hx rfl (hb hby own_d3_73) rfl kk) ?_
            refine OwnGo.back (s₁.setTop (mkF m 75 #[.val (.int ((((((i.toUInt32 >>> ((8 : Int32) &&& 31).toUInt32).toInt32).toUInt32 >>> ((4 : Int32) &&& 31).toUInt32).toInt32).toUInt32 >>> ((2 : Int32) &&& 31).toUInt32).toInt32)), .val (.int (17 : Int32))] [(.int ((((((i.toUInt32 >>> ((8 : Int32) &&& 31).toUInt32).toInt32).toUInt32 >>> ((4 : Int32) &&& 31).toUInt32).toInt32).toUInt32 >>> ((2 : Int32) &&& 31).toUInt32).toInt32)), (.int (17 : Int32))])) (fun tg kk => XS.iloadN X0.here hx rfl (hb hby own_d3_74) rfl kk) ?_
            refine OwnGo.back (s₁.setTop (mkF m 76 #[.val (.int ((((((i.toUInt32 >>> ((8 : Int32) &&& 31).toUInt32).toInt32).toUInt32 >>> ((4 : Int32) &&& 31).toUInt32).toInt32).toUInt32 >>> ((2 : Int32) &&& 31).toUInt32).toInt32)), .val (.int (17 : Int32))] [(.int (1 : Int32)), (.int ((((((i.toUInt32 >>> ((8 : Int32) &&& 31).toUInt32).toInt32).toUInt32 >>> ((4 : Int32) &&& 31).toUInt32).toInt32).toUInt32 >>> ((2 : Int32) &&& 31).toUInt32).toInt32)), (.int (17 : Int32))])) (fun tg kk => XS.iconst X0.here hx rfl (hb hby own_d3_75) kk) ?_
            refine OwnGo.back (s₁.setTop (mkF m 77 #[.val (.int ((((((i.toUInt32 >>> ((8 : Int32) &&& 31).toUInt32).toInt32).toUInt32 >>> ((4 : Int32) &&& 31).toUInt32).toInt32).toUInt32 >>> ((2 : Int32) &&& 31).toUInt32).toInt32)), .val (.int (17 : Int32))] [(.int ((((((((i.toUInt32 >>> ((8 : Int32) &&& 31).toUInt32).toInt32).toUInt32 >>> ((4 : Int32) &&& 31).toUInt32).toInt32).toUInt32 >>> ((2 : Int32) &&& 31).toUInt32).toInt32).toUInt32 >>> ((1 : Int32) &&& 31).toUInt32).toInt32)), (.int (17 : Int32))])) (fun tg kk => XS.iushr X0.here hx rfl (hb hby own_d3_76) rfl kk) ?_
            refine OwnGo.back (s₁.setTop (mkF m 78 #[.val (.int ((((((i.toUInt32 >>> ((8 : Int32) &&& 31).toUInt32).toInt32).toUInt32 >>> ((4 : Int32) &&& 31).toUInt32).toInt32).toUInt32 >>> ((2 : Int32) &&& 31).toUInt32).toInt32)), .val (.int (17 : Int32))] [(.int ((17 : Int32) - ((((((((i.toUInt32 >>> ((8 : Int32) &&& 31).toUInt32).toInt32).toUInt32 >>> ((4 : Int32) &&& 31).toUInt32).toInt32).toUInt32 >>> ((2 : Int32) &&& 31).toUInt32).toInt32).toUInt32 >>> ((1 : Int32) &&& 31).toUInt32).toInt32)))])) (fun tg kk => XS.isub X0.here hx rfl (hb hby own_d3_77) rfl kk) ?_
            obtain ⟨fs, hr, hrun, hended, hW, hsame⟩ := X0.leave (v := some (.int ((17 : Int32) - ((((((((i.toUInt32 >>> ((8 : Int32) &&& 31).toUInt32).toInt32).toUInt32 >>> ((4 : Int32) &&& 31).toUInt32).toInt32).toUInt32 >>> ((2 : Int32) &&& 31).toUInt32).toInt32).toUInt32 >>> ((1 : Int32) &&& 31).toUInt32).toInt32)))) (fun h => by rw [Bd.returns] at h; cases h)
            refine ⟨_, _, ?_, hrun, hended, _, _, rfl, ?_, ⟨_, rfl⟩, hW, hsame.mono (by decide) (by decide)⟩
            · exact own_retI X0 hx Bd.returns (hb hby own_d3_78) hr
            · show own_ni_Q Z i h0 n0 _ s₁.heap _
              rw [e0]
              exact ⟨((17 : Int32) - ((((((((i.toUInt32 >>> ((8 : Int32) &&& 31).toUInt32).toInt32).toUInt32 >>> ((4 : Int32) &&& 31).toUInt32).toInt32).toUInt32 >>> ((2 : Int32) &&& 31).toUInt32).toInt32).toUInt32 >>> ((1 : Int32) &&& 31).toUInt32).toInt32)), rfl, N0, rfl, (by have a0 : ((i.toUInt32 >>> ((8 : Int32) &&& 31).toUInt32).toInt32).toInt = i.toInt % 4294967296 / 256 := c_iushr _ _ 8 (by decide) (by decide); have a1 : ((((i.toUInt32 >>> ((8 : Int32) &&& 31).toUInt32).toInt32).toUInt32 >>> ((4 : Int32) &&& 31).toUInt32).toInt32).toInt = ((i.toUInt32 >>> ((8 : Int32) &&& 31).toUInt32).toInt32).toInt % 4294967296 / 16 := c_iushr _ _ 4 (by decide) (by decide); have a2 : ((((((i.toUInt32 >>> ((8 : Int32) &&& 31).toUInt32).toInt32).toUInt32 >>> ((4 : Int32) &&& 31).toUInt32).toInt32).toUInt32 >>> ((2 : Int32) &&& 31).toUInt32).toInt32).toInt = ((((i.toUInt32 >>> ((8 : Int32) &&& 31).toUInt32).toInt32).toUInt32 >>> ((4 : Int32) &&& 31).toUInt32).toInt32).toInt % 4294967296 / 4 := c_iushr _ _ 2 (by decide) (by decide); have b : ((((((((i.toUInt32 >>> ((8 : Int32) &&& 31).toUInt32).toInt32).toUInt32 >>> ((4 : Int32) &&& 31).toUInt32).toInt32).toUInt32 >>> ((2 : Int32) &&& 31).toUInt32).toInt32).toUInt32 >>> ((1 : Int32) &&& 31).toUInt32).toInt32).toInt = ((((((i.toUInt32 >>> ((8 : Int32) &&& 31).toUInt32).toInt32).toUInt32 >>> ((4 : Int32) &&& 31).toUInt32).toInt32).toUInt32 >>> ((2 : Int32) &&& 31).toUInt32).toInt32).toInt % 4294967296 / 2 := c_iushr _ _ 1 (by decide) (by decide); have s := c_isub (17 : Int32) ((((((((i.toUInt32 >>> ((8 : Int32) &&& 31).toUInt32).toInt32).toUInt32 >>> ((4 : Int32) &&& 31).toUInt32).toInt32).toUInt32 >>> ((2 : Int32) &&& 31).toUInt32).toInt32).toUInt32 >>> ((1 : Int32) &&& 31).toUInt32).toInt32); have r := rng32 ((17 : Int32) - ((((((((i.toUInt32 >>> ((8 : Int32) &&& 31).toUInt32).toInt32).toUInt32 >>> ((4 : Int32) &&& 31).toUInt32).toInt32).toUInt32 >>> ((2 : Int32) &&& 31).toUInt32).toInt32).toUInt32 >>> ((1 : Int32) &&& 31).toUInt32).toInt32)); have ri := rng32 i; simp only [true_and, and_true, false_and, and_false, or_false, false_or, or_true, true_or, not_true_eq_false, not_false_eq_true, eq_self, Int32.lt_iff_toInt_lt, Int32.le_iff_toInt_le, ← Int32.toInt_inj, Int32.reduceToInt, Int64.lt_iff_toInt_lt, Int64.le_iff_toInt_le, ← Int64.toInt_inj, Int64.reduceToInt] at hc1 hc2 hc3 hc7 hc9 hi s; rcases Decidable.em (((((((i.toUInt32 >>> ((8 : Int32) &&& 31).toUInt32).toInt32).toUInt32 >>> ((4 : Int32) &&& 31).toUInt32).toInt32).toUInt32 >>> ((2 : Int32) &&& 31).toUInt32).toInt32).toInt < 2) with hq | hq; exact ⟨14, by decide, by omega, by omega, by omega⟩; exact ⟨15, by decide, by omega, by omega, by omega⟩)⟩
    ·
      refine OwnGo.back (s₁.setTop (mkF m 25 #[.val (.int i), .val (.int (31 : Int32))] [])) (fun tg kk => XS.icmpNo X0.here hx rfl (hb hby own_d3_22) rfl (flt hc2).1 kk) ?_
      refine OwnGo.back (s₁.setTop (mkF m 28 #[.val (.int i), .val (.int (15 : Int32))] [])) (fun tg kk => XS.iinc X0.here hx rfl (hb hby own_d3_25) rfl (l' := #[.val (.int i), .val (.int (15 : Int32))]) rfl kk) ?_
      refine OwnGo.back (s₁.setTop (mkF m 29 #[.val (.int i), .val (.int (15 : Int32))] [(.int i)])) (fun tg kk => XS.iloadN X0.here hx rfl (hb hby own_d3_28) rfl kk) ?_
      refine OwnGo.back (s₁.setTop (mkF m 31 #[.val (.int i), .val (.int (15 : Int32))] [(.int (16 : Int32)), (.int i)])) (fun tg kk => XS.bipush X0.here hx rfl (hb hby own_d3_29) kk) ?_
      refine OwnGo.back (s₁.setTop (mkF m 32 #[.val (.int i), .val (.int (15 : Int32))] [(.int ((i.toUInt32 >>> ((16 : Int32) &&& 31).toUInt32).toInt32))])) (fun tg kk => XS.iushr X0.here hx rfl (hb hby own_d3_31) rfl kk) ?_
      refine OwnGo.back (s₁.setTop (mkF m 33 #[.val (.int ((i.toUInt32 >>> ((16 : Int32) &&& 31).toUInt32).toInt32)), .val (.int (15 : Int32))] [])) (fun tg kk => XS.istoreN X0.here hx rfl (hb hby own_d3_32) rfl (l' := #[.val (.int ((i.toUInt32 >>> ((16 : Int32) &&& 31).toUInt32).toInt32)), .val (.int (15 : Int32))]) rfl kk) ?_
      refine OwnGo.back (s₁.setTop (mkF m 34 #[.val (.int ((i.toUInt32 >>> ((16 : Int32) &&& 31).toUInt32).toInt32)), .val (.int (15 : Int32))] [(.int ((i.toUInt32 >>> ((16 : Int32) &&& 31).toUInt32).toInt32))])) (fun tg kk => XS.iloadN X0.here hx rfl (hb hby own_d3_33) rfl kk) ?_
      refine OwnGo.back (s₁.setTop (mkF m 37 #[.val (.int ((i.toUInt32 >>> ((16 : Int32) &&& 31).toUInt32).toInt32)), .val (.int (15 : Int32))] [(.int (256 : Int32)), (.int ((i.toUInt32 >>> ((16 : Int32) &&& 31).toUInt32).toInt32))])) (fun tg kk => XS.sipush X0.here hx rfl (hb hby own_d3_34) kk) ?_
      by_cases hc10 : ((i.toUInt32 >>> ((16 : Int32) &&& 31).toUInt32).toInt32) < (256 : Int32)
      ·
        refine OwnGo.back (s₁.setTop (mkF m 48 #[.val (.int ((i.toUInt32 >>> ((16 : Int32) &&& 31).toUInt32).toInt32)), .val (.int (15 : Int32))] [])) (fun tg kk => XS.icmpYes X0.here hx rfl (pc0 := 37) (pc' := 48) rfl (hb hby own_d3_37) rfl (tlt hc10).1 (by decide) (by decide) kk) ?_
        refine OwnGo.back (s₁.setTop (mkF m 49 #[.val (.int ((i.toUInt32 >>> ((16 : Int32) &&& 31).toUInt32).toInt32)), .val (.int (15 : Int32))] [(.int ((i.toUInt32 >>> ((16 : Int32) &&& 31).toUInt32).toInt32))])) (fun tg kk => XS.iloadN X0.here hx rfl (hb hby own_d3_48) rfl kk) ?_
        refine OwnGo.back (s₁.setTop (mkF m 51 #[.val (.int ((i.toUInt32 >>> ((16 : Int32) &&& 31).toUInt32).toInt32)), .val (.int (15 : Int32))] [(.int (16 : Int32)), (.int ((i.toUInt32 >>> ((16 : Int32) &&& 31).toUInt32).toInt32))])) (fun tg kk => XS.bipush X0.here hx rfl (hb hby own_d3_49) kk) ?_
        by_cases hc11 : ((i.toUInt32 >>> ((16 : Int32) &&& 31).toUInt32).toInt32) < (16 : Int32)
        ·
          refine OwnGo.back (s₁.setTop (mkF m 61 #[.val (.int ((i.toUInt32 >>> ((16 : Int32) &&& 31).toUInt32).toInt32)), .val (.int (15 : Int32))] [])) (fun tg kk => XS.icmpYes X0.here hx rfl (pc0 := 51) (pc' := 61) rfl (hb hby own_d3_51) rfl (tlt hc11).1 (by decide) (by decide) kk) ?_
          refine OwnGo.back (s₁.setTop (mkF m 62 #[.val (.int ((i.toUInt32 >>> ((16 : Int32) &&& 31).toUInt32).toInt32)), .val (.int (15 : Int32))] [(.int ((i.toUInt32 >>> ((16 : Int32) &&& 31).toUInt32).toInt32))])) (fun tg kk => XS.iloadN X0.here hx rfl (hb hby own_d3_61) rfl kk) ?_
          refine OwnGo.back (s₁.setTop (mkF m 63 #[.val (.int ((i.toUInt32 >>> ((16 : Int32) &&& 31).toUInt32).toInt32)), .val (.int (15 : Int32))] [(.int (4 : Int32)), (.int ((i.toUInt32 >>> ((16 : Int32) &&& 31).toUInt32).toInt32))])) (fun tg kk => XS.iconst X0.here hx rfl (hb hby own_d3_62) kk) ?_
          by_cases hc12 : ((i.toUInt32 >>> ((16 : Int32) &&& 31).toUInt32).toInt32) < (4 : Int32)
          ·
            refine OwnGo.back (s₁.setTop (mkF m 73 #[.val (.int ((i.toUInt32 >>> ((16 : Int32) &&& 31).toUInt32).toInt32)), .val (.int (15 : Int32))] [])) (fun tg kk => XS.icmpYes X0.here hx rfl (pc0 := 63) (pc' := 73) rfl (hb hby own_d3_63) rfl (tlt hc12).1 (by decide) (by decide) kk) ?_
            refine OwnGo.back (s₁.setTop (mkF m 74 #[.val (.int ((i.toUInt32 >>> ((16 : Int32) &&& 31).toUInt32).toInt32)), .val (.int (15 : Int32))] [(.int (15 : Int32))])) (fun tg kk => XS.iloadN X0.here hx rfl (hb hby own_d3_73) rfl kk) ?_
            refine OwnGo.back (s₁.setTop (mkF m 75 #[.val (.int ((i.toUInt32 >>> ((16 : Int32) &&& 31).toUInt32).toInt32)), .val (.int (15 : Int32))] [(.int ((i.toUInt32 >>> ((16 : Int32) &&& 31).toUInt32).toInt32)), (.int (15 : Int32))])) (fun tg kk => XS.iloadN X0.here hx rfl (hb hby own_d3_74) rfl kk) ?_
            refine OwnGo.back (s₁.setTop (mkF m 76 #[.val (.int ((i.toUInt32 >>> ((16 : Int32) &&& 31).toUInt32).toInt32)), .val (.int (15 : Int32))] [(.int (1 : Int32)), (.int ((i.toUInt32 >>> ((16 : Int32) &&& 31).toUInt32).toInt32)), (.int (15 : Int32))])) (fun tg kk => XS.iconst X0.here hx rfl (hb hby own_d3_75) kk) ?_
            refine OwnGo.back (s₁.setTop (mkF m 77 #[.val (.int ((i.toUInt32 >>> ((16 : Int32) &&& 31).toUInt32).toInt32)), .val (.int (15 : Int32))] [(.int ((((i.toUInt32 >>> ((16 : Int32) &&& 31).toUInt32).toInt32).toUInt32 >>> ((1 : Int32) &&& 31).toUInt32).toInt32)), (.int (15 : Int32))])) (fun tg kk => XS.iushr X0.here hx rfl (hb hby own_d3_76) rfl kk) ?_
            refine OwnGo.back (s₁.setTop (mkF m 78 #[.val (.int ((i.toUInt32 >>> ((16 : Int32) &&& 31).toUInt32).toInt32)), .val (.int (15 : Int32))] [(.int ((15 : Int32) - ((((i.toUInt32 >>> ((16 : Int32) &&& 31).toUInt32).toInt32).toUInt32 >>> ((1 : Int32) &&& 31).toUInt32).toInt32)))])) (fun tg kk => XS.isub X0.here hx rfl (hb hby own_d3_77) rfl kk) ?_
            obtain ⟨fs, hr, hrun, hended, hW, hsame⟩ := X0.leave (v := some (.int ((15 : Int32) - ((((i.toUInt32 >>> ((16 : Int32) &&& 31).toUInt32).toInt32).toUInt32 >>> ((1 : Int32) &&& 31).toUInt32).toInt32)))) (fun h => by rw [Bd.returns] at h; cases h)
            refine ⟨_, _, ?_, hrun, hended, _, _, rfl, ?_, ⟨_, rfl⟩, hW, hsame.mono (by decide) (by decide)⟩
            · exact own_retI X0 hx Bd.returns (hb hby own_d3_78) hr
            · show own_ni_Q Z i h0 n0 _ s₁.heap _
              rw [e0]
              exact ⟨((15 : Int32) - ((((i.toUInt32 >>> ((16 : Int32) &&& 31).toUInt32).toInt32).toUInt32 >>> ((1 : Int32) &&& 31).toUInt32).toInt32)), rfl, N0, rfl, (by have a0 : ((i.toUInt32 >>> ((16 : Int32) &&& 31).toUInt32).toInt32).toInt = i.toInt % 4294967296 / 65536 := c_iushr _ _ 16 (by decide) (by decide); have b : ((((i.toUInt32 >>> ((16 : Int32) &&& 31).toUInt32).toInt32).toUInt32 >>> ((1 : Int32) &&& 31).toUInt32).toInt32).toInt = ((i.toUInt32 >>> ((16 : Int32) &&& 31).toUInt32).toInt32).toInt % 4294967296 / 2 := c_iushr _ _ 1 (by decide) (by decide); have s := c_isub (15 : Int32) ((((i.toUInt32 >>> ((16 : Int32) &&& 31).toUInt32).toInt32).toUInt32 >>> ((1 : Int32) &&& 31).toUInt32).toInt32); have r := rng32 ((15 : Int32) - ((((i.toUInt32 >>> ((16 : Int32) &&& 31).toUInt32).toInt32).toUInt32 >>> ((1 : Int32) &&& 31).toUInt32).toInt32)); have ri := rng32 i; simp only [true_and, and_true, false_and, and_false, or_false, false_or, or_true, true_or, not_true_eq_false, not_false_eq_true, eq_self, Int32.lt_iff_toInt_lt, Int32.le_iff_toInt_le, ← Int32.toInt_inj, Int32.reduceToInt, Int64.lt_iff_toInt_lt, Int64.le_iff_toInt_le, ← Int64.toInt_inj, Int64.reduceToInt] at hc1 hc2 hc10 hc11 hc12 hi s; rcases Decidable.em (((i.toUInt32 >>> ((16 : Int32) &&& 31).toUInt32).toInt32).toInt < 2) with hq | hq; exact ⟨16, by decide, by omega, by omega, by omega⟩; exact ⟨17, by decide, by omega, by omega, by omega⟩)⟩
          ·
            refine OwnGo.back (s₁.setTop (mkF m 66 #[.val (.int ((i.toUInt32 >>> ((16 : Int32) &&& 31).toUInt32).toInt32)), .val (.int (15 : Int32))] [])) (fun tg kk => XS.icmpNo X0.here hx rfl (hb hby own_d3_63) rfl (flt hc12).1 kk) ?_
            refine OwnGo.back (s₁.setTop (mkF m 69 #[.val (.int ((i.toUInt32 >>> ((16 : Int32) &&& 31).toUInt32).toInt32)), .val (.int (13 : Int32))] [])) (fun tg kk => XS.iinc X0.here hx rfl (hb hby own_d3_66) rfl (l' := #[.val (.int ((i.toUInt32 >>> ((16 : Int32) &&& 31).toUInt32).toInt32)), .val (.int (13 : Int32))]) rfl kk) ?_
            refine OwnGo.back (s₁.setTop (mkF m 70 #[.val (.int ((i.toUInt32 >>> ((16 : Int32) &&& 31).toUInt32).toInt32)), .val (.int (13 : Int32))] [(.int ((i.toUInt32 >>> ((16 : Int32) &&& 31).toUInt32).toInt32))])) (fun tg kk => XS.iloadN X0.here hx rfl (hb hby own_d3_69) rfl kk) ?_
            refine OwnGo.back (s₁.setTop (mkF m 71 #[.val (.int ((i.toUInt32 >>> ((16 : Int32) &&& 31).toUInt32).toInt32)), .val (.int (13 : Int32))] [(.int (2 : Int32)), (.int ((i.toUInt32 >>> ((16 : Int32) &&& 31).toUInt32).toInt32))])) (fun tg kk => XS.iconst X0.here hx rfl (hb hby own_d3_70) kk) ?_
            refine OwnGo.back (s₁.setTop (mkF m 72 #[.val (.int ((i.toUInt32 >>> ((16 : Int32) &&& 31).toUInt32).toInt32)), .val (.int (13 : Int32))] [(.int ((((i.toUInt32 >>> ((16 : Int32) &&& 31).toUInt32).toInt32).toUInt32 >>> ((2 : Int32) &&& 31).toUInt32).toInt32))])) (fun tg kk => XS.iushr X0.here hx rfl (hb hby own_d3_71) rfl kk) ?_
            refine OwnGo.back (s₁.setTop (mkF m 73 #[.val (.int ((((i.toUInt32 >>> ((16 : Int32) &&& 31).toUInt32).toInt32).toUInt32 >>> ((2 : Int32) &&& 31).toUInt32).toInt32)), .val (.int (13 : Int32))] [])) (fun tg kk => XS.istoreN X0.here hx rfl (hb hby own_d3_72) rfl (l' := #[.val (.int ((((i.toUInt32 >>> ((16 : Int32) &&& 31).toUInt32).toInt32).toUInt32 >>> ((2 : Int32) &&& 31).toUInt32).toInt32)), .val (.int (13 : Int32))]) rfl kk) ?_
            refine OwnGo.back (s₁.setTop (mkF m 74 #[.val (.int ((((i.toUInt32 >>> ((16 : Int32) &&& 31).toUInt32).toInt32).toUInt32 >>> ((2 : Int32) &&& 31).toUInt32).toInt32)), .val (.int (13 : Int32))] [(.int (13 : Int32))])) (fun tg kk => XS.iloadN X0.here hx rfl (hb hby own_d3_73) rfl kk) ?_
            refine OwnGo.back (s₁.setTop (mkF m 75 #[.val (.int ((((i.toUInt32 >>> ((16 : Int32) &&& 31).toUInt32).toInt32).toUInt32 >>> ((2 : Int32) &&& 31).toUInt32).toInt32)), .val (.int (13 : Int32))] [(.int ((((i.toUInt32 >>> ((16 : Int32) &&& 31).toUInt32).toInt32).toUInt32 >>> ((2 : Int32) &&& 31).toUInt32).toInt32)), (.int (13 : Int32))])) (fun tg kk => XS.iloadN X0.here hx rfl (hb hby own_d3_74) rfl kk) ?_
            refine OwnGo.back (s₁.setTop (mkF m 76 #[.val (.int ((((i.toUInt32 >>> ((16 : Int32) &&& 31).toUInt32).toInt32).toUInt32 >>> ((2 : Int32) &&& 31).toUInt32).toInt32)), .val (.int (13 : Int32))] [(.int (1 : Int32)), (.int ((((i.toUInt32 >>> ((16 : Int32) &&& 31).toUInt32).toInt32).toUInt32 >>> ((2 : Int32) &&& 31).toUInt32).toInt32)), (.int (13 : Int32))])) (fun tg kk => XS.iconst X0.here hx rfl (hb hby own_d3_75) kk) ?_
            refine OwnGo.back (s₁.setTop (mkF m 77 #[.val (.int ((((i.toUInt32 >>> ((16 : Int32) &&& 31).toUInt32).toInt32).toUInt32 >>> ((2 : Int32) &&& 31).toUInt32).toInt32)), .val (.int (13 : Int32))] [(.int ((((((i.toUInt32 >>> ((16 : Int32) &&& 31).toUInt32).toInt32).toUInt32 >>> ((2 : Int32) &&& 31).toUInt32).toInt32).toUInt32 >>> ((1 : Int32) &&& 31).toUInt32).toInt32)), (.int (13 : Int32))])) (fun tg kk => XS.iushr X0.here hx rfl (hb hby own_d3_76) rfl kk) ?_
            refine OwnGo.back (s₁.setTop (mkF m 78 #[.val (.int ((((i.toUInt32 >>> ((16 : Int32) &&& 31).toUInt32).toInt32).toUInt32 >>> ((2 : Int32) &&& 31).toUInt32).toInt32)), .val (.int (13 : Int32))] [(.int ((13 : Int32) - ((((((i.toUInt32 >>> ((16 : Int32) &&& 31).toUInt32).toInt32).toUInt32 >>> ((2 : Int32) &&& 31).toUInt32).toInt32).toUInt32 >>> ((1 : Int32) &&& 31).toUInt32).toInt32)))])) (fun tg kk => XS.isub X0.here hx rfl (hb hby own_d3_77) rfl kk) ?_
            obtain ⟨fs, hr, hrun, hended, hW, hsame⟩ := X0.leave (v := some (.int ((13 : Int32) - ((((((i.toUInt32 >>> ((16 : Int32) &&& 31).toUInt32).toInt32).toUInt32 >>> ((2 : Int32) &&& 31).toUInt32).toInt32).toUInt32 >>> ((1 : Int32) &&& 31).toUInt32).toInt32)))) (fun h => by rw [Bd.returns] at h; cases h)
            refine ⟨_, _, ?_, hrun, hended, _, _, rfl, ?_, ⟨_, rfl⟩, hW, hsame.mono (by decide) (by decide)⟩
            · exact own_retI X0 hx Bd.returns (hb hby own_d3_78) hr
            · show own_ni_Q Z i h0 n0 _ s₁.heap _
              rw [e0]
              exact ⟨((13 : Int32) - ((((((i.toUInt32 >>> ((16 : Int32) &&& 31).toUInt32).toInt32).toUInt32 >>> ((2 : Int32) &&& 31).toUInt32).toInt32).toUInt32 >>> ((1 : Int32) &&& 31).toUInt32).toInt32)), rfl, N0, rfl, (by have a0 : ((i.toUInt32 >>> ((16 : Int32) &&& 31).toUInt32).toInt32).toInt = i.toInt % 4294967296 / 65536 := c_iushr _ _ 16 (by decide) (by decide); have a1 : ((((i.toUInt32 >>> ((16 : Int32) &&& 31).toUInt32).toInt32).toUInt32 >>> ((2 : Int32) &&& 31).toUInt32).toInt32).toInt = ((i.toUInt32 >>> ((16 : Int32) &&& 31).toUInt32).toInt32).toInt % 4294967296 / 4 := c_iushr _ _ 2 (by decide) (by decide); have b : ((((((i.toUInt32 >>> ((16 : Int32) &&& 31).toUInt32).toInt32).toUInt32 >>> ((2 : Int32) &&& 31).toUInt32).toInt32).toUInt32 >>> ((1 : Int32) &&& 31).toUInt32).toInt32).toInt = ((((i.toUInt32 >>> ((16 : Int32) &&& 31).toUInt32).toInt32).toUInt32 >>> ((2 : Int32) &&& 31).toUInt32).toInt32).toInt % 4294967296 / 2 := c_iushr _ _ 1 (by decide) (by decide); have s := c_isub (13 : Int32) ((((((i.toUInt32 >>> ((16 : Int32) &&& 31).toUInt32).toInt32).toUInt32 >>> ((2 : Int32) &&& 31).toUInt32).toInt32).toUInt32 >>> ((1 : Int32) &&& 31).toUInt32).toInt32); have r := rng32 ((13 : Int32) - ((((((i.toUInt32 >>> ((16 : Int32) &&& 31).toUInt32).toInt32).toUInt32 >>> ((2 : Int32) &&& 31).toUInt32).toInt32).toUInt32 >>> ((1 : Int32) &&& 31).toUInt32).toInt32)); have ri := rng32 i; simp only [true_and, and_true, false_and, and_false, or_false, false_or, or_true, true_or, not_true_eq_false, not_false_eq_true, eq_self, Int32.lt_iff_toInt_lt, Int32.le_iff_toInt_le, ← Int32.toInt_inj, Int32.reduceToInt, Int64.lt_iff_toInt_lt, Int64.le_iff_toInt_le, ← Int64.toInt_inj, Int64.reduceToInt] at hc1 hc2 hc10 hc11 hc12 hi s; rcases Decidable.em (((((i.toUInt32 >>> ((16 : Int32) &&& 31).toUInt32).toInt32).toUInt32 >>> ((2 : Int32) &&& 31).toUInt32).toInt32).toInt < 2) with hq | hq; exact ⟨18, by decide, by omega, by omega, by omega⟩; exact ⟨19, by decide, by omega, by omega, by omega⟩)⟩
        ·
          refine OwnGo.back (s₁.setTop (mkF m 54 #[.val (.int ((i.toUInt32 >>> ((16 : Int32) &&& 31).toUInt32).toInt32)), .val (.int (15 : Int32))] [])) (fun tg kk => XS.icmpNo X0.here hx rfl (hb hby own_d3_51) rfl (flt hc11).1 kk) ?_
          refine OwnGo.back (s₁.setTop (mkF m 57 #[.val (.int ((i.toUInt32 >>> ((16 : Int32) &&& 31).toUInt32).toInt32)), .val (.int (11 : Int32))] [])) (fun tg kk => XS.iinc X0.here hx rfl (hb hby own_d3_54) rfl (l' := #[.val (.int ((i.toUInt32 >>> ((16 : Int32) &&& 31).toUInt32).toInt32)), .val (.int (11 : Int32))]) rfl kk) ?_
          refine OwnGo.back (s₁.setTop (mkF m 58 #[.val (.int ((i.toUInt32 >>> ((16 : Int32) &&& 31).toUInt32).toInt32)), .val (.int (11 : Int32))] [(.int ((i.toUInt32 >>> ((16 : Int32) &&& 31).toUInt32).toInt32))])) (fun tg kk => XS.iloadN X0.here hx rfl (hb hby own_d3_57) rfl kk) ?_
          refine OwnGo.back (s₁.setTop (mkF m 59 #[.val (.int ((i.toUInt32 >>> ((16 : Int32) &&& 31).toUInt32).toInt32)), .val (.int (11 : Int32))] [(.int (4 : Int32)), (.int ((i.toUInt32 >>> ((16 : Int32) &&& 31).toUInt32).toInt32))])) (fun tg kk => XS.iconst X0.here hx rfl (hb hby own_d3_58) kk) ?_
          refine OwnGo.back (s₁.setTop (mkF m 60 #[.val (.int ((i.toUInt32 >>> ((16 : Int32) &&& 31).toUInt32).toInt32)), .val (.int (11 : Int32))] [(.int ((((i.toUInt32 >>> ((16 : Int32) &&& 31).toUInt32).toInt32).toUInt32 >>> ((4 : Int32) &&& 31).toUInt32).toInt32))])) (fun tg kk => XS.iushr X0.here hx rfl (hb hby own_d3_59) rfl kk) ?_
          refine OwnGo.back (s₁.setTop (mkF m 61 #[.val (.int ((((i.toUInt32 >>> ((16 : Int32) &&& 31).toUInt32).toInt32).toUInt32 >>> ((4 : Int32) &&& 31).toUInt32).toInt32)), .val (.int (11 : Int32))] [])) (fun tg kk => XS.istoreN X0.here hx rfl (hb hby own_d3_60) rfl (l' := #[.val (.int ((((i.toUInt32 >>> ((16 : Int32) &&& 31).toUInt32).toInt32).toUInt32 >>> ((4 : Int32) &&& 31).toUInt32).toInt32)), .val (.int (11 : Int32))]) rfl kk) ?_
          refine OwnGo.back (s₁.setTop (mkF m 62 #[.val (.int ((((i.toUInt32 >>> ((16 : Int32) &&& 31).toUInt32).toInt32).toUInt32 >>> ((4 : Int32) &&& 31).toUInt32).toInt32)), .val (.int (11 : Int32))] [(.int ((((i.toUInt32 >>> ((16 : Int32) &&& 31).toUInt32).toInt32).toUInt32 >>> ((4 : Int32) &&& 31).toUInt32).toInt32))])) (fun tg kk => XS.iloadN X0.here hx rfl (hb hby own_d3_61) rfl kk) ?_
          refine OwnGo.back (s₁.setTop (mkF m 63 #[.val (.int ((((i.toUInt32 >>> ((16 : Int32) &&& 31).toUInt32).toInt32).toUInt32 >>> ((4 : Int32) &&& 31).toUInt32).toInt32)), .val (.int (11 : Int32))] [(.int (4 : Int32)), (.int ((((i.toUInt32 >>> ((16 : Int32) &&& 31).toUInt32).toInt32).toUInt32 >>> ((4 : Int32) &&& 31).toUInt32).toInt32))])) (fun tg kk => XS.iconst X0.here hx rfl (hb hby own_d3_62) kk) ?_
          by_cases hc13 : ((((i.toUInt32 >>> ((16 : Int32) &&& 31).toUInt32).toInt32).toUInt32 >>> ((4 : Int32) &&& 31).toUInt32).toInt32) < (4 : Int32)
          ·
            refine OwnGo.back (s₁.setTop (mkF m 73 #[.val (.int ((((i.toUInt32 >>> ((16 : Int32) &&& 31).toUInt32).toInt32).toUInt32 >>> ((4 : Int32) &&& 31).toUInt32).toInt32)), .val (.int (11 : Int32))] [])) (fun tg kk => XS.icmpYes X0.here hx rfl (pc0 := 63) (pc' := 73) rfl (hb hby own_d3_63) rfl (tlt hc13).1 (by decide) (by decide) kk) ?_
            refine OwnGo.back (s₁.setTop (mkF m 74 #[.val (.int ((((i.toUInt32 >>> ((16 : Int32) &&& 31).toUInt32).toInt32).toUInt32 >>> ((4 : Int32) &&& 31).toUInt32).toInt32)), .val (.int (11 : Int32))] [(.int (11 : Int32))])) (fun tg kk => XS.iloadN X0.here hx rfl (hb hby own_d3_73) rfl kk) ?_
            refine OwnGo.back (s₁.setTop (mkF m 75 #[.val (.int ((((i.toUInt32 >>> ((16 : Int32) &&& 31).toUInt32).toInt32).toUInt32 >>> ((4 : Int32) &&& 31).toUInt32).toInt32)), .val (.int (11 : Int32))] [(.int ((((i.toUInt32 >>> ((16 : Int32) &&& 31).toUInt32).toInt32).toUInt32 >>> ((4 : Int32) &&& 31).toUInt32).toInt32)), (.int (11 : Int32))])) (fun tg kk => XS.iloadN X0.here hx rfl (hb hby own_d3_74) rfl kk) ?_
            refine OwnGo.back (s₁.setTop (mkF m 76 #[.val (.int ((((i.toUInt32 >>> ((16 : Int32) &&& 31).toUInt32).toInt32).toUInt32 >>> ((4 : Int32) &&& 31).toUInt32).toInt32)), .val (.int (11 : Int32))] [(.int (1 : Int32)), (.int ((((i.toUInt32 >>> ((16 : Int32) &&& 31).toUInt32).toInt32).toUInt32 >>> ((4 : Int32) &&& 31).toUInt32).toInt32)), (.int (11 : Int32))])) (fun tg kk => XS.iconst X0.here hx rfl (hb hby own_d3_75) kk) ?_
            refine OwnGo.back (s₁.setTop (mkF m 77 #[.val (.int ((((i.toUInt32 >>> ((16 : Int32) &&& 31).toUInt32).toInt32).toUInt32 >>> ((4 : Int32) &&& 31).toUInt32).toInt32)), .val (.int (11 : Int32))] [(.int ((((((i.toUInt32 >>> ((16 : Int32) &&& 31).toUInt32).toInt32).toUInt32 >>> ((4 : Int32) &&& 31).toUInt32).toInt32).toUInt32 >>> ((1 : Int32) &&& 31).toUInt32).toInt32)), (.int (11 : Int32))])) (fun tg kk => XS.iushr X0.here hx rfl (hb hby own_d3_76) rfl kk) ?_
            refine OwnGo.back (s₁.setTop (mkF m 78 #[.val (.int ((((i.toUInt32 >>> ((16 : Int32) &&& 31).toUInt32).toInt32).toUInt32 >>> ((4 : Int32) &&& 31).toUInt32).toInt32)), .val (.int (11 : Int32))] [(.int ((11 : Int32) - ((((((i.toUInt32 >>> ((16 : Int32) &&& 31).toUInt32).toInt32).toUInt32 >>> ((4 : Int32) &&& 31).toUInt32).toInt32).toUInt32 >>> ((1 : Int32) &&& 31).toUInt32).toInt32)))])) (fun tg kk => XS.isub X0.here hx rfl (hb hby own_d3_77) rfl kk) ?_
            obtain ⟨fs, hr, hrun, hended, hW, hsame⟩ := X0.leave (v := some (.int ((11 : Int32) - ((((((i.toUInt32 >>> ((16 : Int32) &&& 31).toUInt32).toInt32).toUInt32 >>> ((4 : Int32) &&& 31).toUInt32).toInt32).toUInt32 >>> ((1 : Int32) &&& 31).toUInt32).toInt32)))) (fun h => by rw [Bd.returns] at h; cases h)
            refine ⟨_, _, ?_, hrun, hended, _, _, rfl, ?_, ⟨_, rfl⟩, hW, hsame.mono (by decide) (by decide)⟩
            · exact own_retI X0 hx Bd.returns (hb hby own_d3_78) hr
            · show own_ni_Q Z i h0 n0 _ s₁.heap _
              rw [e0]
              exact ⟨((11 : Int32) - ((((((i.toUInt32 >>> ((16 : Int32) &&& 31).toUInt32).toInt32).toUInt32 >>> ((4 : Int32) &&& 31).toUInt32).toInt32).toUInt32 >>> ((1 : Int32) &&& 31).toUInt32).toInt32)), rfl, N0, rfl, (by have a0 : ((i.toUInt32 >>> ((16 : Int32) &&& 31).toUInt32).toInt32).toInt = i.toInt % 4294967296 / 65536 := c_iushr _ _ 16 (by decide) (by decide); have a1 : ((((i.toUInt32 >>> ((16 : Int32) &&& 31).toUInt32).toInt32).toUInt32 >>> ((4 : Int32) &&& 31).toUInt32).toInt32).toInt = ((i.toUInt32 >>> ((16 : Int32) &&& 31).toUInt32).toInt32).toInt % 4294967296 / 16 := c_iushr _ _ 4 (by decide) (by decide); have b : ((((((i.toUInt32 >>> ((16 : Int32) &&& 31).toUInt32).toInt32).toUInt32 >>> ((4 : Int32) &&& 31).toUInt32).toInt32).toUInt32 >>> ((1 : Int32) &&& 31).toUInt32).toInt32).toInt = ((((i.toUInt32 >>> ((16 : Int32) &&& 31).toUInt32).toInt32).toUInt32 >>> ((4 : Int32) &&& 31).toUInt32).toInt32).toInt % 4294967296 / 2 := c_iushr _ _ 1 (by decide) (by decide); have s := c_isub (11 : Int32) ((((((i.toUInt32 >>> ((16 : Int32) &&& 31).toUInt32).toInt32).toUInt32 >>> ((4 : Int32) &&& 31).toUInt32).toInt32).toUInt32 >>> ((1 : Int32) &&& 31).toUInt32).toInt32); have r := rng32 ((11 : Int32) - ((((((i.toUInt32 >>> ((16 : Int32) &&& 31).toUInt32).toInt32).toUInt32 >>> ((4 : Int32) &&& 31).toUInt32).toInt32).toUInt32 >>> ((1 : Int32) &&& 31).toUInt32).toInt32)); have ri := rng32 i; simp only [true_and, and_true, false_and, and_false, or_false, false_or, or_true, true_or, not_true_eq_false, not_false_eq_true, eq_self, Int32.lt_iff_toInt_lt, Int32.le_iff_toInt_le, ← Int32.toInt_inj, Int32.reduceToInt, Int64.lt_iff_toInt_lt, Int64.le_iff_toInt_le, ← Int64.toInt_inj, Int64.reduceToInt] at hc1 hc2 hc10 hc11 hc13 hi s; rcases Decidable.em (((((i.toUInt32 >>> ((16 : Int32) &&& 31).toUInt32).toInt32).toUInt32 >>> ((4 : Int32) &&& 31).toUInt32).toInt32).toInt < 2) with hq | hq; exact ⟨20, by decide, by omega, by omega, by omega⟩; exact ⟨21, by decide, by omega, by omega, by omega⟩)⟩
          ·
            refine OwnGo.back (s₁.setTop (mkF m 66 #[.val (.int ((((i.toUInt32 >>> ((16 : Int32) &&& 31).toUInt32).toInt32).toUInt32 >>> ((4 : Int32) &&& 31).toUInt32).toInt32)), .val (.int (11 : Int32))] [])) (fun tg kk => XS.icmpNo X0.here hx rfl (hb hby own_d3_63) rfl (flt hc13).1 kk) ?_
            refine OwnGo.back (s₁.setTop (mkF m 69 #[.val (.int ((((i.toUInt32 >>> ((16 : Int32) &&& 31).toUInt32).toInt32).toUInt32 >>> ((4 : Int32) &&& 31).toUInt32).toInt32)), .val (.int (9 : Int32))] [])) (fun tg kk => XS.iinc X0.here hx rfl (hb hby own_d3_66) rfl (l' := #[.val (.int ((((i.toUInt32 >>> ((16 : Int32) &&& 31).toUInt32).toInt32).toUInt32 >>> ((4 : Int32) &&& 31).toUInt32).toInt32)), .val (.int (9 : Int32))]) rfl kk) ?_
            refine OwnGo.back (s₁.setTop (mkF m 70 #[.val (.int ((((i.toUInt32 >>> ((16 : Int32) &&& 31).toUInt32).toInt32).toUInt32 >>> ((4 : Int32) &&& 31).toUInt32).toInt32)), .val (.int (9 : Int32))] [(.int ((((i.toUInt32 >>> ((16 : Int32) &&& 31).toUInt32).toInt32).toUInt32 >>> ((4 : Int32) &&& 31).toUInt32).toInt32))])) (fun tg kk => XS.iloadN X0.here hx rfl (hb hby own_d3_69) rfl kk) ?_
            refine OwnGo.back (s₁.setTop (mkF m 71 #[.val (.int ((((i.toUInt32 >>> ((16 : Int32) &&& 31).toUInt32).toInt32).toUInt32 >>> ((4 : Int32) &&& 31).toUInt32).toInt32)), .val (.int (9 : Int32))] [(.int (2 : Int32)), (.int ((((i.toUInt32 >>> ((16 : Int32) &&& 31).toUInt32).toInt32).toUInt32 >>> ((4 : Int32) &&& 31).toUInt32).toInt32))])) (fun tg kk => XS.iconst X0.here hx rfl (hb hby own_d3_70) kk) ?_
            refine OwnGo.back (s₁.setTop (mkF m 72 #[.val (.int ((((i.toUInt32 >>> ((16 : Int32) &&& 31).toUInt32).toInt32).toUInt32 >>> ((4 : Int32) &&& 31).toUInt32).toInt32)), .val (.int (9 : Int32))] [(.int ((((((i.toUInt32 >>> ((16 : Int32) &&& 31).toUInt32).toInt32).toUInt32 >>> ((4 : Int32) &&& 31).toUInt32).toInt32).toUInt32 >>> ((2 : Int32) &&& 31).toUInt32).toInt32))])) (fun tg kk => XS.iushr X0.here hx rfl (hb hby own_d3_71) rfl kk) ?_
            refine OwnGo.back (s₁.setTop (mkF m 73 #[.val (.int ((((((i.toUInt32 >>> ((16 : Int32) &&& 31).toUInt32).toInt32).toUInt32 >>> ((4 : Int32) &&& 31).toUInt32).toInt32).toUInt32 >>> ((2 : Int32) &&& 31).toUInt32).toInt32)), .val (.int (9 : Int32))] [])) (fun tg kk => XS.istoreN X0.here hx rfl (hb hby own_d3_72) rfl (l' := #[.val (.int ((((((i.toUInt32 >>> ((16 : Int32) &&& 31).toUInt32).toInt32).toUInt32 >>> ((4 : Int32) &&& 31).toUInt32).toInt32).toUInt32 >>> ((2 : Int32) &&& 31).toUInt32).toInt32)), .val (.int (9 : Int32))]) rfl kk) ?_
            refine OwnGo.back (s₁.setTop (mkF m 74 #[.val (.int ((((((i.toUInt32 >>> ((16 : Int32) &&& 31).toUInt32).toInt32).toUInt32 >>> ((4 : Int32) &&& 31).toUInt32).toInt32).toUInt32 >>> ((2 : Int32) &&& 31).toUInt32).toInt32)), .val (.int (9 : Int32))] [(.int (9 : Int32))])) (fun tg kk => XS.iloadN X0.here hx rfl (hb hby own_d3_73) rfl kk) ?_
            refine OwnGo.back (s₁.setTop (mkF m 75 #[.val (.int ((((((i.toUInt32 >>> ((16 : Int32) &&& 31).toUInt32).toInt32).toUInt32 >>> ((4 : Int32) &&& 31).toUInt32).toInt32).toUInt32 >>> ((2 : Int32) &&& 31).toUInt32).toInt32)), .val (.int (9 : Int32))] [(.int ((((((i.toUInt32 >>> ((16 : Int32) &&& 31).toUInt32).toInt32).toUInt32 >>> ((4 : Int32) &&& 31).toUInt32).toInt32).toUInt32 >>> ((2 : Int32) &&& 31).toUInt32).toInt32)), (.int (9 : Int32))])) (fun tg kk => XS.iloadN X0.here hx rfl (hb hby own_d3_74) rfl kk) ?_
            refine OwnGo.back (s₁.setTop (mkF m 76 #[.val (.int ((((((i.toUInt32 >>> ((16 : Int32) &&& 31).toUInt32).toInt32).toUInt32 >>> ((4 : Int32) &&& 31).toUInt32).toInt32).toUInt32 >>> ((2 : Int32) &&& 31).toUInt32).toInt32)), .val (.int (9 : Int32))] [(.int (1 : Int32)), (.int ((((((i.toUInt32 >>> ((16 : Int32) &&& 31).toUInt32).toInt32).toUInt32 >>> ((4 : Int32) &&& 31).toUInt32).toInt32).toUInt32 >>> ((2 : Int32) &&& 31).toUInt32).toInt32)), (.int (9 : Int32))])) (fun tg kk => XS.iconst X0.here hx rfl (hb hby own_d3_75) kk) ?_
            refine OwnGo.back (s₁.setTop (mkF m 77 #[.val (.int ((((((i.toUInt32 >>> ((16 : Int32) &&& 31).toUInt32).toInt32).toUInt32 >>> ((4 : Int32) &&& 31).toUInt32).toInt32).toUInt32 >>> ((2 : Int32) &&& 31).toUInt32).toInt32)), .val (.int (9 : Int32))] [(.int ((((((((i.toUInt32 >>> ((16 : Int32) &&& 31).toUInt32).toInt32).toUInt32 >>> ((4 : Int32) &&& 31).toUInt32).toInt32).toUInt32 >>> ((2 : Int32) &&& 31).toUInt32).toInt32).toUInt32 >>> ((1 : Int32) &&& 31).toUInt32).toInt32)), (.int (9 : Int32))])) (fun tg kk => XS.iushr X0.here hx rfl (hb hby own_d3_76) rfl kk) ?_
            refine OwnGo.back (s₁.setTop (mkF m 78 #[.val (.int ((((((i.toUInt32 >>> ((16 : Int32) &&& 31).toUInt32).toInt32).toUInt32 >>> ((4 : Int32) &&& 31).toUInt32).toInt32).toUInt32 >>> ((2 : Int32) &&& 31).toUInt32).toInt32)), .val (.int (9 : Int32))] [(.int ((9 : Int32) - ((((((((i.toUInt32 >>> ((16 : Int32) &&& 31).toUInt32).toInt32).toUInt32 >>> ((4 : Int32) &&& 31).toUInt32).toInt32).toUInt32 >>> ((2 : Int32) &&& 31).toUInt32).toInt32).toUInt32 >>> ((1 : Int32) &&& 31).toUInt32).toInt32)))])) (fun tg kk => XS.isub X0.here hx rfl (hb hby own_d3_77) rfl kk) ?_
            obtain ⟨fs, hr, hrun, hended, hW, hsame⟩ := X0.leave (v := some (.int ((9 : Int32) - ((((((((i.toUInt32 >>> ((16 : Int32) &&& 31).toUInt32).toInt32).toUInt32 >>> ((4 : Int32) &&& 31).toUInt32).toInt32).toUInt32 >>> ((2 : Int32) &&& 31).toUInt32).toInt32).toUInt32 >>> ((1 : Int32) &&& 31).toUInt32).toInt32)))) (fun h => by rw [Bd.returns] at h; cases h)
            refine ⟨_, _, ?_, hrun, hended, _, _, rfl, ?_, ⟨_, rfl⟩, hW, hsame.mono (by decide) (by decide)⟩
            · exact own_retI X0 hx Bd.returns (hb hby own_d3_78) hr
            · show own_ni_Q Z i h0 n0 _ s₁.heap _
              rw [e0]
              exact ⟨((9 : Int32) - ((((((((i.toUInt32 >>> ((16 : Int32) &&& 31).toUInt32).toInt32).toUInt32 >>> ((4 : Int32) &&& 31).toUInt32).toInt32).toUInt32 >>> ((2 : Int32) &&& 31).toUInt32).toInt32).toUInt32 >>> ((1 : Int32) &&& 31).toUInt32).toInt32)), rfl, N0, rfl, (by have a0 : ((i.toUInt32 >>> ((16 : Int32) &&& 31).toUInt32).toInt32).toInt = i.toInt % 4294967296 / 65536 := c_iushr _ _ 16 (by decide) (by decide); have a1 : ((((i.toUInt32 >>> ((16 : Int32) &&& 31).toUInt32).toInt32).toUInt32 >>> ((4 : Int32) &&& 31).toUInt32).toInt32).toInt = ((i.toUInt32 >>> ((16 : Int32) &&& 31).toUInt32).toInt32).toInt % 4294967296 / 16 := c_iushr _ _ 4 (by decide) (by decide); have a2 : ((((((i.toUInt32 >>> ((16 : Int32) &&& 31).toUInt32).toInt32).toUInt32 >>> ((4 : Int32) &&& 31).toUInt32).toInt32).toUInt32 >>> ((2 : Int32) &&& 31).toUInt32).toInt32).toInt = ((((i.toUInt32 >>> ((16 : Int32) &&& 31).toUInt32).toInt32).toUInt32 >>> ((4 : Int32) &&& 31).toUInt32).toInt32).toInt % 4294967296 / 4 := c_iushr _ _ 2 (by decide) (by decide); have b : ((((((((i.toUInt32 >>> ((16 : Int32) &&& 31).toUInt32).toInt32).toUInt32 >>> ((4 : Int32) &&& 31).toUInt32).toInt32).toUInt32 >>> ((2 : Int32) &&& 31).toUInt32).toInt32).toUInt32 >>> ((1 : Int32) &&& 31).toUInt32).toInt32).toInt = ((((((i.toUInt32 >>> ((16 : Int32) &&& 31).toUInt32).toInt32).toUInt32 >>> ((4 : Int32) &&& 31).toUInt32).toInt32).toUInt32 >>> ((2 : Int32) &&& 31).toUInt32).toInt32).toInt % 4294967296 / 2 := c_iushr _ _ 1 (by decide) (by decide); have s := c_isub (9 : Int32) ((((((((i.toUInt32 >>> ((16 : Int32) &&& 31).toUInt32).toInt32).toUInt32 >>> ((4 : Int32) &&& 31).toUInt32).toInt32).toUInt32 >>> ((2 : Int32) &&& 31).toUInt32).toInt32).toUInt32 >>> ((1 : Int32) &&& 31).toUInt32).toInt32); have r := rng32 ((9 : Int32) - ((((((((i.toUInt32 >>> ((16 : Int32) &&& 31).toUInt32).toInt32).toUInt32 >>> ((4 : Int32) &&& 31).toUInt32).toInt32).toUInt32 >>> ((2 : Int32) &&& 31).toUInt32).toInt32).toUInt32 >>> ((1 : Int32) &&& 31).toUInt32).toInt32)); have ri := rng32 i; simp only [true_and, and_true, false_and, and_false, or_false, false_or, or_true, true_or, not_true_eq_false, not_false_eq_true, eq_self, Int32.lt_iff_toInt_lt, Int32.le_iff_toInt_le, ← Int32.toInt_inj, Int32.reduceToInt, Int64.lt_iff_toInt_lt, Int64.le_iff_toInt_le, ← Int64.toInt_inj, Int64.reduceToInt] at hc1 hc2 hc10 hc11 hc13 hi s; rcases Decidable.em (((((((i.toUInt32 >>> ((16 : Int32) &&& 31).toUInt32).toInt32).toUInt32 >>> ((4 : Int32) &&& 31).toUInt32).toInt32).toUInt32 >>> ((2 : Int32) &&& 31).toUInt32).toInt32).toInt < 2) with hq | hq; exact ⟨22, by decide, by omega, by omega, by omega⟩; exact ⟨23, by decide, by omega, by omega, by omega⟩)⟩
      ·
        refine OwnGo.back (s₁.setTop (mkF m 40 #[.val (.int ((i.toUInt32 >>> ((16 : Int32) &&& 31).toUInt32).toInt32)), .val (.int (15 : Int32))] [])) (fun tg kk => XS.icmpNo X0.here hx rfl (hb hby own_d3_37) rfl (flt hc10).1 kk) ?_
        refine OwnGo.back (s₁.setTop (mkF m 43 #[.val (.int ((i.toUInt32 >>> ((16 : Int32) &&& 31).toUInt32).toInt32)), .val (.int (7 : Int32))] [])) (fun tg kk => XS.iinc X0.here hx rfl (hb hby own_d3_40) rfl (l' := #[.val (.int ((i.toUInt32 >>> ((16 : Int32) &&& 31).toUInt32).toInt32)), .val (.int (7 : Int32))]) rfl kk) ?_
        refine OwnGo.back (s₁.setTop (mkF m 44 #[.val (.int ((i.toUInt32 >>> ((16 : Int32) &&& 31).toUInt32).toInt32)), .val (.int (7 : Int32))] [(.int ((i.toUInt32 >>> ((16 : Int32) &&& 31).toUInt32).toInt32))])) (fun tg kk => XS.iloadN X0.here hx rfl (hb hby own_d3_43) rfl kk) ?_
        refine OwnGo.back (s₁.setTop (mkF m 46 #[.val (.int ((i.toUInt32 >>> ((16 : Int32) &&& 31).toUInt32).toInt32)), .val (.int (7 : Int32))] [(.int (8 : Int32)), (.int ((i.toUInt32 >>> ((16 : Int32) &&& 31).toUInt32).toInt32))])) (fun tg kk => XS.bipush X0.here hx rfl (hb hby own_d3_44) kk) ?_
        refine OwnGo.back (s₁.setTop (mkF m 47 #[.val (.int ((i.toUInt32 >>> ((16 : Int32) &&& 31).toUInt32).toInt32)), .val (.int (7 : Int32))] [(.int ((((i.toUInt32 >>> ((16 : Int32) &&& 31).toUInt32).toInt32).toUInt32 >>> ((8 : Int32) &&& 31).toUInt32).toInt32))])) (fun tg kk => XS.iushr X0.here hx rfl (hb hby own_d3_46) rfl kk) ?_
        refine OwnGo.back (s₁.setTop (mkF m 48 #[.val (.int ((((i.toUInt32 >>> ((16 : Int32) &&& 31).toUInt32).toInt32).toUInt32 >>> ((8 : Int32) &&& 31).toUInt32).toInt32)), .val (.int (7 : Int32))] [])) (fun tg kk => XS.istoreN X0.here hx rfl (hb hby own_d3_47) rfl (l' := #[.val (.int ((((i.toUInt32 >>> ((16 : Int32) &&& 31).toUInt32).toInt32).toUInt32 >>> ((8 : Int32) &&& 31).toUInt32).toInt32)), .val (.int (7 : Int32))]) rfl kk) ?_
        refine OwnGo.back (s₁.setTop (mkF m 49 #[.val (.int ((((i.toUInt32 >>> ((16 : Int32) &&& 31).toUInt32).toInt32).toUInt32 >>> ((8 : Int32) &&& 31).toUInt32).toInt32)), .val (.int (7 : Int32))] [(.int ((((i.toUInt32 >>> ((16 : Int32) &&& 31).toUInt32).toInt32).toUInt32 >>> ((8 : Int32) &&& 31).toUInt32).toInt32))])) (fun tg kk => XS.iloadN X0.here hx rfl (hb hby own_d3_48) rfl kk) ?_
        refine OwnGo.back (s₁.setTop (mkF m 51 #[.val (.int ((((i.toUInt32 >>> ((16 : Int32) &&& 31).toUInt32).toInt32).toUInt32 >>> ((8 : Int32) &&& 31).toUInt32).toInt32)), .val (.int (7 : Int32))] [(.int (16 : Int32)), (.int ((((i.toUInt32 >>> ((16 : Int32) &&& 31).toUInt32).toInt32).toUInt32 >>> ((8 : Int32) &&& 31).toUInt32).toInt32))])) (fun tg kk => XS.bipush X0.here hx rfl (hb hby own_d3_49) kk) ?_
        by_cases hc14 : ((((i.toUInt32 >>> ((16 : Int32) &&& 31).toUInt32).toInt32).toUInt32 >>> ((8 : Int32) &&& 31).toUInt32).toInt32) < (16 : Int32)
        ·
          refine OwnGo.back (s₁.setTop (mkF m 61 #[.val (.int ((((i.toUInt32 >>> ((16 : Int32) &&& 31).toUInt32).toInt32).toUInt32 >>> ((8 : Int32) &&& 31).toUInt32).toInt32)), .val (.int (7 : Int32))] [])) (fun tg kk => XS.icmpYes X0.here hx rfl (pc0 := 51) (pc' := 61) rfl (hb hby own_d3_51) rfl (tlt hc14).1 (by decide) (by decide) kk) ?_
          refine OwnGo.back (s₁.setTop (mkF m 62 #[.val (.int ((((i.toUInt32 >>> ((16 : Int32) &&& 31).toUInt32).toInt32).toUInt32 >>> ((8 : Int32) &&& 31).toUInt32).toInt32)), .val (.int (7 : Int32))] [(.int ((((i.toUInt32 >>> ((16 : Int32) &&& 31).toUInt32).toInt32).toUInt32 >>> ((8 : Int32) &&& 31).toUInt32).toInt32))])) (fun tg kk => XS.iloadN X0.here hx rfl (hb hby own_d3_61) rfl kk) ?_
          refine OwnGo.back (s₁.setTop (mkF m 63 #[.val (.int ((((i.toUInt32 >>> ((16 : Int32) &&& 31).toUInt32).toInt32).toUInt32 >>> ((8 : Int32) &&& 31).toUInt32).toInt32)), .val (.int (7 : Int32))] [(.int (4 : Int32)), (.int ((((i.toUInt32 >>> ((16 : Int32) &&& 31).toUInt32).toInt32).toUInt32 >>> ((8 : Int32) &&& 31).toUInt32).toInt32))])) (fun tg kk => XS.iconst X0.here hx rfl (hb hby own_d3_62) kk) ?_
          by_cases hc15 : ((((i.toUInt32 >>> ((16 : Int32) &&& 31).toUInt32).toInt32).toUInt32 >>> ((8 : Int32) &&& 31).toUInt32).toInt32) < (4 : Int32)
          ·
            refine OwnGo.back (s₁.setTop (mkF m 73 #[.val (.int ((((i.toUInt32 >>> ((16 : Int32) &&& 31).toUInt32).toInt32).toUInt32 >>> ((8 : Int32) &&& 31).toUInt32).toInt32)), .val (.int (7 : Int32))] [])) (fun tg kk => XS.icmpYes X0.here hx rfl (pc0 := 63) (pc' := 73) rfl (hb hby own_d3_63) rfl (tlt hc15).1 (by decide) (by decide) kk) ?_
            refine OwnGo.back (s₁.setTop (mkF m 74 #[.val (.int ((((i.toUInt32 >>> ((16 : Int32) &&& 31).toUInt32).toInt32).toUInt32 >>> ((8 : Int32) &&& 31).toUInt32).toInt32)), .val (.int (7 : Int32))] [(.int (7 : Int32))])) (fun tg kk => XS.iloadN X0.here hx rfl (hb hby own_d3_73) rfl kk) ?_
            refine OwnGo.back (s₁.setTop (mkF m 75 #[.val (.int ((((i.toUInt32 >>> ((16 : Int32) &&& 31).toUInt32).toInt32).toUInt32 >>> ((8 : Int32) &&& 31).toUInt32).toInt32)), .val (.int (7 : Int32))] [(.int ((((i.toUInt32 >>> ((16 : Int32) &&& 31).toUInt32).toInt32).toUInt32 >>> ((8 : Int32) &&& 31).toUInt32).toInt32)), (.int (7 : Int32))])) (fun tg kk => XS.iloadN X0.here hx rfl (hb hby own_d3_74) rfl kk) ?_
            refine OwnGo.back (s₁.setTop (mkF m 76 #[.val (.int ((((i.toUInt32 >>> ((16 : Int32) &&& 31).toUInt32).toInt32).toUInt32 >>> ((8 : Int32) &&& 31).toUInt32).toInt32)), .val (.int (7 : Int32))] [(.int (1 : Int32)), (.int ((((i.toUInt32 >>> ((16 : Int32) &&& 31).toUInt32).toInt32).toUInt32 >>> ((8 : Int32) &&& 31).toUInt32).toInt32)), (.int (7 : Int32))])) (fun tg kk => XS.iconst X0.here hx rfl (hb hby own_d3_75) kk) ?_
            refine OwnGo.back (s₁.setTop (mkF m 77 #[.val (.int ((((i.toUInt32 >>> ((16 : Int32) &&& 31).toUInt32).toInt32).toUInt32 >>> ((8 : Int32) &&& 31).toUInt32).toInt32)), .val (.int (7 : Int32))] [(.int ((((((i.toUInt32 >>> ((16 : Int32) &&& 31).toUInt32).toInt32).toUInt32 >>> ((8 : Int32) &&& 31).toUInt32).toInt32).toUInt32 >>> ((1 : Int32) &&& 31).toUInt32).toInt32)), (.int (7 : Int32))])) (fun tg kk => XS.iushr X0.here hx rfl (hb hby own_d3_76) rfl kk) ?_
            refine OwnGo.back (s₁.setTop (mkF m 78 #[.val (.int ((((i.toUInt32 >>> ((16 : Int32) &&& 31).toUInt32).toInt32).toUInt32 >>> ((8 : Int32) &&& 31).toUInt32).toInt32)), .val (.int (7 : Int32))] [(.int ((7 : Int32) - ((((((i.toUInt32 >>> ((16 : Int32) &&& 31).toUInt32).toInt32).toUInt32 >>> ((8 : Int32) &&& 31).toUInt32).toInt32).toUInt32 >>> ((1 : Int32) &&& 31).toUInt32).toInt32)))])) (fun tg kk => XS.isub X0.here hx rfl (hb hby own_d3_77) rfl kk) ?_
            obtain ⟨fs, hr, hrun, hended, hW, hsame⟩ := X0.leave (v := some (.int ((7 : Int32) - ((((((i.toUInt32 >>> ((16 : Int32) &&& 31).toUInt32).toInt32).toUInt32 >>> ((8 : Int32) &&& 31).toUInt32).toInt32).toUInt32 >>> ((1 : Int32) &&& 31).toUInt32).toInt32)))) (fun h => by rw [Bd.returns] at h; cases h)
            refine ⟨_, _, ?_, hrun, hended, _, _, rfl, ?_, ⟨_, rfl⟩, hW, hsame.mono (by decide) (by decide)⟩
            · exact own_retI X0 hx Bd.returns (hb hby own_d3_78) hr
            · show own_ni_Q Z i h0 n0 _ s₁.heap _
              rw [e0]
              exact ⟨((7 : Int32) - ((((((i.toUInt32 >>> ((16 : Int32) &&& 31).toUInt32).toInt32).toUInt32 >>> ((8 : Int32) &&& 31).toUInt32).toInt32).toUInt32 >>> ((1 : Int32) &&& 31).toUInt32).toInt32)), rfl, N0, rfl, (by have a0 : ((i.toUInt32 >>> ((16 : Int32) &&& 31).toUInt32).toInt32).toInt = i.toInt % 4294967296 / 65536 := c_iushr _ _ 16 (by decide) (by decide); have a1 : ((((i.toUInt32 >>> ((16 : Int32) &&& 31).toUInt32).toInt32).toUInt32 >>> ((8 : Int32) &&& 31).toUInt32).toInt32).toInt = ((i.toUInt32 >>> ((16 : Int32) &&& 31).toUInt32).toInt32).toInt % 4294967296 / 256 := c_iushr _ _ 8 (by decide) (by decide); have b : ((((((i.toUInt32 >>> ((16 : Int32) &&& 31).toUInt32).toInt32).toUInt32 >>> ((8 : Int32) &&& 31).toUInt32).toInt32).toUInt32 >>> ((1 : Int32) &&& 31).toUInt32).toInt32).toInt = ((((i.toUInt32 >>> ((16 : Int32) &&& 31).toUInt32).toInt32).toUInt32 >>> ((8 : Int32) &&& 31).toUInt32).toInt32).toInt % 4294967296 / 2 := c_iushr _ _ 1 (by decide) (by decide); have s := c_isub (7 : Int32) ((((((i.toUInt32 >>> ((16 : Int32) &&& 31).toUInt32).toInt32).toUInt32 >>> ((8 : Int32) &&& 31).toUInt32).toInt32).toUInt32 >>> ((1 : Int32) &&& 31).toUInt32).toInt32); have r := rng32 ((7 : Int32) - ((((((i.toUInt32 >>> ((16 : Int32) &&& 31).toUInt32).toInt32).toUInt32 >>> ((8 : Int32) &&& 31).toUInt32).toInt32).toUInt32 >>> ((1 : Int32) &&& 31).toUInt32).toInt32)); have ri := rng32 i; simp only [true_and, and_true, false_and, and_false, or_false, false_or, or_true, true_or, not_true_eq_false, not_false_eq_true, eq_self, Int32.lt_iff_toInt_lt, Int32.le_iff_toInt_le, ← Int32.toInt_inj, Int32.reduceToInt, Int64.lt_iff_toInt_lt, Int64.le_iff_toInt_le, ← Int64.toInt_inj, Int64.reduceToInt] at hc1 hc2 hc10 hc14 hc15 hi s; rcases Decidable.em (((((i.toUInt32 >>> ((16 : Int32) &&& 31).toUInt32).toInt32).toUInt32 >>> ((8 : Int32) &&& 31).toUInt32).toInt32).toInt < 2) with hq | hq; exact ⟨24, by decide, by omega, by omega, by omega⟩; exact ⟨25, by decide, by omega, by omega, by omega⟩)⟩
          ·
            refine OwnGo.back (s₁.setTop (mkF m 66 #[.val (.int ((((i.toUInt32 >>> ((16 : Int32) &&& 31).toUInt32).toInt32).toUInt32 >>> ((8 : Int32) &&& 31).toUInt32).toInt32)), .val (.int (7 : Int32))] [])) (fun tg kk => XS.icmpNo X0.here hx rfl (hb hby own_d3_63) rfl (flt hc15).1 kk) ?_
            refine OwnGo.back (s₁.setTop (mkF m 69 #[.val (.int ((((i.toUInt32 >>> ((16 : Int32) &&& 31).toUInt32).toInt32).toUInt32 >>> ((8 : Int32) &&& 31).toUInt32).toInt32)), .val (.int (5 : Int32))] [])) (fun tg kk => XS.iinc X0.here hx rfl (hb hby own_d3_66) rfl (l' := #[.val (.int ((((i.toUInt32 >>> ((16 : Int32) &&& 31).toUInt32).toInt32).toUInt32 >>> ((8 : Int32) &&& 31).toUInt32).toInt32)), .val (.int (5 : Int32))]) rfl kk) ?_
            refine OwnGo.back (s₁.setTop (mkF m 70 #[.val (.int ((((i.toUInt32 >>> ((16 : Int32) &&& 31).toUInt32).toInt32).toUInt32 >>> ((8 : Int32) &&& 31).toUInt32).toInt32)), .val (.int (5 : Int32))] [(.int ((((i.toUInt32 >>> ((16 : Int32) &&& 31).toUInt32).toInt32).toUInt32 >>> ((8 : Int32) &&& 31).toUInt32).toInt32))])) (fun tg kk => XS.iloadN X0.here hx rfl (hb hby own_d3_69) rfl kk) ?_
            refine OwnGo.back (s₁.setTop (mkF m 71 #[.val (.int ((((i.toUInt32 >>> ((16 : Int32) &&& 31).toUInt32).toInt32).toUInt32 >>> ((8 : Int32) &&& 31).toUInt32).toInt32)), .val (.int (5 : Int32))] [(.int (2 : Int32)), (.int ((((i.toUInt32 >>> ((16 : Int32) &&& 31).toUInt32).toInt32).toUInt32 >>> ((8 : Int32) &&& 31).toUInt32).toInt32))])) (fun tg kk => XS.iconst X0.here hx rfl (hb hby own_d3_70) kk) ?_
            refine OwnGo.back (s₁.setTop (mkF m 72 #[.val (.int ((((i.toUInt32 >>> ((16 : Int32) &&& 31).toUInt32).toInt32).toUInt32 >>> ((8 : Int32) &&& 31).toUInt32).toInt32)), .val (.int (5 : Int32))] [(.int ((((((i.toUInt32 >>> ((16 : Int32) &&& 31).toUInt32).toInt32).toUInt32 >>> ((8 : Int32) &&& 31).toUInt32).toInt32).toUInt32 >>> ((2 : Int32) &&& 31).toUInt32).toInt32))])) (fun tg kk => XS.iushr X0.here hx rfl (hb hby own_d3_71) rfl kk) ?_
            refine OwnGo.back (s₁.setTop (mkF m 73 #[.val (.int ((((((i.toUInt32 >>> ((16 : Int32) &&& 31).toUInt32).toInt32).toUInt32 >>> ((8 : Int32) &&& 31).toUInt32).toInt32).toUInt32 >>> ((2 : Int32) &&& 31).toUInt32).toInt32)), .val (.int (5 : Int32))] [])) (fun tg kk => XS.istoreN X0.here hx rfl (hb hby own_d3_72) rfl (l' := #[.val (.int ((((((i.toUInt32 >>> ((16 : Int32) &&& 31).toUInt32).toInt32).toUInt32 >>> ((8 : Int32) &&& 31).toUInt32).toInt32).toUInt32 >>> ((2 : Int32) &&& 31).toUInt32).toInt32)), .val (.int (5 : Int32))]) rfl kk) ?_
            refine OwnGo.back (s₁.setTop (mkF m 74 #[.val (.int ((((((i.toUInt32 >>> ((16 : Int32) &&& 31).toUInt32).toInt32).toUInt32 >>> ((8 : Int32) &&& 31).toUInt32).toInt32).toUInt32 >>> ((2 : Int32) &&& 31).toUInt32).toInt32)), .val (.int (5 : Int32))] [(.int (5 : Int32))])) (fun tg kk => XS.iloadN X0.here hx rfl (hb hby own_d3_73) rfl kk) ?_
            refine OwnGo.back (s₁.setTop (mkF m 75 #[.val (.int ((((((i.toUInt32 >>> ((16 : Int32) &&& 31).toUInt32).toInt32).toUInt32 >>> ((8 : Int32) &&& 31).toUInt32).toInt32).toUInt32 >>> ((2 : Int32) &&& 31).toUInt32).toInt32)), .val (.int (5 : Int32))] [(.int ((((((i.toUInt32 >>> ((16 : Int32) &&& 31).toUInt32).toInt32).toUInt32 >>> ((8 : Int32) &&& 31).toUInt32).toInt32).toUInt32 >>> ((2 : Int32) &&& 31).toUInt32).toInt32)), (.int (5 : Int32))])) (fun tg kk => XS.iloadN X0.here hx rfl (hb hby own_d3_74) rfl kk) ?_
            refine OwnGo.back (s₁.setTop (mkF m 76 #[.val (.int ((((((i.toUInt32 >>> ((16 : Int32) &&& 31).toUInt32).toInt32).toUInt32 >>> ((8 : Int32) &&& 31).toUInt32).toInt32).toUInt32 >>> ((2 : Int32) &&& 31).toUInt32).toInt32)), .val (.int (5 : Int32))] [(.int (1 : Int32)), (.int ((((((i.toUInt32 >>> ((16 : Int32) &&& 31).toUInt32).toInt32).toUInt32 >>> ((8 : Int32) &&& 31).toUInt32).toInt32).toUInt32 >>> ((2 : Int32) &&& 31).toUInt32).toInt32)), (.int (5 : Int32))])) (fun tg kk => XS.iconst X0.here hx rfl (hb hby own_d3_75) kk) ?_
            refine OwnGo.back (s₁.setTop (mkF m 77 #[.val (.int ((((((i.toUInt32 >>> ((16 : Int32) &&& 31).toUInt32).toInt32).toUInt32 >>> ((8 : Int32) &&& 31).toUInt32).toInt32).toUInt32 >>> ((2 : Int32) &&& 31).toUInt32).toInt32)), .val (.int (5 : Int32))] [(.int ((((((((i.toUInt32 >>> ((16 : Int32) &&& 31).toUInt32).toInt32).toUInt32 >>> ((8 : Int32) &&& 31).toUInt32).toInt32).toUInt32 >>> ((2 : Int32) &&& 31).toUInt32).toInt32).toUInt32 >>> ((1 : Int32) &&& 31).toUInt32).toInt32)), (.int (5 : Int32))])) (fun tg kk => XS.iushr X0.here hx rfl (hb hby own_d3_76) rfl kk) ?_
            refine OwnGo.back (s₁.setTop (mkF m 78 #[.val (.int ((((((i.toUInt32 >>> ((16 : Int32) &&& 31).toUInt32).toInt32).toUInt32 >>> ((8 : Int32) &&& 31).toUInt32).toInt32).toUInt32 >>> ((2 : Int32) &&& 31).toUInt32).toInt32)), .val (.int (5 : Int32))] [(.int ((5 : Int32) - ((((((((i.toUInt32 >>> ((16 : Int32) &&& 31).toUInt32).toInt32).toUInt32 >>> ((8 : Int32) &&& 31).toUInt32).toInt32).toUInt32 >>> ((2 : Int32) &&& 31).toUInt32).toInt32).toUInt32 >>> ((1 : Int32) &&& 31).toUInt32).toInt32)))])) (fun tg kk => XS.isub X0.here hx rfl (hb hby own_d3_77) rfl kk) ?_
            obtain ⟨fs, hr, hrun, hended, hW, hsame⟩ := X0.leave (v := some (.int ((5 : Int32) - ((((((((i.toUInt32 >>> ((16 : Int32) &&& 31).toUInt32).toInt32).toUInt32 >>> ((8 : Int32) &&& 31).toUInt32).toInt32).toUInt32 >>> ((2 : Int32) &&& 31).toUInt32).toInt32).toUInt32 >>> ((1 : Int32) &&& 31).toUInt32).toInt32)))) (fun h => by rw [Bd.returns] at h; cases h)
            refine ⟨_, _, ?_, hrun, hended, _, _, rfl, ?_, ⟨_, rfl⟩, hW, hsame.mono (by decide) (by decide)⟩
            · exact own_retI X0 hx Bd.returns (hb hby own_d3_78) hr
            · show own_ni_Q Z i h0 n0 _ s₁.heap _
              rw [e0]
              exact ⟨((5 : Int32) - ((((((((i.toUInt32 >>> ((16 : Int32) &&& 31).toUInt32).toInt32).toUInt32 >>> ((8 : Int32) &&& 31).toUInt32).toInt32).toUInt32 >>> ((2 : Int32) &&& 31).toUInt32).toInt32).toUInt32 >>> ((1 : Int32) &&& 31).toUInt32).toInt32)), rfl, N0, rfl, (by have a0 : ((i.toUInt32 >>> ((16 : Int32) &&& 31).toUInt32).toInt32).toInt = i.toInt % 4294967296 / 65536 := c_iushr _ _ 16 (by decide) (by decide); have a1 : ((((i.toUInt32 >>> ((16 : Int32) &&& 31).toUInt32).toInt32).toUInt32 >>> ((8 : Int32) &&& 31).toUInt32).toInt32).toInt = ((i.toUInt32 >>> ((16 : Int32) &&& 31).toUInt32).toInt32).toInt % 4294967296 / 256 := c_iushr _ _ 8 (by decide) (by decide); have a2 : ((((((i.toUInt32 >>> ((16 : Int32) &&& 31).toUInt32).toInt32).toUInt32 >>> ((8 : Int32) &&& 31).toUInt32).toInt32).toUInt32 >>> ((2 : Int32) &&& 31).toUInt32).toInt32).toInt = ((((i.toUInt32 >>> ((16 : Int32) &&& 31).toUInt32).toInt32).toUInt32 >>> ((8 : Int32) &&& 31).toUInt32).toInt32).toInt % 4294967296 / 4 := c_iushr _ _ 2 (by decide) (by decide); have b : ((((((((i.toUInt32 >>> ((16 : Int32) &&& 31).toUInt32).toInt32).toUInt32 >>> ((8 : Int32) &&& 31).toUInt32).toInt32).toUInt32 >>> ((2 : Int32) &&& 31).toUInt32).toInt32).toUInt32 >>> ((1 : Int32) &&& 31).toUInt32).toInt32).toInt = ((((((i.toUInt32 >>> ((16 : Int32) &&& 31).toUInt32).toInt32).toUInt32 >>> ((8 : Int32) &&& 31).toUInt32).toInt32).toUInt32 >>> ((2 : Int32) &&& 31).toUInt32).toInt32).toInt % 4294967296 / 2 := c_iushr _ _ 1 (by decide) (by decide); have s := c_isub (5 : Int32) ((((((((i.toUInt32 >>> ((16 : Int32) &&& 31).toUInt32).toInt32).toUInt32 >>> ((8 : Int32) &&& 31).toUInt32).toInt32).toUInt32 >>> ((2 : Int32) &&& 31).toUInt32).toInt32).toUInt32 >>> ((1 : Int32) &&& 31).toUInt32).toInt32); have r := rng32 ((5 : Int32) - ((((((((i.toUInt32 >>> ((16 : Int32) &&& 31).toUInt32).toInt32).toUInt32 >>> ((8 : Int32) &&& 31).toUInt32).toInt32).toUInt32 >>> ((2 : Int32) &&& 31).toUInt32).toInt32).toUInt32 >>> ((1 : Int32) &&& 31).toUInt32).toInt32)); have ri := rng32 i; simp only [true_and, and_true, false_and, and_false, or_false, false_or, or_true, true_or, not_true_eq_false, not_false_eq_true, eq_self, Int32.lt_iff_toInt_lt, Int32.le_iff_toInt_le, ← Int32.toInt_inj, Int32.reduceToInt, Int64.lt_iff_toInt_lt, Int64.le_iff_toInt_le, ← Int64.toInt_inj, Int64.reduceToInt] at hc1 hc2 hc10 hc14 hc15 hi s; rcases Decidable.em (((((((i.toUInt32 >>> ((16 : Int32) &&& 31).toUInt32).toInt32).toUInt32 >>> ((8 : Int32) &&& 31).toUInt32).toInt32).toUInt32 >>> ((2 : Int32) &&& 31).toUInt32).toInt32).toInt < 2) with hq | hq; exact ⟨26, by decide, by omega, by omega, by omega⟩; exact ⟨27, by decide, by omega, by omega, by omega⟩)⟩
        ·
          refine OwnGo.back (s₁.setTop (mkF m 54 #[.val (.int ((((i.toUInt32 >>> ((16 : Int32) &&& 31).toUInt32).toInt32).toUInt32 >>> ((8 : Int32) &&& 31).toUInt32).toInt32)), .val (.int (7 : Int32))] [])) (fun tg kk => XS.icmpNo X0.here hx rfl (hb hby own_d3_51) rfl (flt hc14).1 kk) ?_
          refine OwnGo.back (s₁.setTop (mkF m 57 #[.val (.int ((((i.toUInt32 >>> ((16 : Int32) &&& 31).toUInt32).toInt32).toUInt32 >>> ((8 : Int32) &&& 31).toUInt32).toInt32)), .val (.int (3 : Int32))] [])) (fun tg kk => XS.iinc X0.here hx rfl (hb hby own_d3_54) rfl (l' := #[.val (.int ((((i.toUInt32 >>> ((16 : Int32) &&& 31).toUInt32).toInt32).toUInt32 >>> ((8 : Int32) &&& 31).toUInt32).toInt32)), .val (.int (3 : Int32))]) rfl kk) ?_
          refine OwnGo.back (s₁.setTop (mkF m 58 #[.val (.int ((((i.toUInt32 >>> ((16 : Int32) &&& 31).toUInt32).toInt32).toUInt32 >>> ((8 : Int32) &&& 31).toUInt32).toInt32)), .val (.int (3 : Int32))] [(.int ((((i.toUInt32 >>> ((16 : Int32) &&& 31).toUInt32).toInt32).toUInt32 >>> ((8 : Int32) &&& 31).toUInt32).toInt32))])) (fun tg kk => XS.iloadN X0.here hx rfl (hb hby own_d3_57) rfl kk) ?_
          refine OwnGo.back (s₁.setTop (mkF m 59 #[.val (.int ((((i.toUInt32 >>> ((16 : Int32) &&& 31).toUInt32).toInt32).toUInt32 >>> ((8 : Int32) &&& 31).toUInt32).toInt32)), .val (.int (3 : Int32))] [(.int (4 : Int32)), (.int ((((i.toUInt32 >>> ((16 : Int32) &&& 31).toUInt32).toInt32).toUInt32 >>> ((8 : Int32) &&& 31).toUInt32).toInt32))])) (fun tg kk => XS.iconst X0.here hx rfl (hb hby own_d3_58) kk) ?_
          refine OwnGo.back (s₁.setTop (mkF m 60 #[.val (.int ((((i.toUInt32 >>> ((16 : Int32) &&& 31).toUInt32).toInt32).toUInt32 >>> ((8 : Int32) &&& 31).toUInt32).toInt32)), .val (.int (3 : Int32))] [(.int ((((((i.toUInt32 >>> ((16 : Int32) &&& 31).toUInt32).toInt32).toUInt32 >>> ((8 : Int32) &&& 31).toUInt32).toInt32).toUInt32 >>> ((4 : Int32) &&& 31).toUInt32).toInt32))])) (fun tg kk => XS.iushr X0.here hx rfl (hb hby own_d3_59) rfl kk) ?_
          refine OwnGo.back (s₁.setTop (mkF m 61 #[.val (.int ((((((i.toUInt32 >>> ((16 : Int32) &&& 31).toUInt32).toInt32).toUInt32 >>> ((8 : Int32) &&& 31).toUInt32).toInt32).toUInt32 >>> ((4 : Int32) &&& 31).toUInt32).toInt32)), .val (.int (3 : Int32))] [])) (fun tg kk => XS.istoreN X0.here hx rfl (hb hby own_d3_60) rfl (l' := #[.val (.int ((((((i.toUInt32 >>> ((16 : Int32) &&& 31).toUInt32).toInt32).toUInt32 >>> ((8 : Int32) &&& 31).toUInt32).toInt32).toUInt32 >>> ((4 : Int32) &&& 31).toUInt32).toInt32)), .val (.int (3 : Int32))]) rfl kk) ?_
          refine OwnGo.back (s₁.setTop (mkF m 62 #[.val (.int ((((((i.toUInt32 >>> ((16 : Int32) &&& 31).toUInt32).toInt32).toUInt32 >>> ((8 : Int32) &&& 31).toUInt32).toInt32).toUInt32 >>> ((4 : Int32) &&& 31).toUInt32).toInt32)), .val (.int (3 : Int32))] [(.int ((((((i.toUInt32 >>> ((16 : Int32) &&& 31).toUInt32).toInt32).toUInt32 >>> ((8 : Int32) &&& 31).toUInt32).toInt32).toUInt32 >>> ((4 : Int32) &&& 31).toUInt32).toInt32))])) (fun tg kk => XS.iloadN X0.here hx rfl (hb hby own_d3_61) rfl kk) ?_
          refine OwnGo.back (s₁.setTop (mkF m 63 #[.val (.int ((((((i.toUInt32 >>> ((16 : Int32) &&& 31).toUInt32).toInt32).toUInt32 >>> ((8 : Int32) &&& 31).toUInt32).toInt32).toUInt32 >>> ((4 : Int32) &&& 31).toUInt32).toInt32)), .val (.int (3 : Int32))] [(.int (4 : Int32)), (.int ((((((i.toUInt32 >>> ((16 : Int32) &&& 31).toUInt32).toInt32).toUInt32 >>> ((8 : Int32) &&& 31).toUInt32).toInt32).toUInt32 >>> ((4 : Int32) &&& 31).toUInt32).toInt32))])) (fun tg kk => XS.iconst X0.here hx rfl (hb hby own_d3_62) kk) ?_
          by_cases hc16 : ((((((i.toUInt32 >>> ((16 : Int32) &&& 31).toUInt32).toInt32).toUInt32 >>> ((8 : Int32) &&& 31).toUInt32).toInt32).toUInt32 >>> ((4 : Int32) &&& 31).toUInt32).toInt32) < (4 : Int32)
          ·
            refine OwnGo.back (s₁.setTop (mkF m 73 #[.val (.int ((((((i.toUInt32 >>> ((16 : Int32) &&& 31).toUInt32).toInt32).toUInt32 >>> ((8 : Int32) &&& 31).toUInt32).toInt32).toUInt32 >>> ((4 : Int32) &&& 31).toUInt32).toInt32)), .val (.int (3 : Int32))] [])) (fun tg kk => XS.icmpYes X0.here hx rfl (pc0 := 63) (pc' := 73) rfl (hb hby own_d3_63) rfl (tlt hc16).1 (by decide) (by decide) kk) ?_
            refine OwnGo.back (s₁.setTop (mkF m 74 #[.val (.int ((((((i.toUInt32 >>> ((16 : Int32) &&& 31).toUInt32).toInt32).toUInt32 >>> ((8 : Int32) &&& 31).toUInt32).toInt32).toUInt32 >>> ((4 : Int32) &&& 31).toUInt32).toInt32)), .val (.int (3 : Int32))] [(.int (3 : Int32))])) (fun tg kk => XS.iloadN X0.here hx rfl (hb hby own_d3_73) rfl kk) ?_
            refine OwnGo.back (s₁.setTop (mkF m 75 #[.val (.int ((((((i.toUInt32 >>> ((16 : Int32) &&& 31).toUInt32).toInt32).toUInt32 >>> ((8 : Int32) &&& 31).toUInt32).toInt32).toUInt32 >>> ((4 : Int32) &&& 31).toUInt32).toInt32)), .val (.int (3 : Int32))] [(.int ((((((i.toUInt32 >>> ((16 : Int32) &&& 31).toUInt32).toInt32).toUInt32 >>> ((8 : Int32) &&& 31).toUInt32).toInt32).toUInt32 >>> ((4 : Int32) &&& 31).toUInt32).toInt32)), (.int (3 : Int32))])) (fun tg kk => XS.iloadN X0.here hx rfl (hb hby own_d3_74) rfl kk) ?_
            refine OwnGo.back (s₁.setTop (mkF m 76 #[.val (.int ((((((i.toUInt32 >>> ((16 : Int32) &&& 31).toUInt32).toInt32).toUInt32 >>> ((8 : Int32) &&& 31).toUInt32).toInt32).toUInt32 >>> ((4 : Int32) &&& 31).toUInt32).toInt32)), .val (.int (3 : Int32))] [(.int (1 : Int32)), (.int ((((((i.toUInt32 >>> ((16 : Int32) &&& 31).toUInt32).toInt32).toUInt32 >>> ((8 : Int32) &&& 31).toUInt32).toInt32).toUInt32 >>> ((4 : Int32) &&& 31).toUInt32).toInt32)), (.int (3 : Int32))])) (fun tg kk => XS.iconst X0.here hx rfl (hb hby own_d3_75) kk) ?_
            refine OwnGo.back (s₁.setTop (mkF m 77 #[.val (.int ((((((i.toUInt32 >>> ((16 : Int32) &&& 31).toUInt32).toInt32).toUInt32 >>> ((8 : Int32) &&& 31).toUInt32).toInt32).toUInt32 >>> ((4 : Int32) &&& 31).toUInt32).toInt32)), .val (.int (3 : Int32))] [(.int ((((((((i.toUInt32 >>> ((16 : Int32) &&& 31).toUInt32).toInt32).toUInt32 >>> ((8 : Int32) &&& 31).toUInt32).toInt32).toUInt32 >>> ((4 : Int32) &&& 31).toUInt32).toInt32).toUInt32 >>> ((1 : Int32) &&& 31).toUInt32).toInt32)), (.int (3 : Int32))])) (fun tg kk => XS.iushr X0.here hx rfl (hb hby own_d3_76) rfl kk) ?_
            refine OwnGo.back (s₁.setTop (mkF m 78 #[.val (.int ((((((i.toUInt32 >>> ((16 : Int32) &&& 31).toUInt32).toInt32).toUInt32 >>> ((8 : Int32) &&& 31).toUInt32).toInt32).toUInt32 >>> ((4 : Int32) &&& 31).toUInt32).toInt32)), .val (.int (3 : Int32))] [(.int ((3 : Int32) - ((((((((i.toUInt32 >>> ((16 : Int32) &&& 31).toUInt32).toInt32).toUInt32 >>> ((8 : Int32) &&& 31).toUInt32).toInt32).toUInt32 >>> ((4 : Int32) &&& 31).toUInt32).toInt32).toUInt32 >>> ((1 : Int32) &&& 31).toUInt32).toInt32)))])) (fun tg kk => XS.isub X0.here hx rfl (hb hby own_d3_77) rfl kk) ?_
            obtain ⟨fs, hr, hrun, hended, hW, hsame⟩ := X0.leave (v := some (.int ((3 : Int32) - ((((((((i.toUInt32 >>> ((16 : Int32) &&& 31).toUInt32).toInt32).toUInt32 >>> ((8 : Int32) &&& 31).toUInt32).toInt32).toUInt32 >>> ((4 : Int32) &&& 31).toUInt32).toInt32).toUInt32 >>> ((1 : Int32) &&& 31).toUInt32).toInt32)))) (fun h => by rw [Bd.returns] at h; cases h)
            refine ⟨_, _, ?_, hrun, hended, _, _, rfl, ?_, ⟨_, rfl⟩, hW, hsame.mono (by decide) (by decide)⟩
            · exact own_retI X0 hx Bd.returns (hb hby own_d3_78) hr
            · show own_ni_Q Z i h0 n0 _ s₁.heap _
              rw [e0]
              exact ⟨((3 : Int32) - ((((((((i.toUInt32 >>> ((16 : Int32) &&& 31).toUInt32).toInt32).toUInt32 >>> ((8 : Int32) &&& 31).toUInt32).toInt32).toUInt32 >>> ((4 : Int32) &&& 31).toUInt32).toInt32).toUInt32 >>> ((1 : Int32) &&& 31).toUInt32).toInt32)), rfl, N0, rfl, (by have a0 : ((i.toUInt32 >>> ((16 : Int32) &&& 31).toUInt32).toInt32).toInt = i.toInt % 4294967296 / 65536 := c_iushr _ _ 16 (by decide) (by decide); have a1 : ((((i.toUInt32 >>> ((16 : Int32) &&& 31).toUInt32).toInt32).toUInt32 >>> ((8 : Int32) &&& 31).toUInt32).toInt32).toInt = ((i.toUInt32 >>> ((16 : Int32) &&& 31).toUInt32).toInt32).toInt % 4294967296 / 256 := c_iushr _ _ 8 (by decide) (by decide); have a2 : ((((((i.toUInt32 >>> ((16 : Int32) &&& 31).toUInt32).toInt32).toUInt32 >>> ((8 : Int32) &&& 31).toUInt32).toInt32).toUInt32 >>> ((4 : Int32) &&& 31).toUInt32).toInt32).toInt = ((((i.toUInt32 >>> ((16 : Int32) &&& 31).toUInt32).toInt32).toUInt32 >>> ((8 : Int32) &&& 31).toUInt32).toInt32).toInt % 4294967296 / 16 := c_iushr _ _ 4 (by decide) (by decide); have b : ((((((((i.toUInt32 >>> ((16 : Int32) &&& 31).toUInt32).toInt32).toUInt32 >>> ((8 : Int32) &&& 31).toUInt32).toInt32).toUInt32 >>> ((4 : Int32) &&& 31).toUInt32).toInt32).toUInt32 >>> ((1 : Int32) &&& 31).toUInt32).toInt32).toInt = ((((((i.toUInt32 >>> ((16 : Int32) &&& 31).toUInt32).toInt32).toUInt32 >>> ((8 : Int32) &&& 31).toUInt32).toInt32).toUInt32 >>> ((4 : Int32) &&& 31).toUInt32).toInt32).toInt % 4294967296 / 2 := c_iushr _ _ 1 (by decide) (by decide); have s := c_isub (3 : Int32) ((((((((i.toUInt32 >>> ((16 : Int32) &&& 31).toUInt32).toInt32).toUInt32 >>> ((8 : Int32) &&& 31).toUInt32).toInt32).toUInt32 >>> ((4 : Int32) &&& 31).toUInt32).toInt32).toUInt32 >>> ((1 : Int32) &&& 31).toUInt32).toInt32); have r := rng32 ((3 : Int32) - ((((((((i.toUInt32 >>> ((16 : Int32) &&& 31).toUInt32).toInt32).toUInt32 >>> ((8 : Int32) &&& 31).toUInt32).toInt32).toUInt32 >>> ((4 : Int32) &&& 31).toUInt32).toInt32).toUInt32 >>> ((1 : Int32) &&& 31).toUInt32).toInt32)); have ri := rng32 i; simp only [true_and, and_true, false_and, and_false, or_false, false_or, or_true, true_or, not_true_eq_false, not_false_eq_true, eq_self, Int32.lt_iff_toInt_lt, Int32.le_iff_toInt_le, ← Int32.toInt_inj, Int32.reduceToInt, Int64.lt_iff_toInt_lt, Int64.le_iff_toInt_le, ← Int64.toInt_inj, Int64.reduceToInt] at hc1 hc2 hc10 hc14 hc16 hi s; rcases Decidable.em (((((((i.toUInt32 >>> ((16 : Int32) &&& 31).toUInt32).toInt32).toUInt32 >>> ((8 : Int32) &&& 31).toUInt32).toInt32).toUInt32 >>> ((4 : Int32) &&& 31).toUInt32).toInt32).toInt < 2) with hq | hq; exact ⟨28, by decide, by omega, by omega, by omega⟩; exact ⟨29, by decide, by omega, by omega, by omega⟩)⟩
          ·
            refine OwnGo.back (s₁.setTop (mkF m 66 #[.val (.int ((((((i.toUInt32 >>> ((16 : Int32) &&& 31).toUInt32).toInt32).toUInt32 >>> ((8 : Int32) &&& 31).toUInt32).toInt32).toUInt32 >>> ((4 : Int32) &&& 31).toUInt32).toInt32)), .val (.int (3 : Int32))] [])) (fun tg kk => XS.icmpNo X0.here hx rfl (hb hby own_d3_63) rfl (flt hc16).1 kk) ?_
            refine OwnGo.back (s₁.setTop (mkF m 69 #[.val (.int ((((((i.toUInt32 >>> ((16 : Int32) &&& 31).toUInt32).toInt32).toUInt32 >>> ((8 : Int32) &&& 31).toUInt32).toInt32).toUInt32 >>> ((4 : Int32) &&& 31).toUInt32).toInt32)), .val (.int (1 : Int32))] [])) (fun tg kk => XS.iinc X0.here hx rfl (hb hby own_d3_66) rfl (l' := #[.val (.int ((((((i.toUInt32 >>> ((16 : Int32) &&& 31).toUInt32).toInt32).toUInt32 >>> ((8 : Int32) &&& 31).toUInt32).toInt32).toUInt32 >>> ((4 : Int32) &&& 31).toUInt32).toInt32)), .val (.int (1 : Int32))]) rfl kk) ?_
            refine OwnGo.back (s₁.setTop (mkF m 70 #[.val (.int ((((((i.toUInt32 >>> ((16 : Int32) &&& 31).toUInt32).toInt32).toUInt32 >>> ((8 : Int32) &&& 31).toUInt32).toInt32).toUInt32 >>> ((4 : Int32) &&& 31).toUInt32).toInt32)), .val (.int (1 : Int32))] [(.int ((((((i.toUInt32 >>> ((16 : Int32) &&& 31).toUInt32).toInt32).toUInt32 >>> ((8 : Int32) &&& 31).toUInt32).toInt32).toUInt32 >>> ((4 : Int32) &&& 31).toUInt32).toInt32))])) (fun tg kk => XS.iloadN X0.here hx rfl (hb hby own_d3_69) rfl kk) ?_
            refine OwnGo.back (s₁.setTop (mkF m 71 #[.val (.int ((((((i.toUInt32 >>> ((16 : Int32) &&& 31).toUInt32).toInt32).toUInt32 >>> ((8 : Int32) &&& 31).toUInt32).toInt32).toUInt32 >>> ((4 : Int32) &&& 31).toUInt32).toInt32)), .val (.int (1 : Int32))] [(.int (2 : Int32)), (.int ((((((i.toUInt32 >>> ((16 : Int32) &&& 31).toUInt32).toInt32).toUInt32 >>> ((8 : Int32) &&& 31).toUInt32).toInt32).toUInt32 >>> ((4 : Int32) &&& 31).toUInt32).toInt32))])) (fun tg kk => XS.iconst X0.here hx rfl (hb hby own_d3_70) kk) ?_
            refine OwnGo.back (s₁.setTop (mkF m 72 #[.val (.int ((((((i.toUInt32 >>> ((16 : Int32) &&& 31).toUInt32).toInt32).toUInt32 >>> ((8 : Int32) &&& 31).toUInt32).toInt32).toUInt32 >>> ((4 : Int32) &&& 31).toUInt32).toInt32)), .val (.int (1 : Int32))] [(.int ((((((((i.toUInt32 >>> ((16 : Int32) &&& 31).toUInt32).toInt32).toUInt32 >>> ((8 : Int32) &&& 31).toUInt32).toInt32).toUInt32 >>> ((4 : Int32) &&& 31).toUInt32).toInt32).toUInt32 >>> ((2 : Int32) &&& 31).toUInt32).toInt32))])) (fun tg kk => XS.iushr X0.here hx rfl (hb hby own_d3_71) rfl kk) ?_
            refine OwnGo.back (s₁.setTop (mkF m 73 #[.val (.int ((((((((i.toUInt32 >>> ((16 : Int32) &&& 31).toUInt32).toInt32).toUInt32 >>> ((8 : Int32) &&& 31).toUInt32).toInt32).toUInt32 >>> ((4 : Int32) &&& 31).toUInt32).toInt32).toUInt32 >>> ((2 : Int32) &&& 31).toUInt32).toInt32)), .val (.int (1 : Int32))] [])) (fun tg kk => XS.istoreN X0.here hx rfl (hb hby own_d3_72) rfl (l' := #[.val (.int ((((((((i.toUInt32 >>> ((16 : Int32) &&& 31).toUInt32).toInt32).toUInt32 >>> ((8 : Int32) &&& 31).toUInt32).toInt32).toUInt32 >>> ((4 : Int32) &&& 31).toUInt32).toInt32).toUInt32 >>> ((2 : Int32) &&& 31).toUInt32).toInt32)), .val (.int (1 : Int32))]) rfl kk) ?_
            refine OwnGo.back (s₁.setTop (mkF m 74 #[.val (.int ((((((((i.toUInt32 >>> ((16 : Int32) &&& 31).toUInt32).toInt32).toUInt32 >>> ((8 : Int32) &&& 31).toUInt32).toInt32).toUInt32 >>> ((4 : Int32) &&& 31).toUInt32).toInt32).toUInt32 >>> ((2 : Int32) &&& 31).toUInt32).toInt32)), .val (.int (1 : Int32))] [(.int (1 : Int32))])) (fun tg kk => XS.iloadN X0.here hx rfl (hb hby own_d3_73) rfl kk) ?_
            refine OwnGo.back (s₁.setTop (mkF m 75 #[.val (.int ((((((((i.toUInt32 >>> ((16 : Int32) &&& 31).toUInt32).toInt32).toUInt32 >>> ((8 : Int32) &&& 31).toUInt32).toInt32).toUInt32 >>> ((4 : Int32) &&& 31).toUInt32).toInt32).toUInt32 >>> ((2 : Int32) &&& 31).toUInt32).toInt32)), .val (.int (1 : Int32))] [(.int ((((((((i.toUInt32 >>> ((16 : Int32) &&& 31).toUInt32).toInt32).toUInt32 >>> ((8 : Int32) &&& 31).toUInt32).toInt32).toUInt32 >>> ((4 : Int32) &&& 31).toUInt32).toInt32).toUInt32 >>> ((2 : Int32) &&& 31).toUInt32).toInt32)), (.int (1 : Int32))])) (fun tg kk => XS.iloadN X0.here hx rfl (hb hby own_d3_74) rfl kk) ?_
            refine OwnGo.back (s₁.setTop (mkF m 76 #[.val (.int ((((((((i.toUInt32 >>> ((16 : Int32) &&& 31).toUInt32).toInt32).toUInt32 >>> ((8 : Int32) &&& 31).toUInt32).toInt32).toUInt32 >>> ((4 : Int32) &&& 31).toUInt32).toInt32).toUInt32 >>> ((2 : Int32) &&& 31).toUInt32).toInt32)), .val (.int (1 : Int32))] [(.int (1 : Int32)), (.int ((((((((i.toUInt32 >>> ((16 : Int32) &&& 31).toUInt32).toInt32).toUInt32 >>> ((8 : Int32) &&& 31).toUInt32).toInt32).toUInt32 >>> ((4 : Int32) &&& 31).toUInt32).toInt32).toUInt32 >>> ((2 : Int32) &&& 31).toUInt32).toInt32)), (.int (1 : Int32))])) (fun tg kk => XS.iconst X0.here hx rfl (hb hby own_d3_75) kk) ?_
            refine OwnGo.back (s₁.setTop (mkF m 77 #[.val (.int ((((((((i.toUInt32 >>> ((16 : Int32) &&& 31).toUInt32).toInt32).toUInt32 >>> ((8 : Int32) &&& 31).toUInt32).toInt32).toUInt32 >>> ((4 : Int32) &&& 31).toUInt32).toInt32).toUInt32 >>> ((2 : Int32) &&& 31).toUInt32).toInt32)), .val (.int (1 : Int32))] [(.int ((((((((((i.toUInt32 >>> ((16 : Int32) &&& 31).toUInt32).toInt32).toUInt32 >>> ((8 : Int32) &&& 31).toUInt32).toInt32).toUInt32 >>> ((4 : Int32) &&& 31).toUInt32).toInt32).toUInt32 >>> ((2 : Int32) &&& 31).toUInt32).toInt32).toUInt32 >>> ((1 : Int32) &&& 31).toUInt32).toInt32)), (.int (1 : Int32))])) (fun tg kk => XS.iushr X0.here hx rfl (hb hby own_d3_76) rfl kk) ?_
            refine OwnGo.back (s₁.setTop (mkF m 78 #[.val (.int ((((((((i.toUInt32 >>> ((16 : Int32) &&& 31).toUInt32).toInt32).toUInt32 >>> ((8 : Int32) &&& 31).toUInt32).toInt32).toUInt32 >>> ((4 : Int32) &&& 31).toUInt32).toInt32).toUInt32 >>> ((2 : Int32) &&& 31).toUInt32).toInt32)), .val (.int (1 : Int32))] [(.int ((1 : Int32) - ((((((((((i.toUInt32 >>> ((16 : Int32) &&& 31).toUInt32).toInt32).toUInt32 >>> ((8 : Int32) &&& 31).toUInt32).toInt32).toUInt32 >>> ((4 : Int32) &&& 31).toUInt32).toInt32).toUInt32 >>> ((2 : Int32) &&& 31).toUInt32).toInt32).toUInt32 >>> ((1 : Int32) &&& 31).toUInt32).toInt32)))])) (fun tg kk => XS.isub X0.here hx rfl (hb hby own_d3_77) rfl kk) ?_
            obtain ⟨fs, hr, hrun, hended, hW, hsame⟩ := X0.leave (v := some (.int ((1 : Int32) - ((((((((((i.toUInt32 >>> ((16 : Int32) &&& 31).toUInt32).toInt32).toUInt32 >>> ((8 : Int32) &&& 31).toUInt32).toInt32).toUInt32 >>> ((4 : Int32) &&& 31).toUInt32).toInt32).toUInt32 >>> ((2 : Int32) &&& 31).toUInt32).toInt32).toUInt32 >>> ((1 : Int32) &&& 31).toUInt32).toInt32)))) (fun h => by rw [Bd.returns] at h; cases h)
            refine ⟨_, _, ?_, hrun, hended, _, _, rfl, ?_, ⟨_, rfl⟩, hW, hsame.mono (by decide) (by decide)⟩
            · exact own_retI X0 hx Bd.returns (hb hby own_d3_78) hr
            · show own_ni_Q Z i h0 n0 _ s₁.heap _
              rw [e0]
              exact ⟨((1 : Int32) - ((((((((((i.toUInt32 >>> ((16 : Int32) &&& 31).toUInt32).toInt32).toUInt32 >>> ((8 : Int32) &&& 31).toUInt32).toInt32).toUInt32 >>> ((4 : Int32) &&& 31).toUInt32).toInt32).toUInt32 >>> ((2 : Int32) &&& 31).toUInt32).toInt32).toUInt32 >>> ((1 : Int32) &&& 31).toUInt32).toInt32)), rfl, N0, rfl, (by have a0 : ((i.toUInt32 >>> ((16 : Int32) &&& 31).toUInt32).toInt32).toInt = i.toInt % 4294967296 / 65536 := c_iushr _ _ 16 (by decide) (by decide); have a1 : ((((i.toUInt32 >>> ((16 : Int32) &&& 31).toUInt32).toInt32).toUInt32 >>> ((8 : Int32) &&& 31).toUInt32).toInt32).toInt = ((i.toUInt32 >>> ((16 : Int32) &&& 31).toUInt32).toInt32).toInt % 4294967296 / 256 := c_iushr _ _ 8 (by decide) (by decide); have a2 : ((((((i.toUInt32 >>> ((16 : Int32) &&& 31).toUInt32).toInt32).toUInt32 >>> ((8 : Int32) &&& 31).toUInt32).toInt32).toUInt32 >>> ((4 : Int32) &&& 31).toUInt32).toInt32).toInt = ((((i.toUInt32 >>> ((16 : Int32) &&& 31).toUInt32).toInt32).toUInt32 >>> ((8 : Int32) &&& 31).toUInt32).toInt32).toInt % 4294967296 / 16 := c_iushr _ _ 4 (by decide) (by decide); have a3 : ((((((((i.toUInt32 >>> ((16 : Int32) &&& 31).toUInt32).toInt32).toUInt32 >>> ((8 : Int32) &&& 31).toUInt32).toInt32).toUInt32 >>> ((4 : Int32) &&& 31).toUInt32).toInt32).toUInt32 >>> ((2 : Int32) &&& 31).toUInt32).toInt32).toInt = ((((((i.toUInt32 >>> ((16 : Int32) &&& 31).toUInt32).toInt32).toUInt32 >>> ((8 : Int32) &&& 31).toUInt32).toInt32).toUInt32 >>> ((4 : Int32) &&& 31).toUInt32).toInt32).toInt % 4294967296 / 4 := c_iushr _ _ 2 (by decide) (by decide); have b : ((((((((((i.toUInt32 >>> ((16 : Int32) &&& 31).toUInt32).toInt32).toUInt32 >>> ((8 : Int32) &&& 31).toUInt32).toInt32).toUInt32 >>> ((4 : Int32) &&& 31).toUInt32).toInt32).toUInt32 >>> ((2 : Int32) &&& 31).toUInt32).toInt32).toUInt32 >>> ((1 : Int32) &&& 31).toUInt32).toInt32).toInt = ((((((((i.toUInt32 >>> ((16 : Int32) &&& 31).toUInt32).toInt32).toUInt32 >>> ((8 : Int32) &&& 31).toUInt32).toInt32).toUInt32 >>> ((4 : Int32) &&& 31).toUInt32).toInt32).toUInt32 >>> ((2 : Int32) &&& 31).toUInt32).toInt32).toInt % 4294967296 / 2 := c_iushr _ _ 1 (by decide) (by decide); have s := c_isub (1 : Int32) ((((((((((i.toUInt32 >>> ((16 : Int32) &&& 31).toUInt32).toInt32).toUInt32 >>> ((8 : Int32) &&& 31).toUInt32).toInt32).toUInt32 >>> ((4 : Int32) &&& 31).toUInt32).toInt32).toUInt32 >>> ((2 : Int32) &&& 31).toUInt32).toInt32).toUInt32 >>> ((1 : Int32) &&& 31).toUInt32).toInt32); have r := rng32 ((1 : Int32) - ((((((((((i.toUInt32 >>> ((16 : Int32) &&& 31).toUInt32).toInt32).toUInt32 >>> ((8 : Int32) &&& 31).toUInt32).toInt32).toUInt32 >>> ((4 : Int32) &&& 31).toUInt32).toInt32).toUInt32 >>> ((2 : Int32) &&& 31).toUInt32).toInt32).toUInt32 >>> ((1 : Int32) &&& 31).toUInt32).toInt32)); have ri := rng32 i; simp only [true_and, and_true, false_and, and_false, or_false, false_or, or_true, true_or, not_true_eq_false, not_false_eq_true, eq_self, Int32.lt_iff_toInt_lt, Int32.le_iff_toInt_le, ← Int32.toInt_inj, Int32.reduceToInt, Int64.lt_iff_toInt_lt, Int64.le_iff_toInt_le, ← Int64.toInt_inj, Int64.reduceToInt] at hc1 hc2 hc10 hc14 hc16 hi s; rcases Decidable.em (((((((((i.toUInt32 >>> ((16 : Int32) &&& 31).toUInt32).toInt32).toUInt32 >>> ((8 : Int32) &&& 31).toUInt32).toInt32).toUInt32 >>> ((4 : Int32) &&& 31).toUInt32).toInt32).toUInt32 >>> ((2 : Int32) &&& 31).toUInt32).toInt32).toInt < 2) with hq | hq; exact ⟨30, by decide, by omega, by omega, by omega⟩; exact ⟨31, by decide, by omega, by omega, by omega⟩)⟩
  ·
    refine OwnGo.back (s₁.setTop (mkF m 4 #[.val (.int i), .unset] [])) (fun tg kk => XS.ifNo X0.here hx rfl (hb hby own_d3_1) rfl ((if0 _ _).trans (flt hc1).2.2.1) kk) ?_
    refine OwnGo.back (s₁.setTop (mkF m 5 #[.val (.int i), .unset] [(.int i)])) (fun tg kk => XS.iloadN X0.here hx rfl (hb hby own_d3_4) rfl kk) ?_
    refine OwnGo.back (s₁.setTop (mkF m 13 #[.val (.int i), .unset] [])) (fun tg kk => XS.ifYes X0.here hx rfl (pc0 := 5) (pc' := 13) rfl (hb hby own_d3_5) rfl ((if0 _ _).trans (feq (hi : ¬ (i = (0 : Int32)))).2) (by decide) (by decide) kk) ?_
    refine OwnGo.back (s₁.setTop (mkF m 14 #[.val (.int i), .unset] [(.int (0 : Int32))])) (fun tg kk => XS.iconst X0.here hx rfl (hb hby own_d3_13) kk) ?_
    obtain ⟨fs, hr, hrun, hended, hW, hsame⟩ := X0.leave (v := some (.int (0 : Int32))) (fun h => by rw [Bd.returns] at h; cases h)
    refine ⟨_, _, ?_, hrun, hended, _, _, rfl, ?_, ⟨_, rfl⟩, hW, hsame.mono (by decide) (by decide)⟩
    · exact own_retI X0 hx Bd.returns (hb hby own_d3_14) hr
    · show own_ni_Q Z i h0 n0 _ s₁.heap _
      rw [e0]
      exact ⟨(0 : Int32), rfl, N0, rfl, (by have r := rng32 i; simp only [true_and, and_true, false_and, and_false, or_false, false_or, or_true, true_or, not_true_eq_false, not_false_eq_true, eq_self, Int32.lt_iff_toInt_lt, Int32.le_iff_toInt_le, ← Int32.toInt_inj, Int32.reduceToInt, Int64.lt_iff_toInt_lt, Int64.le_iff_toInt_le, ← Int64.toInt_inj, Int64.reduceToInt] at hc1 hi; exact ⟨31, by decide, by decide, by omega, by omega⟩)⟩
theorem own_nl_ef (m : MethodId) (x0 : Int64) : entryFrame m #[(.long x0)] 3 = mkF m 0 #[.val (.long x0), .second, .unset] [] := by first | (simp [entryFrame, mkF, argsToLocals, Value.category]; done) | rfl
def own_nl_Q (Z : State) (x : Int64) (h0 : Heap) (n0 : Nat) (rv : Option Value) (hN : Heap) (LL : List Loc) : Prop := ∃ (z : Int32), rv = some (.int z) ∧ Fr n0 LL ∧ hN = h0 ∧ (∃ j : Nat, j ≤ 62 ∧ z.toInt = 63 - j ∧ 2 ^ j ≤ x.toInt ∧ x.toInt < 2 ^ (j + 1))
set_option maxRecDepth 65536 in
set_option maxHeartbeats 40000000 in
theorem own_nl (l : Launch) (Z : State) (a0 : Array Value) (hw : ∀ d ∈ tables_1, d.before a0 Z = true) (ws : List Jvm.Cond) (x : Int64) (h0 : Heap) (n0 : Nat) (Z0 : n0 ≤ h0.size) (hx0 : 0 < x) :
    MetFree l (⟨"java/lang/Long", "numberOfLeadingZeros", "(J)I"⟩ : MethodName) (head1 (Jvm.Cond.code (⟨"java/lang/Long", "numberOfLeadingZeros", "(J)I"⟩ : MethodName) jdk_35_method_48_code 3 (some .int) :: ws) ({ frames := 1, cells := 0, slots := 0, locals := 14 } : Room)) (fun aa UU => aa = #[(.long x)] ∧ Z.Warmed39 UU.vm ∧ UU.heap = h0) (fun _ _ _ _ _ => True) (fun _ UU oo UU' => ∃ rv LL, oo = .returned rv ∧ own_nl_Q Z x h0 n0 rv UU'.heap LL ∧ FrameEnd UU oo UU' LL ({ frames := 1, cells := 0, slots := 0, locals := 14 } : Room).cells ({ frames := 1, cells := 0, slots := 0, locals := 14 } : Room).slots) := by
  refine MetFree.of_bodySF (plainFor_of_name own_pn1) hisR ?_
  intro p e s m args below meth c s₁ Bd hml0 hP hK
  obtain ⟨rfl, hZ, hh⟩ := hP
  have hx := Bd.exec
  have hby := Bd.bytes
  have hml : c.maxLocals = 3 := hml0
  have hown : s.vm.findClass "java/lang/Long" = some m.cls := findClass_of_methodNamed Bd.named
  have hnm := (name_of_methodNamed Bd.named Bd.method).1
  have X0 : Stand p l e ({ frames := 1, cells := 0, slots := 0, locals := 14 } : Room) s m #[(.long x)] below meth c s₁ [] 0 0 := Stand.of_body Bd
  have e0 : s₁.heap = h0 := by rw [← hh, Bd.state]; rfl
  have N0 := Fr.nil n0
  have K0 : Keep h0 h0 [] := Keep.refl h0 _
  refine (?_ : OwnGo p.tables e below (fun UU' oo => ∃ rv LL, oo = .returned rv ∧ own_nl_Q Z x h0 n0 rv UU'.heap LL ∧ FrameEnd s oo UU' LL ({ frames := 1, cells := 0, slots := 0, locals := 14 } : Room).cells ({ frames := 1, cells := 0, slots := 0, locals := 14 } : Room).slots) _)
  refine OwnGo.back (s₁.setTop (mkF m 0 #[.val (.long x), .second, .unset] [])) (fun tg kk => castTop (own_nl_ef m x) kk) ?_
  refine OwnGo.back (s₁.setTop (mkF m 1 #[.val (.long x), .second, .unset] [(.long x)])) (fun tg kk => XS.lloadN X0.here hx rfl (hb hby own_d2_0) rfl kk) ?_
  refine OwnGo.back (s₁.setTop (mkF m 3 #[.val (.long x), .second, .unset] [(.int (32 : Int32)), (.long x)])) (fun tg kk => XS.bipush X0.here hx rfl (hb hby own_d2_1) kk) ?_
  refine OwnGo.back (s₁.setTop (mkF m 4 #[.val (.long x), .second, .unset] [(.long ((x.toUInt64 >>> ((32 : Int32) &&& 0x3f).toInt64.toUInt64).toInt64))])) (fun tg kk => XS.lushr X0.here hx rfl (hb hby own_d2_3) rfl kk) ?_
  refine OwnGo.back (s₁.setTop (mkF m 5 #[.val (.long x), .second, .unset] [(.int (((x.toUInt64 >>> ((32 : Int32) &&& 0x3f).toInt64.toUInt64).toInt64).toInt32))])) (fun tg kk => XS.l2i X0.here hx rfl (hb hby own_d2_4) rfl kk) ?_
  refine OwnGo.back (s₁.setTop (mkF m 6 #[.val (.long x), .second, .val (.int (((x.toUInt64 >>> ((32 : Int32) &&& 0x3f).toInt64.toUInt64).toInt64).toInt32))] [])) (fun tg kk => XS.istoreN X0.here hx rfl (hb hby own_d2_5) rfl (l' := #[.val (.long x), .second, .val (.int (((x.toUInt64 >>> ((32 : Int32) &&& 0x3f).toInt64.toUInt64).toInt64).toInt32))]) rfl kk) ?_
  refine OwnGo.back (s₁.setTop (mkF m 7 #[.val (.long x), .second, .val (.int (((x.toUInt64 >>> ((32 : Int32) &&& 0x3f).toInt64.toUInt64).toInt64).toInt32))] [(.int (((x.toUInt64 >>> ((32 : Int32) &&& 0x3f).toInt64.toUInt64).toInt64).toInt32))])) (fun tg kk => XS.iloadN X0.here hx rfl (hb hby own_d2_6) rfl kk) ?_
  by_cases hc1 : (((x.toUInt64 >>> ((32 : Int32) &&& 0x3f).toInt64.toUInt64).toInt64).toInt32) = (0 : Int32)
  ·
    refine OwnGo.back (s₁.setTop (mkF m 10 #[.val (.long x), .second, .val (.int (((x.toUInt64 >>> ((32 : Int32) &&& 0x3f).toInt64.toUInt64).toInt64).toInt32))] [])) (fun tg kk => XS.ifNo X0.here hx rfl (hb hby own_d2_7) rfl ((if0 _ _).trans (teq hc1).2) kk) ?_
    refine OwnGo.back (s₁.setTop (mkF m 12 #[.val (.long x), .second, .val (.int (((x.toUInt64 >>> ((32 : Int32) &&& 0x3f).toInt64.toUInt64).toInt64).toInt32))] [(.int (32 : Int32))])) (fun tg kk => XS.bipush X0.here hx rfl (hb hby own_d2_10) kk) ?_
    refine OwnGo.back (s₁.setTop (mkF m 13 #[.val (.long x), .second, .val (.int (((x.toUInt64 >>> ((32 : Int32) &&& 0x3f).toInt64.toUInt64).toInt64).toInt32))] [(.long x), (.int (32 : Int32))])) (fun tg kk => XS.lloadN X0.here hx rfl (hb hby own_d2_12) rfl kk) ?_
    refine OwnGo.back (s₁.setTop (mkF m 14 #[.val (.long x), .second, .val (.int (((x.toUInt64 >>> ((32 : Int32) &&& 0x3f).toInt64.toUInt64).toInt64).toInt32))] [(.int (x.toInt32)), (.int (32 : Int32))])) (fun tg kk => XS.l2i X0.here hx rfl (hb hby own_d2_13) rfl kk) ?_
    obtain ⟨_, _, ⟨T2, L2, k2, n2⟩, -, X2, ⟨Lc2, hQ2, l2, y2, z2⟩, st2⟩ := Jvm.LawKit.callS X0 hx (y := (⟨"java/lang/Integer", "numberOfLeadingZeros", "(I)I"⟩ : MethodName)) hown (mvT hZ (hw _ (List.mem_of_getElem? (i := 8) rfl))) (mvT hZ (hw _ (List.mem_of_getElem? (i := 9) rfl))) (mvT hZ (hw _ (List.mem_of_getElem? (i := 10) rfl))) (mvT hZ (hw _ (List.mem_of_getElem? (i := 11) rfl))) (by decide) (backOf (W := 1) (own_ni l Z a0 hw [] (x.toInt32) h0 n0 Z0 (own_lo0 hx0 hc1)) hZ (hw _ (List.mem_of_getElem? (i := 11) rfl)) (hw _ (List.mem_of_getElem? (i := 10) rfl)) (by decide) (by decide)) (g := (mkF m 14 #[.val (.long x), .second, .val (.int (((x.toUInt64 >>> ((32 : Int32) &&& 0x3f).toInt64.toUInt64).toInt64).toInt32))] [(.int (x.toInt32)), (.int (32 : Int32))])) rfl (by rw [hml]; rfl) (argsL := [(.int (x.toInt32))]) (rest := [(.int (32 : Int32))]) (lenOf own_pd0 rfl) rfl (by show 2 * 0 + _ ≤ _; exact Nat.le_of_eq rfl) (hb hby own_d2_14) (fun _ _ => ⟨rfl, e0, (by decide : 0 + 0 ≤ _), (by decide : 0 + 0 ≤ _)⟩)
    dsimp only [Pt.U, Pt.locs, Pt.cells, Pt.slots] at X2 l2 y2 z2 st2 hQ2
    subst l2 y2 z2
    obtain ⟨z_3, rfl, N2q, e2, po4⟩ := hQ2
    have N2 := Fr.app N0 N2q
    refine OwnGo.back (T2.setTop (mkF m 17 #[.val (.long x), .second, .val (.int (((x.toUInt64 >>> ((32 : Int32) &&& 0x3f).toInt64.toUInt64).toInt64).toInt32))] [(.int z_3), (.int (32 : Int32))])) (fun tg kk => st2 _ kk) ?_
    refine OwnGo.back (T2.setTop (mkF m 18 #[.val (.long x), .second, .val (.int (((x.toUInt64 >>> ((32 : Int32) &&& 0x3f).toInt64.toUInt64).toInt64).toInt32))] [(.int ((32 : Int32) + z_3))])) (fun tg kk => XS.iadd X2.here hx rfl (hb hby own_d2_17) rfl kk) ?_
    refine OwnGo.back (T2.setTop (mkF m 25 #[.val (.long x), .second, .val (.int (((x.toUInt64 >>> ((32 : Int32) &&& 0x3f).toInt64.toUInt64).toInt64).toInt32))] [(.int ((32 : Int32) + z_3))])) (fun tg kk => XS.goto X2.here hx rfl (pc0 := 18) (pc' := 25) rfl (hb hby own_d2_18) (by decide) (by decide) kk) ?_
    obtain ⟨fs, hr, hrun, hended, hW, hsame⟩ := X2.leave (v := some (.int ((32 : Int32) + z_3))) (fun h => by rw [Bd.returns] at h; cases h)
    refine ⟨_, _, ?_, hrun, hended, _, _, rfl, ?_, ⟨_, rfl⟩, hW, hsame.mono (by decide) (by decide)⟩
    · exact own_retI X2 hx Bd.returns (hb hby own_d2_25) hr
    · show own_nl_Q Z x h0 n0 _ T2.heap _
      rw [e2]
      exact ⟨((32 : Int32) + z_3), rfl, N2, rfl, (own_lo hx0 hc1 po4)⟩
  ·
    refine OwnGo.back (s₁.setTop (mkF m 21 #[.val (.long x), .second, .val (.int (((x.toUInt64 >>> ((32 : Int32) &&& 0x3f).toInt64.toUInt64).toInt64).toInt32))] [])) (fun tg kk => XS.ifYes X0.here hx rfl (pc0 := 7) (pc' := 21) rfl (hb hby own_d2_7) rfl ((if0 _ _).trans (feq hc1).2) (by decide) (by decide) kk) ?_
    refine OwnGo.back (s₁.setTop (mkF m 22 #[.val (.long x), .second, .val (.int (((x.toUInt64 >>> ((32 : Int32) &&& 0x3f).toInt64.toUInt64).toInt64).toInt32))] [(.int (((x.toUInt64 >>> ((32 : Int32) &&& 0x3f).toInt64.toUInt64).toInt64).toInt32))])) (fun tg kk => XS.iloadN X0.here hx rfl (hb hby own_d2_21) rfl kk) ?_
    obtain ⟨_, _, ⟨T5, L5, k5, n5⟩, -, X5, ⟨Lc5, hQ5, l5, y5, z5⟩, st5⟩ := Jvm.LawKit.callS X0 hx (y := (⟨"java/lang/Integer", "numberOfLeadingZeros", "(I)I"⟩ : MethodName)) hown (mvT hZ (hw _ (List.mem_of_getElem? (i := 8) rfl))) (mvT hZ (hw _ (List.mem_of_getElem? (i := 9) rfl))) (mvT hZ (hw _ (List.mem_of_getElem? (i := 10) rfl))) (mvT hZ (hw _ (List.mem_of_getElem? (i := 11) rfl))) (by decide) (backOf (W := 0) (own_ni l Z a0 hw [] (((x.toUInt64 >>> ((32 : Int32) &&& 0x3f).toInt64.toUInt64).toInt64).toInt32) h0 n0 Z0 hc1) hZ (hw _ (List.mem_of_getElem? (i := 11) rfl)) (hw _ (List.mem_of_getElem? (i := 10) rfl)) (by decide) (by decide)) (g := (mkF m 22 #[.val (.long x), .second, .val (.int (((x.toUInt64 >>> ((32 : Int32) &&& 0x3f).toInt64.toUInt64).toInt64).toInt32))] [(.int (((x.toUInt64 >>> ((32 : Int32) &&& 0x3f).toInt64.toUInt64).toInt64).toInt32))])) rfl (by rw [hml]; rfl) (argsL := [(.int (((x.toUInt64 >>> ((32 : Int32) &&& 0x3f).toInt64.toUInt64).toInt64).toInt32))]) (rest := []) (lenOf own_pd0 rfl) rfl (by show 2 * 0 + _ ≤ _; exact Nat.le_of_eq rfl) (hb hby own_d2_22) (fun _ _ => ⟨rfl, e0, (by decide : 0 + 0 ≤ _), (by decide : 0 + 0 ≤ _)⟩)
    dsimp only [Pt.U, Pt.locs, Pt.cells, Pt.slots] at X5 l5 y5 z5 st5 hQ5
    subst l5 y5 z5
    obtain ⟨z_6, rfl, N5q, e5, po7⟩ := hQ5
    have N5 := Fr.app N0 N5q
    refine OwnGo.back (T5.setTop (mkF m 25 #[.val (.long x), .second, .val (.int (((x.toUInt64 >>> ((32 : Int32) &&& 0x3f).toInt64.toUInt64).toInt64).toInt32))] [(.int z_6)])) (fun tg kk => st5 _ kk) ?_
    obtain ⟨fs, hr, hrun, hended, hW, hsame⟩ := X5.leave (v := some (.int z_6)) (fun h => by rw [Bd.returns] at h; cases h)
    refine ⟨_, _, ?_, hrun, hended, _, _, rfl, ?_, ⟨_, rfl⟩, hW, hsame.mono (by decide) (by decide)⟩
    · exact own_retI X5 hx Bd.returns (hb hby own_d2_25) hr
    · show own_nl_Q Z x h0 n0 _ T5.heap _
      rw [e5]
      exact ⟨z_6, rfl, N5, rfl, (own_hh hx0 hc1 po7)⟩
theorem own_luby_ef (m : MethodId) (x0 : Int64) : entryFrame m #[(.long x0)] 5 = mkF m 0 #[.val (.long x0), .second, .unset, .unset, .unset] [] := by first | (simp [entryFrame, mkF, argsToLocals, Value.category]; done) | rfl
def own_luby_Q (Z : State) (q : Int64) (h0 : Heap) (n0 : Nat) (rv : Option Value) (hN : Heap) (LL : List Loc) : Prop := ∃ (w : Int64), rv = some (.long w) ∧ Fr n0 LL ∧ hN = h0 ∧ w.toInt = own_L q.toInt.toNat
set_option maxRecDepth 65536 in
set_option maxHeartbeats 40000000 in
theorem own_luby (l : Launch) (Z : State) (a0 : Array Value) (hw : ∀ d ∈ tables_1, d.before a0 Z = true) (ws : List Jvm.Cond) (q : Int64) (h0 : Heap) (n0 : Nat) (Z0 : n0 ≤ h0.size) (hq0 : 0 < q) :
    MetFree l (⟨"com/example/entrave/entrave/Restarts", "luby", "(J)J"⟩ : MethodName) (head1 (Jvm.Cond.code (⟨"com/example/entrave/entrave/Restarts", "luby", "(J)J"⟩ : MethodName) prog_15_method_5_code 5 (some .long) :: ws) ({ frames := 2, cells := 0, slots := 0, locals := 29 } : Room)) (fun aa UU => aa = #[(.long q)] ∧ Z.Warmed39 UU.vm ∧ UU.heap = h0) (fun _ _ _ _ _ => True) (fun _ UU oo UU' => ∃ rv LL, oo = .returned rv ∧ own_luby_Q Z q h0 n0 rv UU'.heap LL ∧ FrameEnd UU oo UU' LL ({ frames := 2, cells := 0, slots := 0, locals := 29 } : Room).cells ({ frames := 2, cells := 0, slots := 0, locals := 29 } : Room).slots) := by
  refine MetFree.of_bodySF (plainFor_of_name own_pn2) hisR ?_
  intro p e s m args below meth c s₁ Bd hml0 hP hK
  obtain ⟨rfl, hZ, hh⟩ := hP
  have hx := Bd.exec
  have hby := Bd.bytes
  have hml : c.maxLocals = 5 := hml0
  have hown : s.vm.findClass "com/example/entrave/entrave/Restarts" = some m.cls := findClass_of_methodNamed Bd.named
  have hnm := (name_of_methodNamed Bd.named Bd.method).1
  have X0 : Stand p l e ({ frames := 2, cells := 0, slots := 0, locals := 29 } : Room) s m #[(.long q)] below meth c s₁ [] 0 0 := Stand.of_body Bd
  have e0 : s₁.heap = h0 := by rw [← hh, Bd.state]; rfl
  have N0 := Fr.nil n0
  have K0 : Keep h0 h0 [] := Keep.refl h0 _
  refine (?_ : OwnGo p.tables e below (fun UU' oo => ∃ rv LL, oo = .returned rv ∧ own_luby_Q Z q h0 n0 rv UU'.heap LL ∧ FrameEnd s oo UU' LL ({ frames := 2, cells := 0, slots := 0, locals := 29 } : Room).cells ({ frames := 2, cells := 0, slots := 0, locals := 29 } : Room).slots) _)
  refine OwnGo.back (s₁.setTop (mkF m 0 #[.val (.long q), .second, .unset, .unset, .unset] [])) (fun tg kk => castTop (own_luby_ef m q) kk) ?_
  refine OwnGo.back (s₁.setTop (mkF m 1 #[.val (.long q), .second, .unset, .unset, .unset] [(.long q)])) (fun tg kk => XS.lloadN X0.here hx rfl (hb hby own_d1_0) rfl kk) ?_
  refine OwnGo.back (s₁.setTop (mkF m 2 #[.val (.long q), .second, .val (.long q), .second, .unset] [])) (fun tg kk => XS.lstoreN X0.here hx rfl (hb hby own_d1_1) rfl (l' := #[.val (.long q), .second, .val (.long q), .second, .unset]) rfl kk) ?_
  refine OwnGo.back (s₁.setTop (mkF m 4 #[.val (.long q), .second, .val (.long q), .second, .unset] [(.int (64 : Int32))])) (fun tg kk => XS.bipush X0.here hx rfl (hb hby own_d1_2) kk) ?_
  refine OwnGo.back (s₁.setTop (mkF m 5 #[.val (.long q), .second, .val (.long q), .second, .unset] [(.long q), (.int (64 : Int32))])) (fun tg kk => XS.lloadN X0.here hx rfl (hb hby own_d1_4) rfl kk) ?_
  obtain ⟨_, _, ⟨T1, L1, k1, n1⟩, -, X1, ⟨Lc1, hQ1, l1, y1, z1⟩, st1⟩ := Jvm.LawKit.callS X0 hx (y := (⟨"java/lang/Long", "numberOfLeadingZeros", "(J)I"⟩ : MethodName)) hown (mvT hZ (hw _ (List.mem_of_getElem? (i := 4) rfl))) (mvT hZ (hw _ (List.mem_of_getElem? (i := 5) rfl))) (mvT hZ (hw _ (List.mem_of_getElem? (i := 6) rfl))) (mvT hZ (hw _ (List.mem_of_getElem? (i := 7) rfl))) (by decide) (backOf (W := 1) (own_nl l Z a0 hw [] q h0 n0 Z0 hq0) hZ (hw _ (List.mem_of_getElem? (i := 7) rfl)) (hw _ (List.mem_of_getElem? (i := 6) rfl)) (by decide) (by decide)) (g := (mkF m 5 #[.val (.long q), .second, .val (.long q), .second, .unset] [(.long q), (.int (64 : Int32))])) rfl (by rw [hml]; rfl) (argsL := [(.long q)]) (rest := [(.int (64 : Int32))]) (lenOf own_pd1 rfl) rfl (by show 2 * 0 + _ ≤ _; exact Nat.le_of_eq rfl) (hb hby own_d1_5) (fun _ _ => ⟨rfl, e0, (by decide : 0 + 0 ≤ _), (by decide : 0 + 0 ≤ _)⟩)
  dsimp only [Pt.U, Pt.locs, Pt.cells, Pt.slots] at X1 l1 y1 z1 st1 hQ1
  subst l1 y1 z1
  obtain ⟨z_2, rfl, N1q, e1, po3⟩ := hQ1
  have N1 := Fr.app N0 N1q
  refine OwnGo.back (T1.setTop (mkF m 8 #[.val (.long q), .second, .val (.long q), .second, .unset] [(.int z_2), (.int (64 : Int32))])) (fun tg kk => st1 _ kk) ?_
  refine OwnGo.back (T1.setTop (mkF m 9 #[.val (.long q), .second, .val (.long q), .second, .unset] [(.int ((64 : Int32) - z_2))])) (fun tg kk => XS.isub X1.here hx rfl (hb hby own_d1_8) rfl kk) ?_
  refine OwnGo.back (T1.setTop (mkF m 11 #[.val (.long q), .second, .val (.long q), .second, .val (.int ((64 : Int32) - z_2))] [])) (fun tg kk => XS.istore X1.here hx rfl (hb hby own_d1_9) rfl (l' := #[.val (.long q), .second, .val (.long q), .second, .val (.int ((64 : Int32) - z_2))]) rfl kk) ?_
  have loop : ∀ (n : Nat) (r : Int64) (ln : Int32) (T : State) (lo : List Loc), r.toInt.toNat ≤ n → 0 < r → own_bl r ln → own_L r.toInt.toNat = own_L q.toInt.toNat → Stand p l e ({ frames := 2, cells := 0, slots := 0, locals := 29 } : Room) s m #[(.long q)] below meth c T lo 0 0 → T.heap = h0 → Fr n0 lo → OwnGo p.tables e below (fun UU' oo => ∃ rv LL, oo = .returned rv ∧ own_luby_Q Z q h0 n0 rv UU'.heap LL ∧ FrameEnd s oo UU' LL ({ frames := 2, cells := 0, slots := 0, locals := 29 } : Room).cells ({ frames := 2, cells := 0, slots := 0, locals := 29 } : Room).slots) (T.setTop (mkF m 11 #[.val (.long q), .second, .val (.long r), .second, .val (.int ln)] [])) := by
    intro n
    induction n with
    | zero => intro r ln T lo hn hr _ _ _ _ _; exact absurd hn (own_z hr)
    | succ n ih =>
      intro r ln T lo hn hr hbl hL X e1 N
      refine OwnGo.back (T.setTop (mkF m 12 #[.val (.long q), .second, .val (.long r), .second, .val (.int ln)] [(.long r)])) (fun tg kk => XS.lloadN X.here hx rfl (hb hby own_d1_11) rfl kk) ?_
      refine OwnGo.back (T.setTop (mkF m 13 #[.val (.long q), .second, .val (.long r), .second, .val (.int ln)] [(.long (1 : Int64)), (.long r)])) (fun tg kk => XS.lconst X.here hx rfl (hb hby own_d1_12) kk) ?_
      refine OwnGo.back (T.setTop (mkF m 15 #[.val (.long q), .second, .val (.long r), .second, .val (.int ln)] [(.int ln), (.long (1 : Int64)), (.long r)])) (fun tg kk => XS.iload X.here hx rfl (hb hby own_d1_13) rfl kk) ?_
      refine OwnGo.back (T.setTop (mkF m 16 #[.val (.long q), .second, .val (.long r), .second, .val (.int ln)] [(.long ((1 : Int64) <<< (ln &&& 0x3f).toInt64)), (.long r)])) (fun tg kk => XS.lshl X.here hx rfl (hb hby own_d1_15) rfl kk) ?_
      refine OwnGo.back (T.setTop (mkF m 17 #[.val (.long q), .second, .val (.long r), .second, .val (.int ln)] [(.long (1 : Int64)), (.long ((1 : Int64) <<< (ln &&& 0x3f).toInt64)), (.long r)])) (fun tg kk => XS.lconst X.here hx rfl (hb hby own_d1_16) kk) ?_
      refine OwnGo.back (T.setTop (mkF m 18 #[.val (.long q), .second, .val (.long r), .second, .val (.int ln)] [(.long (((1 : Int64) <<< (ln &&& 0x3f).toInt64) - (1 : Int64))), (.long r)])) (fun tg kk => XS.lsub X.here hx rfl (hb hby own_d1_17) rfl kk) ?_
      refine OwnGo.back (T.setTop (mkF m 19 #[.val (.long q), .second, .val (.long r), .second, .val (.int ln)] [(.int (lcmpW r (((1 : Int64) <<< (ln &&& 0x3f).toInt64) - (1 : Int64))))])) (fun tg kk => XS.lcmp X.here hx rfl (hb hby own_d1_18) rfl kk) ?_
      by_cases hc4 : r = (((1 : Int64) <<< (ln &&& 0x3f).toInt64) - (1 : Int64))
      ·
        refine OwnGo.back (T.setTop (mkF m 45 #[.val (.long q), .second, .val (.long r), .second, .val (.int ln)] [])) (fun tg kk => XS.ifYes X.here hx rfl (pc0 := 19) (pc' := 45) rfl (hb hby own_d1_19) rfl ((if0 _ _).trans (teq ((lw_eq _ _).mpr hc4)).1) (by decide) (by decide) kk) ?_
        refine OwnGo.back (T.setTop (mkF m 46 #[.val (.long q), .second, .val (.long r), .second, .val (.int ln)] [(.long (1 : Int64))])) (fun tg kk => XS.lconst X.here hx rfl (hb hby own_d1_45) kk) ?_
        refine OwnGo.back (T.setTop (mkF m 48 #[.val (.long q), .second, .val (.long r), .second, .val (.int ln)] [(.int ln), (.long (1 : Int64))])) (fun tg kk => XS.iload X.here hx rfl (hb hby own_d1_46) rfl kk) ?_
        refine OwnGo.back (T.setTop (mkF m 49 #[.val (.long q), .second, .val (.long r), .second, .val (.int ln)] [(.int (1 : Int32)), (.int ln), (.long (1 : Int64))])) (fun tg kk => XS.iconst X.here hx rfl (hb hby own_d1_48) kk) ?_
        refine OwnGo.back (T.setTop (mkF m 50 #[.val (.long q), .second, .val (.long r), .second, .val (.int ln)] [(.int (ln - (1 : Int32))), (.long (1 : Int64))])) (fun tg kk => XS.isub X.here hx rfl (hb hby own_d1_49) rfl kk) ?_
        refine OwnGo.back (T.setTop (mkF m 51 #[.val (.long q), .second, .val (.long r), .second, .val (.int ln)] [(.long ((1 : Int64) <<< ((ln - (1 : Int32)) &&& 0x3f).toInt64))])) (fun tg kk => XS.lshl X.here hx rfl (hb hby own_d1_50) rfl kk) ?_
        obtain ⟨fs, hr, hrun, hended, hW, hsame⟩ := X.leave (v := some (.long ((1 : Int64) <<< ((ln - (1 : Int32)) &&& 0x3f).toInt64))) (fun h => by rw [Bd.returns] at h; cases h)
        refine ⟨_, _, ?_, hrun, hended, _, _, rfl, ?_, ⟨_, rfl⟩, hW, hsame.mono (by decide) (by decide)⟩
        · exact own_retJ X hx Bd.returns (hb hby own_d1_51) hr
        · show own_luby_Q Z q h0 n0 _ T.heap _
          rw [e1]
          exact ⟨((1 : Int64) <<< ((ln - (1 : Int32)) &&& 0x3f).toInt64), rfl, N, rfl, ((own_fin hbl hc4).trans (congrArg Int.ofNat hL))⟩
      ·
        refine OwnGo.back (T.setTop (mkF m 22 #[.val (.long q), .second, .val (.long r), .second, .val (.int ln)] [])) (fun tg kk => XS.ifNo X.here hx rfl (hb hby own_d1_19) rfl ((if0 _ _).trans (feq (own_not (lw_eq _ _) hc4)).1) kk) ?_
        refine OwnGo.back (T.setTop (mkF m 23 #[.val (.long q), .second, .val (.long r), .second, .val (.int ln)] [(.long r)])) (fun tg kk => XS.lloadN X.here hx rfl (hb hby own_d1_22) rfl kk) ?_
        refine OwnGo.back (T.setTop (mkF m 24 #[.val (.long q), .second, .val (.long r), .second, .val (.int ln)] [(.long (1 : Int64)), (.long r)])) (fun tg kk => XS.lconst X.here hx rfl (hb hby own_d1_23) kk) ?_
        refine OwnGo.back (T.setTop (mkF m 26 #[.val (.long q), .second, .val (.long r), .second, .val (.int ln)] [(.int ln), (.long (1 : Int64)), (.long r)])) (fun tg kk => XS.iload X.here hx rfl (hb hby own_d1_24) rfl kk) ?_
        refine OwnGo.back (T.setTop (mkF m 27 #[.val (.long q), .second, .val (.long r), .second, .val (.int ln)] [(.int (1 : Int32)), (.int ln), (.long (1 : Int64)), (.long r)])) (fun tg kk => XS.iconst X.here hx rfl (hb hby own_d1_26) kk) ?_
        refine OwnGo.back (T.setTop (mkF m 28 #[.val (.long q), .second, .val (.long r), .second, .val (.int ln)] [(.int (ln - (1 : Int32))), (.long (1 : Int64)), (.long r)])) (fun tg kk => XS.isub X.here hx rfl (hb hby own_d1_27) rfl kk) ?_
        refine OwnGo.back (T.setTop (mkF m 29 #[.val (.long q), .second, .val (.long r), .second, .val (.int ln)] [(.long ((1 : Int64) <<< ((ln - (1 : Int32)) &&& 0x3f).toInt64)), (.long r)])) (fun tg kk => XS.lshl X.here hx rfl (hb hby own_d1_28) rfl kk) ?_
        refine OwnGo.back (T.setTop (mkF m 30 #[.val (.long q), .second, .val (.long r), .second, .val (.int ln)] [(.long (1 : Int64)), (.long ((1 : Int64) <<< ((ln - (1 : Int32)) &&& 0x3f).toInt64)), (.long r)])) (fun tg kk => XS.lconst X.here hx rfl (hb hby own_d1_29) kk) ?_
        refine OwnGo.back (T.setTop (mkF m 31 #[.val (.long q), .second, .val (.long r), .second, .val (.int ln)] [(.long (((1 : Int64) <<< ((ln - (1 : Int32)) &&& 0x3f).toInt64) - (1 : Int64))), (.long r)])) (fun tg kk => XS.lsub X.here hx rfl (hb hby own_d1_30) rfl kk) ?_
        refine OwnGo.back (T.setTop (mkF m 32 #[.val (.long q), .second, .val (.long r), .second, .val (.int ln)] [(.long (r - (((1 : Int64) <<< ((ln - (1 : Int32)) &&& 0x3f).toInt64) - (1 : Int64))))])) (fun tg kk => XS.lsub X.here hx rfl (hb hby own_d1_31) rfl kk) ?_
        refine OwnGo.back (T.setTop (mkF m 33 #[.val (.long q), .second, .val (.long (r - (((1 : Int64) <<< ((ln - (1 : Int32)) &&& 0x3f).toInt64) - (1 : Int64)))), .second, .val (.int ln)] [])) (fun tg kk => XS.lstoreN X.here hx rfl (hb hby own_d1_32) rfl (l' := #[.val (.long q), .second, .val (.long (r - (((1 : Int64) <<< ((ln - (1 : Int32)) &&& 0x3f).toInt64) - (1 : Int64)))), .second, .val (.int ln)]) rfl kk) ?_
        refine OwnGo.back (T.setTop (mkF m 35 #[.val (.long q), .second, .val (.long (r - (((1 : Int64) <<< ((ln - (1 : Int32)) &&& 0x3f).toInt64) - (1 : Int64)))), .second, .val (.int ln)] [(.int (64 : Int32))])) (fun tg kk => XS.bipush X.here hx rfl (hb hby own_d1_33) kk) ?_
        refine OwnGo.back (T.setTop (mkF m 36 #[.val (.long q), .second, .val (.long (r - (((1 : Int64) <<< ((ln - (1 : Int32)) &&& 0x3f).toInt64) - (1 : Int64)))), .second, .val (.int ln)] [(.long (r - (((1 : Int64) <<< ((ln - (1 : Int32)) &&& 0x3f).toInt64) - (1 : Int64)))), (.int (64 : Int32))])) (fun tg kk => XS.lloadN X.here hx rfl (hb hby own_d1_35) rfl kk) ?_
        obtain ⟨_, _, ⟨T5, L5, k5, n5⟩, -, X5, ⟨Lc5, hQ5, l5, y5, z5⟩, st5⟩ := Jvm.LawKit.callS X hx (y := (⟨"java/lang/Long", "numberOfLeadingZeros", "(J)I"⟩ : MethodName)) hown (mvT hZ (hw _ (List.mem_of_getElem? (i := 4) rfl))) (mvT hZ (hw _ (List.mem_of_getElem? (i := 5) rfl))) (mvT hZ (hw _ (List.mem_of_getElem? (i := 6) rfl))) (mvT hZ (hw _ (List.mem_of_getElem? (i := 7) rfl))) (by decide) (backOf (W := 1) (own_nl l Z a0 hw [] (r - (((1 : Int64) <<< ((ln - (1 : Int32)) &&& 0x3f).toInt64) - (1 : Int64))) h0 n0 Z0 (own_nx hbl hc4).1) hZ (hw _ (List.mem_of_getElem? (i := 7) rfl)) (hw _ (List.mem_of_getElem? (i := 6) rfl)) (by decide) (by decide)) (g := (mkF m 36 #[.val (.long q), .second, .val (.long (r - (((1 : Int64) <<< ((ln - (1 : Int32)) &&& 0x3f).toInt64) - (1 : Int64)))), .second, .val (.int ln)] [(.long (r - (((1 : Int64) <<< ((ln - (1 : Int32)) &&& 0x3f).toInt64) - (1 : Int64)))), (.int (64 : Int32))])) rfl (by rw [hml]; rfl) (argsL := [(.long (r - (((1 : Int64) <<< ((ln - (1 : Int32)) &&& 0x3f).toInt64) - (1 : Int64))))]) (rest := [(.int (64 : Int32))]) (lenOf own_pd1 rfl) rfl (by show 2 * 0 + _ ≤ _; exact Nat.le_of_eq rfl) (hb hby own_d1_36) (fun _ _ => ⟨rfl, e1, (by decide : 0 + 0 ≤ _), (by decide : 0 + 0 ≤ _)⟩)
        dsimp only [Pt.U, Pt.locs, Pt.cells, Pt.slots] at X5 l5 y5 z5 st5 hQ5
        subst l5 y5 z5
        obtain ⟨z_6, rfl, N5q, e5, po7⟩ := hQ5
        have N5 := Fr.app N N5q
        refine OwnGo.back (T5.setTop (mkF m 39 #[.val (.long q), .second, .val (.long (r - (((1 : Int64) <<< ((ln - (1 : Int32)) &&& 0x3f).toInt64) - (1 : Int64)))), .second, .val (.int ln)] [(.int z_6), (.int (64 : Int32))])) (fun tg kk => st5 _ kk) ?_
        refine OwnGo.back (T5.setTop (mkF m 40 #[.val (.long q), .second, .val (.long (r - (((1 : Int64) <<< ((ln - (1 : Int32)) &&& 0x3f).toInt64) - (1 : Int64)))), .second, .val (.int ln)] [(.int ((64 : Int32) - z_6))])) (fun tg kk => XS.isub X5.here hx rfl (hb hby own_d1_39) rfl kk) ?_
        refine OwnGo.back (T5.setTop (mkF m 42 #[.val (.long q), .second, .val (.long (r - (((1 : Int64) <<< ((ln - (1 : Int32)) &&& 0x3f).toInt64) - (1 : Int64)))), .second, .val (.int ((64 : Int32) - z_6))] [])) (fun tg kk => XS.istore X5.here hx rfl (hb hby own_d1_40) rfl (l' := #[.val (.long q), .second, .val (.long (r - (((1 : Int64) <<< ((ln - (1 : Int32)) &&& 0x3f).toInt64) - (1 : Int64)))), .second, .val (.int ((64 : Int32) - z_6))]) rfl kk) ?_
        refine OwnGo.back (T5.setTop (mkF m 11 #[.val (.long q), .second, .val (.long (r - (((1 : Int64) <<< ((ln - (1 : Int32)) &&& 0x3f).toInt64) - (1 : Int64)))), .second, .val (.int ((64 : Int32) - z_6))] [])) (fun tg kk => XS.goto X5.here hx rfl (pc0 := 42) (pc' := 11) rfl (hb hby own_d1_42) (by decide) (by decide) kk) ?_
        exact ih _ _ _ _ (Nat.lt_of_lt_of_le (own_nx hbl hc4).2.1 hn |> Nat.le_of_lt_succ) (own_nx hbl hc4).1 (own_bl_of po7) ((own_nx hbl hc4).2.2.trans hL) X5 e5 N5
  exact loop _ _ _ _ _ (Nat.le_refl _) hq0 (own_bl_of po3) rfl X1 e1 N1
theorem own_law_ef (m : MethodId) (x0 : Int32) (x1 : Int64) (x2 : Int32) : entryFrame m #[(.int x0), (.long x1), (.int x2)] maxLocals = mkF m 0 #[.val (.int x0), .val (.long x1), .second, .val (.int x2), .unset, .unset, .unset, .unset, .unset, .unset, .unset, .unset, .unset, .unset, .unset] [] := by first | (simp [entryFrame, mkF, argsToLocals, Value.category, maxLocals]; done) | rfl
def own_law_Q (Z : State) (p1 : Int32) (p2 : Int64) (p3 : Int32) (h0 : Heap) (n0 : Nat) (rv : Option Value) (hN : Heap) (LL : List Loc) : Prop := rv = some (.int (1 : Int32)) ∧ Fr n0 LL ∧ hN = h0
set_option maxRecDepth 65536 in
set_option maxHeartbeats 40000000 in
theorem own_law (l : Launch) (Z : State) (a0 : Array Value) (hw : ∀ d ∈ tables_1, d.before a0 Z = true) (ws : List Jvm.Cond) (p1 : Int32) (p2 : Int64) (p3 : Int32) (h0 : Heap) (n0 : Nat) (Z0 : n0 ≤ h0.size) :
    MetFree l x (head1 (Jvm.Cond.code x code maxLocals ret :: ws) room_1) (fun aa UU => aa = #[(.int p1), (.long p2), (.int p3)] ∧ Z.Warmed39 UU.vm ∧ UU.heap = h0) (fun _ _ _ _ _ => True) (fun _ UU oo UU' => ∃ rv LL, oo = .returned rv ∧ own_law_Q Z p1 p2 p3 h0 n0 rv UU'.heap LL ∧ FrameEnd UU oo UU' LL room_1.cells room_1.slots) := by
  refine MetFree.of_bodySF (plainFor_of_name own_pn3) hisR ?_
  intro p e s m args below meth c s₁ Bd hml0 hP hK
  obtain ⟨rfl, hZ, hh⟩ := hP
  have hx := Bd.exec
  have hby := Bd.bytes
  have hml : c.maxLocals = 15 := hml0
  have hown : s.vm.findClass "com/example/entrave/entrave/RestartsLubyPinLaw" = some m.cls := findClass_of_methodNamed Bd.named
  have hnm := (name_of_methodNamed Bd.named Bd.method).1
  have X0 : Stand p l e room_1 s m #[(.int p1), (.long p2), (.int p3)] below meth c s₁ [] 0 0 := Stand.of_body Bd
  have e0 : s₁.heap = h0 := by rw [← hh, Bd.state]; rfl
  have N0 := Fr.nil n0
  have K0 : Keep h0 h0 [] := Keep.refl h0 _
  refine (?_ : OwnGo p.tables e below (fun UU' oo => ∃ rv LL, oo = .returned rv ∧ own_law_Q Z p1 p2 p3 h0 n0 rv UU'.heap LL ∧ FrameEnd s oo UU' LL room_1.cells room_1.slots) _)
  refine OwnGo.back (s₁.setTop (mkF m 0 #[.val (.int p1), .val (.long p2), .second, .val (.int p3), .unset, .unset, .unset, .unset, .unset, .unset, .unset, .unset, .unset, .unset, .unset] [])) (fun tg kk => castTop (own_law_ef m p1 p2 p3) kk) ?_
  refine OwnGo.back (s₁.setTop (mkF m 1 #[.val (.int p1), .val (.long p2), .second, .val (.int p3), .unset, .unset, .unset, .unset, .unset, .unset, .unset, .unset, .unset, .unset, .unset] [(.int p1)])) (fun tg kk => XS.iloadN X0.here hx rfl (hb hby at_0) rfl kk) ?_
  refine OwnGo.back (s₁.setTop (mkF m 3 #[.val (.int p1), .val (.long p2), .second, .val (.int p3), .unset, .unset, .unset, .unset, .unset, .unset, .unset, .unset, .unset, .unset, .unset] [(.int (63 : Int32)), (.int p1)])) (fun tg kk => XS.bipush X0.here hx rfl (hb hby at_1) kk) ?_
  refine OwnGo.back (s₁.setTop (mkF m 4 #[.val (.int p1), .val (.long p2), .second, .val (.int p3), .unset, .unset, .unset, .unset, .unset, .unset, .unset, .unset, .unset, .unset, .unset] [(.int (p1 &&& (63 : Int32)))])) (fun tg kk => XS.iand X0.here hx rfl (hb hby at_3) rfl kk) ?_
  refine OwnGo.back (s₁.setTop (mkF m 6 #[.val (.int p1), .val (.long p2), .second, .val (.int p3), .unset, .unset, .unset, .unset, .unset, .unset, .unset, .unset, .unset, .unset, .unset] [(.int (63 : Int32)), (.int (p1 &&& (63 : Int32)))])) (fun tg kk => XS.bipush X0.here hx rfl (hb hby at_4) kk) ?_
  refine OwnGo.back (s₁.setTop (mkF m 7 #[.val (.int p1), .val (.long p2), .second, .val (.int p3), .unset, .unset, .unset, .unset, .unset, .unset, .unset, .unset, .unset, .unset, .unset] [(.int ((p1 &&& (63 : Int32)) % (63 : Int32)))])) (fun tg kk => iremM X0 hx rfl (hb hby at_6) rfl (by decide) kk) ?_
  refine OwnGo.back (s₁.setTop (mkF m 8 #[.val (.int p1), .val (.long p2), .second, .val (.int p3), .unset, .unset, .unset, .unset, .unset, .unset, .unset, .unset, .unset, .unset, .unset] [(.int (1 : Int32)), (.int ((p1 &&& (63 : Int32)) % (63 : Int32)))])) (fun tg kk => XS.iconst X0.here hx rfl (hb hby at_7) kk) ?_
  refine OwnGo.back (s₁.setTop (mkF m 9 #[.val (.int p1), .val (.long p2), .second, .val (.int p3), .unset, .unset, .unset, .unset, .unset, .unset, .unset, .unset, .unset, .unset, .unset] [(.int (((p1 &&& (63 : Int32)) % (63 : Int32)) + (1 : Int32)))])) (fun tg kk => XS.iadd X0.here hx rfl (hb hby at_8) rfl kk) ?_
  refine OwnGo.back (s₁.setTop (mkF m 11 #[.val (.int p1), .val (.long p2), .second, .val (.int p3), .val (.int (((p1 &&& (63 : Int32)) % (63 : Int32)) + (1 : Int32))), .unset, .unset, .unset, .unset, .unset, .unset, .unset, .unset, .unset, .unset] [])) (fun tg kk => XS.istore X0.here hx rfl (hb hby at_9) rfl (l' := #[.val (.int p1), .val (.long p2), .second, .val (.int p3), .val (.int (((p1 &&& (63 : Int32)) % (63 : Int32)) + (1 : Int32))), .unset, .unset, .unset, .unset, .unset, .unset, .unset, .unset, .unset, .unset]) rfl kk) ?_
  refine OwnGo.back (s₁.setTop (mkF m 12 #[.val (.int p1), .val (.long p2), .second, .val (.int p3), .val (.int (((p1 &&& (63 : Int32)) % (63 : Int32)) + (1 : Int32))), .unset, .unset, .unset, .unset, .unset, .unset, .unset, .unset, .unset, .unset] [(.long (1 : Int64))])) (fun tg kk => XS.lconst X0.here hx rfl (hb hby at_11) kk) ?_
  refine OwnGo.back (s₁.setTop (mkF m 14 #[.val (.int p1), .val (.long p2), .second, .val (.int p3), .val (.int (((p1 &&& (63 : Int32)) % (63 : Int32)) + (1 : Int32))), .unset, .unset, .unset, .unset, .unset, .unset, .unset, .unset, .unset, .unset] [(.int (((p1 &&& (63 : Int32)) % (63 : Int32)) + (1 : Int32))), (.long (1 : Int64))])) (fun tg kk => XS.iload X0.here hx rfl (hb hby at_12) rfl kk) ?_
  refine OwnGo.back (s₁.setTop (mkF m 15 #[.val (.int p1), .val (.long p2), .second, .val (.int p3), .val (.int (((p1 &&& (63 : Int32)) % (63 : Int32)) + (1 : Int32))), .unset, .unset, .unset, .unset, .unset, .unset, .unset, .unset, .unset, .unset] [(.int (1 : Int32)), (.int (((p1 &&& (63 : Int32)) % (63 : Int32)) + (1 : Int32))), (.long (1 : Int64))])) (fun tg kk => XS.iconst X0.here hx rfl (hb hby at_14) kk) ?_
  refine OwnGo.back (s₁.setTop (mkF m 16 #[.val (.int p1), .val (.long p2), .second, .val (.int p3), .val (.int (((p1 &&& (63 : Int32)) % (63 : Int32)) + (1 : Int32))), .unset, .unset, .unset, .unset, .unset, .unset, .unset, .unset, .unset, .unset] [(.int ((((p1 &&& (63 : Int32)) % (63 : Int32)) + (1 : Int32)) - (1 : Int32))), (.long (1 : Int64))])) (fun tg kk => XS.isub X0.here hx rfl (hb hby at_15) rfl kk) ?_
  refine OwnGo.back (s₁.setTop (mkF m 17 #[.val (.int p1), .val (.long p2), .second, .val (.int p3), .val (.int (((p1 &&& (63 : Int32)) % (63 : Int32)) + (1 : Int32))), .unset, .unset, .unset, .unset, .unset, .unset, .unset, .unset, .unset, .unset] [(.long ((1 : Int64) <<< (((((p1 &&& (63 : Int32)) % (63 : Int32)) + (1 : Int32)) - (1 : Int32)) &&& 0x3f).toInt64))])) (fun tg kk => XS.lshl X0.here hx rfl (hb hby at_16) rfl kk) ?_
  obtain ⟨j, hj0, hj1, hj2⟩ := own_p p1
  obtain ⟨pp, hpp⟩ : ∃ z, z = ((1 : Int64) <<< (((((p1 &&& (63 : Int32)) % (63 : Int32)) + (1 : Int32)) - (1 : Int32)) &&& 0x3f).toInt64) := ⟨_, rfl⟩
  rw [← hpp] at hj1 hj2
  rw [← hpp]
  refine OwnGo.back (s₁.setTop (mkF m 19 #[.val (.int p1), .val (.long p2), .second, .val (.int p3), .val (.int (((p1 &&& (63 : Int32)) % (63 : Int32)) + (1 : Int32))), .val (.long pp), .second, .unset, .unset, .unset, .unset, .unset, .unset, .unset, .unset] [])) (fun tg kk => XS.lstore X0.here hx rfl (hb hby at_17) rfl (l' := #[.val (.int p1), .val (.long p2), .second, .val (.int p3), .val (.int (((p1 &&& (63 : Int32)) % (63 : Int32)) + (1 : Int32))), .val (.long pp), .second, .unset, .unset, .unset, .unset, .unset, .unset, .unset, .unset]) rfl kk) ?_
  refine OwnGo.back (s₁.setTop (mkF m 20 #[.val (.int p1), .val (.long p2), .second, .val (.int p3), .val (.int (((p1 &&& (63 : Int32)) % (63 : Int32)) + (1 : Int32))), .val (.long pp), .second, .unset, .unset, .unset, .unset, .unset, .unset, .unset, .unset] [(.long p2)])) (fun tg kk => XS.lloadN X0.here hx rfl (hb hby at_19) rfl kk) ?_
  refine OwnGo.back (s₁.setTop (mkF m 22 #[.val (.int p1), .val (.long p2), .second, .val (.int p3), .val (.int (((p1 &&& (63 : Int32)) % (63 : Int32)) + (1 : Int32))), .val (.long pp), .second, .unset, .unset, .unset, .unset, .unset, .unset, .unset, .unset] [(.long pp), (.long p2)])) (fun tg kk => XS.lload X0.here hx rfl (hb hby at_20) rfl kk) ?_
  refine OwnGo.back (s₁.setTop (mkF m 23 #[.val (.int p1), .val (.long p2), .second, .val (.int p3), .val (.int (((p1 &&& (63 : Int32)) % (63 : Int32)) + (1 : Int32))), .val (.long pp), .second, .unset, .unset, .unset, .unset, .unset, .unset, .unset, .unset] [(.long (1 : Int64)), (.long pp), (.long p2)])) (fun tg kk => XS.lconst X0.here hx rfl (hb hby at_22) kk) ?_
  refine OwnGo.back (s₁.setTop (mkF m 24 #[.val (.int p1), .val (.long p2), .second, .val (.int p3), .val (.int (((p1 &&& (63 : Int32)) % (63 : Int32)) + (1 : Int32))), .val (.long pp), .second, .unset, .unset, .unset, .unset, .unset, .unset, .unset, .unset] [(.long (pp - (1 : Int64))), (.long p2)])) (fun tg kk => XS.lsub X0.here hx rfl (hb hby at_23) rfl kk) ?_
  refine OwnGo.back (s₁.setTop (mkF m 25 #[.val (.int p1), .val (.long p2), .second, .val (.int p3), .val (.int (((p1 &&& (63 : Int32)) % (63 : Int32)) + (1 : Int32))), .val (.long pp), .second, .unset, .unset, .unset, .unset, .unset, .unset, .unset, .unset] [(.long (p2 &&& (pp - (1 : Int64))))])) (fun tg kk => XS.land X0.here hx rfl (hb hby at_24) rfl kk) ?_
  refine OwnGo.back (s₁.setTop (mkF m 27 #[.val (.int p1), .val (.long p2), .second, .val (.int p3), .val (.int (((p1 &&& (63 : Int32)) % (63 : Int32)) + (1 : Int32))), .val (.long pp), .second, .val (.long (p2 &&& (pp - (1 : Int64)))), .second, .unset, .unset, .unset, .unset, .unset, .unset] [])) (fun tg kk => XS.lstore X0.here hx rfl (hb hby at_25) rfl (l' := #[.val (.int p1), .val (.long p2), .second, .val (.int p3), .val (.int (((p1 &&& (63 : Int32)) % (63 : Int32)) + (1 : Int32))), .val (.long pp), .second, .val (.long (p2 &&& (pp - (1 : Int64)))), .second, .unset, .unset, .unset, .unset, .unset, .unset]) rfl kk) ?_
  obtain ⟨_, ⟨m2, rfl, hm3⟩, dm4⟩ : OwnMg p.tables e below (fun st' => ∃ (m2 : Int64), st' = s₁.setTop (mkF m 39 #[.val (.int p1), .val (.long p2), .second, .val (.int p3), .val (.int (((p1 &&& (63 : Int32)) % (63 : Int32)) + (1 : Int32))), .val (.long pp), .second, .val (.long m2), .second, .unset, .unset, .unset, .unset, .unset, .unset] []) ∧ ((((p3 &&& (1 : Int32)) = (0 : Int32)) ∧ m2 = (p2 &&& (pp - (1 : Int64)))) ∨ ((¬ ((p3 &&& (1 : Int32)) = (0 : Int32))) ∧ m2 = (pp - (1 : Int64))))) (s₁.setTop (mkF m 27 #[.val (.int p1), .val (.long p2), .second, .val (.int p3), .val (.int (((p1 &&& (63 : Int32)) % (63 : Int32)) + (1 : Int32))), .val (.long pp), .second, .val (.long (p2 &&& (pp - (1 : Int64)))), .second, .unset, .unset, .unset, .unset, .unset, .unset] [])) := by
    refine OwnMg.back (s₁.setTop (mkF m 28 #[.val (.int p1), .val (.long p2), .second, .val (.int p3), .val (.int (((p1 &&& (63 : Int32)) % (63 : Int32)) + (1 : Int32))), .val (.long pp), .second, .val (.long (p2 &&& (pp - (1 : Int64)))), .second, .unset, .unset, .unset, .unset, .unset, .unset] [(.int p3)])) (fun tg kk => XS.iloadN X0.here hx rfl (hb hby at_27) rfl kk) ?_
    refine OwnMg.back (s₁.setTop (mkF m 29 #[.val (.int p1), .val (.long p2), .second, .val (.int p3), .val (.int (((p1 &&& (63 : Int32)) % (63 : Int32)) + (1 : Int32))), .val (.long pp), .second, .val (.long (p2 &&& (pp - (1 : Int64)))), .second, .unset, .unset, .unset, .unset, .unset, .unset] [(.int (1 : Int32)), (.int p3)])) (fun tg kk => XS.iconst X0.here hx rfl (hb hby at_28) kk) ?_
    refine OwnMg.back (s₁.setTop (mkF m 30 #[.val (.int p1), .val (.long p2), .second, .val (.int p3), .val (.int (((p1 &&& (63 : Int32)) % (63 : Int32)) + (1 : Int32))), .val (.long pp), .second, .val (.long (p2 &&& (pp - (1 : Int64)))), .second, .unset, .unset, .unset, .unset, .unset, .unset] [(.int (p3 &&& (1 : Int32)))])) (fun tg kk => XS.iand X0.here hx rfl (hb hby at_29) rfl kk) ?_
    by_cases hc10 : (p3 &&& (1 : Int32)) = (0 : Int32)
    ·
      refine OwnMg.back (s₁.setTop (mkF m 39 #[.val (.int p1), .val (.long p2), .second, .val (.int p3), .val (.int (((p1 &&& (63 : Int32)) % (63 : Int32)) + (1 : Int32))), .val (.long pp), .second, .val (.long (p2 &&& (pp - (1 : Int64)))), .second, .unset, .unset, .unset, .unset, .unset, .unset] [])) (fun tg kk => XS.ifYes X0.here hx rfl (pc0 := 30) (pc' := 39) rfl (hb hby at_30) rfl ((if0 _ _).trans (teq hc10).1) (by decide) (by decide) kk) ?_
      exact ⟨_, ⟨(p2 &&& (pp - (1 : Int64))), rfl, Or.inl ⟨hc10, rfl⟩⟩, fun tg kk => kk⟩
    ·
      refine OwnMg.back (s₁.setTop (mkF m 33 #[.val (.int p1), .val (.long p2), .second, .val (.int p3), .val (.int (((p1 &&& (63 : Int32)) % (63 : Int32)) + (1 : Int32))), .val (.long pp), .second, .val (.long (p2 &&& (pp - (1 : Int64)))), .second, .unset, .unset, .unset, .unset, .unset, .unset] [])) (fun tg kk => XS.ifNo X0.here hx rfl (hb hby at_30) rfl ((if0 _ _).trans (feq hc10).1) kk) ?_
      refine OwnMg.back (s₁.setTop (mkF m 35 #[.val (.int p1), .val (.long p2), .second, .val (.int p3), .val (.int (((p1 &&& (63 : Int32)) % (63 : Int32)) + (1 : Int32))), .val (.long pp), .second, .val (.long (p2 &&& (pp - (1 : Int64)))), .second, .unset, .unset, .unset, .unset, .unset, .unset] [(.long pp)])) (fun tg kk => XS.lload X0.here hx rfl (hb hby at_33) rfl kk) ?_
      refine OwnMg.back (s₁.setTop (mkF m 36 #[.val (.int p1), .val (.long p2), .second, .val (.int p3), .val (.int (((p1 &&& (63 : Int32)) % (63 : Int32)) + (1 : Int32))), .val (.long pp), .second, .val (.long (p2 &&& (pp - (1 : Int64)))), .second, .unset, .unset, .unset, .unset, .unset, .unset] [(.long (1 : Int64)), (.long pp)])) (fun tg kk => XS.lconst X0.here hx rfl (hb hby at_35) kk) ?_
      refine OwnMg.back (s₁.setTop (mkF m 37 #[.val (.int p1), .val (.long p2), .second, .val (.int p3), .val (.int (((p1 &&& (63 : Int32)) % (63 : Int32)) + (1 : Int32))), .val (.long pp), .second, .val (.long (p2 &&& (pp - (1 : Int64)))), .second, .unset, .unset, .unset, .unset, .unset, .unset] [(.long (pp - (1 : Int64)))])) (fun tg kk => XS.lsub X0.here hx rfl (hb hby at_36) rfl kk) ?_
      refine OwnMg.back (s₁.setTop (mkF m 39 #[.val (.int p1), .val (.long p2), .second, .val (.int p3), .val (.int (((p1 &&& (63 : Int32)) % (63 : Int32)) + (1 : Int32))), .val (.long pp), .second, .val (.long (pp - (1 : Int64))), .second, .unset, .unset, .unset, .unset, .unset, .unset] [])) (fun tg kk => XS.lstore X0.here hx rfl (hb hby at_37) rfl (l' := #[.val (.int p1), .val (.long p2), .second, .val (.int p3), .val (.int (((p1 &&& (63 : Int32)) % (63 : Int32)) + (1 : Int32))), .val (.long pp), .second, .val (.long (pp - (1 : Int64))), .second, .unset, .unset, .unset, .unset, .unset, .unset]) rfl kk) ?_
      exact ⟨_, ⟨(pp - (1 : Int64)), rfl, Or.inr (⟨hc10, rfl⟩)⟩, fun tg kk => kk⟩
  refine OwnGo.back (s₁.setTop (mkF m 39 #[.val (.int p1), .val (.long p2), .second, .val (.int p3), .val (.int (((p1 &&& (63 : Int32)) % (63 : Int32)) + (1 : Int32))), .val (.long pp), .second, .val (.long m2), .second, .unset, .unset, .unset, .unset, .unset, .unset] [])) dm4 ?_
  have hof := own_off (m := m2) hj0 hj1 hj2 hm3
  refine OwnGo.back (s₁.setTop (mkF m 41 #[.val (.int p1), .val (.long p2), .second, .val (.int p3), .val (.int (((p1 &&& (63 : Int32)) % (63 : Int32)) + (1 : Int32))), .val (.long pp), .second, .val (.long m2), .second, .unset, .unset, .unset, .unset, .unset, .unset] [(.long pp)])) (fun tg kk => XS.lload X0.here hx rfl (hb hby at_39) rfl kk) ?_
  refine OwnGo.back (s₁.setTop (mkF m 43 #[.val (.int p1), .val (.long p2), .second, .val (.int p3), .val (.int (((p1 &&& (63 : Int32)) % (63 : Int32)) + (1 : Int32))), .val (.long pp), .second, .val (.long m2), .second, .unset, .unset, .unset, .unset, .unset, .unset] [(.long m2), (.long pp)])) (fun tg kk => XS.lload X0.here hx rfl (hb hby at_41) rfl kk) ?_
  refine OwnGo.back (s₁.setTop (mkF m 44 #[.val (.int p1), .val (.long p2), .second, .val (.int p3), .val (.int (((p1 &&& (63 : Int32)) % (63 : Int32)) + (1 : Int32))), .val (.long pp), .second, .val (.long m2), .second, .unset, .unset, .unset, .unset, .unset, .unset] [(.long (pp + m2))])) (fun tg kk => XS.ladd X0.here hx rfl (hb hby at_43) rfl kk) ?_
  refine OwnGo.back (s₁.setTop (mkF m 46 #[.val (.int p1), .val (.long p2), .second, .val (.int p3), .val (.int (((p1 &&& (63 : Int32)) % (63 : Int32)) + (1 : Int32))), .val (.long pp), .second, .val (.long m2), .second, .val (.long (pp + m2)), .second, .unset, .unset, .unset, .unset] [])) (fun tg kk => XS.lstore X0.here hx rfl (hb hby at_44) rfl (l' := #[.val (.int p1), .val (.long p2), .second, .val (.int p3), .val (.int (((p1 &&& (63 : Int32)) % (63 : Int32)) + (1 : Int32))), .val (.long pp), .second, .val (.long m2), .second, .val (.long (pp + m2)), .second, .unset, .unset, .unset, .unset]) rfl kk) ?_
  refine OwnGo.back (s₁.setTop (mkF m 48 #[.val (.int p1), .val (.long p2), .second, .val (.int p3), .val (.int (((p1 &&& (63 : Int32)) % (63 : Int32)) + (1 : Int32))), .val (.long pp), .second, .val (.long m2), .second, .val (.long (pp + m2)), .second, .unset, .unset, .unset, .unset] [(.long (pp + m2))])) (fun tg kk => XS.lload X0.here hx rfl (hb hby at_46) rfl kk) ?_
  obtain ⟨_, _, ⟨T11, L11, k11, n11⟩, -, X11, ⟨Lc11, hQ11, l11, y11, z11⟩, st11⟩ := Jvm.LawKit.callS X0 hx (y := (⟨"com/example/entrave/entrave/Restarts", "luby", "(J)J"⟩ : MethodName)) hown (mvT hZ (hw _ (List.mem_of_getElem? (i := 0) rfl))) (mvT hZ (hw _ (List.mem_of_getElem? (i := 1) rfl))) (mvT hZ (hw _ (List.mem_of_getElem? (i := 2) rfl))) (mvT hZ (hw _ (List.mem_of_getElem? (i := 3) rfl))) (by decide) (backOf (W := 0) (own_luby l Z a0 hw [] (pp + m2) h0 n0 Z0 (own_r hj0 hj1 hof).1) hZ (hw _ (List.mem_of_getElem? (i := 3) rfl)) (hw _ (List.mem_of_getElem? (i := 2) rfl)) (by decide) (by decide)) (g := (mkF m 48 #[.val (.int p1), .val (.long p2), .second, .val (.int p3), .val (.int (((p1 &&& (63 : Int32)) % (63 : Int32)) + (1 : Int32))), .val (.long pp), .second, .val (.long m2), .second, .val (.long (pp + m2)), .second, .unset, .unset, .unset, .unset] [(.long (pp + m2))])) rfl (by rw [hml]; rfl) (argsL := [(.long (pp + m2))]) (rest := []) (lenOf own_pd2 rfl) rfl (by show 2 * 0 + _ ≤ _; exact Nat.le_of_eq rfl) (hb hby at_48) (fun _ _ => ⟨rfl, e0, (by decide : 0 + 0 ≤ _), (by decide : 0 + 0 ≤ _)⟩)
  dsimp only [Pt.U, Pt.locs, Pt.cells, Pt.slots] at X11 l11 y11 z11 st11 hQ11
  subst l11 y11 z11
  obtain ⟨w_12, rfl, N11q, e11, po13⟩ := hQ11
  have N11 := Fr.app N0 N11q
  refine OwnGo.back (T11.setTop (mkF m 51 #[.val (.int p1), .val (.long p2), .second, .val (.int p3), .val (.int (((p1 &&& (63 : Int32)) % (63 : Int32)) + (1 : Int32))), .val (.long pp), .second, .val (.long m2), .second, .val (.long (pp + m2)), .second, .unset, .unset, .unset, .unset] [(.long w_12)])) (fun tg kk => st11 _ kk) ?_
  refine OwnGo.back (T11.setTop (mkF m 53 #[.val (.int p1), .val (.long p2), .second, .val (.int p3), .val (.int (((p1 &&& (63 : Int32)) % (63 : Int32)) + (1 : Int32))), .val (.long pp), .second, .val (.long m2), .second, .val (.long (pp + m2)), .second, .val (.long w_12), .second, .unset, .unset] [])) (fun tg kk => XS.lstore X11.here hx rfl (hb hby at_51) rfl (l' := #[.val (.int p1), .val (.long p2), .second, .val (.int p3), .val (.int (((p1 &&& (63 : Int32)) % (63 : Int32)) + (1 : Int32))), .val (.long pp), .second, .val (.long m2), .second, .val (.long (pp + m2)), .second, .val (.long w_12), .second, .unset, .unset]) rfl kk) ?_
  refine OwnGo.back (T11.setTop (mkF m 55 #[.val (.int p1), .val (.long p2), .second, .val (.int p3), .val (.int (((p1 &&& (63 : Int32)) % (63 : Int32)) + (1 : Int32))), .val (.long pp), .second, .val (.long m2), .second, .val (.long (pp + m2)), .second, .val (.long w_12), .second, .unset, .unset] [(.long m2)])) (fun tg kk => XS.lload X11.here hx rfl (hb hby at_53) rfl kk) ?_
  refine OwnGo.back (T11.setTop (mkF m 57 #[.val (.int p1), .val (.long p2), .second, .val (.int p3), .val (.int (((p1 &&& (63 : Int32)) % (63 : Int32)) + (1 : Int32))), .val (.long pp), .second, .val (.long m2), .second, .val (.long (pp + m2)), .second, .val (.long w_12), .second, .unset, .unset] [(.long pp), (.long m2)])) (fun tg kk => XS.lload X11.here hx rfl (hb hby at_55) rfl kk) ?_
  refine OwnGo.back (T11.setTop (mkF m 58 #[.val (.int p1), .val (.long p2), .second, .val (.int p3), .val (.int (((p1 &&& (63 : Int32)) % (63 : Int32)) + (1 : Int32))), .val (.long pp), .second, .val (.long m2), .second, .val (.long (pp + m2)), .second, .val (.long w_12), .second, .unset, .unset] [(.long (1 : Int64)), (.long pp), (.long m2)])) (fun tg kk => XS.lconst X11.here hx rfl (hb hby at_57) kk) ?_
  refine OwnGo.back (T11.setTop (mkF m 59 #[.val (.int p1), .val (.long p2), .second, .val (.int p3), .val (.int (((p1 &&& (63 : Int32)) % (63 : Int32)) + (1 : Int32))), .val (.long pp), .second, .val (.long m2), .second, .val (.long (pp + m2)), .second, .val (.long w_12), .second, .unset, .unset] [(.long (pp - (1 : Int64))), (.long m2)])) (fun tg kk => XS.lsub X11.here hx rfl (hb hby at_58) rfl kk) ?_
  refine OwnGo.back (T11.setTop (mkF m 60 #[.val (.int p1), .val (.long p2), .second, .val (.int p3), .val (.int (((p1 &&& (63 : Int32)) % (63 : Int32)) + (1 : Int32))), .val (.long pp), .second, .val (.long m2), .second, .val (.long (pp + m2)), .second, .val (.long w_12), .second, .unset, .unset] [(.int (lcmpW m2 (pp - (1 : Int64))))])) (fun tg kk => XS.lcmp X11.here hx rfl (hb hby at_59) rfl kk) ?_
  by_cases hc14 : m2 = (pp - (1 : Int64))
  ·
    refine OwnGo.back (T11.setTop (mkF m 63 #[.val (.int p1), .val (.long p2), .second, .val (.int p3), .val (.int (((p1 &&& (63 : Int32)) % (63 : Int32)) + (1 : Int32))), .val (.long pp), .second, .val (.long m2), .second, .val (.long (pp + m2)), .second, .val (.long w_12), .second, .unset, .unset] [])) (fun tg kk => XS.ifNo X11.here hx rfl (hb hby at_60) rfl ((if0 _ _).trans (teq ((lw_eq _ _).mpr hc14)).2) kk) ?_
    refine OwnGo.back (T11.setTop (mkF m 65 #[.val (.int p1), .val (.long p2), .second, .val (.int p3), .val (.int (((p1 &&& (63 : Int32)) % (63 : Int32)) + (1 : Int32))), .val (.long pp), .second, .val (.long m2), .second, .val (.long (pp + m2)), .second, .val (.long w_12), .second, .unset, .unset] [(.long w_12)])) (fun tg kk => XS.lload X11.here hx rfl (hb hby at_63) rfl kk) ?_
    refine OwnGo.back (T11.setTop (mkF m 67 #[.val (.int p1), .val (.long p2), .second, .val (.int p3), .val (.int (((p1 &&& (63 : Int32)) % (63 : Int32)) + (1 : Int32))), .val (.long pp), .second, .val (.long m2), .second, .val (.long (pp + m2)), .second, .val (.long w_12), .second, .unset, .unset] [(.long pp), (.long w_12)])) (fun tg kk => XS.lload X11.here hx rfl (hb hby at_65) rfl kk) ?_
    refine OwnGo.back (T11.setTop (mkF m 68 #[.val (.int p1), .val (.long p2), .second, .val (.int p3), .val (.int (((p1 &&& (63 : Int32)) % (63 : Int32)) + (1 : Int32))), .val (.long pp), .second, .val (.long m2), .second, .val (.long (pp + m2)), .second, .val (.long w_12), .second, .unset, .unset] [(.int (lcmpW w_12 pp))])) (fun tg kk => XS.lcmp X11.here hx rfl (hb hby at_67) rfl kk) ?_
    refine OwnGo.back (T11.setTop (mkF m 71 #[.val (.int p1), .val (.long p2), .second, .val (.int p3), .val (.int (((p1 &&& (63 : Int32)) % (63 : Int32)) + (1 : Int32))), .val (.long pp), .second, .val (.long m2), .second, .val (.long (pp + m2)), .second, .val (.long w_12), .second, .unset, .unset] [])) (fun tg kk => XS.ifNo X11.here hx rfl (hb hby at_68) rfl ((if0 _ _).trans (teq ((lw_eq _ _).mpr (own_e1 hj0 hj1 hof hc14 po13 : w_12 = pp))).2) kk) ?_
    refine OwnGo.back (T11.setTop (mkF m 72 #[.val (.int p1), .val (.long p2), .second, .val (.int p3), .val (.int (((p1 &&& (63 : Int32)) % (63 : Int32)) + (1 : Int32))), .val (.long pp), .second, .val (.long m2), .second, .val (.long (pp + m2)), .second, .val (.long w_12), .second, .unset, .unset] [(.int (1 : Int32))])) (fun tg kk => XS.iconst X11.here hx rfl (hb hby at_71) kk) ?_
    refine OwnGo.back (T11.setTop (mkF m 76 #[.val (.int p1), .val (.long p2), .second, .val (.int p3), .val (.int (((p1 &&& (63 : Int32)) % (63 : Int32)) + (1 : Int32))), .val (.long pp), .second, .val (.long m2), .second, .val (.long (pp + m2)), .second, .val (.long w_12), .second, .unset, .unset] [(.int (1 : Int32))])) (fun tg kk => XS.goto X11.here hx rfl (pc0 := 72) (pc' := 76) rfl (hb hby at_72) (by decide) (by decide) kk) ?_
    obtain ⟨fs, hr, hrun, hended, hW, hsame⟩ := X11.leave (v := some (.int (1 : Int32))) (fun h => by rw [Bd.returns] at h; cases h)
    refine ⟨_, _, ?_, hrun, hended, _, _, rfl, ?_, ⟨_, rfl⟩, hW, hsame.mono (by decide) (by decide)⟩
    · exact retN X11 hx (t := .boolean) Bd.returns (by simp) (hb hby at_76) hr
    · show own_law_Q Z p1 p2 p3 h0 n0 _ T11.heap _
      rw [e11]
      exact ⟨rfl, N11, rfl⟩
  ·
    refine OwnGo.back (T11.setTop (mkF m 77 #[.val (.int p1), .val (.long p2), .second, .val (.int p3), .val (.int (((p1 &&& (63 : Int32)) % (63 : Int32)) + (1 : Int32))), .val (.long pp), .second, .val (.long m2), .second, .val (.long (pp + m2)), .second, .val (.long w_12), .second, .unset, .unset] [])) (fun tg kk => XS.ifYes X11.here hx rfl (pc0 := 60) (pc' := 77) rfl (hb hby at_60) rfl ((if0 _ _).trans (feq (own_not (lw_eq _ _) hc14)).2) (by decide) (by decide) kk) ?_
    refine OwnGo.back (T11.setTop (mkF m 79 #[.val (.int p1), .val (.long p2), .second, .val (.int p3), .val (.int (((p1 &&& (63 : Int32)) % (63 : Int32)) + (1 : Int32))), .val (.long pp), .second, .val (.long m2), .second, .val (.long (pp + m2)), .second, .val (.long w_12), .second, .unset, .unset] [(.long (pp + m2))])) (fun tg kk => XS.lload X11.here hx rfl (hb hby at_77) rfl kk) ?_
    refine OwnGo.back (T11.setTop (mkF m 81 #[.val (.int p1), .val (.long p2), .second, .val (.int p3), .val (.int (((p1 &&& (63 : Int32)) % (63 : Int32)) + (1 : Int32))), .val (.long pp), .second, .val (.long m2), .second, .val (.long (pp + m2)), .second, .val (.long w_12), .second, .unset, .unset] [(.long pp), (.long (pp + m2))])) (fun tg kk => XS.lload X11.here hx rfl (hb hby at_79) rfl kk) ?_
    refine OwnGo.back (T11.setTop (mkF m 82 #[.val (.int p1), .val (.long p2), .second, .val (.int p3), .val (.int (((p1 &&& (63 : Int32)) % (63 : Int32)) + (1 : Int32))), .val (.long pp), .second, .val (.long m2), .second, .val (.long (pp + m2)), .second, .val (.long w_12), .second, .unset, .unset] [(.long ((pp + m2) - pp))])) (fun tg kk => XS.lsub X11.here hx rfl (hb hby at_81) rfl kk) ?_
    refine OwnGo.back (T11.setTop (mkF m 83 #[.val (.int p1), .val (.long p2), .second, .val (.int p3), .val (.int (((p1 &&& (63 : Int32)) % (63 : Int32)) + (1 : Int32))), .val (.long pp), .second, .val (.long m2), .second, .val (.long (pp + m2)), .second, .val (.long w_12), .second, .unset, .unset] [(.long (1 : Int64)), (.long ((pp + m2) - pp))])) (fun tg kk => XS.lconst X11.here hx rfl (hb hby at_82) kk) ?_
    refine OwnGo.back (T11.setTop (mkF m 84 #[.val (.int p1), .val (.long p2), .second, .val (.int p3), .val (.int (((p1 &&& (63 : Int32)) % (63 : Int32)) + (1 : Int32))), .val (.long pp), .second, .val (.long m2), .second, .val (.long (pp + m2)), .second, .val (.long w_12), .second, .unset, .unset] [(.long (((pp + m2) - pp) + (1 : Int64)))])) (fun tg kk => XS.ladd X11.here hx rfl (hb hby at_83) rfl kk) ?_
    refine OwnGo.back (T11.setTop (mkF m 86 #[.val (.int p1), .val (.long p2), .second, .val (.int p3), .val (.int (((p1 &&& (63 : Int32)) % (63 : Int32)) + (1 : Int32))), .val (.long pp), .second, .val (.long m2), .second, .val (.long (pp + m2)), .second, .val (.long w_12), .second, .val (.long (((pp + m2) - pp) + (1 : Int64))), .second] [])) (fun tg kk => XS.lstore X11.here hx rfl (hb hby at_84) rfl (l' := #[.val (.int p1), .val (.long p2), .second, .val (.int p3), .val (.int (((p1 &&& (63 : Int32)) % (63 : Int32)) + (1 : Int32))), .val (.long pp), .second, .val (.long m2), .second, .val (.long (pp + m2)), .second, .val (.long w_12), .second, .val (.long (((pp + m2) - pp) + (1 : Int64))), .second]) rfl kk) ?_
    refine OwnGo.back (T11.setTop (mkF m 88 #[.val (.int p1), .val (.long p2), .second, .val (.int p3), .val (.int (((p1 &&& (63 : Int32)) % (63 : Int32)) + (1 : Int32))), .val (.long pp), .second, .val (.long m2), .second, .val (.long (pp + m2)), .second, .val (.long w_12), .second, .val (.long (((pp + m2) - pp) + (1 : Int64))), .second] [(.long w_12)])) (fun tg kk => XS.lload X11.here hx rfl (hb hby at_86) rfl kk) ?_
    refine OwnGo.back (T11.setTop (mkF m 90 #[.val (.int p1), .val (.long p2), .second, .val (.int p3), .val (.int (((p1 &&& (63 : Int32)) % (63 : Int32)) + (1 : Int32))), .val (.long pp), .second, .val (.long m2), .second, .val (.long (pp + m2)), .second, .val (.long w_12), .second, .val (.long (((pp + m2) - pp) + (1 : Int64))), .second] [(.long (((pp + m2) - pp) + (1 : Int64))), (.long w_12)])) (fun tg kk => XS.lload X11.here hx rfl (hb hby at_88) rfl kk) ?_
    obtain ⟨_, _, ⟨T15, L15, k15, n15⟩, -, X15, ⟨Lc15, hQ15, l15, y15, z15⟩, st15⟩ := Jvm.LawKit.callS X11 hx (y := (⟨"com/example/entrave/entrave/Restarts", "luby", "(J)J"⟩ : MethodName)) hown (mvT hZ (hw _ (List.mem_of_getElem? (i := 0) rfl))) (mvT hZ (hw _ (List.mem_of_getElem? (i := 1) rfl))) (mvT hZ (hw _ (List.mem_of_getElem? (i := 2) rfl))) (mvT hZ (hw _ (List.mem_of_getElem? (i := 3) rfl))) (by decide) (backOf (W := 2) (own_luby l Z a0 hw [] (((pp + m2) - pp) + (1 : Int64)) h0 n0 Z0 (own_sm hj0 hj1 hof hc14).1) hZ (hw _ (List.mem_of_getElem? (i := 3) rfl)) (hw _ (List.mem_of_getElem? (i := 2) rfl)) (by decide) (by decide)) (g := (mkF m 90 #[.val (.int p1), .val (.long p2), .second, .val (.int p3), .val (.int (((p1 &&& (63 : Int32)) % (63 : Int32)) + (1 : Int32))), .val (.long pp), .second, .val (.long m2), .second, .val (.long (pp + m2)), .second, .val (.long w_12), .second, .val (.long (((pp + m2) - pp) + (1 : Int64))), .second] [(.long (((pp + m2) - pp) + (1 : Int64))), (.long w_12)])) rfl (by rw [hml]; rfl) (argsL := [(.long (((pp + m2) - pp) + (1 : Int64)))]) (rest := [(.long w_12)]) (lenOf own_pd2 rfl) rfl (by show 2 * 0 + _ ≤ _; exact Nat.le_of_eq rfl) (hb hby at_90) (fun _ _ => ⟨rfl, e11, (by decide : 0 + 0 ≤ _), (by decide : 0 + 0 ≤ _)⟩)
    dsimp only [Pt.U, Pt.locs, Pt.cells, Pt.slots] at X15 l15 y15 z15 st15 hQ15
    subst l15 y15 z15
    obtain ⟨w_16, rfl, N15q, e15, po17⟩ := hQ15
    have N15 := Fr.app N11 N15q
    refine OwnGo.back (T15.setTop (mkF m 93 #[.val (.int p1), .val (.long p2), .second, .val (.int p3), .val (.int (((p1 &&& (63 : Int32)) % (63 : Int32)) + (1 : Int32))), .val (.long pp), .second, .val (.long m2), .second, .val (.long (pp + m2)), .second, .val (.long w_12), .second, .val (.long (((pp + m2) - pp) + (1 : Int64))), .second] [(.long w_16), (.long w_12)])) (fun tg kk => st15 _ kk) ?_
    refine OwnGo.back (T15.setTop (mkF m 94 #[.val (.int p1), .val (.long p2), .second, .val (.int p3), .val (.int (((p1 &&& (63 : Int32)) % (63 : Int32)) + (1 : Int32))), .val (.long pp), .second, .val (.long m2), .second, .val (.long (pp + m2)), .second, .val (.long w_12), .second, .val (.long (((pp + m2) - pp) + (1 : Int64))), .second] [(.int (lcmpW w_12 w_16))])) (fun tg kk => XS.lcmp X15.here hx rfl (hb hby at_93) rfl kk) ?_
    refine OwnGo.back (T15.setTop (mkF m 97 #[.val (.int p1), .val (.long p2), .second, .val (.int p3), .val (.int (((p1 &&& (63 : Int32)) % (63 : Int32)) + (1 : Int32))), .val (.long pp), .second, .val (.long m2), .second, .val (.long (pp + m2)), .second, .val (.long w_12), .second, .val (.long (((pp + m2) - pp) + (1 : Int64))), .second] [])) (fun tg kk => XS.ifNo X15.here hx rfl (hb hby at_94) rfl ((if0 _ _).trans (teq ((lw_eq _ _).mpr (own_e2 hj0 hj1 hof hc14 po13 po17 : w_12 = w_16))).2) kk) ?_
    refine OwnGo.back (T15.setTop (mkF m 98 #[.val (.int p1), .val (.long p2), .second, .val (.int p3), .val (.int (((p1 &&& (63 : Int32)) % (63 : Int32)) + (1 : Int32))), .val (.long pp), .second, .val (.long m2), .second, .val (.long (pp + m2)), .second, .val (.long w_12), .second, .val (.long (((pp + m2) - pp) + (1 : Int64))), .second] [(.int (1 : Int32))])) (fun tg kk => XS.iconst X15.here hx rfl (hb hby at_97) kk) ?_
    refine OwnGo.back (T15.setTop (mkF m 102 #[.val (.int p1), .val (.long p2), .second, .val (.int p3), .val (.int (((p1 &&& (63 : Int32)) % (63 : Int32)) + (1 : Int32))), .val (.long pp), .second, .val (.long m2), .second, .val (.long (pp + m2)), .second, .val (.long w_12), .second, .val (.long (((pp + m2) - pp) + (1 : Int64))), .second] [(.int (1 : Int32))])) (fun tg kk => XS.goto X15.here hx rfl (pc0 := 98) (pc' := 102) rfl (hb hby at_98) (by decide) (by decide) kk) ?_
    obtain ⟨fs, hr, hrun, hended, hW, hsame⟩ := X15.leave (v := some (.int (1 : Int32))) (fun h => by rw [Bd.returns] at h; cases h)
    refine ⟨_, _, ?_, hrun, hended, _, _, rfl, ?_, ⟨_, rfl⟩, hW, hsame.mono (by decide) (by decide)⟩
    · exact retN X15 hx (t := .boolean) Bd.returns (by simp) (hb hby at_102) hr
    · show own_law_Q Z p1 p2 p3 h0 n0 _ T15.heap _
      rw [e15]
      exact ⟨rfl, N15, rfl⟩
set_option maxRecDepth 65536 in
set_option maxHeartbeats 40000000 in
theorem comes_1 {Post : Tables → Env → Array Value → State → Outcome → State → Prop} (hpost : ∀ tb e args s v u, (limb_1_1.after args s (.returned v) u = true ∧ limb_1_2.after args s (.returned v) u = true ∧ True) → FrameEnd s (.returned v) u (Jvm.fieldLocs frame_1_writes args s ++ Jvm.arrayLocs frame_1_arrays args s ++ Jvm.staticLocs frame_1_statics s) 0 0 → Post tb e args s (.returned v) u) :
    ArmFor flags0 classFile x code maxLocals ret World_1 tables_1 room_1 Calls_1 rest_1 Pre_1 Post := by
  intro l hfl _ _ p e ha hc hk s m args below hf hA hF happ hP
  obtain ⟨hcalls, hrest, hpre⟩ := hP
  obtain ⟨-, -, -, hnamed, -, -, -, hat⟩ := (Spec.applies_iff hf).mp happ
  obtain ⟨hg, hn⟩ := and_e (Cond.before_iff.mp (show (Jvm.Cond.and given_1 narrow_1).before args s = true from hpre))
  obtain ⟨hg0, hg⟩ := and_e hg
  obtain ⟨hg1, hg⟩ := and_e hg
  obtain ⟨hg2, hg⟩ := and_e hg
  obtain ⟨w0, w1, w2, rfl⟩ : ∃ w0 w1 w2 : Value, args = #[w0, w1, w2] := by
    have hs : args.size = 3 := by simpa [Cond.value, given_1] using hg0
    obtain ⟨L⟩ := args
    match L, hs with
    | [w0, w1, w2], _ => exact ⟨w0, w1, w2, rfl⟩
  have hw := fun d (hd : d ∈ tables_1) => atoms_spec (ws := Jvm.Cond.code x code maxLocals ret :: tables_1) hat d (List.mem_cons_of_mem _ hd)
  have hfit : Fit s := fun {y c} hc i hi => by
    obtain ⟨ha, rfl⟩ := Array.getElem?_eq_some_iff.mp hc
    have q := List.all_eq_true.mp ((Array.all_eq_true_iff_forall_mem.mp hF) _ (Array.getElem_mem ha)) i (List.mem_range.mpr hi)
    simpa [Array.getElem?_eq_getElem hi] using q
  obtain ⟨i0, ei0⟩ := is_v hg1
  obtain rfl : w0 = (.int i0) := Option.some.inj ei0
  obtain ⟨i1, ei1⟩ := isL_v hg2
  obtain rfl : w1 = (.long i1) := Option.some.inj ei1
  obtain ⟨i2, ei2⟩ := is_v hg
  obtain rfl : w2 = (.int i2) := Option.some.inj ei2
  obtain ⟨n, o, h1, h2, h3, _, L, rfl, ⟨rfl, N, -⟩, hq⟩ := own_law l s _ hw tables_1 i0 i1 i2 s.heap s.heap.size (Nat.le_refl _)  p e ha hc hk s m _ below hf ((Spec.applies_iff_loose hf).mp happ).1 ⟨rfl, State.Warmed39.refl s, rfl⟩ trivial
  refine ⟨n, _, h1, h2, h3, hpost _ _ _ _ _ _ ⟨Cond.after_iff.mpr rfl, Cond.after_iff.mpr (eq_i res_at (Term.int_eval (1)) rfl), trivial⟩ ⟨hq.1, hq.2.1, (hq.2.2.sift fun y hy => Or.inr (N y hy)).mono (by decide) (by decide)⟩⟩
theorem main_1_1 : Claimed_1_1 := comes_1 fun _ _ _ _ _ _ h hF => ⟨h.1, hF⟩
theorem main_1_2 : Claimed_1_2 := comes_1 fun _ _ _ _ _ _ h hF => ⟨h.2.1, hF⟩
end Jvm.Pilot.@@N@@
namespace Jvm.Pilot.@@N@@
open Jvm Jvm.ClassFile Sem Op Lib Jvm.Free Jvm.Stand Jvm.Pilot.@@N@@.Jvm.D
/-! MADE BY PROGRAM (witnessworld.py) out of the Statement's table words and the real class files: 16 classes; the members and pool entries that the words name. The judged class is class 1, her method 1. -/
namespace start1
open Jvm.ClassFile
def u (s : String) : CpInfo := .utf8 (stringToUtf16 s)
/-- a pool by its gaps: so many unusable entries, then the entry; so many at the end -/
def gap : Nat → List CpInfo → List CpInfo
  | 0, r => r
  | n + 1, r => .unusable :: gap n r
def poolList (es : List (Nat × CpInfo)) (last : Nat) : List CpInfo := es.foldr (fun e r => gap e.1 (e.2 :: r)) (gap last [])
def pool (es : List (Nat × CpInfo)) (last : Nat) : Array CpInfo := ⟨poolList es last⟩
def fileOf (pool : Array CpInfo) (this : Nat) (attrs : Array Attribute := #[]) (ms : Array MethodInfo := #[]) (fl : Nat := 33) (sup : Nat := 0) (ifs : Array Nat := #[]) (fds : Array FieldInfo := #[]) : ClassFile where
  minorVersion := 0
  majorVersion := 65
  constantPool := pool
  accessFlags := fl
  thisClass := this
  superClass := sup
  interfaces := ifs
  fields := fds
  methods := ms
  attributes := attrs
def plain (name : String) (sup : Option ClassId) : Class where
  name := name
  kind := .ordinary
  loader := none
  accessFlags := 33
  super := sup
  interfaces := #[]
  cf := none
  fields := #[]
  methods := #[]
  instanceTypes := #[]
  staticTypes := #[]
  resolved := #[]
  callSites := []
  init := .initialized
  statics := none
  mirror := none

def pool0 : Array CpInfo := pool [(5, u "<init>"), (0, u "()V"), (1, .class_ 10), (1, u "java/lang/Object")] 113

def k0m0 : Method := { name := "<init>", desc := "()V", sig := { parameters := [], returnType := none }, accessFlags := 1, code := none }
/-- java/lang/Object -/
def k0 : Class := { plain "java/lang/Object" none with
  accessFlags := 33
  interfaces := #[]
  cf := some (fileOf pool0 8 #[] #[{ accessFlags := 1, nameIndex := 5, descriptorIndex := 6, attributes := #[] }] 33 0 #[] #[])
  fields := #[]
  methods := #[k0m0]
  instanceTypes := #[]
  staticTypes := #[]
  resolved := Array.replicate 124 none
  statics := none }

def pool1 : Array CpInfo := pool [(2, .class_ 4), (1, u "java/lang/Object"), (0, u "<init>"), (0, u "()V"), (0, .methodref 8 9), (0, .class_ 10), (0, .nameAndType 11 12), (0, u "com/example/entrave/entrave/Restarts"), (0, u "luby"), (0, u "(J)J"), (0, .class_ 14), (0, u "com/example/entrave/entrave/RestartsLubyPinLaw"), (2, u "law"), (0, u "(IJI)Z")] 3

def k1m0 : Method := { name := "<init>", desc := "()V", sig := { parameters := [], returnType := none }, accessFlags := 2, code := none }
def k1c1 : Code := { maxStack := 6, maxLocals := 15, code := code, exceptionTable := #[], attributes := #[] }
def k1m1 : Method := { name := "law", desc := "(IJI)Z", sig := { parameters := [.int, .long, .int], returnType := some .boolean }, accessFlags := 9, code := some k1c1 }
/-- com/example/entrave/entrave/RestartsLubyPinLaw -/
def k1 : Class := { plain "com/example/entrave/entrave/RestartsLubyPinLaw" (some 0) with
  accessFlags := 49
  interfaces := #[]
  cf := some (fileOf pool1 13 #[] #[{ accessFlags := 2, nameIndex := 5, descriptorIndex := 6, attributes := #[] }, { accessFlags := 9, nameIndex := 17, descriptorIndex := 18, attributes := #[] }] 49 2 #[] #[])
  fields := #[]
  methods := #[k1m0, k1m1]
  instanceTypes := #[]
  staticTypes := #[]
  resolved := Array.replicate 22 none
  statics := none }

def pool2 : Array CpInfo := pool [(1, .class_ 2), (0, u "java/lang/constant/Constable"), (0, .class_ 4), (0, u "java/lang/Object")] 6

/-- java/lang/constant/Constable -/
def k2 : Class := { plain "java/lang/constant/Constable" (some 0) with
  accessFlags := 1537
  interfaces := #[]
  cf := some (fileOf pool2 1 #[] #[] 1537 3 #[] #[])
  fields := #[]
  methods := #[]
  instanceTypes := #[]
  staticTypes := #[]
  resolved := Array.replicate 11 none
  statics := none }

def pool3 : Array CpInfo := pool [(1, .class_ 2), (0, u "java/lang/Comparable"), (0, .class_ 4), (0, u "java/lang/Object")] 7

/-- java/lang/Comparable -/
def k3 : Class := { plain "java/lang/Comparable" (some 0) with
  accessFlags := 1537
  interfaces := #[]
  cf := some (fileOf pool3 1 #[] #[] 1537 3 #[] #[])
  fields := #[]
  methods := #[]
  instanceTypes := #[]
  staticTypes := #[]
  resolved := Array.replicate 12 none
  statics := none }

def pool4 : Array CpInfo := pool [(1, .class_ 2), (0, u "java/io/Serializable"), (0, .class_ 4), (0, u "java/lang/Object")] 2

/-- java/io/Serializable -/
def k4 : Class := { plain "java/io/Serializable" (some 0) with
  accessFlags := 1537
  interfaces := #[]
  cf := some (fileOf pool4 1 #[] #[] 1537 3 #[] #[])
  fields := #[]
  methods := #[]
  instanceTypes := #[]
  staticTypes := #[]
  resolved := Array.replicate 7 none
  statics := none }

def pool5 : Array CpInfo := pool [(2, .class_ 4), (1, u "java/lang/Enum"), (0, u "name"), (0, u "Ljava/lang/String;"), (2, u "ordinal"), (0, u "I"), (1, .class_ 14), (1, u "java/lang/Object"), (4, u "hash"), (86, .class_ 108), (1, u "java/lang/Enum$EnumDesc"), (2, .class_ 112), (0, u "java/lang/constant/Constable"), (0, .class_ 114), (0, u "java/lang/Comparable"), (0, .class_ 116), (0, u "java/io/Serializable")] 87

/-- java/lang/Enum -/
def k5 : Class := { plain "java/lang/Enum" (some 0) with
  accessFlags := 1057
  interfaces := #[2, 3, 4]
  cf := some (fileOf pool5 2 #[.nestMembers #[106]] #[] 1057 12 #[111, 113, 115] #[{ accessFlags := 18, nameIndex := 5, descriptorIndex := 6, attributes := #[] }, { accessFlags := 18, nameIndex := 9, descriptorIndex := 10, attributes := #[] }, { accessFlags := 2, nameIndex := 19, descriptorIndex := 10, attributes := #[] }])
  fields := #[{ name := "name", type := (.object "java/lang/String"), accessFlags := 18, slot := 0, constantValue := 0 }, { name := "ordinal", type := .int, accessFlags := 18, slot := 1, constantValue := 0 }, { name := "hash", type := .int, accessFlags := 2, slot := 2, constantValue := 0 }]
  methods := #[]
  instanceTypes := #[(.object "java/lang/String"), .int, .int]
  staticTypes := #[]
  resolved := Array.replicate 204 none
  statics := none }

def pool6 : Array CpInfo := pool [(1, .class_ 2), (0, u "java/lang/Long"), (0, .class_ 4), (0, u "com/example/entrave/entrave/Restarts"), (2, u "GEOMETRIC"), (0, u "Lcom/example/entrave/entrave/Restarts;"), (2, u "LUBY"), (2, u "NONE"), (2, u "$VALUES"), (0, u "[Lcom/example/entrave/entrave/Restarts;"), (6, .class_ 27), (1, u "java/lang/Enum"), (22, u "luby"), (0, u "(J)J"), (2, .methodref 1 55), (0, .nameAndType 56 57), (0, u "numberOfLeadingZeros"), (0, u "(J)I"), (8, u "NO_CUTOFF"), (0, u "J")] 15

def k6c0 : Code := { maxStack := 6, maxLocals := 5, code := prog_15_method_5_code, exceptionTable := #[], attributes := #[] }
def k6m0 : Method := { name := "luby", desc := "(J)J", sig := { parameters := [.long], returnType := some .long }, accessFlags := 8, code := some k6c0 }
/-- com/example/entrave/entrave/Restarts -/
def k6 : Class := { plain "com/example/entrave/entrave/Restarts" (some 5) with
  accessFlags := 16432
  interfaces := #[]
  cf := some (fileOf pool6 3 #[] #[{ accessFlags := 8, nameIndex := 50, descriptorIndex := 51, attributes := #[] }] 16432 25 #[] #[{ accessFlags := 16409, nameIndex := 7, descriptorIndex := 8, attributes := #[] }, { accessFlags := 16409, nameIndex := 11, descriptorIndex := 8, attributes := #[] }, { accessFlags := 16409, nameIndex := 14, descriptorIndex := 8, attributes := #[] }, { accessFlags := 24, nameIndex := 66, descriptorIndex := 67, attributes := #[] }, { accessFlags := 4122, nameIndex := 17, descriptorIndex := 18, attributes := #[] }])
  fields := #[{ name := "GEOMETRIC", type := (.object "com/example/entrave/entrave/Restarts"), accessFlags := 16409, slot := 0, constantValue := 0 }, { name := "LUBY", type := (.object "com/example/entrave/entrave/Restarts"), accessFlags := 16409, slot := 1, constantValue := 0 }, { name := "NONE", type := (.object "com/example/entrave/entrave/Restarts"), accessFlags := 16409, slot := 2, constantValue := 0 }, { name := "NO_CUTOFF", type := .long, accessFlags := 24, slot := 3, constantValue := 0 }, { name := "$VALUES", type := (.array (.object "com/example/entrave/entrave/Restarts")), accessFlags := 4122, slot := 4, constantValue := 0 }]
  methods := #[k6m0]
  instanceTypes := #[(.object "java/lang/String"), .int, .int]
  staticTypes := #[(.object "com/example/entrave/entrave/Restarts"), (.object "com/example/entrave/entrave/Restarts"), (.object "com/example/entrave/entrave/Restarts"), .long, (.array (.object "com/example/entrave/entrave/Restarts"))]
  resolved := Array.replicate 83 none
  statics := none }

def pool7 : Array CpInfo := pool [(2, .class_ 4), (1, u "java/lang/Object"), (0, u "<init>"), (0, u "()V"), (1, .class_ 10), (1, u "java/lang/Number"), (2, .class_ 14), (0, u "java/io/Serializable"), (0, u "serialVersionUID"), (0, u "J")] 20

def k7m0 : Method := { name := "<init>", desc := "()V", sig := { parameters := [], returnType := none }, accessFlags := 1, code := none }
/-- java/lang/Number -/
def k7 : Class := { plain "java/lang/Number" (some 0) with
  accessFlags := 1057
  interfaces := #[4]
  cf := some (fileOf pool7 8 #[] #[{ accessFlags := 1, nameIndex := 5, descriptorIndex := 6, attributes := #[] }] 1057 2 #[13] #[{ accessFlags := 26, nameIndex := 15, descriptorIndex := 16, attributes := #[] }])
  fields := #[{ name := "serialVersionUID", type := .long, accessFlags := 26, slot := 0, constantValue := 0 }]
  methods := #[k7m0]
  instanceTypes := #[]
  staticTypes := #[.long]
  resolved := Array.replicate 37 none
  statics := none }

def pool8 : Array CpInfo := pool [(1, .class_ 2), (0, u "java/lang/constant/ConstantDesc"), (0, .class_ 4), (0, u "java/lang/Object")] 32

/-- java/lang/constant/ConstantDesc -/
def k8 : Class := { plain "java/lang/constant/ConstantDesc" (some 0) with
  accessFlags := 1537
  interfaces := #[]
  cf := some (fileOf pool8 1 #[] #[] 1537 3 #[] #[])
  fields := #[]
  methods := #[]
  instanceTypes := #[]
  staticTypes := #[]
  resolved := Array.replicate 37 none
  statics := none }

def pool9 : Array CpInfo := pool [(1, .class_ 2), (0, u "java/lang/Long"), (15, .class_ 20), (1, u "java/lang/Integer"), (79, u "numberOfLeadingZeros"), (0, u "(J)I"), (133, .class_ 237), (1, u "java/lang/Long$LongCache"), (33, .class_ 272), (0, u "java/lang/Number"), (2, u "value"), (0, u "J"), (31, .methodref 18 309), (0, .nameAndType 100 310), (0, u "(I)I"), (50, u "TYPE"), (0, u "Ljava/lang/Class;"), (0, .class_ 364), (0, u "java/lang/Comparable"), (0, .class_ 366), (0, u "java/lang/constant/Constable"), (0, .class_ 368), (0, u "java/lang/constant/ConstantDesc"), (0, u "MIN_VALUE"), (1, u "MAX_VALUE"), (4, u "SIZE"), (0, u "I"), (1, u "BYTES"), (1, u "serialVersionUID")] 142

def k9c0 : Code := { maxStack := 3, maxLocals := 3, code := jdk_35_method_48_code, exceptionTable := #[], attributes := #[] }
def k9m0 : Method := { name := "numberOfLeadingZeros", desc := "(J)I", sig := { parameters := [.long], returnType := some .int }, accessFlags := 9, code := some k9c0 }
/-- java/lang/Long -/
def k9 : Class := { plain "java/lang/Long" (some 7) with
  accessFlags := 49
  interfaces := #[3, 2, 8]
  cf := some (fileOf pool9 1 #[.nestMembers #[235]] #[{ accessFlags := 9, nameIndex := 100, descriptorIndex := 101, attributes := #[] }] 49 271 #[363, 365, 367] #[{ accessFlags := 25, nameIndex := 369, descriptorIndex := 276, attributes := #[] }, { accessFlags := 25, nameIndex := 371, descriptorIndex := 276, attributes := #[] }, { accessFlags := 25, nameIndex := 361, descriptorIndex := 362, attributes := #[] }, { accessFlags := 18, nameIndex := 275, descriptorIndex := 276, attributes := #[] }, { accessFlags := 25, nameIndex := 376, descriptorIndex := 377, attributes := #[] }, { accessFlags := 25, nameIndex := 379, descriptorIndex := 377, attributes := #[] }, { accessFlags := 26, nameIndex := 381, descriptorIndex := 276, attributes := #[] }])
  fields := #[{ name := "MIN_VALUE", type := .long, accessFlags := 25, slot := 0, constantValue := 0 }, { name := "MAX_VALUE", type := .long, accessFlags := 25, slot := 1, constantValue := 0 }, { name := "TYPE", type := (.object "java/lang/Class"), accessFlags := 25, slot := 2, constantValue := 0 }, { name := "value", type := .long, accessFlags := 18, slot := 0, constantValue := 0 }, { name := "SIZE", type := .int, accessFlags := 25, slot := 3, constantValue := 0 }, { name := "BYTES", type := .int, accessFlags := 25, slot := 4, constantValue := 0 }, { name := "serialVersionUID", type := .long, accessFlags := 26, slot := 5, constantValue := 0 }]
  methods := #[k9m0]
  instanceTypes := #[.long]
  staticTypes := #[.long, .long, (.object "java/lang/Class"), .int, .int, .long]
  resolved := Array.replicate 524 none
  statics := none }

def pool10 : Array CpInfo := pool [(1, .class_ 2), (0, u "java/lang/Integer"), (16, u "digits"), (0, u "[C"), (32, u "numberOfLeadingZeros"), (0, u "(I)I"), (30, u "DigitOnes"), (0, u "[B"), (2, u "DigitTens"), (99, .class_ 190), (0, u "java/lang/Integer$IntegerCache"), (3, u "I"), (8, .class_ 204), (0, u "java/lang/Number"), (2, u "value"), (56, .integer 65536), (37, u "TYPE"), (0, u "Ljava/lang/Class;"), (0, .class_ 305), (0, u "java/lang/Comparable"), (0, .class_ 307), (0, u "java/lang/constant/Constable"), (0, .class_ 309), (0, u "java/lang/constant/ConstantDesc"), (0, u "MIN_VALUE"), (1, u "MAX_VALUE"), (3, u "SIZE"), (1, u "BYTES"), (1, u "serialVersionUID"), (0, u "J")] 131

def k10c0 : Code := { maxStack := 3, maxLocals := 2, code := jdk_33_method_47_code, exceptionTable := #[], attributes := #[] }
def k10m0 : Method := { name := "numberOfLeadingZeros", desc := "(I)I", sig := { parameters := [.int], returnType := some .int }, accessFlags := 9, code := some k10c0 }
/-- java/lang/Integer -/
def k10 : Class := { plain "java/lang/Integer" (some 7) with
  accessFlags := 49
  interfaces := #[3, 2, 8]
  cf := some (fileOf pool10 1 #[.nestMembers #[189]] #[{ accessFlags := 9, nameIndex := 53, descriptorIndex := 54, attributes := #[] }] 49 203 #[304, 306, 308] #[{ accessFlags := 25, nameIndex := 310, descriptorIndex := 194, attributes := #[] }, { accessFlags := 25, nameIndex := 312, descriptorIndex := 194, attributes := #[] }, { accessFlags := 25, nameIndex := 302, descriptorIndex := 303, attributes := #[] }, { accessFlags := 24, nameIndex := 19, descriptorIndex := 20, attributes := #[] }, { accessFlags := 24, nameIndex := 89, descriptorIndex := 86, attributes := #[] }, { accessFlags := 24, nameIndex := 85, descriptorIndex := 86, attributes := #[] }, { accessFlags := 18, nameIndex := 207, descriptorIndex := 194, attributes := #[] }, { accessFlags := 25, nameIndex := 316, descriptorIndex := 194, attributes := #[] }, { accessFlags := 25, nameIndex := 318, descriptorIndex := 194, attributes := #[] }, { accessFlags := 26, nameIndex := 320, descriptorIndex := 321, attributes := #[] }])
  fields := #[{ name := "MIN_VALUE", type := .int, accessFlags := 25, slot := 0, constantValue := 0 }, { name := "MAX_VALUE", type := .int, accessFlags := 25, slot := 1, constantValue := 0 }, { name := "TYPE", type := (.object "java/lang/Class"), accessFlags := 25, slot := 2, constantValue := 0 }, { name := "digits", type := (.array .char), accessFlags := 24, slot := 3, constantValue := 0 }, { name := "DigitTens", type := (.array .byte), accessFlags := 24, slot := 4, constantValue := 0 }, { name := "DigitOnes", type := (.array .byte), accessFlags := 24, slot := 5, constantValue := 0 }, { name := "value", type := .int, accessFlags := 18, slot := 0, constantValue := 0 }, { name := "SIZE", type := .int, accessFlags := 25, slot := 6, constantValue := 0 }, { name := "BYTES", type := .int, accessFlags := 25, slot := 7, constantValue := 0 }, { name := "serialVersionUID", type := .long, accessFlags := 26, slot := 8, constantValue := 0 }]
  methods := #[k10m0]
  instanceTypes := #[.int]
  staticTypes := #[.int, .int, (.object "java/lang/Class"), (.array .char), (.array .byte), (.array .byte), .int, .int, .long]
  resolved := Array.replicate 453 none
  statics := none }

def pool11 : Array CpInfo := pool [(1, u "java/lang/Cloneable"), (0, .class_ 1), (0, u "java/lang/Object"), (0, .class_ 3)] 3

/-- java/lang/Cloneable -/
def k11 : Class := { plain "java/lang/Cloneable" (some 0) with
  accessFlags := 1537
  interfaces := #[]
  cf := some (fileOf pool11 2 #[] #[] 1537 4 #[] #[])
  fields := #[]
  methods := #[]
  instanceTypes := #[]
  staticTypes := #[]
  resolved := Array.replicate 8 none
  statics := none }

/-- the primitive byte -/
def k12 : Class := { plain "byte" none with kind := .primitive 'B', accessFlags := 0x411 }
/-- [B -/
def k13 : Class := { plain "[B" (some 0) with kind := .array 12 .byte, interfaces := #[11, 4], accessFlags := 1041 }

/-- the primitive int -/
def k14 : Class := { plain "int" none with kind := .primitive 'I', accessFlags := 0x411 }
/-- [I -/
def k15 : Class := { plain "[I" (some 0) with kind := .array 14 .int, interfaces := #[11, 4], accessFlags := 1041 }

def heap : Heap := #[]
def classes : Array Class := #[k0, k1, k2, k3, k4, k5, k6, k7, k8, k9, k10, k11, k12, k13, k14, k15]
def interned : List (Array UInt16 × Addr) := []
def slotsUsed : Nat := 0
def theMethod : MethodId := ⟨1, 1⟩
def args0 : Array Value := #[.int 5, .long 2, .int 7]
def aboutOver (below : List Frame) : State where
  vm := { classes := classes, interned := interned.toArray }
  heap := heap
  slotsUsed := slotsUsed
  threads := #[{ frames := .invoking theMethod args0 :: below }]
def below0 : List Frame := [.native { method := ⟨0, 0⟩, args := #[] }]
def about1 : State := aboutOver below0
def p0 : Program := .bare "" "" ""
def e0 : Env := launch0.env 0 0 0
theorem w_frames : about1.frames = Frame.invoking theMethod args0 :: below0 := rfl
set_option maxRecDepth 65536 in
theorem w_args : argsFit about1.vm theMethod args0 = true := by decide +kernel
set_option maxRecDepth 65536 in
theorem w_heap : heapFits about1 = true := by decide +kernel
set_option maxRecDepth 65536 in
theorem w_runnable : about1.curStatus? = some .runnable := by decide +kernel
set_option maxRecDepth 65536 in
theorem w_alone : about1.alone = true := by decide +kernel
set_option maxRecDepth 65536 in
theorem w_named : about1.methodNamed? x = some theMethod := by decide +kernel
set_option maxRecDepth 65536 in
theorem w_hears : about1.hears theMethod below0 = true := by decide +kernel
set_option maxRecDepth 65536 in
theorem w_ripe : about1.ripe theMethod args0 below0 = true := by decide +kernel
theorem w_running : about1.status = .running := rfl
set_option maxRecDepth 65536 in
theorem w_room : about1.hasRoom e0.platform room_1 = true :=
  launch0.hasRoom_least _ room_1 (by decide +kernel) (by decide +kernel) (by decide +kernel) (by decide +kernel) (by decide +kernel) (by decide +kernel)
theorem allAtoms_all (ts : List Jvm.Cond) (a : Array Jvm.Value) (st : Jvm.State) : (allAtoms ts).before a st = ts.all (fun c => c.before a st) := by
  induction ts with
  | nil => rfl
  | cons c t ih =>
    show (Jvm.Cond.and c (allAtoms t)).before a st = _
    rw [Jvm.Cond.before_and, ih, List.all_cons]
def words1 : List Jvm.Cond := Jvm.Cond.code x code maxLocals ret :: tables_1
/-- a 'code' word, met by the world's own term for the bytes: nothing is compared byte by byte -/
theorem code_word {y : MethodName} {bytes : ByteArray} {mx : Nat} {rt : Option FieldType} {a : Array Value} {s : State} {m : MethodId} {meth : Method} {c : Code} (h1 : s.methodNamed? y = some m) (h2 : s.vm.method? m = some meth) (h3 : meth.code = some c) (h4 : c.code = bytes)
    (h5 : (c.maxLocals == mx && c.exceptionTable.isEmpty && decide (c.maxStack ≤ mostOperands) && decide (meth.sig.returnType = rt) && !meth.locks && decide (parseMethodDescriptor y.desc = some meth.sig)) = true) : (Jvm.Cond.code y bytes mx rt).before a s = true := by
  simp only [Bool.and_eq_true, beq_iff_eq, Bool.not_eq_true', decide_eq_true_eq] at h5
  obtain ⟨⟨⟨⟨⟨g1, g2⟩, g3⟩, g4⟩, g5⟩, g6⟩ := h5
  simp [Cond.before, Cond.holds, Cond.value, h1, h2, h3, h4, g1, g2, g3, g4, g5, g6]
def isCode : Jvm.Cond → Bool
  | .code _ _ _ _ => true
  | _ => false
theorem all_split {L : List Jvm.Cond} {P : Jvm.Cond → Bool} (h1 : L.all (fun c => isCode c || P c) = true) (h2 : ∀ c ∈ L.filter isCode, P c = true) : L.all P = true := by
  refine List.all_eq_true.mpr fun c hc => ?_
  have h := List.all_eq_true.mp h1 c hc
  rcases Bool.eq_false_or_eq_true (isCode c) with hi | hi
  · exact h2 c (List.mem_filter.mpr ⟨hc, hi⟩)
  · simpa [hi] using h
set_option maxRecDepth 65536 in
theorem w_c0 : (Jvm.Cond.code x code maxLocals ret).before args0 about1 = true := code_word (m := ⟨1, 1⟩) (meth := k1m1) (c := k1c1) (by decide +kernel) rfl rfl rfl (by decide +kernel)
set_option maxRecDepth 65536 in
theorem w_c1 : (Jvm.Cond.code ({ cls := "com/example/entrave/entrave/Restarts", name := "luby", desc := "(J)J" } : Jvm.MethodName) prog_15_method_5_code (5 : Nat) (Option.some Jvm.ClassFile.FieldType.long)).before args0 about1 = true := code_word (m := ⟨6, 0⟩) (meth := k6m0) (c := k6c0) (by decide +kernel) rfl rfl rfl (by decide +kernel)
set_option maxRecDepth 65536 in
theorem w_c2 : (Jvm.Cond.code ({ cls := "java/lang/Long", name := "numberOfLeadingZeros", desc := "(J)I" } : Jvm.MethodName) jdk_35_method_48_code (3 : Nat) (Option.some Jvm.ClassFile.FieldType.int)).before args0 about1 = true := code_word (m := ⟨9, 0⟩) (meth := k9m0) (c := k9c0) (by decide +kernel) rfl rfl rfl (by decide +kernel)
set_option maxRecDepth 65536 in
theorem w_c3 : (Jvm.Cond.code ({ cls := "java/lang/Integer", name := "numberOfLeadingZeros", desc := "(I)I" } : Jvm.MethodName) jdk_33_method_47_code (2 : Nat) (Option.some Jvm.ClassFile.FieldType.int)).before args0 about1 = true := code_word (m := ⟨10, 0⟩) (meth := k10m0) (c := k10c0) (by decide +kernel) rfl rfl rfl (by decide +kernel)
def codes1 : List Jvm.Cond := [Jvm.Cond.code x code maxLocals ret, Jvm.Cond.code ({ cls := "com/example/entrave/entrave/Restarts", name := "luby", desc := "(J)J" } : Jvm.MethodName) prog_15_method_5_code (5 : Nat) (Option.some Jvm.ClassFile.FieldType.long), Jvm.Cond.code ({ cls := "java/lang/Long", name := "numberOfLeadingZeros", desc := "(J)I" } : Jvm.MethodName) jdk_35_method_48_code (3 : Nat) (Option.some Jvm.ClassFile.FieldType.int), Jvm.Cond.code ({ cls := "java/lang/Integer", name := "numberOfLeadingZeros", desc := "(I)I" } : Jvm.MethodName) jdk_33_method_47_code (2 : Nat) (Option.some Jvm.ClassFile.FieldType.int)]
set_option maxRecDepth 65536 in
theorem codes_eq : words1.filter isCode = codes1 := rfl
theorem w_codes : ∀ c ∈ words1.filter isCode, c.before args0 about1 = true := by
  rw [codes_eq]
  intro c hc
  simp only [codes1, List.mem_cons, List.not_mem_nil, or_false] at hc
  rcases hc with rfl | rfl | rfl | rfl
  · exact w_c0
  · exact w_c1
  · exact w_c2
  · exact w_c3
set_option maxRecDepth 65536 in
theorem w_t1 : words1.all (fun c => isCode c || c.before args0 about1) = true := by decide +kernel
theorem w_tables : (allAtoms (Jvm.Cond.code x code maxLocals ret :: tables_1)).before args0 about1 = true := by
  rw [allAtoms_all]
  show words1.all (fun c => c.before args0 about1) = true
  refine all_split ?_ w_codes
  rw [w_t1]
set_option maxRecDepth 65536 in
theorem w_case : (Jvm.Cond.and given_1 narrow_1).before args0 about1 = true := by decide +kernel
theorem w_applies : (headSpec (Jvm.Cond.code x code maxLocals ret :: tables_1) room_1).applies x e0.platform about1 = true :=
  (Spec.applies_iff w_frames).mpr ⟨w_running, w_runnable, w_alone, w_named, w_hears, w_ripe, w_room, w_tables⟩
theorem atStart : AtStart classFile x code maxLocals ret World_1 tables_1 room_1 Calls_1 rest_1 Pre_1 launch0 p0 e0 about1 theMethod args0 below0 :=
  ⟨lists_1, trivial, launch0.admits_env _ _ _, launch0.least_env, fairChoices_fair.cas, fairChoices_fair.clock, w_frames, w_args, w_heap, w_applies, trivial, trivial, w_case⟩
end start1
theorem witness_1 : WitnessClaimed_1 := ⟨start1.p0, start1.e0, start1.about1, start1.theMethod, start1.args0, start1.below0, start1.atStart⟩
end Jvm.Pilot.@@N@@
