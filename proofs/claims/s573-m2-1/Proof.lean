import JvmDerived
import JvmDerived.Pilot.@@N@@Statement
import JvmDerived.Pilot.@@N@@Code
set_option linter.unusedVariables false
set_option linter.unusedSimpArgs false
namespace Jvm.RoadKit
open Sem ClassFile Op Lib Jvm.Stand Jvm.Free Jvm.LawKit
section New
variable {p : Program} {l : Launch} {e : Env} {R : Room} {s : State} {m : MethodId} {args : Array Value} {below : List Frame} {meth : Method} {c : Code} {T : State} {locs : List Loc} {cells slots : Nat}
theorem own_retI (X : Stand p l e R s m args below meth c T locs cells slots) (hx : p.tables.exec = Jvm.exec) {pc : Nat} {Ls : Array Slot} {z : Int32} {rest : List Value} (hret : meth.sig.returnType = some .int) (hd : decode c.code pc = .ok (.ireturn, 1)) {fs : List Frame}
    (hl : ∀ (f : JFrame) (acts : List Action), f.method = m → f.locked = none → f.entered = [] → (doReturn e (T.setTop f) acts (some (.int z))).1 = T.setFrames fs) : Steps p.tables e below (T.setTop (mkF m pc Ls (.int z :: rest))) (T.setFrames fs) :=
  retOut X hx hret rfl (Or.inl ⟨rfl, Or.inl rfl, z, rfl⟩) hd hl
theorem own_retJ (X : Stand p l e R s m args below meth c T locs cells slots) (hx : p.tables.exec = Jvm.exec) {pc : Nat} {Ls : Array Slot} {z : Int64} {rest : List Value} (hret : meth.sig.returnType = some .long) (hd : decode c.code pc = .ok (.lreturn, 1)) {fs : List Frame}
    (hl : ∀ (f : JFrame) (acts : List Action), f.method = m → f.locked = none → f.entered = [] → (doReturn e (T.setTop f) acts (some (.long z))).1 = T.setFrames fs) : Steps p.tables e below (T.setTop (mkF m pc Ls (.long z :: rest))) (T.setFrames fs) :=
  retOut X hx hret rfl (Or.inr (Or.inl ⟨rfl, rfl, z, rfl⟩)) hd hl
theorem own_retA (X : Stand p l e R s m args below meth c T locs cells slots) (hx : p.tables.exec = Jvm.exec) {pc : Nat} {Ls : Array Slot} {w : Value} {t : FieldType} {rest : List Value} (hret : meth.sig.returnType = some t) (hn : narrow t w = w) (ht : t.isReference = true) (hw : w.isRef = true) (hd : decode c.code pc = .ok (.areturn, 1)) {fs : List Frame}
    (hl : ∀ (f : JFrame) (acts : List Action), f.method = m → f.locked = none → f.entered = [] → (doReturn e (T.setTop f) acts (some w)).1 = T.setFrames fs) : Steps p.tables e below (T.setTop (mkF m pc Ls (w :: rest))) (T.setFrames fs) :=
  retOut X hx hret hn (Or.inr (Or.inr (Or.inr (Or.inr ⟨rfl, ht, hw⟩)))) hd hl
end New
abbrev OwnGo (tb : Tables) (e : Env) (below : List Frame) (K : State → Outcome → Prop) (st : State) : Prop := ∃ s₂ o, Steps tb e below st s₂ ∧ s₂.status = .running ∧ Ended s₂ below o ∧ K s₂ o
theorem OwnGo.back {tb : Tables} {e : Env} {below : List Frame} {K : State → Outcome → Prop} {st : State} (st' : State) (h : ∀ t, Steps tb e below st' t → Steps tb e below st t) (g : OwnGo tb e below K st') : OwnGo tb e below K st := by
  obtain ⟨s₂, o, h1, h2⟩ := g
  exact ⟨s₂, o, h _ h1, h2⟩
abbrev OwnMg (tb : Tables) (e : Env) (below : List Frame) (D : State → Prop) (st : State) : Prop := ∃ st', D st' ∧ ∀ t, Steps tb e below st' t → Steps tb e below st t
theorem OwnMg.back {tb : Tables} {e : Env} {below : List Frame} {D : State → Prop} {st : State} (st' : State) (h : ∀ t, Steps tb e below st' t → Steps tb e below st t) (g : OwnMg tb e below D st') : OwnMg tb e below D st := by
  obtain ⟨s₂, h1, h2⟩ := g
  exact ⟨s₂, h1, fun t k => h t (h2 t k)⟩
theorem own_not {P Q : Prop} (h : P ↔ Q) (n : ¬ Q) : ¬ P := fun q => n (h.mp q)
theorem own_ne {a b n : Nat} (h : a < n) (q : b = n) : a ≠ b := Nat.ne_of_lt (q ▸ h)
theorem own_ne' {a b n : Nat} (h : a < n) (q : n ≤ b) : a ≠ b := Nat.ne_of_lt (Nat.lt_of_lt_of_le h q)
end Jvm.RoadKit
namespace Jvm.Pilot.@@N@@
open Jvm Jvm.ClassFile Sem Op Lib Jvm.Free Jvm.Stand Jvm.LawKit Jvm.RoadKit Bundle Jvm.Pilot.@@N@@.Jvm.D
theorem own_pn0 : plainName "java/lang/StringLatin1" = true := by first | (simp [plainName, overriddenIn]; done) | decide +kernel
theorem own_d2_0 : decode jdk_43_method_3_code 0 = .ok (.iload_n 0, 1) := by decide +kernel
theorem own_d2_1 : decode jdk_43_method_3_code 1 = .ok (.sipush 255, 3) := by decide +kernel
theorem own_d2_4 : decode jdk_43_method_3_code 4 = .ok (.if_icmp .gt 7, 3) := by decide +kernel
theorem own_d2_7 : decode jdk_43_method_3_code 7 = .ok (.iconst 1, 1) := by decide +kernel
theorem own_d2_8 : decode jdk_43_method_3_code 8 = .ok (.goto 4, 3) := by decide +kernel
theorem own_d2_12 : decode jdk_43_method_3_code 12 = .ok (.ireturn, 1) := by decide +kernel
theorem own_d3_0 : decode jdk_43_method_46_code 0 = .ok (.iconst 1, 1) := by decide +kernel
theorem own_d3_1 : decode jdk_43_method_46_code 1 = .ok (.newarray .byte, 2) := by decide +kernel
theorem own_d3_3 : decode jdk_43_method_46_code 3 = .ok (.dup, 1) := by decide +kernel
theorem own_d3_4 : decode jdk_43_method_46_code 4 = .ok (.iconst 0, 1) := by decide +kernel
theorem own_d3_5 : decode jdk_43_method_46_code 5 = .ok (.iload_n 0, 1) := by decide +kernel
theorem own_d3_6 : decode jdk_43_method_46_code 6 = .ok (.i2b, 1) := by decide +kernel
theorem own_d3_7 : decode jdk_43_method_46_code 7 = .ok (.bastore, 1) := by decide +kernel
theorem own_d3_8 : decode jdk_43_method_46_code 8 = .ok (.areturn, 1) := by decide +kernel
theorem own_pn1 : plainName "java/lang/String" = true := by first | (simp [plainName, overriddenIn]; done) | decide +kernel
theorem own_d4_0 : decode jdk_42_method_151_code 0 = .ok (.aload_n 0, 1) := by decide +kernel
theorem own_d4_1 : decode jdk_42_method_151_code 1 = .ok (.invokespecial 1, 3) := by decide +kernel
theorem own_d4_4 : decode jdk_42_method_151_code 4 = .ok (.aload_n 0, 1) := by decide +kernel
theorem own_d4_5 : decode jdk_42_method_151_code 5 = .ok (.aload_n 1, 1) := by decide +kernel
theorem own_d4_6 : decode jdk_42_method_151_code 6 = .ok (.putfield 9, 3) := by decide +kernel
theorem own_d4_9 : decode jdk_42_method_151_code 9 = .ok (.aload_n 0, 1) := by decide +kernel
theorem own_d4_10 : decode jdk_42_method_151_code 10 = .ok (.iload_n 2, 1) := by decide +kernel
theorem own_d4_11 : decode jdk_42_method_151_code 11 = .ok (.putfield 15, 3) := by decide +kernel
theorem own_d4_14 : decode jdk_42_method_151_code 14 = .ok (.return_, 1) := by decide +kernel
theorem own_d1_0 : decode jdk_42_method_139_code 0 = .ok (.getstatic 38, 3) := by decide +kernel
theorem own_d1_3 : decode jdk_42_method_139_code 3 = .ok (.ifCond .eq 23, 3) := by decide +kernel
theorem own_d1_6 : decode jdk_42_method_139_code 6 = .ok (.iload_n 0, 1) := by decide +kernel
theorem own_d1_7 : decode jdk_42_method_139_code 7 = .ok (.invokestatic 1015, 3) := by decide +kernel
theorem own_pd0 : parseMethodDescriptor "(C)Z" = some ⟨[.char], some .boolean⟩ := by decide +kernel
theorem own_d1_10 : decode jdk_42_method_139_code 10 = .ok (.ifCond .eq 16, 3) := by decide +kernel
theorem own_d1_13 : decode jdk_42_method_139_code 13 = .ok (.new 10, 3) := by decide +kernel
theorem own_d1_16 : decode jdk_42_method_139_code 16 = .ok (.dup, 1) := by decide +kernel
theorem own_d1_17 : decode jdk_42_method_139_code 17 = .ok (.iload_n 0, 1) := by decide +kernel
theorem own_d1_18 : decode jdk_42_method_139_code 18 = .ok (.invokestatic 1018, 3) := by decide +kernel
theorem own_pd1 : parseMethodDescriptor "(C)[B" = some ⟨[.char], some (.array .byte)⟩ := by decide +kernel
theorem own_d1_21 : decode jdk_42_method_139_code 21 = .ok (.iconst 0, 1) := by decide +kernel
theorem own_d1_22 : decode jdk_42_method_139_code 22 = .ok (.invokespecial 209, 3) := by decide +kernel
theorem own_pd2 : parseMethodDescriptor "([BB)V" = some ⟨[(.array .byte), .byte], none⟩ := by decide +kernel
theorem own_d1_25 : decode jdk_42_method_139_code 25 = .ok (.areturn, 1) := by decide +kernel
theorem own_pn2 : plainName "java/util/AbstractCollection" = true := by first | (simp [plainName, overriddenIn]; done) | decide +kernel
theorem own_d9_0 : decode jdk_22_method_1_code 0 = .ok (.aload_n 0, 1) := by decide +kernel
theorem own_d9_1 : decode jdk_22_method_1_code 1 = .ok (.invokespecial 1, 3) := by decide +kernel
theorem own_d9_4 : decode jdk_22_method_1_code 4 = .ok (.return_, 1) := by decide +kernel
theorem own_pn3 : plainName "java/util/AbstractList" = true := by first | (simp [plainName, overriddenIn]; done) | decide +kernel
theorem own_d8_0 : decode jdk_39_method_1_code 0 = .ok (.aload_n 0, 1) := by decide +kernel
theorem own_d8_1 : decode jdk_39_method_1_code 1 = .ok (.invokespecial 1, 3) := by decide +kernel
theorem own_pd3 : parseMethodDescriptor "()V" = some ⟨[], none⟩ := by decide +kernel
theorem own_d8_4 : decode jdk_39_method_1_code 4 = .ok (.aload_n 0, 1) := by decide +kernel
theorem own_d8_5 : decode jdk_39_method_1_code 5 = .ok (.iconst 0, 1) := by decide +kernel
theorem own_d8_6 : decode jdk_39_method_1_code 6 = .ok (.putfield 7, 3) := by decide +kernel
theorem own_d8_9 : decode jdk_39_method_1_code 9 = .ok (.return_, 1) := by decide +kernel
theorem own_pn4 : plainName "java/util/ArrayList" = true := by first | (simp [plainName, overriddenIn]; done) | decide +kernel
theorem own_d7_0 : decode jdk_38_method_1_code 0 = .ok (.aload_n 0, 1) := by decide +kernel
theorem own_d7_1 : decode jdk_38_method_1_code 1 = .ok (.invokespecial 1, 3) := by decide +kernel
theorem own_d7_4 : decode jdk_38_method_1_code 4 = .ok (.iload_n 1, 1) := by decide +kernel
theorem own_d7_5 : decode jdk_38_method_1_code 5 = .ok (.ifCond .le 14, 3) := by decide +kernel
theorem own_d7_8 : decode jdk_38_method_1_code 8 = .ok (.aload_n 0, 1) := by decide +kernel
theorem own_d7_9 : decode jdk_38_method_1_code 9 = .ok (.iload_n 1, 1) := by decide +kernel
theorem own_d7_10 : decode jdk_38_method_1_code 10 = .ok (.anewarray 7, 3) := by decide +kernel
theorem own_d7_13 : decode jdk_38_method_1_code 13 = .ok (.putfield 9, 3) := by decide +kernel
theorem own_d7_16 : decode jdk_38_method_1_code 16 = .ok (.goto 44, 3) := by decide +kernel
theorem own_d7_60 : decode jdk_38_method_1_code 60 = .ok (.return_, 1) := by decide +kernel
theorem own_pn5 : plainName "com/example/lucid_policy/lucidpolicy/parse/Symbol" = true := by first | (simp [plainName, overriddenIn]; done) | decide +kernel
theorem own_d6_0 : decode prog_160_method_1_code 0 = .ok (.aload_n 0, 1) := by decide +kernel
theorem own_d6_1 : decode prog_160_method_1_code 1 = .ok (.invokespecial 1, 3) := by decide +kernel
theorem own_d6_4 : decode prog_160_method_1_code 4 = .ok (.aload_n 0, 1) := by decide +kernel
theorem own_d6_5 : decode prog_160_method_1_code 5 = .ok (.new 7, 3) := by decide +kernel
theorem own_d6_8 : decode prog_160_method_1_code 8 = .ok (.dup, 1) := by decide +kernel
theorem own_d6_9 : decode prog_160_method_1_code 9 = .ok (.iconst 1, 1) := by decide +kernel
theorem own_d6_10 : decode prog_160_method_1_code 10 = .ok (.invokespecial 9, 3) := by decide +kernel
theorem own_pd4 : parseMethodDescriptor "(I)V" = some ⟨[.int], none⟩ := by decide +kernel
theorem own_d6_13 : decode prog_160_method_1_code 13 = .ok (.putfield 12, 3) := by decide +kernel
theorem own_d6_16 : decode prog_160_method_1_code 16 = .ok (.aload_n 0, 1) := by decide +kernel
theorem own_d6_17 : decode prog_160_method_1_code 17 = .ok (.new 7, 3) := by decide +kernel
theorem own_d6_20 : decode prog_160_method_1_code 20 = .ok (.dup, 1) := by decide +kernel
theorem own_d6_21 : decode prog_160_method_1_code 21 = .ok (.iconst 1, 1) := by decide +kernel
theorem own_d6_22 : decode prog_160_method_1_code 22 = .ok (.invokespecial 9, 3) := by decide +kernel
theorem own_d6_25 : decode prog_160_method_1_code 25 = .ok (.putfield 18, 3) := by decide +kernel
theorem own_d6_28 : decode prog_160_method_1_code 28 = .ok (.aload_n 0, 1) := by decide +kernel
theorem own_d6_29 : decode prog_160_method_1_code 29 = .ok (.aload_n 1, 1) := by decide +kernel
theorem own_d6_30 : decode prog_160_method_1_code 30 = .ok (.putfield 21, 3) := by decide +kernel
theorem own_d6_33 : decode prog_160_method_1_code 33 = .ok (.return_, 1) := by decide +kernel
theorem own_d10_0 : decode prog_160_method_15_code 0 = .ok (.aload_n 0, 1) := by decide +kernel
theorem own_d10_1 : decode prog_160_method_15_code 1 = .ok (.getfield 70, 3) := by decide +kernel
theorem own_d10_4 : decode prog_160_method_15_code 4 = .ok (.ifCond .le 7, 3) := by decide +kernel
theorem own_d10_7 : decode prog_160_method_15_code 7 = .ok (.iconst 1, 1) := by decide +kernel
theorem own_d10_8 : decode prog_160_method_15_code 8 = .ok (.goto 4, 3) := by decide +kernel
theorem own_d10_12 : decode prog_160_method_15_code 12 = .ok (.ireturn, 1) := by decide +kernel
theorem own_d10_11 : decode prog_160_method_15_code 11 = .ok (.iconst 0, 1) := by decide +kernel
theorem own_d13_0 : decode prog_160_method_13_code 0 = .ok (.aload_n 0, 1) := by decide +kernel
theorem own_d13_1 : decode prog_160_method_13_code 1 = .ok (.dup, 1) := by decide +kernel
theorem own_d13_2 : decode prog_160_method_13_code 2 = .ok (.getfield 70, 3) := by decide +kernel
theorem own_d13_5 : decode prog_160_method_13_code 5 = .ok (.iconst 1, 1) := by decide +kernel
theorem own_d13_6 : decode prog_160_method_13_code 6 = .ok (.iadd, 1) := by decide +kernel
theorem own_d13_7 : decode prog_160_method_13_code 7 = .ok (.putfield 70, 3) := by decide +kernel
theorem own_d13_10 : decode prog_160_method_13_code 10 = .ok (.return_, 1) := by decide +kernel
theorem own_d12_0 : decode prog_160_method_14_code 0 = .ok (.aload_n 0, 1) := by decide +kernel
theorem own_d12_1 : decode prog_160_method_14_code 1 = .ok (.dup, 1) := by decide +kernel
theorem own_d12_2 : decode prog_160_method_14_code 2 = .ok (.getfield 70, 3) := by decide +kernel
theorem own_d12_5 : decode prog_160_method_14_code 5 = .ok (.iconst 1, 1) := by decide +kernel
theorem own_d12_6 : decode prog_160_method_14_code 6 = .ok (.isub, 1) := by decide +kernel
theorem own_d12_7 : decode prog_160_method_14_code 7 = .ok (.putfield 70, 3) := by decide +kernel
theorem own_d12_10 : decode prog_160_method_14_code 10 = .ok (.return_, 1) := by decide +kernel
theorem own_pn6 : plainName "com/example/lucid_policy/lucidpolicy/parse/SymbolVisiblePinLaw" = true := by first | (simp [plainName, overriddenIn]; done) | decide +kernel
theorem own_d11_0 : decode method_2_code 0 = .ok (.iload_n 1, 1) := by decide +kernel
theorem own_d11_1 : decode method_2_code 1 = .ok (.iconst 1, 1) := by decide +kernel
theorem own_d11_2 : decode method_2_code 2 = .ok (.iand, 1) := by decide +kernel
theorem own_d11_3 : decode method_2_code 3 = .ok (.ifCond .eq 11, 3) := by decide +kernel
theorem own_d11_14 : decode method_2_code 14 = .ok (.aload_n 0, 1) := by decide +kernel
theorem own_d11_15 : decode method_2_code 15 = .ok (.invokevirtual 12, 3) := by decide +kernel
theorem own_d11_18 : decode method_2_code 18 = .ok (.iload_n 2, 1) := by decide +kernel
theorem own_d11_19 : decode method_2_code 19 = .ok (.iconst 1, 1) := by decide +kernel
theorem own_d11_20 : decode method_2_code 20 = .ok (.isub, 1) := by decide +kernel
theorem own_d11_21 : decode method_2_code 21 = .ok (.ireturn, 1) := by decide +kernel
theorem own_d11_6 : decode method_2_code 6 = .ok (.aload_n 0, 1) := by decide +kernel
theorem own_d11_7 : decode method_2_code 7 = .ok (.invokevirtual 7, 3) := by decide +kernel
theorem own_d11_10 : decode method_2_code 10 = .ok (.iload_n 2, 1) := by decide +kernel
theorem own_d11_11 : decode method_2_code 11 = .ok (.iconst 1, 1) := by decide +kernel
theorem own_d11_12 : decode method_2_code 12 = .ok (.iadd, 1) := by decide +kernel
theorem own_d11_13 : decode method_2_code 13 = .ok (.ireturn, 1) := by decide +kernel
theorem own_pd5 : parseMethodDescriptor "(C)Ljava/lang/String;" = some ⟨[.char], some (.object "java/lang/String")⟩ := by decide +kernel
theorem own_pd6 : parseMethodDescriptor "(Ljava/lang/String;)V" = some ⟨[(.object "java/lang/String")], none⟩ := by decide +kernel
theorem own_pd7 : parseMethodDescriptor "()Z" = some ⟨[], some .boolean⟩ := by decide +kernel
theorem own_pd8 : parseMethodDescriptor "(Lcom/example/lucid_policy/lucidpolicy/parse/Symbol;II)I" = some ⟨[(.object "com/example/lucid_policy/lucidpolicy/parse/Symbol"), .int, .int], some .int⟩ := by decide +kernel
theorem own_can_ef (m : MethodId) (x0 : Int32) : entryFrame m #[(.int x0)] 1 = mkF m 0 #[.val (.int x0)] [] := by first | (simp [entryFrame, mkF, argsToLocals, Value.category]; done) | rfl
def own_can_Q (Z : State) (x : Int32) (h0 : Heap) (n0 : Nat) (rv : Option Value) (hN : Heap) (LL : List Loc) : Prop := rv = some (.int (1 : Int32)) ∧ Fr n0 LL ∧ hN = h0
set_option maxRecDepth 65536 in
set_option maxHeartbeats 40000000 in
theorem own_can (l : Launch) (Z : State) (a0 : Array Value) (hw : ∀ d ∈ tables_1, d.before a0 Z = true) (ws : List Jvm.Cond) (x : Int32) (h0 : Heap) (n0 : Nat) (Z0 : n0 ≤ h0.size) (hx0 : ¬ 255 < x) :
    MetFree l (⟨"java/lang/StringLatin1", "canEncode", "(C)Z"⟩ : MethodName) (head1 (Jvm.Cond.code (⟨"java/lang/StringLatin1", "canEncode", "(C)Z"⟩ : MethodName) jdk_43_method_3_code 1 (some .boolean) :: ws) ({ frames := 0, cells := 0, slots := 0, locals := 0 } : Room)) (fun aa UU => aa = #[(.int x)] ∧ Z.Warmed39 UU.vm ∧ UU.heap = h0) (fun _ _ _ _ _ => True) (fun _ UU oo UU' => ∃ rv LL, oo = .returned rv ∧ own_can_Q Z x h0 n0 rv UU'.heap LL ∧ FrameEnd UU oo UU' LL ({ frames := 0, cells := 0, slots := 0, locals := 0 } : Room).cells ({ frames := 0, cells := 0, slots := 0, locals := 0 } : Room).slots) := by
  refine MetFree.of_bodySF (plainFor_of_name own_pn0) hisR ?_
  intro p e s m args below meth c s₁ Bd hml0 hP hK
  obtain ⟨rfl, hZ, hh⟩ := hP
  have hx := Bd.exec
  have hby := Bd.bytes
  have hml : c.maxLocals = 1 := hml0
  have hown : s.vm.findClass "java/lang/StringLatin1" = some m.cls := findClass_of_methodNamed Bd.named
  have hnm := (name_of_methodNamed Bd.named Bd.method).1
  have X0 : Stand p l e ({ frames := 0, cells := 0, slots := 0, locals := 0 } : Room) s m #[(.int x)] below meth c s₁ [] 0 0 := Stand.of_body Bd
  have e0 : s₁.heap = h0 := by rw [← hh, Bd.state]; rfl
  have N0 := Fr.nil n0
  have K0 : Keep h0 h0 [] := Keep.refl h0 _
  refine (?_ : OwnGo p.tables e below (fun UU' oo => ∃ rv LL, oo = .returned rv ∧ own_can_Q Z x h0 n0 rv UU'.heap LL ∧ FrameEnd s oo UU' LL ({ frames := 0, cells := 0, slots := 0, locals := 0 } : Room).cells ({ frames := 0, cells := 0, slots := 0, locals := 0 } : Room).slots) _)
  refine OwnGo.back (s₁.setTop (mkF m 0 #[.val (.int x)] [])) (fun tg kk => castTop (own_can_ef m x) kk) ?_
  refine OwnGo.back (s₁.setTop (mkF m 1 #[.val (.int x)] [(.int x)])) (fun tg kk => XS.iloadN X0.here hx rfl (hb hby own_d2_0) rfl kk) ?_
  refine OwnGo.back (s₁.setTop (mkF m 4 #[.val (.int x)] [(.int (255 : Int32)), (.int x)])) (fun tg kk => XS.sipush X0.here hx rfl (hb hby own_d2_1) kk) ?_
  refine OwnGo.back (s₁.setTop (mkF m 7 #[.val (.int x)] [])) (fun tg kk => XS.icmpNo X0.here hx rfl (hb hby own_d2_4) rfl (flt (hx0 : ¬ ((255 : Int32) < x))).2.2.1 kk) ?_
  refine OwnGo.back (s₁.setTop (mkF m 8 #[.val (.int x)] [(.int (1 : Int32))])) (fun tg kk => XS.iconst X0.here hx rfl (hb hby own_d2_7) kk) ?_
  refine OwnGo.back (s₁.setTop (mkF m 12 #[.val (.int x)] [(.int (1 : Int32))])) (fun tg kk => XS.goto X0.here hx rfl (pc0 := 8) (pc' := 12) rfl (hb hby own_d2_8) (by decide) (by decide) kk) ?_
  obtain ⟨fs, hr, hrun, hended, hW, hsame⟩ := X0.leave (v := some (.int (1 : Int32))) (fun h => by rw [Bd.returns] at h; cases h)
  refine ⟨_, _, ?_, hrun, hended, _, _, rfl, ?_, ⟨_, rfl⟩, hW, hsame.mono (by decide) (by decide)⟩
  · exact retN X0 hx (t := .boolean) Bd.returns (by simp) (hb hby own_d2_12) hr
  · show own_can_Q Z x h0 n0 _ s₁.heap _
    rw [e0]
    exact ⟨rfl, N0, rfl⟩
theorem own_tob_ef (m : MethodId) (x0 : Int32) : entryFrame m #[(.int x0)] 1 = mkF m 0 #[.val (.int x0)] [] := by first | (simp [entryFrame, mkF, argsToLocals, Value.category]; done) | rfl
def own_tob_Q (Z : State) (x : Int32) (h0 : Heap) (n0 : Nat) (rv : Option Value) (hN : Heap) (LL : List Loc) : Prop := ∃ (b : Addr), rv = some (.ref b) ∧ Fr n0 LL ∧ Keep h0 hN [] ∧ h0.size ≤ b
set_option maxRecDepth 65536 in
set_option maxHeartbeats 40000000 in
theorem own_tob (l : Launch) (Z : State) (a0 : Array Value) (hw : ∀ d ∈ tables_1, d.before a0 Z = true) (ws : List Jvm.Cond) (x : Int32) (h0 : Heap) (n0 : Nat) (Z0 : n0 ≤ h0.size) :
    MetFree l (⟨"java/lang/StringLatin1", "toBytes", "(C)[B"⟩ : MethodName) (head1 (Jvm.Cond.code (⟨"java/lang/StringLatin1", "toBytes", "(C)[B"⟩ : MethodName) jdk_43_method_46_code 1 (some (.array .byte)) :: ws) ({ frames := 0, cells := 1, slots := 1, locals := 0 } : Room)) (fun aa UU => aa = #[(.int x)] ∧ Z.Warmed39 UU.vm ∧ UU.heap = h0) (fun _ _ _ _ _ => True) (fun _ UU oo UU' => ∃ rv LL, oo = .returned rv ∧ own_tob_Q Z x h0 n0 rv UU'.heap LL ∧ FrameEnd UU oo UU' LL ({ frames := 0, cells := 1, slots := 1, locals := 0 } : Room).cells ({ frames := 0, cells := 1, slots := 1, locals := 0 } : Room).slots) := by
  refine MetFree.of_bodySF (plainFor_of_name own_pn0) hisR ?_
  intro p e s m args below meth c s₁ Bd hml0 hP hK
  obtain ⟨rfl, hZ, hh⟩ := hP
  have hx := Bd.exec
  have hby := Bd.bytes
  have hml : c.maxLocals = 1 := hml0
  have hown : s.vm.findClass "java/lang/StringLatin1" = some m.cls := findClass_of_methodNamed Bd.named
  have hnm := (name_of_methodNamed Bd.named Bd.method).1
  have X0 : Stand p l e ({ frames := 0, cells := 1, slots := 1, locals := 0 } : Room) s m #[(.int x)] below meth c s₁ [] 0 0 := Stand.of_body Bd
  have e0 : s₁.heap = h0 := by rw [← hh, Bd.state]; rfl
  have N0 := Fr.nil n0
  have K0 : Keep h0 h0 [] := Keep.refl h0 _
  refine (?_ : OwnGo p.tables e below (fun UU' oo => ∃ rv LL, oo = .returned rv ∧ own_tob_Q Z x h0 n0 rv UU'.heap LL ∧ FrameEnd s oo UU' LL ({ frames := 0, cells := 1, slots := 1, locals := 0 } : Room).cells ({ frames := 0, cells := 1, slots := 1, locals := 0 } : Room).slots) _)
  refine OwnGo.back (s₁.setTop (mkF m 0 #[.val (.int x)] [])) (fun tg kk => castTop (own_tob_ef m x) kk) ?_
  refine OwnGo.back (s₁.setTop (mkF m 1 #[.val (.int x)] [(.int (1 : Int32))])) (fun tg kk => XS.iconst X0.here hx rfl (hb hby own_d3_0) kk) ?_
  obtain ⟨T1, h1, k1, X1, e1, E1, A1, st1⟩ := newP X0 hx hZ (hw _ (List.mem_of_getElem? (i := 17) rfl)) e0 (g := (mkF m 1 #[.val (.int x)] [(.int (1 : Int32))])) rfl (hb hby own_d3_1) rfl (by decide) (cap := 1) (by decide) (by decide) (by decide) (by decide)
  obtain ⟨b1, q1⟩ : ∃ z, z = h0.size := ⟨_, rfl⟩
  rw [← q1] at A1 st1
  have g2 : n0 ≤ b1 := Nat.le_trans Z0 (Nat.le_of_eq q1.symm)
  have s3 : h0.size ≤ b1 := Nat.le_trans K0.1 (Nat.le_of_eq q1.symm)
  have K4 : Keep h0 h1 [] := K0.ext E1
  have Z5 : n0 ≤ h1.size := Nat.le_trans Z0 E1.1
  have f6 : Arv Z h1 b1 k1 .byte (1 : Int32) [(.int (0 : Int32))] (.int (0 : Int32)) := (Arv.new A1 (by decide)).pad (pad_rep [] (.int (0 : Int32)) 1)
  refine OwnGo.back (T1.setTop (mkF m 3 #[.val (.int x)] [(.ref b1)])) (fun tg kk => st1 _ kk) ?_
  refine OwnGo.back (T1.setTop (mkF m 4 #[.val (.int x)] [(.ref b1), (.ref b1)])) (fun tg kk => XS.dup X1.here hx rfl (hb hby own_d3_3) rfl rfl kk) ?_
  refine OwnGo.back (T1.setTop (mkF m 5 #[.val (.int x)] [(.int (0 : Int32)), (.ref b1), (.ref b1)])) (fun tg kk => XS.iconst X1.here hx rfl (hb hby own_d3_4) kk) ?_
  refine OwnGo.back (T1.setTop (mkF m 6 #[.val (.int x)] [(.int x), (.int (0 : Int32)), (.ref b1), (.ref b1)])) (fun tg kk => XS.iloadN X1.here hx rfl (hb hby own_d3_5) rfl kk) ?_
  refine OwnGo.back (T1.setTop (mkF m 7 #[.val (.int x)] [(.int (x.toInt8.toInt32)), (.int (0 : Int32)), (.ref b1), (.ref b1)])) (fun tg kk => XS.i2b X1.here hx rfl (hb hby own_d3_6) rfl kk) ?_
  obtain ⟨cl7, Ar7, q7, S7, N7, H7, G7⟩ := id f6
  have hin7 : ¬ ((0 : Int32) < 0 ∨ cl7.slots.size ≤ ((0 : Int32)).toNatClampNeg) := inb_of S7 ⟨by decide, by decide⟩
  obtain ⟨T8, h8, X8, e8, W8, st8⟩ := stB X1 hx hZ e1 Ar7 (j := (0 : Int32)) hin7 (g := (mkF m 7 #[.val (.int x)] [(.int (x.toInt8.toInt32)), (.int (0 : Int32)), (.ref b1), (.ref b1)])) rfl rfl (hb hby own_d3_7)
  have f9 : Arv Z h8 b1 k1 .byte (1 : Int32) [(.int (nar .byte (x.toInt8.toInt32)))] (.int (0 : Int32)) := Arv.set Ar7 q7 S7 N7 H7 G7 (fits_nar_byte _) W8 0 rfl (Nat.le_of_ble_eq_true rfl)
  have K10 : Keep h0 h8 [] := K4.wr W8 (Or.inr s3)
  have Z11 : n0 ≤ h8.size := Nat.le_trans Z5 (Keep.of_wr W8).1
  have N12 := Fr.snoc X8 N0 g2
  refine OwnGo.back (T8.setTop (mkF m 8 #[.val (.int x)] [(.ref b1)])) (fun tg kk => st8 _ kk) ?_
  obtain ⟨fs, hr, hrun, hended, hW, hsame⟩ := X8.leave (v := some (.ref b1)) (fun h => by rw [Bd.returns] at h; cases h)
  refine ⟨_, _, ?_, hrun, hended, _, _, rfl, ?_, ⟨_, rfl⟩, hW, hsame.mono (by decide) (by decide)⟩
  · exact own_retA X8 hx Bd.returns rfl rfl rfl (hb hby own_d3_8) hr
  · show own_tob_Q Z x h0 n0 _ T8.heap _
    rw [e8]
    exact ⟨b1, rfl, N12, K10, s3⟩
theorem own_sini_ef (m : MethodId) (x0 : Addr) (x1 : Addr) (x2 : Int32) : entryFrame m #[(.ref x0), (.ref x1), (.int x2)] 3 = mkF m 0 #[.val (.ref x0), .val (.ref x1), .val (.int x2)] [] := by first | (simp [entryFrame, mkF, argsToLocals, Value.category]; done) | rfl
def own_sini_Q (Z : State) (a : Addr) (b : Addr) (h0 : Heap) (n0 : Nat) (rv : Option Value) (hN : Heap) (LL : List Loc) : Prop := rv = none ∧ Fr n0 LL ∧ Keep h0 hN [a] ∧ Exa Z hN a "java/lang/String"
set_option maxRecDepth 65536 in
set_option maxHeartbeats 40000000 in
theorem own_sini (l : Launch) (Z : State) (a0 : Array Value) (hw : ∀ d ∈ tables_1, d.before a0 Z = true) (ws : List Jvm.Cond) (a : Addr) (b : Addr) (h0 : Heap) (n0 : Nat) (Z0 : n0 ≤ h0.size) (H0 : Exa Z h0 a "java/lang/String") (H1 : Fld Z h0 a "java/lang/String" "value" "[B" .null) (H2 : Fld Z h0 a "java/lang/String" "coder" "B" (.int (0 : Int32))) (H3 : n0 ≤ a) :
    MetFree l (⟨"java/lang/String", "<init>", "([BB)V"⟩ : MethodName) (head1 (Jvm.Cond.code (⟨"java/lang/String", "<init>", "([BB)V"⟩ : MethodName) jdk_42_method_151_code 3 none :: ws) ({ frames := 1, cells := 0, slots := 0, locals := 12 } : Room)) (fun aa UU => aa = #[(.ref a), (.ref b), (.int (0 : Int32))] ∧ Z.Warmed39 UU.vm ∧ UU.heap = h0) (fun _ _ _ _ _ => True) (fun _ UU oo UU' => ∃ rv LL, oo = .returned rv ∧ own_sini_Q Z a b h0 n0 rv UU'.heap LL ∧ FrameEnd UU oo UU' LL ({ frames := 1, cells := 0, slots := 0, locals := 12 } : Room).cells ({ frames := 1, cells := 0, slots := 0, locals := 12 } : Room).slots) := by
  refine MetFree.of_bodySF (plainFor_of_name own_pn1) hisR ?_
  intro p e s m args below meth c s₁ Bd hml0 hP hK
  obtain ⟨rfl, hZ, hh⟩ := hP
  have hx := Bd.exec
  have hby := Bd.bytes
  have hml : c.maxLocals = 3 := hml0
  have hown : s.vm.findClass "java/lang/String" = some m.cls := findClass_of_methodNamed Bd.named
  have hnm := (name_of_methodNamed Bd.named Bd.method).1
  have X0 : Stand p l e ({ frames := 1, cells := 0, slots := 0, locals := 12 } : Room) s m #[(.ref a), (.ref b), (.int (0 : Int32))] below meth c s₁ [] 0 0 := Stand.of_body Bd
  have e0 : s₁.heap = h0 := by rw [← hh, Bd.state]; rfl
  have N0 := Fr.nil n0
  have K0 : Keep h0 h0 [a] := Keep.refl h0 _
  refine (?_ : OwnGo p.tables e below (fun UU' oo => ∃ rv LL, oo = .returned rv ∧ own_sini_Q Z a b h0 n0 rv UU'.heap LL ∧ FrameEnd s oo UU' LL ({ frames := 1, cells := 0, slots := 0, locals := 12 } : Room).cells ({ frames := 1, cells := 0, slots := 0, locals := 12 } : Room).slots) _)
  refine OwnGo.back (s₁.setTop (mkF m 0 #[.val (.ref a), .val (.ref b), .val (.int (0 : Int32))] [])) (fun tg kk => castTop (own_sini_ef m a b (0 : Int32)) kk) ?_
  refine OwnGo.back (s₁.setTop (mkF m 1 #[.val (.ref a), .val (.ref b), .val (.int (0 : Int32))] [(.ref a)])) (fun tg kk => XS.aloadN X0.here hx rfl (hb hby own_d4_0) rfl rfl kk) ?_
  obtain ⟨T1, X1, e1, st1⟩ := initO X0 hx hZ hown (hw _ (List.mem_of_getElem? (i := 22) rfl)) (hw _ (List.mem_of_getElem? (i := 23) rfl)) (hw _ (List.mem_of_getElem? (i := 24) rfl)) e0 (g := (mkF m 1 #[.val (.ref a), .val (.ref b), .val (.int (0 : Int32))] [(.ref a)])) rfl (by rw [hml]; rfl) rfl (hb hby own_d4_1) (by decide) (W := 0) (by show 2 * 0 + _ ≤ _; exact Nat.le_of_eq rfl) (by decide)
  refine OwnGo.back (T1.setTop (mkF m 4 #[.val (.ref a), .val (.ref b), .val (.int (0 : Int32))] [])) (fun tg kk => st1 _ kk) ?_
  refine OwnGo.back (T1.setTop (mkF m 5 #[.val (.ref a), .val (.ref b), .val (.int (0 : Int32))] [(.ref a)])) (fun tg kk => XS.aloadN X1.here hx rfl (hb hby own_d4_4) rfl rfl kk) ?_
  refine OwnGo.back (T1.setTop (mkF m 6 #[.val (.ref a), .val (.ref b), .val (.int (0 : Int32))] [(.ref b), (.ref a)])) (fun tg kk => XS.aloadN X1.here hx rfl (hb hby own_d4_5) rfl rfl kk) ?_
  obtain ⟨T2, h2, X2, e2, W2, st2⟩ := putF X1 hx hZ hown (host := "") (Or.inl (hw _ (List.mem_of_getElem? (i := 25) rfl))) Via.refl e1 H1 H0 (Or.inr ⟨(hw _ (List.mem_of_getElem? (i := 26) rfl)), rfl, hnm⟩) (hw _ (List.mem_of_getElem? (i := 13) rfl)) (ty := (.array .byte)) (by decide) rfl rfl (g := (mkF m 6 #[.val (.ref a), .val (.ref b), .val (.int (0 : Int32))] [(.ref b), (.ref a)])) rfl rfl (hb hby own_d4_6)
  have f3 : Fld Z h2 a "java/lang/String" "value" "[B" (.ref b) := H1.same W2
  have f4 : Exa Z h2 a "java/lang/String" := H0.wr W2
  have f5 : Fld Z h2 a "java/lang/String" "coder" "B" (.int (0 : Int32)) := H2.other W2 (Or.inr (slot_ne (Or.inr (hw _ (List.mem_of_getElem? (i := 28) rfl))) (Or.inr (hw _ (List.mem_of_getElem? (i := 26) rfl))) (by decide) (t := .byte) (t' := (.array .byte)) (by decide) (by decide)))
  have K6 : Keep h0 h2 [a] := K0.wr W2 (Or.inl (List.mem_of_getElem? (i := 0) rfl))
  have Z7 : n0 ≤ h2.size := Nat.le_trans Z0 (Keep.of_wr W2).1
  have N8 := Fr.snoc X2 N0 H3
  refine OwnGo.back (T2.setTop (mkF m 9 #[.val (.ref a), .val (.ref b), .val (.int (0 : Int32))] [])) (fun tg kk => st2 _ kk) ?_
  refine OwnGo.back (T2.setTop (mkF m 10 #[.val (.ref a), .val (.ref b), .val (.int (0 : Int32))] [(.ref a)])) (fun tg kk => XS.aloadN X2.here hx rfl (hb hby own_d4_9) rfl rfl kk) ?_
  refine OwnGo.back (T2.setTop (mkF m 11 #[.val (.ref a), .val (.ref b), .val (.int (0 : Int32))] [(.int (0 : Int32)), (.ref a)])) (fun tg kk => XS.iloadN X2.here hx rfl (hb hby own_d4_10) rfl kk) ?_
  obtain ⟨T9, h9, X9, e9, W9, st9⟩ := putF X2 hx hZ hown (host := "") (Or.inl (hw _ (List.mem_of_getElem? (i := 27) rfl))) Via.refl e2 f5 f4 (Or.inr ⟨(hw _ (List.mem_of_getElem? (i := 28) rfl)), rfl, hnm⟩) (hw _ (List.mem_of_getElem? (i := 13) rfl)) (ty := .byte) (by decide) rfl rfl (g := (mkF m 11 #[.val (.ref a), .val (.ref b), .val (.int (0 : Int32))] [(.int (0 : Int32)), (.ref a)])) rfl rfl (hb hby own_d4_11)
  have f10 : Fld Z h9 a "java/lang/String" "coder" "B" (.int (0 : Int32)) := f5.same W9
  have f11 : Exa Z h9 a "java/lang/String" := f4.wr W9
  have f12 : Fld Z h9 a "java/lang/String" "value" "[B" (.ref b) := f3.other W9 (Or.inr (slot_ne (Or.inr (hw _ (List.mem_of_getElem? (i := 26) rfl))) (Or.inr (hw _ (List.mem_of_getElem? (i := 28) rfl))) (by decide) (t := (.array .byte)) (t' := .byte) (by decide) (by decide)))
  have K13 : Keep h0 h9 [a] := K6.wr W9 (Or.inl (List.mem_of_getElem? (i := 0) rfl))
  have Z14 : n0 ≤ h9.size := Nat.le_trans Z7 (Keep.of_wr W9).1
  have N15 := Fr.snoc X9 N8 H3
  refine OwnGo.back (T9.setTop (mkF m 14 #[.val (.ref a), .val (.ref b), .val (.int (0 : Int32))] [])) (fun tg kk => st9 _ kk) ?_
  obtain ⟨fs, hr, hrun, hended, hW, hsame⟩ := X9.leave (v := none) (fun _ => rfl)
  refine ⟨_, _, ?_, hrun, hended, _, _, rfl, ?_, ⟨_, rfl⟩, hW, hsame.mono (by decide) (by decide)⟩
  · exact X9.returnOut hx Bd.returns (hb hby own_d4_14) hr
  · show own_sini_Q Z a b h0 n0 _ T9.heap _
    rw [e9]
    exact ⟨rfl, N15, K13, f11⟩
theorem own_val_ef (m : MethodId) (x0 : Int32) : entryFrame m #[(.int x0)] 1 = mkF m 0 #[.val (.int x0)] [] := by first | (simp [entryFrame, mkF, argsToLocals, Value.category]; done) | rfl
def own_val_Q (Z : State) (x : Int32) (cs : Int32) (h0 : Heap) (n0 : Nat) (rv : Option Value) (hN : Heap) (LL : List Loc) : Prop := ∃ (a : Addr), rv = some (.ref a) ∧ Fr n0 LL ∧ Keep h0 hN [] ∧ h0.size ≤ a ∧ Exa Z hN a "java/lang/String"
set_option maxRecDepth 65536 in
set_option maxHeartbeats 40000000 in
theorem own_val (l : Launch) (Z : State) (a0 : Array Value) (hw : ∀ d ∈ tables_1, d.before a0 Z = true) (ws : List Jvm.Cond) (x : Int32) (cs : Int32) (h0 : Heap) (n0 : Nat) (Z0 : n0 ≤ h0.size) (S : Sta Z Z.heap "java/lang/String" "COMPACT_STRINGS" "Z" (.int cs)) (old : Old Z n0 h0) (hcs : ¬ cs = 0) (hx0 : ¬ 255 < x) :
    MetFree l (⟨"java/lang/String", "valueOf", "(C)Ljava/lang/String;"⟩ : MethodName) (head1 (Jvm.Cond.code (⟨"java/lang/String", "valueOf", "(C)Ljava/lang/String;"⟩ : MethodName) jdk_42_method_139_code 1 (some (.object "java/lang/String")) :: ws) ({ frames := 2, cells := 2, slots := 5, locals := 27 } : Room)) (fun aa UU => aa = #[(.int x)] ∧ Z.Warmed39 UU.vm ∧ UU.heap = h0) (fun _ _ _ _ _ => True) (fun _ UU oo UU' => ∃ rv LL, oo = .returned rv ∧ own_val_Q Z x cs h0 n0 rv UU'.heap LL ∧ FrameEnd UU oo UU' LL ({ frames := 2, cells := 2, slots := 5, locals := 27 } : Room).cells ({ frames := 2, cells := 2, slots := 5, locals := 27 } : Room).slots) := by
  refine MetFree.of_bodySF (plainFor_of_name own_pn1) hisR ?_
  intro p e s m args below meth c s₁ Bd hml0 hP hK
  obtain ⟨rfl, hZ, hh⟩ := hP
  have hx := Bd.exec
  have hby := Bd.bytes
  have hml : c.maxLocals = 1 := hml0
  have hown : s.vm.findClass "java/lang/String" = some m.cls := findClass_of_methodNamed Bd.named
  have hnm := (name_of_methodNamed Bd.named Bd.method).1
  have X0 : Stand p l e ({ frames := 2, cells := 2, slots := 5, locals := 27 } : Room) s m #[(.int x)] below meth c s₁ [] 0 0 := Stand.of_body Bd
  have e0 : s₁.heap = h0 := by rw [← hh, Bd.state]; rfl
  have N0 := Fr.nil n0
  have K0 : Keep h0 h0 [] := Keep.refl h0 _
  refine (?_ : OwnGo p.tables e below (fun UU' oo => ∃ rv LL, oo = .returned rv ∧ own_val_Q Z x cs h0 n0 rv UU'.heap LL ∧ FrameEnd s oo UU' LL ({ frames := 2, cells := 2, slots := 5, locals := 27 } : Room).cells ({ frames := 2, cells := 2, slots := 5, locals := 27 } : Room).slots) _)
  refine OwnGo.back (s₁.setTop (mkF m 0 #[.val (.int x)] [])) (fun tg kk => castTop (own_val_ef m x) kk) ?_
  obtain ⟨T1, X1, e1, st1⟩ := getS2 X0 hx hZ hown (host := "") (Or.inl (hw _ (List.mem_of_getElem? (i := 7) rfl))) Via.refl e0 (S.ext old.2) (g := (mkF m 0 #[.val (.int x)] [])) rfl (hb hby own_d1_0)
  refine OwnGo.back (T1.setTop (mkF m 3 #[.val (.int x)] [(.int cs)])) (fun tg kk => st1 _ kk) ?_
  refine OwnGo.back (T1.setTop (mkF m 6 #[.val (.int x)] [])) (fun tg kk => XS.ifNo X1.here hx rfl (hb hby own_d1_3) rfl ((if0 _ _).trans (feq (hcs : ¬ (cs = (0 : Int32)))).1) kk) ?_
  refine OwnGo.back (T1.setTop (mkF m 7 #[.val (.int x)] [(.int x)])) (fun tg kk => XS.iloadN X1.here hx rfl (hb hby own_d1_6) rfl kk) ?_
  obtain ⟨_, _, ⟨T2, L2, k2, n2⟩, -, X2, ⟨Lc2, hQ2, l2, y2, z2⟩, st2⟩ := Jvm.LawKit.callS X1 hx (y := (⟨"java/lang/StringLatin1", "canEncode", "(C)Z"⟩ : MethodName)) hown (mvT hZ (hw _ (List.mem_of_getElem? (i := 8) rfl))) (mvT hZ (hw _ (List.mem_of_getElem? (i := 9) rfl))) (mvT hZ (hw _ (List.mem_of_getElem? (i := 10) rfl))) (mvT hZ (hw _ (List.mem_of_getElem? (i := 11) rfl))) (by decide) (backOf (W := 0) (own_can l Z a0 hw [] x h0 n0 Z0 hx0) hZ (hw _ (List.mem_of_getElem? (i := 11) rfl)) (hw _ (List.mem_of_getElem? (i := 10) rfl)) (by decide) (by decide)) (g := (mkF m 7 #[.val (.int x)] [(.int x)])) rfl (by rw [hml]; rfl) (argsL := [(.int x)]) (rest := []) (lenOf own_pd0 rfl) rfl (by show 2 * 0 + _ ≤ _; exact Nat.le_of_eq rfl) (hb hby own_d1_7) (fun _ _ => ⟨rfl, e1, (by decide : 0 + 0 ≤ _), (by decide : 0 + 0 ≤ _)⟩)
  dsimp only [Pt.U, Pt.locs, Pt.cells, Pt.slots] at X2 l2 y2 z2 st2 hQ2
  subst l2 y2 z2
  obtain ⟨rfl, N2q, e2⟩ := hQ2
  have N2 := Fr.app N0 N2q
  refine OwnGo.back (T2.setTop (mkF m 10 #[.val (.int x)] [(.int (1 : Int32))])) (fun tg kk => st2 _ kk) ?_
  refine OwnGo.back (T2.setTop (mkF m 13 #[.val (.int x)] [])) (fun tg kk => XS.ifNo X2.here hx rfl (hb hby own_d1_10) rfl ((if0 _ _).trans (feq (by decide : ¬ ((1 : Int32) = (0 : Int32)))).1) kk) ?_
  obtain ⟨T3, h3, X3, e3, E3, A3, D3, -, st3⟩ := newO X2 hx hZ hown (hw _ (List.mem_of_getElem? (i := 12) rfl)) (hw _ (List.mem_of_getElem? (i := 13) rfl)) (hw _ (List.mem_of_getElem? (i := 5) rfl)) e2 (g := (mkF m 13 #[.val (.int x)] [])) rfl (hb hby own_d1_13) (by decide) (by decide)
  obtain ⟨b3, q3⟩ : ∃ z, z = h0.size := ⟨_, rfl⟩
  rw [← q3] at A3 D3 st3
  have g4 : n0 ≤ b3 := Nat.le_trans Z0 (Nat.le_of_eq q3.symm)
  have s5 : h0.size ≤ b3 := Nat.le_trans K0.1 (Nat.le_of_eq q3.symm)
  have f6 : Old Z n0 h3 := old.ext E3
  have K7 : Keep h0 h3 [] := K0.ext E3
  have Z8 : n0 ≤ h3.size := Nat.le_trans Z0 E3.1
  have f9 : Fld Z h3 b3 "java/lang/String" "value" "[B" .null := D3 (Or.inr (hw _ (List.mem_of_getElem? (i := 26) rfl))) (ty := (.array .byte)) (by decide)
  have f10 : Fld Z h3 b3 "java/lang/String" "coder" "B" (.int (0 : Int32)) := D3 (Or.inr (hw _ (List.mem_of_getElem? (i := 28) rfl))) (ty := .byte) (by decide)
  refine OwnGo.back (T3.setTop (mkF m 16 #[.val (.int x)] [(.ref b3)])) (fun tg kk => st3 _ kk) ?_
  refine OwnGo.back (T3.setTop (mkF m 17 #[.val (.int x)] [(.ref b3), (.ref b3)])) (fun tg kk => XS.dup X3.here hx rfl (hb hby own_d1_16) rfl rfl kk) ?_
  refine OwnGo.back (T3.setTop (mkF m 18 #[.val (.int x)] [(.int x), (.ref b3), (.ref b3)])) (fun tg kk => XS.iloadN X3.here hx rfl (hb hby own_d1_17) rfl kk) ?_
  obtain ⟨_, _, ⟨T11, L11, k11, n11⟩, -, X11, ⟨Lc11, hQ11, l11, y11, z11⟩, st11⟩ := Jvm.LawKit.callS X3 hx (y := (⟨"java/lang/StringLatin1", "toBytes", "(C)[B"⟩ : MethodName)) hown (mvT hZ (hw _ (List.mem_of_getElem? (i := 14) rfl))) (mvT hZ (hw _ (List.mem_of_getElem? (i := 15) rfl))) (mvT hZ (hw _ (List.mem_of_getElem? (i := 10) rfl))) (mvT hZ (hw _ (List.mem_of_getElem? (i := 16) rfl))) (by decide) (backOf (W := 2) (own_tob l Z a0 hw [] x h3 n0 Z8 ) hZ (hw _ (List.mem_of_getElem? (i := 16) rfl)) (hw _ (List.mem_of_getElem? (i := 10) rfl)) (by decide) (by decide)) (g := (mkF m 18 #[.val (.int x)] [(.int x), (.ref b3), (.ref b3)])) rfl (by rw [hml]; rfl) (argsL := [(.int x)]) (rest := [(.ref b3), (.ref b3)]) (lenOf own_pd1 rfl) rfl (by show 2 * 0 + _ ≤ _; exact Nat.le_of_eq rfl) (hb hby own_d1_18) (fun _ _ => ⟨rfl, e3, (by decide : 1 + 1 ≤ _), (by decide : 4 + 1 ≤ _)⟩)
  dsimp only [Pt.U, Pt.locs, Pt.cells, Pt.slots] at X11 l11 y11 z11 st11 hQ11
  subst l11 y11 z11
  obtain ⟨b_12, rfl, N11q, Kc11, po13⟩ := hQ11
  have N11 := Fr.app N2 N11q
  have f14 : Old Z n0 T11.heap := f6.keep Kc11 all0
  have f15 : Exa Z T11.heap b3 "java/lang/String" := A3.keep Kc11
  have f16 : Fld Z T11.heap b3 "java/lang/String" "value" "[B" .null := f9.keep Kc11 nin0
  have f17 : Fld Z T11.heap b3 "java/lang/String" "coder" "B" (.int (0 : Int32)) := f10.keep Kc11 nin0
  have K18 : Keep h0 T11.heap [] := K7.trans Kc11 all0
  have Z19 : n0 ≤ T11.heap.size := Nat.le_trans Z8 Kc11.1
  have n20 : b3 ≠ b_12 := own_ne' A3.lt po13
  have g21 : n0 ≤ b_12 := Nat.le_trans Z8 po13
  have s22 : h0.size ≤ b_12 := Nat.le_trans K7.1 po13
  refine OwnGo.back (T11.setTop (mkF m 21 #[.val (.int x)] [(.ref b_12), (.ref b3), (.ref b3)])) (fun tg kk => st11 _ kk) ?_
  refine OwnGo.back (T11.setTop (mkF m 22 #[.val (.int x)] [(.int (0 : Int32)), (.ref b_12), (.ref b3), (.ref b3)])) (fun tg kk => XS.iconst X11.here hx rfl (hb hby own_d1_21) kk) ?_
  obtain ⟨_, _, ⟨T23, L23, k23, n23⟩, -, X23, ⟨Lc23, hQ23, l23, y23, z23⟩, st23⟩ := X11.specialBack hx (y := (⟨"java/lang/String", "<init>", "([BB)V"⟩ : MethodName)) rfl hown (mvT hZ (hw _ (List.mem_of_getElem? (i := 18) rfl))) (mvT hZ (hw _ (List.mem_of_getElem? (i := 19) rfl))) (mvT hZ (hw _ (List.mem_of_getElem? (i := 21) rfl))) (by decide) (backOf (W := 1) (own_sini l Z a0 hw [] b3 b_12 T11.heap n0 Z19 f15 f16 f17 g4) hZ (hw _ (List.mem_of_getElem? (i := 21) rfl)) (hw _ (List.mem_of_getElem? (i := 5) rfl)) (by decide) (by decide)) (g := (mkF m 22 #[.val (.int x)] [(.int (0 : Int32)), (.ref b_12), (.ref b3), (.ref b3)])) rfl (by rw [hml]; rfl) (Steps.refl _) (a := b3) (argsL := [(.ref b_12), (.int (0 : Int32))]) (rest := [(.ref b3)]) (lenOf own_pd2 rfl) rfl (by show 2 * 0 + _ ≤ _; exact Nat.le_of_eq rfl) (hb hby own_d1_22) (fun _ _ => ⟨rfl, rfl, (by decide : 2 + 0 ≤ _), (by decide : 5 + 0 ≤ _)⟩)
  dsimp only [Pt.U, Pt.locs, Pt.cells, Pt.slots] at X23 l23 y23 z23 st23 hQ23
  subst l23 y23 z23
  obtain ⟨rfl, N23q, Kc23, po24⟩ := hQ23
  have N23 := Fr.app N11 N23q
  have f25 : Old Z n0 T23.heap := f14.keep Kc23 (allS g4 all0)
  have f26 : Exa Z T23.heap b3 "java/lang/String" := f15.keep Kc23
  have K27 : Keep h0 T23.heap [] := K18.trans Kc23 (allS (Or.inr s5) all0)
  have Z28 : n0 ≤ T23.heap.size := Nat.le_trans Z19 Kc23.1
  refine OwnGo.back (T23.setTop (mkF m 25 #[.val (.int x)] [(.ref b3)])) (fun tg kk => st23.trans kk) ?_
  obtain ⟨fs, hr, hrun, hended, hW, hsame⟩ := X23.leave (v := some (.ref b3)) (fun h => by rw [Bd.returns] at h; cases h)
  refine ⟨_, _, ?_, hrun, hended, _, _, rfl, ?_, ⟨_, rfl⟩, hW, hsame.mono (by decide) (by decide)⟩
  · exact own_retA X23 hx Bd.returns rfl rfl rfl (hb hby own_d1_25) hr
  · show own_val_Q Z x cs h0 n0 _ T23.heap _
    exact ⟨b3, rfl, N23, K27, s5, po24⟩
theorem own_ac_ef (m : MethodId) (x0 : Addr) : entryFrame m #[(.ref x0)] 1 = mkF m 0 #[.val (.ref x0)] [] := by first | (simp [entryFrame, mkF, argsToLocals, Value.category]; done) | rfl
def own_ac_Q (Z : State) (a : Addr) (h0 : Heap) (n0 : Nat) (rv : Option Value) (hN : Heap) (LL : List Loc) : Prop := rv = none ∧ Fr n0 LL ∧ hN = h0
set_option maxRecDepth 65536 in
set_option maxHeartbeats 40000000 in
theorem own_ac (l : Launch) (Z : State) (a0 : Array Value) (hw : ∀ d ∈ tables_1, d.before a0 Z = true) (ws : List Jvm.Cond) (a : Addr) (h0 : Heap) (n0 : Nat) (Z0 : n0 ≤ h0.size) :
    MetFree l (⟨"java/util/AbstractCollection", "<init>", "()V"⟩ : MethodName) (head1 (Jvm.Cond.code (⟨"java/util/AbstractCollection", "<init>", "()V"⟩ : MethodName) jdk_22_method_1_code 1 none :: ws) ({ frames := 1, cells := 0, slots := 0, locals := 12 } : Room)) (fun aa UU => aa = #[(.ref a)] ∧ Z.Warmed39 UU.vm ∧ UU.heap = h0) (fun _ _ _ _ _ => True) (fun _ UU oo UU' => ∃ rv LL, oo = .returned rv ∧ own_ac_Q Z a h0 n0 rv UU'.heap LL ∧ FrameEnd UU oo UU' LL ({ frames := 1, cells := 0, slots := 0, locals := 12 } : Room).cells ({ frames := 1, cells := 0, slots := 0, locals := 12 } : Room).slots) := by
  refine MetFree.of_bodySF (plainFor_of_name own_pn2) hisR ?_
  intro p e s m args below meth c s₁ Bd hml0 hP hK
  obtain ⟨rfl, hZ, hh⟩ := hP
  have hx := Bd.exec
  have hby := Bd.bytes
  have hml : c.maxLocals = 1 := hml0
  have hown : s.vm.findClass "java/util/AbstractCollection" = some m.cls := findClass_of_methodNamed Bd.named
  have hnm := (name_of_methodNamed Bd.named Bd.method).1
  have X0 : Stand p l e ({ frames := 1, cells := 0, slots := 0, locals := 12 } : Room) s m #[(.ref a)] below meth c s₁ [] 0 0 := Stand.of_body Bd
  have e0 : s₁.heap = h0 := by rw [← hh, Bd.state]; rfl
  have N0 := Fr.nil n0
  have K0 : Keep h0 h0 [] := Keep.refl h0 _
  refine (?_ : OwnGo p.tables e below (fun UU' oo => ∃ rv LL, oo = .returned rv ∧ own_ac_Q Z a h0 n0 rv UU'.heap LL ∧ FrameEnd s oo UU' LL ({ frames := 1, cells := 0, slots := 0, locals := 12 } : Room).cells ({ frames := 1, cells := 0, slots := 0, locals := 12 } : Room).slots) _)
  refine OwnGo.back (s₁.setTop (mkF m 0 #[.val (.ref a)] [])) (fun tg kk => castTop (own_ac_ef m a) kk) ?_
  refine OwnGo.back (s₁.setTop (mkF m 1 #[.val (.ref a)] [(.ref a)])) (fun tg kk => XS.aloadN X0.here hx rfl (hb hby own_d9_0) rfl rfl kk) ?_
  obtain ⟨T1, X1, e1, st1⟩ := initO X0 hx hZ hown (hw _ (List.mem_of_getElem? (i := 51) rfl)) (hw _ (List.mem_of_getElem? (i := 23) rfl)) (hw _ (List.mem_of_getElem? (i := 24) rfl)) e0 (g := (mkF m 1 #[.val (.ref a)] [(.ref a)])) rfl (by rw [hml]; rfl) rfl (hb hby own_d9_1) (by decide) (W := 0) (by show 2 * 0 + _ ≤ _; exact Nat.le_of_eq rfl) (by decide)
  refine OwnGo.back (T1.setTop (mkF m 4 #[.val (.ref a)] [])) (fun tg kk => st1 _ kk) ?_
  obtain ⟨fs, hr, hrun, hended, hW, hsame⟩ := X1.leave (v := none) (fun _ => rfl)
  refine ⟨_, _, ?_, hrun, hended, _, _, rfl, ?_, ⟨_, rfl⟩, hW, hsame.mono (by decide) (by decide)⟩
  · exact X1.returnOut hx Bd.returns (hb hby own_d9_4) hr
  · show own_ac_Q Z a h0 n0 _ T1.heap _
    rw [e1]
    exact ⟨rfl, N0, rfl⟩
theorem own_ab_ef (m : MethodId) (x0 : Addr) : entryFrame m #[(.ref x0)] 1 = mkF m 0 #[.val (.ref x0)] [] := by first | (simp [entryFrame, mkF, argsToLocals, Value.category]; done) | rfl
def own_ab_Q (Z : State) (a : Addr) (h0 : Heap) (n0 : Nat) (rv : Option Value) (hN : Heap) (LL : List Loc) : Prop := rv = none ∧ Fr n0 LL ∧ Keep h0 hN [a] ∧ Exa Z hN a "java/util/ArrayList" ∧ Fld Z hN a "java/util/AbstractList" "modCount" "I" (.int (0 : Int32)) ∧ Fld Z hN a "java/util/ArrayList" "elementData" "[Ljava/lang/Object;" .null
set_option maxRecDepth 65536 in
set_option maxHeartbeats 40000000 in
theorem own_ab (l : Launch) (Z : State) (a0 : Array Value) (hw : ∀ d ∈ tables_1, d.before a0 Z = true) (ws : List Jvm.Cond) (a : Addr) (h0 : Heap) (n0 : Nat) (Z0 : n0 ≤ h0.size) (H0 : Exa Z h0 a "java/util/ArrayList") (H1 : Fld Z h0 a "java/util/AbstractList" "modCount" "I" (.int (0 : Int32))) (H2 : Fld Z h0 a "java/util/ArrayList" "elementData" "[Ljava/lang/Object;" .null) (H3 : n0 ≤ a) :
    MetFree l (⟨"java/util/AbstractList", "<init>", "()V"⟩ : MethodName) (head1 (Jvm.Cond.code (⟨"java/util/AbstractList", "<init>", "()V"⟩ : MethodName) jdk_39_method_1_code 1 none :: ws) ({ frames := 2, cells := 0, slots := 0, locals := 24 } : Room)) (fun aa UU => aa = #[(.ref a)] ∧ Z.Warmed39 UU.vm ∧ UU.heap = h0) (fun _ _ _ _ _ => True) (fun _ UU oo UU' => ∃ rv LL, oo = .returned rv ∧ own_ab_Q Z a h0 n0 rv UU'.heap LL ∧ FrameEnd UU oo UU' LL ({ frames := 2, cells := 0, slots := 0, locals := 24 } : Room).cells ({ frames := 2, cells := 0, slots := 0, locals := 24 } : Room).slots) := by
  refine MetFree.of_bodySF (plainFor_of_name own_pn3) hisR ?_
  intro p e s m args below meth c s₁ Bd hml0 hP hK
  obtain ⟨rfl, hZ, hh⟩ := hP
  have hx := Bd.exec
  have hby := Bd.bytes
  have hml : c.maxLocals = 1 := hml0
  have hown : s.vm.findClass "java/util/AbstractList" = some m.cls := findClass_of_methodNamed Bd.named
  have hnm := (name_of_methodNamed Bd.named Bd.method).1
  have X0 : Stand p l e ({ frames := 2, cells := 0, slots := 0, locals := 24 } : Room) s m #[(.ref a)] below meth c s₁ [] 0 0 := Stand.of_body Bd
  have e0 : s₁.heap = h0 := by rw [← hh, Bd.state]; rfl
  have N0 := Fr.nil n0
  have K0 : Keep h0 h0 [a] := Keep.refl h0 _
  refine (?_ : OwnGo p.tables e below (fun UU' oo => ∃ rv LL, oo = .returned rv ∧ own_ab_Q Z a h0 n0 rv UU'.heap LL ∧ FrameEnd s oo UU' LL ({ frames := 2, cells := 0, slots := 0, locals := 24 } : Room).cells ({ frames := 2, cells := 0, slots := 0, locals := 24 } : Room).slots) _)
  refine OwnGo.back (s₁.setTop (mkF m 0 #[.val (.ref a)] [])) (fun tg kk => castTop (own_ab_ef m a) kk) ?_
  refine OwnGo.back (s₁.setTop (mkF m 1 #[.val (.ref a)] [(.ref a)])) (fun tg kk => XS.aloadN X0.here hx rfl (hb hby own_d8_0) rfl rfl kk) ?_
  obtain ⟨_, _, ⟨T1, L1, k1, n1⟩, -, X1, ⟨Lc1, hQ1, l1, y1, z1⟩, st1⟩ := X0.specialBack hx (y := (⟨"java/util/AbstractCollection", "<init>", "()V"⟩ : MethodName)) rfl hown (mvT hZ (hw _ (List.mem_of_getElem? (i := 45) rfl))) (mvT hZ (hw _ (List.mem_of_getElem? (i := 46) rfl))) (mvT hZ (hw _ (List.mem_of_getElem? (i := 50) rfl))) (by decide) (backOf (W := 0) (own_ac l Z a0 hw [] a h0 n0 Z0 ) hZ (hw _ (List.mem_of_getElem? (i := 50) rfl)) (hw _ (List.mem_of_getElem? (i := 49) rfl)) (by decide) (by decide)) (g := (mkF m 1 #[.val (.ref a)] [(.ref a)])) rfl (by rw [hml]; rfl) (Steps.refl _) (a := a) (argsL := []) (rest := []) (lenOf own_pd3 rfl) rfl (by show 2 * 0 + _ ≤ _; exact Nat.le_of_eq rfl) (hb hby own_d8_1) (fun _ _ => ⟨rfl, e0, (by decide : 0 + 0 ≤ _), (by decide : 0 + 0 ≤ _)⟩)
  dsimp only [Pt.U, Pt.locs, Pt.cells, Pt.slots] at X1 l1 y1 z1 st1 hQ1
  subst l1 y1 z1
  obtain ⟨rfl, N1q, e1⟩ := hQ1
  have N1 := Fr.app N0 N1q
  refine OwnGo.back (T1.setTop (mkF m 4 #[.val (.ref a)] [])) (fun tg kk => st1.trans kk) ?_
  refine OwnGo.back (T1.setTop (mkF m 5 #[.val (.ref a)] [(.ref a)])) (fun tg kk => XS.aloadN X1.here hx rfl (hb hby own_d8_4) rfl rfl kk) ?_
  refine OwnGo.back (T1.setTop (mkF m 6 #[.val (.ref a)] [(.int (0 : Int32)), (.ref a)])) (fun tg kk => XS.iconst X1.here hx rfl (hb hby own_d8_5) kk) ?_
  obtain ⟨T2, h2, X2, e2, W2, st2⟩ := putF X1 hx hZ hown (host := "") (Or.inl (hw _ (List.mem_of_getElem? (i := 52) rfl))) Via.refl e1 H1 H0 (Or.inl (hw _ (List.mem_of_getElem? (i := 53) rfl))) (hw _ (List.mem_of_getElem? (i := 34) rfl)) (ty := .int) (by decide) rfl rfl (g := (mkF m 6 #[.val (.ref a)] [(.int (0 : Int32)), (.ref a)])) rfl rfl (hb hby own_d8_6)
  have f3 : Fld Z h2 a "java/util/AbstractList" "modCount" "I" (.int (0 : Int32)) := H1.same W2
  have f4 : Exa Z h2 a "java/util/ArrayList" := H0.wr W2
  have f5 : Fld Z h2 a "java/util/ArrayList" "elementData" "[Ljava/lang/Object;" .null := H2.other W2 (Or.inr (slot_ne (Or.inl (hw _ (List.mem_of_getElem? (i := 57) rfl))) (Or.inl (hw _ (List.mem_of_getElem? (i := 53) rfl))) (by decide) (t := (.array (.object "java/lang/Object"))) (t' := .int) (by decide) (by decide)))
  have K6 : Keep h0 h2 [a] := K0.wr W2 (Or.inl (List.mem_of_getElem? (i := 0) rfl))
  have Z7 : n0 ≤ h2.size := Nat.le_trans Z0 (Keep.of_wr W2).1
  have N8 := Fr.snoc X2 N1 H3
  refine OwnGo.back (T2.setTop (mkF m 9 #[.val (.ref a)] [])) (fun tg kk => st2 _ kk) ?_
  obtain ⟨fs, hr, hrun, hended, hW, hsame⟩ := X2.leave (v := none) (fun _ => rfl)
  refine ⟨_, _, ?_, hrun, hended, _, _, rfl, ?_, ⟨_, rfl⟩, hW, hsame.mono (by decide) (by decide)⟩
  · exact X2.returnOut hx Bd.returns (hb hby own_d8_9) hr
  · show own_ab_Q Z a h0 n0 _ T2.heap _
    rw [e2]
    exact ⟨rfl, N8, K6, f4, f3, f5⟩
theorem own_al_ef (m : MethodId) (x0 : Addr) (x1 : Int32) : entryFrame m #[(.ref x0), (.int x1)] 2 = mkF m 0 #[.val (.ref x0), .val (.int x1)] [] := by first | (simp [entryFrame, mkF, argsToLocals, Value.category]; done) | rfl
def own_al_Q (Z : State) (a : Addr) (h0 : Heap) (n0 : Nat) (rv : Option Value) (hN : Heap) (LL : List Loc) : Prop := rv = none ∧ Fr n0 LL ∧ Keep h0 hN [a] ∧ Exa Z hN a "java/util/ArrayList"
set_option maxRecDepth 65536 in
set_option maxHeartbeats 40000000 in
theorem own_al (l : Launch) (Z : State) (a0 : Array Value) (hw : ∀ d ∈ tables_1, d.before a0 Z = true) (ws : List Jvm.Cond) (a : Addr) (h0 : Heap) (n0 : Nat) (Z0 : n0 ≤ h0.size) (H0 : Exa Z h0 a "java/util/ArrayList") (H1 : Fld Z h0 a "java/util/AbstractList" "modCount" "I" (.int (0 : Int32))) (H2 : Fld Z h0 a "java/util/ArrayList" "elementData" "[Ljava/lang/Object;" .null) (H3 : n0 ≤ a) :
    MetFree l (⟨"java/util/ArrayList", "<init>", "(I)V"⟩ : MethodName) (head1 (Jvm.Cond.code (⟨"java/util/ArrayList", "<init>", "(I)V"⟩ : MethodName) jdk_38_method_1_code 2 none :: ws) ({ frames := 3, cells := 1, slots := 1, locals := 36 } : Room)) (fun aa UU => aa = #[(.ref a), (.int (1 : Int32))] ∧ Z.Warmed39 UU.vm ∧ UU.heap = h0) (fun _ _ _ _ _ => True) (fun _ UU oo UU' => ∃ rv LL, oo = .returned rv ∧ own_al_Q Z a h0 n0 rv UU'.heap LL ∧ FrameEnd UU oo UU' LL ({ frames := 3, cells := 1, slots := 1, locals := 36 } : Room).cells ({ frames := 3, cells := 1, slots := 1, locals := 36 } : Room).slots) := by
  refine MetFree.of_bodySF (plainFor_of_name own_pn4) hisR ?_
  intro p e s m args below meth c s₁ Bd hml0 hP hK
  obtain ⟨rfl, hZ, hh⟩ := hP
  have hx := Bd.exec
  have hby := Bd.bytes
  have hml : c.maxLocals = 2 := hml0
  have hown : s.vm.findClass "java/util/ArrayList" = some m.cls := findClass_of_methodNamed Bd.named
  have hnm := (name_of_methodNamed Bd.named Bd.method).1
  have X0 : Stand p l e ({ frames := 3, cells := 1, slots := 1, locals := 36 } : Room) s m #[(.ref a), (.int (1 : Int32))] below meth c s₁ [] 0 0 := Stand.of_body Bd
  have e0 : s₁.heap = h0 := by rw [← hh, Bd.state]; rfl
  have N0 := Fr.nil n0
  have K0 : Keep h0 h0 [a] := Keep.refl h0 _
  refine (?_ : OwnGo p.tables e below (fun UU' oo => ∃ rv LL, oo = .returned rv ∧ own_al_Q Z a h0 n0 rv UU'.heap LL ∧ FrameEnd s oo UU' LL ({ frames := 3, cells := 1, slots := 1, locals := 36 } : Room).cells ({ frames := 3, cells := 1, slots := 1, locals := 36 } : Room).slots) _)
  refine OwnGo.back (s₁.setTop (mkF m 0 #[.val (.ref a), .val (.int (1 : Int32))] [])) (fun tg kk => castTop (own_al_ef m a (1 : Int32)) kk) ?_
  refine OwnGo.back (s₁.setTop (mkF m 1 #[.val (.ref a), .val (.int (1 : Int32))] [(.ref a)])) (fun tg kk => XS.aloadN X0.here hx rfl (hb hby own_d7_0) rfl rfl kk) ?_
  obtain ⟨_, _, ⟨T1, L1, k1, n1⟩, -, X1, ⟨Lc1, hQ1, l1, y1, z1⟩, st1⟩ := X0.specialBack hx (y := (⟨"java/util/AbstractList", "<init>", "()V"⟩ : MethodName)) rfl hown (mvT hZ (hw _ (List.mem_of_getElem? (i := 39) rfl))) (mvT hZ (hw _ (List.mem_of_getElem? (i := 40) rfl))) (mvT hZ (hw _ (List.mem_of_getElem? (i := 44) rfl))) (by decide) (backOf (W := 0) (own_ab l Z a0 hw [] a h0 n0 Z0 H0 H1 H2 H3) hZ (hw _ (List.mem_of_getElem? (i := 44) rfl)) (hw _ (List.mem_of_getElem? (i := 43) rfl)) (by decide) (by decide)) (g := (mkF m 1 #[.val (.ref a), .val (.int (1 : Int32))] [(.ref a)])) rfl (by rw [hml]; rfl) (Steps.refl _) (a := a) (argsL := []) (rest := []) (lenOf own_pd3 rfl) rfl (by show 2 * 0 + _ ≤ _; exact Nat.le_of_eq rfl) (hb hby own_d7_1) (fun _ _ => ⟨rfl, e0, (by decide : 0 + 0 ≤ _), (by decide : 0 + 0 ≤ _)⟩)
  dsimp only [Pt.U, Pt.locs, Pt.cells, Pt.slots] at X1 l1 y1 z1 st1 hQ1
  subst l1 y1 z1
  obtain ⟨rfl, N1q, Kc1, po2, po3, po4⟩ := hQ1
  have N1 := Fr.app N0 N1q
  have f5 : Exa Z T1.heap a "java/util/ArrayList" := H0.keep Kc1
  have K6 : Keep h0 T1.heap [a] := K0.trans Kc1 (allS (Or.inl (List.mem_of_getElem? (i := 0) rfl)) all0)
  have Z7 : n0 ≤ T1.heap.size := Nat.le_trans Z0 Kc1.1
  refine OwnGo.back (T1.setTop (mkF m 4 #[.val (.ref a), .val (.int (1 : Int32))] [])) (fun tg kk => st1.trans kk) ?_
  refine OwnGo.back (T1.setTop (mkF m 5 #[.val (.ref a), .val (.int (1 : Int32))] [(.int (1 : Int32))])) (fun tg kk => XS.iloadN X1.here hx rfl (hb hby own_d7_4) rfl kk) ?_
  refine OwnGo.back (T1.setTop (mkF m 8 #[.val (.ref a), .val (.int (1 : Int32))] [])) (fun tg kk => XS.ifNo X1.here hx rfl (hb hby own_d7_5) rfl ((if0 _ _).trans (tlt (by decide : (0 : Int32) < (1 : Int32))).2.2.2) kk) ?_
  refine OwnGo.back (T1.setTop (mkF m 9 #[.val (.ref a), .val (.int (1 : Int32))] [(.ref a)])) (fun tg kk => XS.aloadN X1.here hx rfl (hb hby own_d7_8) rfl rfl kk) ?_
  refine OwnGo.back (T1.setTop (mkF m 10 #[.val (.ref a), .val (.int (1 : Int32))] [(.int (1 : Int32)), (.ref a)])) (fun tg kk => XS.iloadN X1.here hx rfl (hb hby own_d7_9) rfl kk) ?_
  obtain ⟨T8, h8, k8, X8, e8, E8, A8, O8, st8⟩ := newR X1 hx hZ hown (hw _ (List.mem_of_getElem? (i := 54) rfl)) (hw _ (List.mem_of_getElem? (i := 55) rfl)) rfl (g := (mkF m 10 #[.val (.ref a), .val (.int (1 : Int32))] [(.int (1 : Int32)), (.ref a)])) rfl (hb hby own_d7_10) rfl (by decide) (cap := 1) (by decide) (by decide) (by decide) (by decide)
  obtain ⟨b8, q8⟩ : ∃ z, z = T1.heap.size := ⟨_, rfl⟩
  rw [← q8] at A8 st8
  have n9 : a ≠ b8 := own_ne po2.lt q8
  have g10 : n0 ≤ b8 := Nat.le_trans Z7 (Nat.le_of_eq q8.symm)
  have s11 : h0.size ≤ b8 := Nat.le_trans K6.1 (Nat.le_of_eq q8.symm)
  have f12 : Exa Z h8 a "java/util/ArrayList" := po2.ext E8
  have f13 : Fld Z h8 a "java/util/AbstractList" "modCount" "I" (.int (0 : Int32)) := po3.ext E8
  have f14 : Fld Z h8 a "java/util/ArrayList" "elementData" "[Ljava/lang/Object;" .null := po4.ext E8
  have K15 : Keep h0 h8 [a] := K6.ext E8
  have Z16 : n0 ≤ h8.size := Nat.le_trans Z7 E8.1
  have f17 : Arv Z h8 b8 k8 (.object "java/lang/Object") (1 : Int32) [.null] .null := (Arv.new A8 (by decide)).pad (pad_rep [] .null 1)
  refine OwnGo.back (T8.setTop (mkF m 13 #[.val (.ref a), .val (.int (1 : Int32))] [(.ref b8), (.ref a)])) (fun tg kk => st8 _ kk) ?_
  obtain ⟨T18, h18, X18, e18, W18, st18⟩ := putF X8 hx hZ hown (host := "") (Or.inl (hw _ (List.mem_of_getElem? (i := 56) rfl))) Via.refl e8 f14 f12 (Or.inl (hw _ (List.mem_of_getElem? (i := 57) rfl))) (hw _ (List.mem_of_getElem? (i := 34) rfl)) (ty := (.array (.object "java/lang/Object"))) (by decide) rfl rfl (g := (mkF m 13 #[.val (.ref a), .val (.int (1 : Int32))] [(.ref b8), (.ref a)])) rfl rfl (hb hby own_d7_13)
  have f19 : Fld Z h18 a "java/util/ArrayList" "elementData" "[Ljava/lang/Object;" (.ref b8) := f14.same W18
  have f20 : Exa Z h18 a "java/util/ArrayList" := f12.wr W18
  have f21 : Fld Z h18 a "java/util/AbstractList" "modCount" "I" (.int (0 : Int32)) := f13.other W18 (Or.inr (slot_ne (Or.inl (hw _ (List.mem_of_getElem? (i := 53) rfl))) (Or.inl (hw _ (List.mem_of_getElem? (i := 57) rfl))) (by decide) (t := .int) (t' := (.array (.object "java/lang/Object"))) (by decide) (by decide)))
  have f22 : Arv Z h18 b8 k8 (.object "java/lang/Object") (1 : Int32) [.null] .null := f17.other W18 (Ne.symm n9)
  have K23 : Keep h0 h18 [a] := K15.wr W18 (Or.inl (List.mem_of_getElem? (i := 0) rfl))
  have Z24 : n0 ≤ h18.size := Nat.le_trans Z16 (Keep.of_wr W18).1
  have N25 := Fr.snoc X18 N1 H3
  refine OwnGo.back (T18.setTop (mkF m 16 #[.val (.ref a), .val (.int (1 : Int32))] [])) (fun tg kk => st18 _ kk) ?_
  refine OwnGo.back (T18.setTop (mkF m 60 #[.val (.ref a), .val (.int (1 : Int32))] [])) (fun tg kk => XS.goto X18.here hx rfl (pc0 := 16) (pc' := 60) rfl (hb hby own_d7_16) (by decide) (by decide) kk) ?_
  obtain ⟨fs, hr, hrun, hended, hW, hsame⟩ := X18.leave (v := none) (fun _ => rfl)
  refine ⟨_, _, ?_, hrun, hended, _, _, rfl, ?_, ⟨_, rfl⟩, hW, hsame.mono (by decide) (by decide)⟩
  · exact X18.returnOut hx Bd.returns (hb hby own_d7_60) hr
  · show own_al_Q Z a h0 n0 _ T18.heap _
    rw [e18]
    exact ⟨rfl, N25, K23, f20⟩
theorem own_sy_ef (m : MethodId) (x0 : Addr) (x1 : Addr) : entryFrame m #[(.ref x0), (.ref x1)] 2 = mkF m 0 #[.val (.ref x0), .val (.ref x1)] [] := by first | (simp [entryFrame, mkF, argsToLocals, Value.category]; done) | rfl
def own_sy_Q (Z : State) (a : Addr) (n : Addr) (h0 : Heap) (n0 : Nat) (rv : Option Value) (hN : Heap) (LL : List Loc) : Prop := rv = none ∧ Fr n0 LL ∧ Keep h0 hN [a] ∧ Exa Z hN a "com/example/lucid_policy/lucidpolicy/parse/Symbol" ∧ Fld Z hN a "com/example/lucid_policy/lucidpolicy/parse/Symbol" "visible" "I" (.int (0 : Int32))
set_option maxRecDepth 65536 in
set_option maxHeartbeats 40000000 in
theorem own_sy (l : Launch) (Z : State) (a0 : Array Value) (hw : ∀ d ∈ tables_1, d.before a0 Z = true) (ws : List Jvm.Cond) (a : Addr) (n : Addr) (h0 : Heap) (n0 : Nat) (Z0 : n0 ≤ h0.size) (H0 : Exa Z h0 a "com/example/lucid_policy/lucidpolicy/parse/Symbol") (H1 : Fld Z h0 a "com/example/lucid_policy/lucidpolicy/parse/Symbol" "declaredIn" "Ljava/util/List;" .null) (H2 : Fld Z h0 a "com/example/lucid_policy/lucidpolicy/parse/Symbol" "requiredIn" "Ljava/util/List;" .null) (H3 : Fld Z h0 a "com/example/lucid_policy/lucidpolicy/parse/Symbol" "name" "Ljava/lang/String;" .null) (H4 : Fld Z h0 a "com/example/lucid_policy/lucidpolicy/parse/Symbol" "visible" "I" (.int (0 : Int32))) (H5 : n0 ≤ a) :
    MetFree l (⟨"com/example/lucid_policy/lucidpolicy/parse/Symbol", "<init>", "(Ljava/lang/String;)V"⟩ : MethodName) (head1 (Jvm.Cond.code (⟨"com/example/lucid_policy/lucidpolicy/parse/Symbol", "<init>", "(Ljava/lang/String;)V"⟩ : MethodName) prog_160_method_1_code 2 none :: ws) ({ frames := 4, cells := 4, slots := 8, locals := 51 } : Room)) (fun aa UU => aa = #[(.ref a), (.ref n)] ∧ Z.Warmed39 UU.vm ∧ UU.heap = h0) (fun _ _ _ _ _ => True) (fun _ UU oo UU' => ∃ rv LL, oo = .returned rv ∧ own_sy_Q Z a n h0 n0 rv UU'.heap LL ∧ FrameEnd UU oo UU' LL ({ frames := 4, cells := 4, slots := 8, locals := 51 } : Room).cells ({ frames := 4, cells := 4, slots := 8, locals := 51 } : Room).slots) := by
  refine MetFree.of_bodySF (plainFor_of_name own_pn5) hisR ?_
  intro p e s m args below meth c s₁ Bd hml0 hP hK
  obtain ⟨rfl, hZ, hh⟩ := hP
  have hx := Bd.exec
  have hby := Bd.bytes
  have hml : c.maxLocals = 2 := hml0
  have hown : s.vm.findClass "com/example/lucid_policy/lucidpolicy/parse/Symbol" = some m.cls := findClass_of_methodNamed Bd.named
  have hnm := (name_of_methodNamed Bd.named Bd.method).1
  have X0 : Stand p l e ({ frames := 4, cells := 4, slots := 8, locals := 51 } : Room) s m #[(.ref a), (.ref n)] below meth c s₁ [] 0 0 := Stand.of_body Bd
  have e0 : s₁.heap = h0 := by rw [← hh, Bd.state]; rfl
  have N0 := Fr.nil n0
  have K0 : Keep h0 h0 [a] := Keep.refl h0 _
  refine (?_ : OwnGo p.tables e below (fun UU' oo => ∃ rv LL, oo = .returned rv ∧ own_sy_Q Z a n h0 n0 rv UU'.heap LL ∧ FrameEnd s oo UU' LL ({ frames := 4, cells := 4, slots := 8, locals := 51 } : Room).cells ({ frames := 4, cells := 4, slots := 8, locals := 51 } : Room).slots) _)
  refine OwnGo.back (s₁.setTop (mkF m 0 #[.val (.ref a), .val (.ref n)] [])) (fun tg kk => castTop (own_sy_ef m a n) kk) ?_
  refine OwnGo.back (s₁.setTop (mkF m 1 #[.val (.ref a), .val (.ref n)] [(.ref a)])) (fun tg kk => XS.aloadN X0.here hx rfl (hb hby own_d6_0) rfl rfl kk) ?_
  obtain ⟨T1, X1, e1, st1⟩ := initO X0 hx hZ hown (hw _ (List.mem_of_getElem? (i := 32) rfl)) (hw _ (List.mem_of_getElem? (i := 23) rfl)) (hw _ (List.mem_of_getElem? (i := 24) rfl)) e0 (g := (mkF m 1 #[.val (.ref a), .val (.ref n)] [(.ref a)])) rfl (by rw [hml]; rfl) rfl (hb hby own_d6_1) (by decide) (W := 0) (by show 2 * 0 + _ ≤ _; exact Nat.le_of_eq rfl) (by decide)
  refine OwnGo.back (T1.setTop (mkF m 4 #[.val (.ref a), .val (.ref n)] [])) (fun tg kk => st1 _ kk) ?_
  refine OwnGo.back (T1.setTop (mkF m 5 #[.val (.ref a), .val (.ref n)] [(.ref a)])) (fun tg kk => XS.aloadN X1.here hx rfl (hb hby own_d6_4) rfl rfl kk) ?_
  obtain ⟨T2, h2, X2, e2, E2, A2, D2, -, st2⟩ := newO X1 hx hZ hown (hw _ (List.mem_of_getElem? (i := 33) rfl)) (hw _ (List.mem_of_getElem? (i := 34) rfl)) (hw _ (List.mem_of_getElem? (i := 35) rfl)) e1 (g := (mkF m 5 #[.val (.ref a), .val (.ref n)] [(.ref a)])) rfl (hb hby own_d6_5) (by decide) (by decide)
  obtain ⟨b2, q2⟩ : ∃ z, z = h0.size := ⟨_, rfl⟩
  rw [← q2] at A2 D2 st2
  have n3 : a ≠ b2 := own_ne H0.lt q2
  have g4 : n0 ≤ b2 := Nat.le_trans Z0 (Nat.le_of_eq q2.symm)
  have s5 : h0.size ≤ b2 := Nat.le_trans K0.1 (Nat.le_of_eq q2.symm)
  have f6 : Exa Z h2 a "com/example/lucid_policy/lucidpolicy/parse/Symbol" := H0.ext E2
  have f7 : Fld Z h2 a "com/example/lucid_policy/lucidpolicy/parse/Symbol" "declaredIn" "Ljava/util/List;" .null := H1.ext E2
  have f8 : Fld Z h2 a "com/example/lucid_policy/lucidpolicy/parse/Symbol" "requiredIn" "Ljava/util/List;" .null := H2.ext E2
  have f9 : Fld Z h2 a "com/example/lucid_policy/lucidpolicy/parse/Symbol" "name" "Ljava/lang/String;" .null := H3.ext E2
  have f10 : Fld Z h2 a "com/example/lucid_policy/lucidpolicy/parse/Symbol" "visible" "I" (.int (0 : Int32)) := H4.ext E2
  have K11 : Keep h0 h2 [a] := K0.ext E2
  have Z12 : n0 ≤ h2.size := Nat.le_trans Z0 E2.1
  have f13 : Fld Z h2 b2 "java/util/AbstractList" "modCount" "I" (.int (0 : Int32)) := D2 (Or.inl (hw _ (List.mem_of_getElem? (i := 53) rfl))) (ty := .int) (by decide)
  have f14 : Fld Z h2 b2 "java/util/ArrayList" "elementData" "[Ljava/lang/Object;" .null := D2 (Or.inl (hw _ (List.mem_of_getElem? (i := 57) rfl))) (ty := (.array (.object "java/lang/Object"))) (by decide)
  refine OwnGo.back (T2.setTop (mkF m 8 #[.val (.ref a), .val (.ref n)] [(.ref b2), (.ref a)])) (fun tg kk => st2 _ kk) ?_
  refine OwnGo.back (T2.setTop (mkF m 9 #[.val (.ref a), .val (.ref n)] [(.ref b2), (.ref b2), (.ref a)])) (fun tg kk => XS.dup X2.here hx rfl (hb hby own_d6_8) rfl rfl kk) ?_
  refine OwnGo.back (T2.setTop (mkF m 10 #[.val (.ref a), .val (.ref n)] [(.int (1 : Int32)), (.ref b2), (.ref b2), (.ref a)])) (fun tg kk => XS.iconst X2.here hx rfl (hb hby own_d6_9) kk) ?_
  obtain ⟨_, _, ⟨T15, L15, k15, n15⟩, -, X15, ⟨Lc15, hQ15, l15, y15, z15⟩, st15⟩ := X2.specialBack hx (y := (⟨"java/util/ArrayList", "<init>", "(I)V"⟩ : MethodName)) rfl hown (mvT hZ (hw _ (List.mem_of_getElem? (i := 36) rfl))) (mvT hZ (hw _ (List.mem_of_getElem? (i := 37) rfl))) (mvT hZ (hw _ (List.mem_of_getElem? (i := 38) rfl))) (by decide) (backOf (W := 2) (own_al l Z a0 hw [] b2 h2 n0 Z12 A2 f13 f14 g4) hZ (hw _ (List.mem_of_getElem? (i := 38) rfl)) (hw _ (List.mem_of_getElem? (i := 35) rfl)) (by decide) (by decide)) (g := (mkF m 10 #[.val (.ref a), .val (.ref n)] [(.int (1 : Int32)), (.ref b2), (.ref b2), (.ref a)])) rfl (by rw [hml]; rfl) (Steps.refl _) (a := b2) (argsL := [(.int (1 : Int32))]) (rest := [(.ref b2), (.ref a)]) (lenOf own_pd4 rfl) rfl (by show 2 * 0 + _ ≤ _; exact Nat.le_of_eq rfl) (hb hby own_d6_10) (fun _ _ => ⟨rfl, e2, (by decide : 1 + 1 ≤ _), (by decide : 3 + 1 ≤ _)⟩)
  dsimp only [Pt.U, Pt.locs, Pt.cells, Pt.slots] at X15 l15 y15 z15 st15 hQ15
  subst l15 y15 z15
  obtain ⟨rfl, N15q, Kc15, po16⟩ := hQ15
  have N15 := Fr.app N0 N15q
  have f17 : Exa Z T15.heap a "com/example/lucid_policy/lucidpolicy/parse/Symbol" := f6.keep Kc15
  have f18 : Fld Z T15.heap a "com/example/lucid_policy/lucidpolicy/parse/Symbol" "declaredIn" "Ljava/util/List;" .null := f7.keep Kc15 (ninS n3 nin0)
  have f19 : Fld Z T15.heap a "com/example/lucid_policy/lucidpolicy/parse/Symbol" "requiredIn" "Ljava/util/List;" .null := f8.keep Kc15 (ninS n3 nin0)
  have f20 : Fld Z T15.heap a "com/example/lucid_policy/lucidpolicy/parse/Symbol" "name" "Ljava/lang/String;" .null := f9.keep Kc15 (ninS n3 nin0)
  have f21 : Fld Z T15.heap a "com/example/lucid_policy/lucidpolicy/parse/Symbol" "visible" "I" (.int (0 : Int32)) := f10.keep Kc15 (ninS n3 nin0)
  have f22 : Exa Z T15.heap b2 "java/util/ArrayList" := A2.keep Kc15
  have K23 : Keep h0 T15.heap [a] := K11.trans Kc15 (allS (Or.inr s5) all0)
  have Z24 : n0 ≤ T15.heap.size := Nat.le_trans Z12 Kc15.1
  refine OwnGo.back (T15.setTop (mkF m 13 #[.val (.ref a), .val (.ref n)] [(.ref b2), (.ref a)])) (fun tg kk => st15.trans kk) ?_
  obtain ⟨T25, h25, X25, e25, W25, st25⟩ := putF X15 hx hZ hown (host := "") (Or.inl (hw _ (List.mem_of_getElem? (i := 58) rfl))) Via.refl rfl f18 f17 (Or.inr ⟨(hw _ (List.mem_of_getElem? (i := 59) rfl)), rfl, hnm⟩) (hw _ (List.mem_of_getElem? (i := 1) rfl)) (ty := (.object "java/util/List")) (by decide) rfl rfl (g := (mkF m 13 #[.val (.ref a), .val (.ref n)] [(.ref b2), (.ref a)])) rfl rfl (hb hby own_d6_13)
  have f26 : Fld Z h25 a "com/example/lucid_policy/lucidpolicy/parse/Symbol" "declaredIn" "Ljava/util/List;" (.ref b2) := f18.same W25
  have f27 : Exa Z h25 a "com/example/lucid_policy/lucidpolicy/parse/Symbol" := f17.wr W25
  have f28 : Fld Z h25 a "com/example/lucid_policy/lucidpolicy/parse/Symbol" "requiredIn" "Ljava/util/List;" .null := f19.other W25 (Or.inr (slot_ne (Or.inr (hw _ (List.mem_of_getElem? (i := 61) rfl))) (Or.inr (hw _ (List.mem_of_getElem? (i := 59) rfl))) (by decide) (t := (.object "java/util/List")) (t' := (.object "java/util/List")) (by decide) (by decide)))
  have f29 : Fld Z h25 a "com/example/lucid_policy/lucidpolicy/parse/Symbol" "name" "Ljava/lang/String;" .null := f20.other W25 (Or.inr (slot_ne (Or.inr (hw _ (List.mem_of_getElem? (i := 63) rfl))) (Or.inr (hw _ (List.mem_of_getElem? (i := 59) rfl))) (by decide) (t := (.object "java/lang/String")) (t' := (.object "java/util/List")) (by decide) (by decide)))
  have f30 : Fld Z h25 a "com/example/lucid_policy/lucidpolicy/parse/Symbol" "visible" "I" (.int (0 : Int32)) := f21.other W25 (Or.inr (slot_ne (Or.inl (hw _ (List.mem_of_getElem? (i := 70) rfl))) (Or.inr (hw _ (List.mem_of_getElem? (i := 59) rfl))) (by decide) (t := .int) (t' := (.object "java/util/List")) (by decide) (by decide)))
  have f31 : Exa Z h25 b2 "java/util/ArrayList" := po16.wr W25
  have K32 : Keep h0 h25 [a] := K23.wr W25 (Or.inl (List.mem_of_getElem? (i := 0) rfl))
  have Z33 : n0 ≤ h25.size := Nat.le_trans Z24 (Keep.of_wr W25).1
  have N34 := Fr.snoc X25 N15 H5
  refine OwnGo.back (T25.setTop (mkF m 16 #[.val (.ref a), .val (.ref n)] [])) (fun tg kk => st25 _ kk) ?_
  refine OwnGo.back (T25.setTop (mkF m 17 #[.val (.ref a), .val (.ref n)] [(.ref a)])) (fun tg kk => XS.aloadN X25.here hx rfl (hb hby own_d6_16) rfl rfl kk) ?_
  obtain ⟨T35, h35, X35, e35, E35, A35, D35, -, st35⟩ := newO X25 hx hZ hown (hw _ (List.mem_of_getElem? (i := 33) rfl)) (hw _ (List.mem_of_getElem? (i := 34) rfl)) (hw _ (List.mem_of_getElem? (i := 35) rfl)) e25 (g := (mkF m 17 #[.val (.ref a), .val (.ref n)] [(.ref a)])) rfl (hb hby own_d6_17) (by decide) (by decide)
  obtain ⟨b35, q35⟩ : ∃ z, z = h25.size := ⟨_, rfl⟩
  rw [← q35] at A35 D35 st35
  have n36 : a ≠ b35 := own_ne f27.lt q35
  have n37 : b2 ≠ b35 := own_ne f31.lt q35
  have g38 : n0 ≤ b35 := Nat.le_trans Z33 (Nat.le_of_eq q35.symm)
  have s39 : h0.size ≤ b35 := Nat.le_trans K32.1 (Nat.le_of_eq q35.symm)
  have f40 : Exa Z h35 a "com/example/lucid_policy/lucidpolicy/parse/Symbol" := f27.ext E35
  have f41 : Fld Z h35 a "com/example/lucid_policy/lucidpolicy/parse/Symbol" "requiredIn" "Ljava/util/List;" .null := f28.ext E35
  have f42 : Fld Z h35 a "com/example/lucid_policy/lucidpolicy/parse/Symbol" "name" "Ljava/lang/String;" .null := f29.ext E35
  have f43 : Fld Z h35 a "com/example/lucid_policy/lucidpolicy/parse/Symbol" "visible" "I" (.int (0 : Int32)) := f30.ext E35
  have f44 : Exa Z h35 b2 "java/util/ArrayList" := f31.ext E35
  have f45 : Fld Z h35 a "com/example/lucid_policy/lucidpolicy/parse/Symbol" "declaredIn" "Ljava/util/List;" (.ref b2) := f26.ext E35
  have K46 : Keep h0 h35 [a] := K32.ext E35
  have Z47 : n0 ≤ h35.size := Nat.le_trans Z33 E35.1
  have f48 : Fld Z h35 b35 "java/util/AbstractList" "modCount" "I" (.int (0 : Int32)) := D35 (Or.inl (hw _ (List.mem_of_getElem? (i := 53) rfl))) (ty := .int) (by decide)
  have f49 : Fld Z h35 b35 "java/util/ArrayList" "elementData" "[Ljava/lang/Object;" .null := D35 (Or.inl (hw _ (List.mem_of_getElem? (i := 57) rfl))) (ty := (.array (.object "java/lang/Object"))) (by decide)
  refine OwnGo.back (T35.setTop (mkF m 20 #[.val (.ref a), .val (.ref n)] [(.ref b35), (.ref a)])) (fun tg kk => st35 _ kk) ?_
  refine OwnGo.back (T35.setTop (mkF m 21 #[.val (.ref a), .val (.ref n)] [(.ref b35), (.ref b35), (.ref a)])) (fun tg kk => XS.dup X35.here hx rfl (hb hby own_d6_20) rfl rfl kk) ?_
  refine OwnGo.back (T35.setTop (mkF m 22 #[.val (.ref a), .val (.ref n)] [(.int (1 : Int32)), (.ref b35), (.ref b35), (.ref a)])) (fun tg kk => XS.iconst X35.here hx rfl (hb hby own_d6_21) kk) ?_
  obtain ⟨_, _, ⟨T50, L50, k50, n50⟩, -, X50, ⟨Lc50, hQ50, l50, y50, z50⟩, st50⟩ := X35.specialBack hx (y := (⟨"java/util/ArrayList", "<init>", "(I)V"⟩ : MethodName)) rfl hown (mvT hZ (hw _ (List.mem_of_getElem? (i := 36) rfl))) (mvT hZ (hw _ (List.mem_of_getElem? (i := 37) rfl))) (mvT hZ (hw _ (List.mem_of_getElem? (i := 38) rfl))) (by decide) (backOf (W := 2) (own_al l Z a0 hw [] b35 h35 n0 Z47 A35 f48 f49 g38) hZ (hw _ (List.mem_of_getElem? (i := 38) rfl)) (hw _ (List.mem_of_getElem? (i := 35) rfl)) (by decide) (by decide)) (g := (mkF m 22 #[.val (.ref a), .val (.ref n)] [(.int (1 : Int32)), (.ref b35), (.ref b35), (.ref a)])) rfl (by rw [hml]; rfl) (Steps.refl _) (a := b35) (argsL := [(.int (1 : Int32))]) (rest := [(.ref b35), (.ref a)]) (lenOf own_pd4 rfl) rfl (by show 2 * 0 + _ ≤ _; exact Nat.le_of_eq rfl) (hb hby own_d6_22) (fun _ _ => ⟨rfl, e35, (by decide : 3 + 1 ≤ _), (by decide : 7 + 1 ≤ _)⟩)
  dsimp only [Pt.U, Pt.locs, Pt.cells, Pt.slots] at X50 l50 y50 z50 st50 hQ50
  subst l50 y50 z50
  obtain ⟨rfl, N50q, Kc50, po51⟩ := hQ50
  have N50 := Fr.app N34 N50q
  have f52 : Exa Z T50.heap a "com/example/lucid_policy/lucidpolicy/parse/Symbol" := f40.keep Kc50
  have f53 : Fld Z T50.heap a "com/example/lucid_policy/lucidpolicy/parse/Symbol" "requiredIn" "Ljava/util/List;" .null := f41.keep Kc50 (ninS n36 nin0)
  have f54 : Fld Z T50.heap a "com/example/lucid_policy/lucidpolicy/parse/Symbol" "name" "Ljava/lang/String;" .null := f42.keep Kc50 (ninS n36 nin0)
  have f55 : Fld Z T50.heap a "com/example/lucid_policy/lucidpolicy/parse/Symbol" "visible" "I" (.int (0 : Int32)) := f43.keep Kc50 (ninS n36 nin0)
  have f56 : Exa Z T50.heap b2 "java/util/ArrayList" := f44.keep Kc50
  have f57 : Fld Z T50.heap a "com/example/lucid_policy/lucidpolicy/parse/Symbol" "declaredIn" "Ljava/util/List;" (.ref b2) := f45.keep Kc50 (ninS n36 nin0)
  have f58 : Exa Z T50.heap b35 "java/util/ArrayList" := A35.keep Kc50
  have K59 : Keep h0 T50.heap [a] := K46.trans Kc50 (allS (Or.inr s39) all0)
  have Z60 : n0 ≤ T50.heap.size := Nat.le_trans Z47 Kc50.1
  refine OwnGo.back (T50.setTop (mkF m 25 #[.val (.ref a), .val (.ref n)] [(.ref b35), (.ref a)])) (fun tg kk => st50.trans kk) ?_
  obtain ⟨T61, h61, X61, e61, W61, st61⟩ := putF X50 hx hZ hown (host := "") (Or.inl (hw _ (List.mem_of_getElem? (i := 60) rfl))) Via.refl rfl f53 f52 (Or.inr ⟨(hw _ (List.mem_of_getElem? (i := 61) rfl)), rfl, hnm⟩) (hw _ (List.mem_of_getElem? (i := 1) rfl)) (ty := (.object "java/util/List")) (by decide) rfl rfl (g := (mkF m 25 #[.val (.ref a), .val (.ref n)] [(.ref b35), (.ref a)])) rfl rfl (hb hby own_d6_25)
  have f62 : Fld Z h61 a "com/example/lucid_policy/lucidpolicy/parse/Symbol" "requiredIn" "Ljava/util/List;" (.ref b35) := f53.same W61
  have f63 : Exa Z h61 a "com/example/lucid_policy/lucidpolicy/parse/Symbol" := f52.wr W61
  have f64 : Fld Z h61 a "com/example/lucid_policy/lucidpolicy/parse/Symbol" "name" "Ljava/lang/String;" .null := f54.other W61 (Or.inr (slot_ne (Or.inr (hw _ (List.mem_of_getElem? (i := 63) rfl))) (Or.inr (hw _ (List.mem_of_getElem? (i := 61) rfl))) (by decide) (t := (.object "java/lang/String")) (t' := (.object "java/util/List")) (by decide) (by decide)))
  have f65 : Fld Z h61 a "com/example/lucid_policy/lucidpolicy/parse/Symbol" "visible" "I" (.int (0 : Int32)) := f55.other W61 (Or.inr (slot_ne (Or.inl (hw _ (List.mem_of_getElem? (i := 70) rfl))) (Or.inr (hw _ (List.mem_of_getElem? (i := 61) rfl))) (by decide) (t := .int) (t' := (.object "java/util/List")) (by decide) (by decide)))
  have f66 : Exa Z h61 b2 "java/util/ArrayList" := f56.wr W61
  have f67 : Fld Z h61 a "com/example/lucid_policy/lucidpolicy/parse/Symbol" "declaredIn" "Ljava/util/List;" (.ref b2) := f57.other W61 (Or.inr (slot_ne (Or.inr (hw _ (List.mem_of_getElem? (i := 59) rfl))) (Or.inr (hw _ (List.mem_of_getElem? (i := 61) rfl))) (by decide) (t := (.object "java/util/List")) (t' := (.object "java/util/List")) (by decide) (by decide)))
  have f68 : Exa Z h61 b35 "java/util/ArrayList" := po51.wr W61
  have K69 : Keep h0 h61 [a] := K59.wr W61 (Or.inl (List.mem_of_getElem? (i := 0) rfl))
  have Z70 : n0 ≤ h61.size := Nat.le_trans Z60 (Keep.of_wr W61).1
  have N71 := Fr.snoc X61 N50 H5
  refine OwnGo.back (T61.setTop (mkF m 28 #[.val (.ref a), .val (.ref n)] [])) (fun tg kk => st61 _ kk) ?_
  refine OwnGo.back (T61.setTop (mkF m 29 #[.val (.ref a), .val (.ref n)] [(.ref a)])) (fun tg kk => XS.aloadN X61.here hx rfl (hb hby own_d6_28) rfl rfl kk) ?_
  refine OwnGo.back (T61.setTop (mkF m 30 #[.val (.ref a), .val (.ref n)] [(.ref n), (.ref a)])) (fun tg kk => XS.aloadN X61.here hx rfl (hb hby own_d6_29) rfl rfl kk) ?_
  obtain ⟨T72, h72, X72, e72, W72, st72⟩ := putF X61 hx hZ hown (host := "") (Or.inl (hw _ (List.mem_of_getElem? (i := 62) rfl))) Via.refl e61 f64 f63 (Or.inr ⟨(hw _ (List.mem_of_getElem? (i := 63) rfl)), rfl, hnm⟩) (hw _ (List.mem_of_getElem? (i := 1) rfl)) (ty := (.object "java/lang/String")) (by decide) rfl rfl (g := (mkF m 30 #[.val (.ref a), .val (.ref n)] [(.ref n), (.ref a)])) rfl rfl (hb hby own_d6_30)
  have f73 : Fld Z h72 a "com/example/lucid_policy/lucidpolicy/parse/Symbol" "name" "Ljava/lang/String;" (.ref n) := f64.same W72
  have f74 : Exa Z h72 a "com/example/lucid_policy/lucidpolicy/parse/Symbol" := f63.wr W72
  have f75 : Fld Z h72 a "com/example/lucid_policy/lucidpolicy/parse/Symbol" "visible" "I" (.int (0 : Int32)) := f65.other W72 (Or.inr (slot_ne (Or.inl (hw _ (List.mem_of_getElem? (i := 70) rfl))) (Or.inr (hw _ (List.mem_of_getElem? (i := 63) rfl))) (by decide) (t := .int) (t' := (.object "java/lang/String")) (by decide) (by decide)))
  have f76 : Exa Z h72 b2 "java/util/ArrayList" := f66.wr W72
  have f77 : Fld Z h72 a "com/example/lucid_policy/lucidpolicy/parse/Symbol" "declaredIn" "Ljava/util/List;" (.ref b2) := f67.other W72 (Or.inr (slot_ne (Or.inr (hw _ (List.mem_of_getElem? (i := 59) rfl))) (Or.inr (hw _ (List.mem_of_getElem? (i := 63) rfl))) (by decide) (t := (.object "java/util/List")) (t' := (.object "java/lang/String")) (by decide) (by decide)))
  have f78 : Exa Z h72 b35 "java/util/ArrayList" := f68.wr W72
  have f79 : Fld Z h72 a "com/example/lucid_policy/lucidpolicy/parse/Symbol" "requiredIn" "Ljava/util/List;" (.ref b35) := f62.other W72 (Or.inr (slot_ne (Or.inr (hw _ (List.mem_of_getElem? (i := 61) rfl))) (Or.inr (hw _ (List.mem_of_getElem? (i := 63) rfl))) (by decide) (t := (.object "java/util/List")) (t' := (.object "java/lang/String")) (by decide) (by decide)))
  have K80 : Keep h0 h72 [a] := K69.wr W72 (Or.inl (List.mem_of_getElem? (i := 0) rfl))
  have Z81 : n0 ≤ h72.size := Nat.le_trans Z70 (Keep.of_wr W72).1
  have N82 := Fr.snoc X72 N71 H5
  refine OwnGo.back (T72.setTop (mkF m 33 #[.val (.ref a), .val (.ref n)] [])) (fun tg kk => st72 _ kk) ?_
  obtain ⟨fs, hr, hrun, hended, hW, hsame⟩ := X72.leave (v := none) (fun _ => rfl)
  refine ⟨_, _, ?_, hrun, hended, _, _, rfl, ?_, ⟨_, rfl⟩, hW, hsame.mono (by decide) (by decide)⟩
  · exact X72.returnOut hx Bd.returns (hb hby own_d6_33) hr
  · show own_sy_Q Z a n h0 n0 _ T72.heap _
    rw [e72]
    exact ⟨rfl, N82, K80, f74, f75⟩
theorem own_vis_ef (m : MethodId) (x0 : Addr) : entryFrame m #[(.ref x0)] 1 = mkF m 0 #[.val (.ref x0)] [] := by first | (simp [entryFrame, mkF, argsToLocals, Value.category]; done) | rfl
def own_vis_Q (Z : State) (a : Addr) (z : Int32) (h0 : Heap) (n0 : Nat) (rv : Option Value) (hN : Heap) (LL : List Loc) : Prop := ∃ (r : Int32), rv = some (.int r) ∧ Fr n0 LL ∧ hN = h0 ∧ ((0 < z ∧ r = 1) ∨ (¬ 0 < z ∧ r = 0))
set_option maxRecDepth 65536 in
set_option maxHeartbeats 40000000 in
theorem own_vis (l : Launch) (Z : State) (a0 : Array Value) (hw : ∀ d ∈ tables_1, d.before a0 Z = true) (ws : List Jvm.Cond) (a : Addr) (z : Int32) (h0 : Heap) (n0 : Nat) (Z0 : n0 ≤ h0.size) (H0 : Fld Z h0 a "com/example/lucid_policy/lucidpolicy/parse/Symbol" "visible" "I" (.int z)) :
    MetFree l (⟨"com/example/lucid_policy/lucidpolicy/parse/Symbol", "visible", "()Z"⟩ : MethodName) (head1 (Jvm.Cond.code (⟨"com/example/lucid_policy/lucidpolicy/parse/Symbol", "visible", "()Z"⟩ : MethodName) prog_160_method_15_code 1 (some .boolean) :: ws) ({ frames := 0, cells := 0, slots := 0, locals := 0 } : Room)) (fun aa UU => aa = #[(.ref a)] ∧ Z.Warmed39 UU.vm ∧ UU.heap = h0) (fun _ _ _ _ _ => True) (fun _ UU oo UU' => ∃ rv LL, oo = .returned rv ∧ own_vis_Q Z a z h0 n0 rv UU'.heap LL ∧ FrameEnd UU oo UU' LL ({ frames := 0, cells := 0, slots := 0, locals := 0 } : Room).cells ({ frames := 0, cells := 0, slots := 0, locals := 0 } : Room).slots) := by
  refine MetFree.of_bodySF (plainFor_of_name own_pn5) hisR ?_
  intro p e s m args below meth c s₁ Bd hml0 hP hK
  obtain ⟨rfl, hZ, hh⟩ := hP
  have hx := Bd.exec
  have hby := Bd.bytes
  have hml : c.maxLocals = 1 := hml0
  have hown : s.vm.findClass "com/example/lucid_policy/lucidpolicy/parse/Symbol" = some m.cls := findClass_of_methodNamed Bd.named
  have hnm := (name_of_methodNamed Bd.named Bd.method).1
  have X0 : Stand p l e ({ frames := 0, cells := 0, slots := 0, locals := 0 } : Room) s m #[(.ref a)] below meth c s₁ [] 0 0 := Stand.of_body Bd
  have e0 : s₁.heap = h0 := by rw [← hh, Bd.state]; rfl
  have N0 := Fr.nil n0
  have K0 : Keep h0 h0 [] := Keep.refl h0 _
  refine (?_ : OwnGo p.tables e below (fun UU' oo => ∃ rv LL, oo = .returned rv ∧ own_vis_Q Z a z h0 n0 rv UU'.heap LL ∧ FrameEnd s oo UU' LL ({ frames := 0, cells := 0, slots := 0, locals := 0 } : Room).cells ({ frames := 0, cells := 0, slots := 0, locals := 0 } : Room).slots) _)
  refine OwnGo.back (s₁.setTop (mkF m 0 #[.val (.ref a)] [])) (fun tg kk => castTop (own_vis_ef m a) kk) ?_
  refine OwnGo.back (s₁.setTop (mkF m 1 #[.val (.ref a)] [(.ref a)])) (fun tg kk => XS.aloadN X0.here hx rfl (hb hby own_d10_0) rfl rfl kk) ?_
  obtain ⟨T1, X1, e1, st1⟩ := getF X0 hx hZ hown (host := "") (Or.inl (hw _ (List.mem_of_getElem? (i := 69) rfl))) Via.refl e0 H0 (g := (mkF m 1 #[.val (.ref a)] [(.ref a)])) rfl rfl (hb hby own_d10_1)
  refine OwnGo.back (T1.setTop (mkF m 4 #[.val (.ref a)] [(.int z)])) (fun tg kk => st1 _ kk) ?_
  by_cases hc2 : (0 : Int32) < z
  ·
    refine OwnGo.back (T1.setTop (mkF m 7 #[.val (.ref a)] [])) (fun tg kk => XS.ifNo X1.here hx rfl (hb hby own_d10_4) rfl ((if0 _ _).trans (tlt hc2).2.2.2) kk) ?_
    refine OwnGo.back (T1.setTop (mkF m 8 #[.val (.ref a)] [(.int (1 : Int32))])) (fun tg kk => XS.iconst X1.here hx rfl (hb hby own_d10_7) kk) ?_
    refine OwnGo.back (T1.setTop (mkF m 12 #[.val (.ref a)] [(.int (1 : Int32))])) (fun tg kk => XS.goto X1.here hx rfl (pc0 := 8) (pc' := 12) rfl (hb hby own_d10_8) (by decide) (by decide) kk) ?_
    obtain ⟨fs, hr, hrun, hended, hW, hsame⟩ := X1.leave (v := some (.int (1 : Int32))) (fun h => by rw [Bd.returns] at h; cases h)
    refine ⟨_, _, ?_, hrun, hended, _, _, rfl, ?_, ⟨_, rfl⟩, hW, hsame.mono (by decide) (by decide)⟩
    · exact retN X1 hx (t := .boolean) Bd.returns (by simp) (hb hby own_d10_12) hr
    · show own_vis_Q Z a z h0 n0 _ T1.heap _
      rw [e1]
      exact ⟨(1 : Int32), rfl, N0, rfl, (by (simp only [true_and, and_true, false_and, and_false, or_false, false_or, or_true, true_or, not_true_eq_false, not_false_eq_true, eq_self, Int32.lt_iff_toInt_lt, Int32.le_iff_toInt_le, ← Int32.toInt_inj, Int32.reduceToInt, Int64.lt_iff_toInt_lt, Int64.le_iff_toInt_le, ← Int64.toInt_inj, Int64.reduceToInt] at hc2 ⊢) <;> omega)⟩
  ·
    refine OwnGo.back (T1.setTop (mkF m 11 #[.val (.ref a)] [])) (fun tg kk => XS.ifYes X1.here hx rfl (pc0 := 4) (pc' := 11) rfl (hb hby own_d10_4) rfl ((if0 _ _).trans (flt hc2).2.2.2) (by decide) (by decide) kk) ?_
    refine OwnGo.back (T1.setTop (mkF m 12 #[.val (.ref a)] [(.int (0 : Int32))])) (fun tg kk => XS.iconst X1.here hx rfl (hb hby own_d10_11) kk) ?_
    obtain ⟨fs, hr, hrun, hended, hW, hsame⟩ := X1.leave (v := some (.int (0 : Int32))) (fun h => by rw [Bd.returns] at h; cases h)
    refine ⟨_, _, ?_, hrun, hended, _, _, rfl, ?_, ⟨_, rfl⟩, hW, hsame.mono (by decide) (by decide)⟩
    · exact retN X1 hx (t := .boolean) Bd.returns (by simp) (hb hby own_d10_12) hr
    · show own_vis_Q Z a z h0 n0 _ T1.heap _
      rw [e1]
      exact ⟨(0 : Int32), rfl, N0, rfl, (by (simp only [true_and, and_true, false_and, and_false, or_false, false_or, or_true, true_or, not_true_eq_false, not_false_eq_true, eq_self, Int32.lt_iff_toInt_lt, Int32.le_iff_toInt_le, ← Int32.toInt_inj, Int32.reduceToInt, Int64.lt_iff_toInt_lt, Int64.le_iff_toInt_le, ← Int64.toInt_inj, Int64.reduceToInt] at hc2 ⊢) <;> omega)⟩
theorem own_show_ef (m : MethodId) (x0 : Addr) : entryFrame m #[(.ref x0)] 1 = mkF m 0 #[.val (.ref x0)] [] := by first | (simp [entryFrame, mkF, argsToLocals, Value.category]; done) | rfl
def own_show_Q (Z : State) (a : Addr) (z : Int32) (h0 : Heap) (n0 : Nat) (rv : Option Value) (hN : Heap) (LL : List Loc) : Prop := rv = none ∧ Fr n0 LL ∧ Keep h0 hN [a] ∧ Exa Z hN a "com/example/lucid_policy/lucidpolicy/parse/Symbol" ∧ Fld Z hN a "com/example/lucid_policy/lucidpolicy/parse/Symbol" "visible" "I" (.int (z + (1 : Int32)))
set_option maxRecDepth 65536 in
set_option maxHeartbeats 40000000 in
theorem own_show (l : Launch) (Z : State) (a0 : Array Value) (hw : ∀ d ∈ tables_1, d.before a0 Z = true) (ws : List Jvm.Cond) (a : Addr) (z : Int32) (h0 : Heap) (n0 : Nat) (Z0 : n0 ≤ h0.size) (H0 : Exa Z h0 a "com/example/lucid_policy/lucidpolicy/parse/Symbol") (H1 : Fld Z h0 a "com/example/lucid_policy/lucidpolicy/parse/Symbol" "visible" "I" (.int z)) (H2 : n0 ≤ a) :
    MetFree l (⟨"com/example/lucid_policy/lucidpolicy/parse/Symbol", "show", "()V"⟩ : MethodName) (head1 (Jvm.Cond.code (⟨"com/example/lucid_policy/lucidpolicy/parse/Symbol", "show", "()V"⟩ : MethodName) prog_160_method_13_code 1 none :: ws) ({ frames := 0, cells := 0, slots := 0, locals := 0 } : Room)) (fun aa UU => aa = #[(.ref a)] ∧ Z.Warmed39 UU.vm ∧ UU.heap = h0) (fun _ _ _ _ _ => True) (fun _ UU oo UU' => ∃ rv LL, oo = .returned rv ∧ own_show_Q Z a z h0 n0 rv UU'.heap LL ∧ FrameEnd UU oo UU' LL ({ frames := 0, cells := 0, slots := 0, locals := 0 } : Room).cells ({ frames := 0, cells := 0, slots := 0, locals := 0 } : Room).slots) := by
  refine MetFree.of_bodySF (plainFor_of_name own_pn5) hisR ?_
  intro p e s m args below meth c s₁ Bd hml0 hP hK
  obtain ⟨rfl, hZ, hh⟩ := hP
  have hx := Bd.exec
  have hby := Bd.bytes
  have hml : c.maxLocals = 1 := hml0
  have hown : s.vm.findClass "com/example/lucid_policy/lucidpolicy/parse/Symbol" = some m.cls := findClass_of_methodNamed Bd.named
  have hnm := (name_of_methodNamed Bd.named Bd.method).1
  have X0 : Stand p l e ({ frames := 0, cells := 0, slots := 0, locals := 0 } : Room) s m #[(.ref a)] below meth c s₁ [] 0 0 := Stand.of_body Bd
  have e0 : s₁.heap = h0 := by rw [← hh, Bd.state]; rfl
  have N0 := Fr.nil n0
  have K0 : Keep h0 h0 [a] := Keep.refl h0 _
  refine (?_ : OwnGo p.tables e below (fun UU' oo => ∃ rv LL, oo = .returned rv ∧ own_show_Q Z a z h0 n0 rv UU'.heap LL ∧ FrameEnd s oo UU' LL ({ frames := 0, cells := 0, slots := 0, locals := 0 } : Room).cells ({ frames := 0, cells := 0, slots := 0, locals := 0 } : Room).slots) _)
  refine OwnGo.back (s₁.setTop (mkF m 0 #[.val (.ref a)] [])) (fun tg kk => castTop (own_show_ef m a) kk) ?_
  refine OwnGo.back (s₁.setTop (mkF m 1 #[.val (.ref a)] [(.ref a)])) (fun tg kk => XS.aloadN X0.here hx rfl (hb hby own_d13_0) rfl rfl kk) ?_
  refine OwnGo.back (s₁.setTop (mkF m 2 #[.val (.ref a)] [(.ref a), (.ref a)])) (fun tg kk => XS.dup X0.here hx rfl (hb hby own_d13_1) rfl rfl kk) ?_
  obtain ⟨T1, X1, e1, st1⟩ := getF X0 hx hZ hown (host := "") (Or.inl (hw _ (List.mem_of_getElem? (i := 69) rfl))) Via.refl e0 H1 (g := (mkF m 2 #[.val (.ref a)] [(.ref a), (.ref a)])) rfl rfl (hb hby own_d13_2)
  refine OwnGo.back (T1.setTop (mkF m 5 #[.val (.ref a)] [(.int z), (.ref a)])) (fun tg kk => st1 _ kk) ?_
  refine OwnGo.back (T1.setTop (mkF m 6 #[.val (.ref a)] [(.int (1 : Int32)), (.int z), (.ref a)])) (fun tg kk => XS.iconst X1.here hx rfl (hb hby own_d13_5) kk) ?_
  refine OwnGo.back (T1.setTop (mkF m 7 #[.val (.ref a)] [(.int (z + (1 : Int32))), (.ref a)])) (fun tg kk => XS.iadd X1.here hx rfl (hb hby own_d13_6) rfl kk) ?_
  obtain ⟨T2, h2, X2, e2, W2, st2⟩ := putF X1 hx hZ hown (host := "") (Or.inl (hw _ (List.mem_of_getElem? (i := 69) rfl))) Via.refl e1 H1 H0 (Or.inl (hw _ (List.mem_of_getElem? (i := 70) rfl))) (hw _ (List.mem_of_getElem? (i := 1) rfl)) (ty := .int) (by decide) rfl rfl (g := (mkF m 7 #[.val (.ref a)] [(.int (z + (1 : Int32))), (.ref a)])) rfl rfl (hb hby own_d13_7)
  have f3 : Fld Z h2 a "com/example/lucid_policy/lucidpolicy/parse/Symbol" "visible" "I" (.int (z + (1 : Int32))) := H1.same W2
  have f4 : Exa Z h2 a "com/example/lucid_policy/lucidpolicy/parse/Symbol" := H0.wr W2
  have K5 : Keep h0 h2 [a] := K0.wr W2 (Or.inl (List.mem_of_getElem? (i := 0) rfl))
  have Z6 : n0 ≤ h2.size := Nat.le_trans Z0 (Keep.of_wr W2).1
  have N7 := Fr.snoc X2 N0 H2
  refine OwnGo.back (T2.setTop (mkF m 10 #[.val (.ref a)] [])) (fun tg kk => st2 _ kk) ?_
  obtain ⟨fs, hr, hrun, hended, hW, hsame⟩ := X2.leave (v := none) (fun _ => rfl)
  refine ⟨_, _, ?_, hrun, hended, _, _, rfl, ?_, ⟨_, rfl⟩, hW, hsame.mono (by decide) (by decide)⟩
  · exact X2.returnOut hx Bd.returns (hb hby own_d13_10) hr
  · show own_show_Q Z a z h0 n0 _ T2.heap _
    rw [e2]
    exact ⟨rfl, N7, K5, f4, f3⟩
theorem own_hide_ef (m : MethodId) (x0 : Addr) : entryFrame m #[(.ref x0)] 1 = mkF m 0 #[.val (.ref x0)] [] := by first | (simp [entryFrame, mkF, argsToLocals, Value.category]; done) | rfl
def own_hide_Q (Z : State) (a : Addr) (z : Int32) (h0 : Heap) (n0 : Nat) (rv : Option Value) (hN : Heap) (LL : List Loc) : Prop := rv = none ∧ Fr n0 LL ∧ Keep h0 hN [a] ∧ Exa Z hN a "com/example/lucid_policy/lucidpolicy/parse/Symbol" ∧ Fld Z hN a "com/example/lucid_policy/lucidpolicy/parse/Symbol" "visible" "I" (.int (z - (1 : Int32)))
set_option maxRecDepth 65536 in
set_option maxHeartbeats 40000000 in
theorem own_hide (l : Launch) (Z : State) (a0 : Array Value) (hw : ∀ d ∈ tables_1, d.before a0 Z = true) (ws : List Jvm.Cond) (a : Addr) (z : Int32) (h0 : Heap) (n0 : Nat) (Z0 : n0 ≤ h0.size) (H0 : Exa Z h0 a "com/example/lucid_policy/lucidpolicy/parse/Symbol") (H1 : Fld Z h0 a "com/example/lucid_policy/lucidpolicy/parse/Symbol" "visible" "I" (.int z)) (H2 : n0 ≤ a) :
    MetFree l (⟨"com/example/lucid_policy/lucidpolicy/parse/Symbol", "hide", "()V"⟩ : MethodName) (head1 (Jvm.Cond.code (⟨"com/example/lucid_policy/lucidpolicy/parse/Symbol", "hide", "()V"⟩ : MethodName) prog_160_method_14_code 1 none :: ws) ({ frames := 0, cells := 0, slots := 0, locals := 0 } : Room)) (fun aa UU => aa = #[(.ref a)] ∧ Z.Warmed39 UU.vm ∧ UU.heap = h0) (fun _ _ _ _ _ => True) (fun _ UU oo UU' => ∃ rv LL, oo = .returned rv ∧ own_hide_Q Z a z h0 n0 rv UU'.heap LL ∧ FrameEnd UU oo UU' LL ({ frames := 0, cells := 0, slots := 0, locals := 0 } : Room).cells ({ frames := 0, cells := 0, slots := 0, locals := 0 } : Room).slots) := by
  refine MetFree.of_bodySF (plainFor_of_name own_pn5) hisR ?_
  intro p e s m args below meth c s₁ Bd hml0 hP hK
  obtain ⟨rfl, hZ, hh⟩ := hP
  have hx := Bd.exec
  have hby := Bd.bytes
  have hml : c.maxLocals = 1 := hml0
  have hown : s.vm.findClass "com/example/lucid_policy/lucidpolicy/parse/Symbol" = some m.cls := findClass_of_methodNamed Bd.named
  have hnm := (name_of_methodNamed Bd.named Bd.method).1
  have X0 : Stand p l e ({ frames := 0, cells := 0, slots := 0, locals := 0 } : Room) s m #[(.ref a)] below meth c s₁ [] 0 0 := Stand.of_body Bd
  have e0 : s₁.heap = h0 := by rw [← hh, Bd.state]; rfl
  have N0 := Fr.nil n0
  have K0 : Keep h0 h0 [a] := Keep.refl h0 _
  refine (?_ : OwnGo p.tables e below (fun UU' oo => ∃ rv LL, oo = .returned rv ∧ own_hide_Q Z a z h0 n0 rv UU'.heap LL ∧ FrameEnd s oo UU' LL ({ frames := 0, cells := 0, slots := 0, locals := 0 } : Room).cells ({ frames := 0, cells := 0, slots := 0, locals := 0 } : Room).slots) _)
  refine OwnGo.back (s₁.setTop (mkF m 0 #[.val (.ref a)] [])) (fun tg kk => castTop (own_hide_ef m a) kk) ?_
  refine OwnGo.back (s₁.setTop (mkF m 1 #[.val (.ref a)] [(.ref a)])) (fun tg kk => XS.aloadN X0.here hx rfl (hb hby own_d12_0) rfl rfl kk) ?_
  refine OwnGo.back (s₁.setTop (mkF m 2 #[.val (.ref a)] [(.ref a), (.ref a)])) (fun tg kk => XS.dup X0.here hx rfl (hb hby own_d12_1) rfl rfl kk) ?_
  obtain ⟨T1, X1, e1, st1⟩ := getF X0 hx hZ hown (host := "") (Or.inl (hw _ (List.mem_of_getElem? (i := 69) rfl))) Via.refl e0 H1 (g := (mkF m 2 #[.val (.ref a)] [(.ref a), (.ref a)])) rfl rfl (hb hby own_d12_2)
  refine OwnGo.back (T1.setTop (mkF m 5 #[.val (.ref a)] [(.int z), (.ref a)])) (fun tg kk => st1 _ kk) ?_
  refine OwnGo.back (T1.setTop (mkF m 6 #[.val (.ref a)] [(.int (1 : Int32)), (.int z), (.ref a)])) (fun tg kk => XS.iconst X1.here hx rfl (hb hby own_d12_5) kk) ?_
  refine OwnGo.back (T1.setTop (mkF m 7 #[.val (.ref a)] [(.int (z - (1 : Int32))), (.ref a)])) (fun tg kk => XS.isub X1.here hx rfl (hb hby own_d12_6) rfl kk) ?_
  obtain ⟨T2, h2, X2, e2, W2, st2⟩ := putF X1 hx hZ hown (host := "") (Or.inl (hw _ (List.mem_of_getElem? (i := 69) rfl))) Via.refl e1 H1 H0 (Or.inl (hw _ (List.mem_of_getElem? (i := 70) rfl))) (hw _ (List.mem_of_getElem? (i := 1) rfl)) (ty := .int) (by decide) rfl rfl (g := (mkF m 7 #[.val (.ref a)] [(.int (z - (1 : Int32))), (.ref a)])) rfl rfl (hb hby own_d12_7)
  have f3 : Fld Z h2 a "com/example/lucid_policy/lucidpolicy/parse/Symbol" "visible" "I" (.int (z - (1 : Int32))) := H1.same W2
  have f4 : Exa Z h2 a "com/example/lucid_policy/lucidpolicy/parse/Symbol" := H0.wr W2
  have K5 : Keep h0 h2 [a] := K0.wr W2 (Or.inl (List.mem_of_getElem? (i := 0) rfl))
  have Z6 : n0 ≤ h2.size := Nat.le_trans Z0 (Keep.of_wr W2).1
  have N7 := Fr.snoc X2 N0 H2
  refine OwnGo.back (T2.setTop (mkF m 10 #[.val (.ref a)] [])) (fun tg kk => st2 _ kk) ?_
  obtain ⟨fs, hr, hrun, hended, hW, hsame⟩ := X2.leave (v := none) (fun _ => rfl)
  refine ⟨_, _, ?_, hrun, hended, _, _, rfl, ?_, ⟨_, rfl⟩, hW, hsame.mono (by decide) (by decide)⟩
  · exact X2.returnOut hx Bd.returns (hb hby own_d12_10) hr
  · show own_hide_Q Z a z h0 n0 _ T2.heap _
    rw [e2]
    exact ⟨rfl, N7, K5, f4, f3⟩
theorem own_step_ef (m : MethodId) (x0 : Addr) (x1 : Int32) (x2 : Int32) : entryFrame m #[(.ref x0), (.int x1), (.int x2)] 3 = mkF m 0 #[.val (.ref x0), .val (.int x1), .val (.int x2)] [] := by first | (simp [entryFrame, mkF, argsToLocals, Value.category]; done) | rfl
def own_step_Q (Z : State) (a : Addr) (bits : Int32) (z : Int32) (h0 : Heap) (n0 : Nat) (rv : Option Value) (hN : Heap) (LL : List Loc) : Prop := ∃ (w : Int32), rv = some (.int w) ∧ Fr n0 LL ∧ Keep h0 hN [a] ∧ Exa Z hN a "com/example/lucid_policy/lucidpolicy/parse/Symbol" ∧ Fld Z hN a "com/example/lucid_policy/lucidpolicy/parse/Symbol" "visible" "I" (.int w)
set_option maxRecDepth 65536 in
set_option maxHeartbeats 40000000 in
theorem own_step (l : Launch) (Z : State) (a0 : Array Value) (hw : ∀ d ∈ tables_1, d.before a0 Z = true) (ws : List Jvm.Cond) (a : Addr) (bits : Int32) (z : Int32) (h0 : Heap) (n0 : Nat) (Z0 : n0 ≤ h0.size) (H0 : Exa Z h0 a "com/example/lucid_policy/lucidpolicy/parse/Symbol") (H1 : Fld Z h0 a "com/example/lucid_policy/lucidpolicy/parse/Symbol" "visible" "I" (.int z)) (H2 : n0 ≤ a) :
    MetFree l (⟨"com/example/lucid_policy/lucidpolicy/parse/SymbolVisiblePinLaw", "step", "(Lcom/example/lucid_policy/lucidpolicy/parse/Symbol;II)I"⟩ : MethodName) (head1 (Jvm.Cond.code (⟨"com/example/lucid_policy/lucidpolicy/parse/SymbolVisiblePinLaw", "step", "(Lcom/example/lucid_policy/lucidpolicy/parse/Symbol;II)I"⟩ : MethodName) method_2_code 3 (some .int) :: ws) ({ frames := 1, cells := 0, slots := 0, locals := 12 } : Room)) (fun aa UU => aa = #[(.ref a), (.int bits), (.int z)] ∧ Z.Warmed39 UU.vm ∧ UU.heap = h0) (fun _ _ _ _ _ => True) (fun _ UU oo UU' => ∃ rv LL, oo = .returned rv ∧ own_step_Q Z a bits z h0 n0 rv UU'.heap LL ∧ FrameEnd UU oo UU' LL ({ frames := 1, cells := 0, slots := 0, locals := 12 } : Room).cells ({ frames := 1, cells := 0, slots := 0, locals := 12 } : Room).slots) := by
  refine MetFree.of_bodySF (plainFor_of_name own_pn6) hisR ?_
  intro p e s m args below meth c s₁ Bd hml0 hP hK
  obtain ⟨rfl, hZ, hh⟩ := hP
  have hx := Bd.exec
  have hby := Bd.bytes
  have hml : c.maxLocals = 3 := hml0
  have hown : s.vm.findClass "com/example/lucid_policy/lucidpolicy/parse/SymbolVisiblePinLaw" = some m.cls := findClass_of_methodNamed Bd.named
  have hnm := (name_of_methodNamed Bd.named Bd.method).1
  have X0 : Stand p l e ({ frames := 1, cells := 0, slots := 0, locals := 12 } : Room) s m #[(.ref a), (.int bits), (.int z)] below meth c s₁ [] 0 0 := Stand.of_body Bd
  have e0 : s₁.heap = h0 := by rw [← hh, Bd.state]; rfl
  have N0 := Fr.nil n0
  have K0 : Keep h0 h0 [a] := Keep.refl h0 _
  refine (?_ : OwnGo p.tables e below (fun UU' oo => ∃ rv LL, oo = .returned rv ∧ own_step_Q Z a bits z h0 n0 rv UU'.heap LL ∧ FrameEnd s oo UU' LL ({ frames := 1, cells := 0, slots := 0, locals := 12 } : Room).cells ({ frames := 1, cells := 0, slots := 0, locals := 12 } : Room).slots) _)
  refine OwnGo.back (s₁.setTop (mkF m 0 #[.val (.ref a), .val (.int bits), .val (.int z)] [])) (fun tg kk => castTop (own_step_ef m a bits z) kk) ?_
  refine OwnGo.back (s₁.setTop (mkF m 1 #[.val (.ref a), .val (.int bits), .val (.int z)] [(.int bits)])) (fun tg kk => XS.iloadN X0.here hx rfl (hb hby own_d11_0) rfl kk) ?_
  refine OwnGo.back (s₁.setTop (mkF m 2 #[.val (.ref a), .val (.int bits), .val (.int z)] [(.int (1 : Int32)), (.int bits)])) (fun tg kk => XS.iconst X0.here hx rfl (hb hby own_d11_1) kk) ?_
  refine OwnGo.back (s₁.setTop (mkF m 3 #[.val (.ref a), .val (.int bits), .val (.int z)] [(.int (bits &&& (1 : Int32)))])) (fun tg kk => XS.iand X0.here hx rfl (hb hby own_d11_2) rfl kk) ?_
  by_cases hc1 : (bits &&& (1 : Int32)) = (0 : Int32)
  ·
    refine OwnGo.back (s₁.setTop (mkF m 14 #[.val (.ref a), .val (.int bits), .val (.int z)] [])) (fun tg kk => XS.ifYes X0.here hx rfl (pc0 := 3) (pc' := 14) rfl (hb hby own_d11_3) rfl ((if0 _ _).trans (teq hc1).1) (by decide) (by decide) kk) ?_
    refine OwnGo.back (s₁.setTop (mkF m 15 #[.val (.ref a), .val (.int bits), .val (.int z)] [(.ref a)])) (fun tg kk => XS.aloadN X0.here hx rfl (hb hby own_d11_14) rfl rfl kk) ?_
    obtain ⟨cq2, kq2, q2a, q2b, q2c⟩ := isOf hZ e0 H0
    obtain ⟨_, _, ⟨T2, L2, k2, n2⟩, -, X2, ⟨Lc2, hQ2, l2, y2, z2⟩, st2⟩ := X0.virtualBack hx (y := (⟨"com/example/lucid_policy/lucidpolicy/parse/Symbol", "hide", "()V"⟩ : MethodName)) (z := (⟨"com/example/lucid_policy/lucidpolicy/parse/Symbol", "hide", "()V"⟩ : MethodName)) hown (mvT hZ (hw _ (List.mem_of_getElem? (i := 75) rfl))) (mvT hZ (hw _ (List.mem_of_getElem? (i := 76) rfl))) (notFace_of_selects (args := #[]) (mvT hZ (hw _ (List.mem_of_getElem? (i := 78) rfl)))) (mvT hZ (hw _ (List.mem_of_getElem? (i := 78) rfl))) (mvT hZ (hw _ (List.mem_of_getElem? (i := 77) rfl))) (by decide) (backOf (W := 0) (own_hide l Z a0 hw [] a z h0 n0 Z0 H0 H1 H2) hZ (hw _ (List.mem_of_getElem? (i := 79) rfl)) (hw _ (List.mem_of_getElem? (i := 2) rfl)) (by decide) (by decide)) q2a q2c (g := (mkF m 15 #[.val (.ref a), .val (.int bits), .val (.int z)] [(.ref a)])) rfl (by rw [hml]; rfl) (Steps.refl _) (argsL := []) (rest := []) (lenOf own_pd3 rfl) rfl (by show 2 * 0 + _ ≤ _; exact Nat.le_of_eq rfl) (hb hby own_d11_15) (fun _ _ => ⟨rfl, e0, (by decide : 0 + 0 ≤ _), (by decide : 0 + 0 ≤ _)⟩)
    dsimp only [Pt.U, Pt.locs, Pt.cells, Pt.slots] at X2 l2 y2 z2 st2 hQ2
    subst l2 y2 z2
    obtain ⟨rfl, N2q, Kc2, po3, po4⟩ := hQ2
    have N2 := Fr.app N0 N2q
    have f5 : Exa Z T2.heap a "com/example/lucid_policy/lucidpolicy/parse/Symbol" := H0.keep Kc2
    have K6 : Keep h0 T2.heap [a] := K0.trans Kc2 (allS (Or.inl (List.mem_of_getElem? (i := 0) rfl)) all0)
    have Z7 : n0 ≤ T2.heap.size := Nat.le_trans Z0 Kc2.1
    refine OwnGo.back (T2.setTop (mkF m 18 #[.val (.ref a), .val (.int bits), .val (.int z)] [])) (fun tg kk => st2.trans kk) ?_
    refine OwnGo.back (T2.setTop (mkF m 19 #[.val (.ref a), .val (.int bits), .val (.int z)] [(.int z)])) (fun tg kk => XS.iloadN X2.here hx rfl (hb hby own_d11_18) rfl kk) ?_
    refine OwnGo.back (T2.setTop (mkF m 20 #[.val (.ref a), .val (.int bits), .val (.int z)] [(.int (1 : Int32)), (.int z)])) (fun tg kk => XS.iconst X2.here hx rfl (hb hby own_d11_19) kk) ?_
    refine OwnGo.back (T2.setTop (mkF m 21 #[.val (.ref a), .val (.int bits), .val (.int z)] [(.int (z - (1 : Int32)))])) (fun tg kk => XS.isub X2.here hx rfl (hb hby own_d11_20) rfl kk) ?_
    obtain ⟨fs, hr, hrun, hended, hW, hsame⟩ := X2.leave (v := some (.int (z - (1 : Int32)))) (fun h => by rw [Bd.returns] at h; cases h)
    refine ⟨_, _, ?_, hrun, hended, _, _, rfl, ?_, ⟨_, rfl⟩, hW, hsame.mono (by decide) (by decide)⟩
    · exact own_retI X2 hx Bd.returns (hb hby own_d11_21) hr
    · show own_step_Q Z a bits z h0 n0 _ T2.heap _
      exact ⟨(z - (1 : Int32)), rfl, N2, K6, po3, po4⟩
  ·
    refine OwnGo.back (s₁.setTop (mkF m 6 #[.val (.ref a), .val (.int bits), .val (.int z)] [])) (fun tg kk => XS.ifNo X0.here hx rfl (hb hby own_d11_3) rfl ((if0 _ _).trans (feq hc1).1) kk) ?_
    refine OwnGo.back (s₁.setTop (mkF m 7 #[.val (.ref a), .val (.int bits), .val (.int z)] [(.ref a)])) (fun tg kk => XS.aloadN X0.here hx rfl (hb hby own_d11_6) rfl rfl kk) ?_
    obtain ⟨cq8, kq8, q8a, q8b, q8c⟩ := isOf hZ e0 H0
    obtain ⟨_, _, ⟨T8, L8, k8, n8⟩, -, X8, ⟨Lc8, hQ8, l8, y8, z8⟩, st8⟩ := X0.virtualBack hx (y := (⟨"com/example/lucid_policy/lucidpolicy/parse/Symbol", "show", "()V"⟩ : MethodName)) (z := (⟨"com/example/lucid_policy/lucidpolicy/parse/Symbol", "show", "()V"⟩ : MethodName)) hown (mvT hZ (hw _ (List.mem_of_getElem? (i := 80) rfl))) (mvT hZ (hw _ (List.mem_of_getElem? (i := 81) rfl))) (notFace_of_selects (args := #[]) (mvT hZ (hw _ (List.mem_of_getElem? (i := 83) rfl)))) (mvT hZ (hw _ (List.mem_of_getElem? (i := 83) rfl))) (mvT hZ (hw _ (List.mem_of_getElem? (i := 82) rfl))) (by decide) (backOf (W := 0) (own_show l Z a0 hw [] a z h0 n0 Z0 H0 H1 H2) hZ (hw _ (List.mem_of_getElem? (i := 84) rfl)) (hw _ (List.mem_of_getElem? (i := 2) rfl)) (by decide) (by decide)) q8a q8c (g := (mkF m 7 #[.val (.ref a), .val (.int bits), .val (.int z)] [(.ref a)])) rfl (by rw [hml]; rfl) (Steps.refl _) (argsL := []) (rest := []) (lenOf own_pd3 rfl) rfl (by show 2 * 0 + _ ≤ _; exact Nat.le_of_eq rfl) (hb hby own_d11_7) (fun _ _ => ⟨rfl, e0, (by decide : 0 + 0 ≤ _), (by decide : 0 + 0 ≤ _)⟩)
    dsimp only [Pt.U, Pt.locs, Pt.cells, Pt.slots] at X8 l8 y8 z8 st8 hQ8
    subst l8 y8 z8
    obtain ⟨rfl, N8q, Kc8, po9, po10⟩ := hQ8
    have N8 := Fr.app N0 N8q
    have f11 : Exa Z T8.heap a "com/example/lucid_policy/lucidpolicy/parse/Symbol" := H0.keep Kc8
    have K12 : Keep h0 T8.heap [a] := K0.trans Kc8 (allS (Or.inl (List.mem_of_getElem? (i := 0) rfl)) all0)
    have Z13 : n0 ≤ T8.heap.size := Nat.le_trans Z0 Kc8.1
    refine OwnGo.back (T8.setTop (mkF m 10 #[.val (.ref a), .val (.int bits), .val (.int z)] [])) (fun tg kk => st8.trans kk) ?_
    refine OwnGo.back (T8.setTop (mkF m 11 #[.val (.ref a), .val (.int bits), .val (.int z)] [(.int z)])) (fun tg kk => XS.iloadN X8.here hx rfl (hb hby own_d11_10) rfl kk) ?_
    refine OwnGo.back (T8.setTop (mkF m 12 #[.val (.ref a), .val (.int bits), .val (.int z)] [(.int (1 : Int32)), (.int z)])) (fun tg kk => XS.iconst X8.here hx rfl (hb hby own_d11_11) kk) ?_
    refine OwnGo.back (T8.setTop (mkF m 13 #[.val (.ref a), .val (.int bits), .val (.int z)] [(.int (z + (1 : Int32)))])) (fun tg kk => XS.iadd X8.here hx rfl (hb hby own_d11_12) rfl kk) ?_
    obtain ⟨fs, hr, hrun, hended, hW, hsame⟩ := X8.leave (v := some (.int (z + (1 : Int32)))) (fun h => by rw [Bd.returns] at h; cases h)
    refine ⟨_, _, ?_, hrun, hended, _, _, rfl, ?_, ⟨_, rfl⟩, hW, hsame.mono (by decide) (by decide)⟩
    · exact own_retI X8 hx Bd.returns (hb hby own_d11_13) hr
    · show own_step_Q Z a bits z h0 n0 _ T8.heap _
      exact ⟨(z + (1 : Int32)), rfl, N8, K12, po9, po10⟩
theorem own_ch (x : Int32) : ¬ (255 : Int32) < ((x &&& (255 : Int32)).toUInt32.toUInt16.toUInt32.toInt32) := by
  have h := c_mask x 255 8 (by decide) (by decide)
  have h2 := c_i2c (x &&& 255)
  simp only [Int32.lt_iff_toInt_lt, Int32.reduceToInt]
  omega
theorem own_law_ef (m : MethodId) (x0 : Int32) (x1 : Int32) : entryFrame m #[(.int x0), (.int x1)] maxLocals = mkF m 0 #[.val (.int x0), .val (.int x1), .unset, .unset, .unset] [] := by first | (simp [entryFrame, mkF, argsToLocals, Value.category, maxLocals]; done) | rfl
def own_law_Q (Z : State) (p1 : Int32) (p2 : Int32) (cs : Int32) (h0 : Heap) (n0 : Nat) (rv : Option Value) (hN : Heap) (LL : List Loc) : Prop := rv = some (.int (1 : Int32)) ∧ Fr n0 LL ∧ Keep h0 hN []
set_option maxRecDepth 65536 in
set_option maxHeartbeats 40000000 in
theorem own_law (l : Launch) (Z : State) (a0 : Array Value) (hw : ∀ d ∈ tables_1, d.before a0 Z = true) (ws : List Jvm.Cond) (p1 : Int32) (p2 : Int32) (cs : Int32) (h0 : Heap) (n0 : Nat) (Z0 : n0 ≤ h0.size) (S : Sta Z Z.heap "java/lang/String" "COMPACT_STRINGS" "Z" (.int cs)) (old : Old Z n0 h0) (hcs : ¬ cs = 0) :
    MetFree l x (head1 (Jvm.Cond.code x code maxLocals ret :: ws) room_1) (fun aa UU => aa = #[(.int p1), (.int p2)] ∧ Z.Warmed39 UU.vm ∧ UU.heap = h0) (fun _ _ _ _ _ => True) (fun _ UU oo UU' => ∃ rv LL, oo = .returned rv ∧ own_law_Q Z p1 p2 cs h0 n0 rv UU'.heap LL ∧ FrameEnd UU oo UU' LL room_1.cells room_1.slots) := by
  refine MetFree.of_bodySF (plainFor_of_name own_pn6) hisR ?_
  intro p e s m args below meth c s₁ Bd hml0 hP hK
  obtain ⟨rfl, hZ, hh⟩ := hP
  have hx := Bd.exec
  have hby := Bd.bytes
  have hml : c.maxLocals = 5 := hml0
  have hown : s.vm.findClass "com/example/lucid_policy/lucidpolicy/parse/SymbolVisiblePinLaw" = some m.cls := findClass_of_methodNamed Bd.named
  have hnm := (name_of_methodNamed Bd.named Bd.method).1
  have X0 : Stand p l e room_1 s m #[(.int p1), (.int p2)] below meth c s₁ [] 0 0 := Stand.of_body Bd
  have e0 : s₁.heap = h0 := by rw [← hh, Bd.state]; rfl
  have N0 := Fr.nil n0
  have K0 : Keep h0 h0 [] := Keep.refl h0 _
  refine (?_ : OwnGo p.tables e below (fun UU' oo => ∃ rv LL, oo = .returned rv ∧ own_law_Q Z p1 p2 cs h0 n0 rv UU'.heap LL ∧ FrameEnd s oo UU' LL room_1.cells room_1.slots) _)
  refine OwnGo.back (s₁.setTop (mkF m 0 #[.val (.int p1), .val (.int p2), .unset, .unset, .unset] [])) (fun tg kk => castTop (own_law_ef m p1 p2) kk) ?_
  obtain ⟨T1, h1, X1, e1, E1, A1, D1, -, st1⟩ := newO X0 hx hZ hown (hw _ (List.mem_of_getElem? (i := 0) rfl)) (hw _ (List.mem_of_getElem? (i := 1) rfl)) (hw _ (List.mem_of_getElem? (i := 2) rfl)) e0 (g := (mkF m 0 #[.val (.int p1), .val (.int p2), .unset, .unset, .unset] [])) rfl (hb hby at_0) (by decide) (by decide)
  obtain ⟨b1, q1⟩ : ∃ z, z = h0.size := ⟨_, rfl⟩
  rw [← q1] at A1 D1 st1
  have g2 : n0 ≤ b1 := Nat.le_trans Z0 (Nat.le_of_eq q1.symm)
  have s3 : h0.size ≤ b1 := Nat.le_trans K0.1 (Nat.le_of_eq q1.symm)
  have f4 : Old Z n0 h1 := old.ext E1
  have K5 : Keep h0 h1 [] := K0.ext E1
  have Z6 : n0 ≤ h1.size := Nat.le_trans Z0 E1.1
  have f7 : Fld Z h1 b1 "com/example/lucid_policy/lucidpolicy/parse/Symbol" "declaredIn" "Ljava/util/List;" .null := D1 (Or.inr (hw _ (List.mem_of_getElem? (i := 59) rfl))) (ty := (.object "java/util/List")) (by decide)
  have f8 : Fld Z h1 b1 "com/example/lucid_policy/lucidpolicy/parse/Symbol" "requiredIn" "Ljava/util/List;" .null := D1 (Or.inr (hw _ (List.mem_of_getElem? (i := 61) rfl))) (ty := (.object "java/util/List")) (by decide)
  have f9 : Fld Z h1 b1 "com/example/lucid_policy/lucidpolicy/parse/Symbol" "name" "Ljava/lang/String;" .null := D1 (Or.inr (hw _ (List.mem_of_getElem? (i := 63) rfl))) (ty := (.object "java/lang/String")) (by decide)
  have f10 : Fld Z h1 b1 "com/example/lucid_policy/lucidpolicy/parse/Symbol" "visible" "I" (.int (0 : Int32)) := D1 (Or.inl (hw _ (List.mem_of_getElem? (i := 70) rfl))) (ty := .int) (by decide)
  refine OwnGo.back (T1.setTop (mkF m 3 #[.val (.int p1), .val (.int p2), .unset, .unset, .unset] [(.ref b1)])) (fun tg kk => st1 _ kk) ?_
  refine OwnGo.back (T1.setTop (mkF m 4 #[.val (.int p1), .val (.int p2), .unset, .unset, .unset] [(.ref b1), (.ref b1)])) (fun tg kk => XS.dup X1.here hx rfl (hb hby at_3) rfl rfl kk) ?_
  refine OwnGo.back (T1.setTop (mkF m 5 #[.val (.int p1), .val (.int p2), .unset, .unset, .unset] [(.int p2), (.ref b1), (.ref b1)])) (fun tg kk => XS.iloadN X1.here hx rfl (hb hby at_4) rfl kk) ?_
  refine OwnGo.back (T1.setTop (mkF m 8 #[.val (.int p1), .val (.int p2), .unset, .unset, .unset] [(.int (255 : Int32)), (.int p2), (.ref b1), (.ref b1)])) (fun tg kk => XS.sipush X1.here hx rfl (hb hby at_5) kk) ?_
  refine OwnGo.back (T1.setTop (mkF m 9 #[.val (.int p1), .val (.int p2), .unset, .unset, .unset] [(.int (p2 &&& (255 : Int32))), (.ref b1), (.ref b1)])) (fun tg kk => XS.iand X1.here hx rfl (hb hby at_8) rfl kk) ?_
  refine OwnGo.back (T1.setTop (mkF m 10 #[.val (.int p1), .val (.int p2), .unset, .unset, .unset] [(.int ((p2 &&& (255 : Int32)).toUInt32.toUInt16.toUInt32.toInt32)), (.ref b1), (.ref b1)])) (fun tg kk => XS.i2c X1.here hx rfl (hb hby at_9) rfl kk) ?_
  obtain ⟨_, _, ⟨T11, L11, k11, n11⟩, -, X11, ⟨Lc11, hQ11, l11, y11, z11⟩, st11⟩ := Jvm.LawKit.callS X1 hx (y := (⟨"java/lang/String", "valueOf", "(C)Ljava/lang/String;"⟩ : MethodName)) hown (mvT hZ (hw _ (List.mem_of_getElem? (i := 3) rfl))) (mvT hZ (hw _ (List.mem_of_getElem? (i := 4) rfl))) (mvT hZ (hw _ (List.mem_of_getElem? (i := 5) rfl))) (mvT hZ (hw _ (List.mem_of_getElem? (i := 6) rfl))) (by decide) (backOf (W := 2) (own_val l Z a0 hw [] ((p2 &&& (255 : Int32)).toUInt32.toUInt16.toUInt32.toInt32) cs h1 n0 Z6 S f4 hcs (own_ch p2)) hZ (hw _ (List.mem_of_getElem? (i := 6) rfl)) (hw _ (List.mem_of_getElem? (i := 5) rfl)) (by decide) (by decide)) (g := (mkF m 10 #[.val (.int p1), .val (.int p2), .unset, .unset, .unset] [(.int ((p2 &&& (255 : Int32)).toUInt32.toUInt16.toUInt32.toInt32)), (.ref b1), (.ref b1)])) rfl (by rw [hml]; rfl) (argsL := [(.int ((p2 &&& (255 : Int32)).toUInt32.toUInt16.toUInt32.toInt32))]) (rest := [(.ref b1), (.ref b1)]) (lenOf own_pd5 rfl) rfl (by show 2 * 0 + _ ≤ _; exact Nat.le_of_eq rfl) (hb hby at_10) (fun _ _ => ⟨rfl, e1, (by decide : 1 + 2 ≤ _), (by decide : 6 + 5 ≤ _)⟩)
  dsimp only [Pt.U, Pt.locs, Pt.cells, Pt.slots] at X11 l11 y11 z11 st11 hQ11
  subst l11 y11 z11
  obtain ⟨a_12, rfl, N11q, Kc11, po13, po14⟩ := hQ11
  have N11 := Fr.app N0 N11q
  have f15 : Old Z n0 T11.heap := f4.keep Kc11 all0
  have f16 : Exa Z T11.heap b1 "com/example/lucid_policy/lucidpolicy/parse/Symbol" := A1.keep Kc11
  have f17 : Fld Z T11.heap b1 "com/example/lucid_policy/lucidpolicy/parse/Symbol" "declaredIn" "Ljava/util/List;" .null := f7.keep Kc11 nin0
  have f18 : Fld Z T11.heap b1 "com/example/lucid_policy/lucidpolicy/parse/Symbol" "requiredIn" "Ljava/util/List;" .null := f8.keep Kc11 nin0
  have f19 : Fld Z T11.heap b1 "com/example/lucid_policy/lucidpolicy/parse/Symbol" "name" "Ljava/lang/String;" .null := f9.keep Kc11 nin0
  have f20 : Fld Z T11.heap b1 "com/example/lucid_policy/lucidpolicy/parse/Symbol" "visible" "I" (.int (0 : Int32)) := f10.keep Kc11 nin0
  have K21 : Keep h0 T11.heap [] := K5.trans Kc11 all0
  have Z22 : n0 ≤ T11.heap.size := Nat.le_trans Z6 Kc11.1
  have n23 : b1 ≠ a_12 := own_ne' A1.lt po13
  have g24 : n0 ≤ a_12 := Nat.le_trans Z6 po13
  have s25 : h0.size ≤ a_12 := Nat.le_trans K5.1 po13
  refine OwnGo.back (T11.setTop (mkF m 13 #[.val (.int p1), .val (.int p2), .unset, .unset, .unset] [(.ref a_12), (.ref b1), (.ref b1)])) (fun tg kk => st11 _ kk) ?_
  obtain ⟨_, _, ⟨T26, L26, k26, n26⟩, -, X26, ⟨Lc26, hQ26, l26, y26, z26⟩, st26⟩ := X11.specialBack hx (y := (⟨"com/example/lucid_policy/lucidpolicy/parse/Symbol", "<init>", "(Ljava/lang/String;)V"⟩ : MethodName)) rfl hown (mvT hZ (hw _ (List.mem_of_getElem? (i := 29) rfl))) (mvT hZ (hw _ (List.mem_of_getElem? (i := 30) rfl))) (mvT hZ (hw _ (List.mem_of_getElem? (i := 31) rfl))) (by decide) (backOf (W := 1) (own_sy l Z a0 hw [] b1 a_12 T11.heap n0 Z22 f16 f17 f18 f19 f20 g2) hZ (hw _ (List.mem_of_getElem? (i := 31) rfl)) (hw _ (List.mem_of_getElem? (i := 2) rfl)) (by decide) (by decide)) (g := (mkF m 13 #[.val (.int p1), .val (.int p2), .unset, .unset, .unset] [(.ref a_12), (.ref b1), (.ref b1)])) rfl (by rw [hml]; rfl) (Steps.refl _) (a := b1) (argsL := [(.ref a_12)]) (rest := [(.ref b1)]) (lenOf own_pd6 rfl) rfl (by show 2 * 0 + _ ≤ _; exact Nat.le_of_eq rfl) (hb hby at_13) (fun _ _ => ⟨rfl, rfl, (by decide : 3 + 4 ≤ _), (by decide : 11 + 8 ≤ _)⟩)
  dsimp only [Pt.U, Pt.locs, Pt.cells, Pt.slots] at X26 l26 y26 z26 st26 hQ26
  subst l26 y26 z26
  obtain ⟨rfl, N26q, Kc26, po27, po28⟩ := hQ26
  have N26 := Fr.app N11 N26q
  have f29 : Old Z n0 T26.heap := f15.keep Kc26 (allS g2 all0)
  have f30 : Exa Z T26.heap b1 "com/example/lucid_policy/lucidpolicy/parse/Symbol" := f16.keep Kc26
  have f31 : Exa Z T26.heap a_12 "java/lang/String" := po14.keep Kc26
  have K32 : Keep h0 T26.heap [] := K21.trans Kc26 (allS (Or.inr s3) all0)
  have Z33 : n0 ≤ T26.heap.size := Nat.le_trans Z22 Kc26.1
  refine OwnGo.back (T26.setTop (mkF m 16 #[.val (.int p1), .val (.int p2), .unset, .unset, .unset] [(.ref b1)])) (fun tg kk => st26.trans kk) ?_
  refine OwnGo.back (T26.setTop (mkF m 17 #[.val (.int p1), .val (.int p2), .val (.ref b1), .unset, .unset] [])) (fun tg kk => XS.astoreN X26.here hx rfl (hb hby at_16) rfl rfl (l' := #[.val (.int p1), .val (.int p2), .val (.ref b1), .unset, .unset]) rfl kk) ?_
  refine OwnGo.back (T26.setTop (mkF m 18 #[.val (.int p1), .val (.int p2), .val (.ref b1), .unset, .unset] [(.ref b1)])) (fun tg kk => XS.aloadN X26.here hx rfl (hb hby at_17) rfl rfl kk) ?_
  obtain ⟨cq34, kq34, q34a, q34b, q34c⟩ := isOf hZ rfl po27
  obtain ⟨_, _, ⟨T34, L34, k34, n34⟩, -, X34, ⟨Lc34, hQ34, l34, y34, z34⟩, st34⟩ := X26.virtualBack hx (y := (⟨"com/example/lucid_policy/lucidpolicy/parse/Symbol", "visible", "()Z"⟩ : MethodName)) (z := (⟨"com/example/lucid_policy/lucidpolicy/parse/Symbol", "visible", "()Z"⟩ : MethodName)) hown (mvT hZ (hw _ (List.mem_of_getElem? (i := 64) rfl))) (mvT hZ (hw _ (List.mem_of_getElem? (i := 65) rfl))) (notFace_of_selects (args := #[]) (mvT hZ (hw _ (List.mem_of_getElem? (i := 67) rfl)))) (mvT hZ (hw _ (List.mem_of_getElem? (i := 67) rfl))) (mvT hZ (hw _ (List.mem_of_getElem? (i := 66) rfl))) (by decide) (backOf (W := 0) (own_vis l Z a0 hw [] b1 (0 : Int32) T26.heap n0 Z33 po28) hZ (hw _ (List.mem_of_getElem? (i := 68) rfl)) (hw _ (List.mem_of_getElem? (i := 2) rfl)) (by decide) (by decide)) q34a q34c (g := (mkF m 18 #[.val (.int p1), .val (.int p2), .val (.ref b1), .unset, .unset] [(.ref b1)])) rfl (by rw [hml]; rfl) (Steps.refl _) (argsL := []) (rest := []) (lenOf own_pd7 rfl) rfl (by show 2 * 0 + _ ≤ _; exact Nat.le_of_eq rfl) (hb hby at_18) (fun _ _ => ⟨rfl, rfl, (by decide : 7 + 0 ≤ _), (by decide : 19 + 0 ≤ _)⟩)
  dsimp only [Pt.U, Pt.locs, Pt.cells, Pt.slots] at X34 l34 y34 z34 st34 hQ34
  subst l34 y34 z34
  obtain ⟨r_35, rfl, N34q, e34, po36⟩ := hQ34
  have N34 := Fr.app N26 N34q
  refine OwnGo.back (T34.setTop (mkF m 21 #[.val (.int p1), .val (.int p2), .val (.ref b1), .unset, .unset] [(.int r_35)])) (fun tg kk => st34.trans kk) ?_
  refine OwnGo.back (T34.setTop (mkF m 24 #[.val (.int p1), .val (.int p2), .val (.ref b1), .unset, .unset] [])) (fun tg kk => XS.ifNo X34.here hx rfl (hb hby at_21) rfl ((if0 _ _).trans (teq (by (simp only [true_and, and_true, false_and, and_false, or_false, false_or, or_true, true_or, not_true_eq_false, not_false_eq_true, eq_self, Int32.lt_iff_toInt_lt, Int32.le_iff_toInt_le, ← Int32.toInt_inj, Int32.reduceToInt, Int64.lt_iff_toInt_lt, Int64.le_iff_toInt_le, ← Int64.toInt_inj, Int64.reduceToInt] at hcs po36 ⊢) <;> omega : r_35 = (0 : Int32))).2) kk) ?_
  refine OwnGo.back (T34.setTop (mkF m 25 #[.val (.int p1), .val (.int p2), .val (.ref b1), .unset, .unset] [(.int (1 : Int32))])) (fun tg kk => XS.iconst X34.here hx rfl (hb hby at_24) kk) ?_
  refine OwnGo.back (T34.setTop (mkF m 29 #[.val (.int p1), .val (.int p2), .val (.ref b1), .unset, .unset] [(.int (1 : Int32))])) (fun tg kk => XS.goto X34.here hx rfl (pc0 := 25) (pc' := 29) rfl (hb hby at_25) (by decide) (by decide) kk) ?_
  refine OwnGo.back (T34.setTop (mkF m 30 #[.val (.int p1), .val (.int p2), .val (.ref b1), .val (.int (1 : Int32)), .unset] [])) (fun tg kk => XS.istoreN X34.here hx rfl (hb hby at_29) rfl (l' := #[.val (.int p1), .val (.int p2), .val (.ref b1), .val (.int (1 : Int32)), .unset]) rfl kk) ?_
  refine OwnGo.back (T34.setTop (mkF m 31 #[.val (.int p1), .val (.int p2), .val (.ref b1), .val (.int (1 : Int32)), .unset] [(.int (0 : Int32))])) (fun tg kk => XS.iconst X34.here hx rfl (hb hby at_30) kk) ?_
  refine OwnGo.back (T34.setTop (mkF m 33 #[.val (.int p1), .val (.int p2), .val (.ref b1), .val (.int (1 : Int32)), .val (.int (0 : Int32))] [])) (fun tg kk => XS.istore X34.here hx rfl (hb hby at_31) rfl (l' := #[.val (.int p1), .val (.int p2), .val (.ref b1), .val (.int (1 : Int32)), .val (.int (0 : Int32))]) rfl kk) ?_
  refine OwnGo.back (T34.setTop (mkF m 34 #[.val (.int p1), .val (.int p2), .val (.ref b1), .val (.int (1 : Int32)), .val (.int (0 : Int32))] [(.ref b1)])) (fun tg kk => XS.aloadN X34.here hx rfl (hb hby at_33) rfl rfl kk) ?_
  refine OwnGo.back (T34.setTop (mkF m 35 #[.val (.int p1), .val (.int p2), .val (.ref b1), .val (.int (1 : Int32)), .val (.int (0 : Int32))] [(.int p1), (.ref b1)])) (fun tg kk => XS.iloadN X34.here hx rfl (hb hby at_34) rfl kk) ?_
  refine OwnGo.back (T34.setTop (mkF m 37 #[.val (.int p1), .val (.int p2), .val (.ref b1), .val (.int (1 : Int32)), .val (.int (0 : Int32))] [(.int (0 : Int32)), (.int p1), (.ref b1)])) (fun tg kk => XS.iload X34.here hx rfl (hb hby at_35) rfl kk) ?_
  obtain ⟨_, _, ⟨T37, L37, k37, n37⟩, -, X37, ⟨Lc37, hQ37, l37, y37, z37⟩, st37⟩ := Jvm.LawKit.callS X34 hx (y := (⟨"com/example/lucid_policy/lucidpolicy/parse/SymbolVisiblePinLaw", "step", "(Lcom/example/lucid_policy/lucidpolicy/parse/Symbol;II)I"⟩ : MethodName)) hown (mvT hZ (hw _ (List.mem_of_getElem? (i := 71) rfl))) (mvT hZ (hw _ (List.mem_of_getElem? (i := 72) rfl))) (mvT hZ (hw _ (List.mem_of_getElem? (i := 73) rfl))) (mvT hZ (hw _ (List.mem_of_getElem? (i := 74) rfl))) (by decide) (backOf (W := 0) (own_step l Z a0 hw [] b1 p1 (0 : Int32) T26.heap n0 Z33 po27 po28 g2) hZ (hw _ (List.mem_of_getElem? (i := 74) rfl)) (hw _ (List.mem_of_getElem? (i := 73) rfl)) (by decide) (by decide)) (g := (mkF m 37 #[.val (.int p1), .val (.int p2), .val (.ref b1), .val (.int (1 : Int32)), .val (.int (0 : Int32))] [(.int (0 : Int32)), (.int p1), (.ref b1)])) rfl (by rw [hml]; rfl) (argsL := [(.ref b1), (.int p1), (.int (0 : Int32))]) (rest := []) (lenOf own_pd8 rfl) rfl (by show 2 * 0 + _ ≤ _; exact Nat.le_of_eq rfl) (hb hby at_37) (fun _ _ => ⟨rfl, e34, (by decide : 7 + 0 ≤ _), (by decide : 19 + 0 ≤ _)⟩)
  dsimp only [Pt.U, Pt.locs, Pt.cells, Pt.slots] at X37 l37 y37 z37 st37 hQ37
  subst l37 y37 z37
  obtain ⟨w_38, rfl, N37q, Kc37, po39, po40⟩ := hQ37
  have N37 := Fr.app N34 N37q
  have f41 : Old Z n0 T37.heap := f29.keep Kc37 (allS g2 all0)
  have f42 : Exa Z T37.heap b1 "com/example/lucid_policy/lucidpolicy/parse/Symbol" := po27.keep Kc37
  have f43 : Exa Z T37.heap a_12 "java/lang/String" := f31.keep Kc37
  have K44 : Keep h0 T37.heap [] := K32.trans Kc37 (allS (Or.inr s3) all0)
  have Z45 : n0 ≤ T37.heap.size := Nat.le_trans Z33 Kc37.1
  refine OwnGo.back (T37.setTop (mkF m 40 #[.val (.int p1), .val (.int p2), .val (.ref b1), .val (.int (1 : Int32)), .val (.int (0 : Int32))] [(.int w_38)])) (fun tg kk => st37 _ kk) ?_
  refine OwnGo.back (T37.setTop (mkF m 42 #[.val (.int p1), .val (.int p2), .val (.ref b1), .val (.int (1 : Int32)), .val (.int w_38)] [])) (fun tg kk => XS.istore X37.here hx rfl (hb hby at_40) rfl (l' := #[.val (.int p1), .val (.int p2), .val (.ref b1), .val (.int (1 : Int32)), .val (.int w_38)]) rfl kk) ?_
  refine OwnGo.back (T37.setTop (mkF m 43 #[.val (.int p1), .val (.int p2), .val (.ref b1), .val (.int (1 : Int32)), .val (.int w_38)] [(.int (1 : Int32))])) (fun tg kk => XS.iloadN X37.here hx rfl (hb hby at_42) rfl kk) ?_
  refine OwnGo.back (T37.setTop (mkF m 44 #[.val (.int p1), .val (.int p2), .val (.ref b1), .val (.int (1 : Int32)), .val (.int w_38)] [(.ref b1), (.int (1 : Int32))])) (fun tg kk => XS.aloadN X37.here hx rfl (hb hby at_43) rfl rfl kk) ?_
  obtain ⟨cq46, kq46, q46a, q46b, q46c⟩ := isOf hZ rfl po39
  obtain ⟨_, _, ⟨T46, L46, k46, n46⟩, -, X46, ⟨Lc46, hQ46, l46, y46, z46⟩, st46⟩ := X37.virtualBack hx (y := (⟨"com/example/lucid_policy/lucidpolicy/parse/Symbol", "visible", "()Z"⟩ : MethodName)) (z := (⟨"com/example/lucid_policy/lucidpolicy/parse/Symbol", "visible", "()Z"⟩ : MethodName)) hown (mvT hZ (hw _ (List.mem_of_getElem? (i := 64) rfl))) (mvT hZ (hw _ (List.mem_of_getElem? (i := 65) rfl))) (notFace_of_selects (args := #[]) (mvT hZ (hw _ (List.mem_of_getElem? (i := 67) rfl)))) (mvT hZ (hw _ (List.mem_of_getElem? (i := 67) rfl))) (mvT hZ (hw _ (List.mem_of_getElem? (i := 66) rfl))) (by decide) (backOf (W := 1) (own_vis l Z a0 hw [] b1 w_38 T37.heap n0 Z45 po40) hZ (hw _ (List.mem_of_getElem? (i := 68) rfl)) (hw _ (List.mem_of_getElem? (i := 2) rfl)) (by decide) (by decide)) q46a q46c (g := (mkF m 44 #[.val (.int p1), .val (.int p2), .val (.ref b1), .val (.int (1 : Int32)), .val (.int w_38)] [(.ref b1), (.int (1 : Int32))])) rfl (by rw [hml]; rfl) (Steps.refl _) (argsL := []) (rest := [(.int (1 : Int32))]) (lenOf own_pd7 rfl) rfl (by show 2 * 0 + _ ≤ _; exact Nat.le_of_eq rfl) (hb hby at_44) (fun _ _ => ⟨rfl, rfl, (by decide : 7 + 0 ≤ _), (by decide : 19 + 0 ≤ _)⟩)
  dsimp only [Pt.U, Pt.locs, Pt.cells, Pt.slots] at X46 l46 y46 z46 st46 hQ46
  subst l46 y46 z46
  obtain ⟨r_47, rfl, N46q, e46, po48⟩ := hQ46
  have N46 := Fr.app N37 N46q
  refine OwnGo.back (T46.setTop (mkF m 47 #[.val (.int p1), .val (.int p2), .val (.ref b1), .val (.int (1 : Int32)), .val (.int w_38)] [(.int r_47), (.int (1 : Int32))])) (fun tg kk => st46.trans kk) ?_
  obtain ⟨_, ⟨m50, rfl, hm51⟩, dm52⟩ : OwnMg p.tables e below (fun st' => ∃ (m50 : Int32), st' = T46.setTop (mkF m 57 #[.val (.int p1), .val (.int p2), .val (.ref b1), .val (.int (1 : Int32)), .val (.int w_38)] [(.int m50), (.int r_47), (.int (1 : Int32))]) ∧ ((((0 : Int32) < w_38) ∧ m50 = (1 : Int32)) ∨ ((¬ ((0 : Int32) < w_38)) ∧ m50 = (0 : Int32)))) (T46.setTop (mkF m 47 #[.val (.int p1), .val (.int p2), .val (.ref b1), .val (.int (1 : Int32)), .val (.int w_38)] [(.int r_47), (.int (1 : Int32))])) := by
    refine OwnMg.back (T46.setTop (mkF m 49 #[.val (.int p1), .val (.int p2), .val (.ref b1), .val (.int (1 : Int32)), .val (.int w_38)] [(.int w_38), (.int r_47), (.int (1 : Int32))])) (fun tg kk => XS.iload X46.here hx rfl (hb hby at_47) rfl kk) ?_
    by_cases hc58 : (0 : Int32) < w_38
    ·
      refine OwnMg.back (T46.setTop (mkF m 52 #[.val (.int p1), .val (.int p2), .val (.ref b1), .val (.int (1 : Int32)), .val (.int w_38)] [(.int r_47), (.int (1 : Int32))])) (fun tg kk => XS.ifNo X46.here hx rfl (hb hby at_49) rfl ((if0 _ _).trans (tlt hc58).2.2.2) kk) ?_
      refine OwnMg.back (T46.setTop (mkF m 53 #[.val (.int p1), .val (.int p2), .val (.ref b1), .val (.int (1 : Int32)), .val (.int w_38)] [(.int (1 : Int32)), (.int r_47), (.int (1 : Int32))])) (fun tg kk => XS.iconst X46.here hx rfl (hb hby at_52) kk) ?_
      refine OwnMg.back (T46.setTop (mkF m 57 #[.val (.int p1), .val (.int p2), .val (.ref b1), .val (.int (1 : Int32)), .val (.int w_38)] [(.int (1 : Int32)), (.int r_47), (.int (1 : Int32))])) (fun tg kk => XS.goto X46.here hx rfl (pc0 := 53) (pc' := 57) rfl (hb hby at_53) (by decide) (by decide) kk) ?_
      exact ⟨_, ⟨(1 : Int32), rfl, Or.inl ⟨hc58, rfl⟩⟩, fun tg kk => kk⟩
    ·
      refine OwnMg.back (T46.setTop (mkF m 56 #[.val (.int p1), .val (.int p2), .val (.ref b1), .val (.int (1 : Int32)), .val (.int w_38)] [(.int r_47), (.int (1 : Int32))])) (fun tg kk => XS.ifYes X46.here hx rfl (pc0 := 49) (pc' := 56) rfl (hb hby at_49) rfl ((if0 _ _).trans (flt hc58).2.2.2) (by decide) (by decide) kk) ?_
      refine OwnMg.back (T46.setTop (mkF m 57 #[.val (.int p1), .val (.int p2), .val (.ref b1), .val (.int (1 : Int32)), .val (.int w_38)] [(.int (0 : Int32)), (.int r_47), (.int (1 : Int32))])) (fun tg kk => XS.iconst X46.here hx rfl (hb hby at_56) kk) ?_
      exact ⟨_, ⟨(0 : Int32), rfl, Or.inr (⟨hc58, rfl⟩)⟩, fun tg kk => kk⟩
  refine OwnGo.back (T46.setTop (mkF m 57 #[.val (.int p1), .val (.int p2), .val (.ref b1), .val (.int (1 : Int32)), .val (.int w_38)] [(.int m50), (.int r_47), (.int (1 : Int32))])) dm52 ?_
  refine OwnGo.back (T46.setTop (mkF m 60 #[.val (.int p1), .val (.int p2), .val (.ref b1), .val (.int (1 : Int32)), .val (.int w_38)] [(.int (1 : Int32))])) (fun tg kk => XS.icmpNo X46.here hx rfl (hb hby at_57) rfl (teq (by (simp only [true_and, and_true, false_and, and_false, or_false, false_or, or_true, true_or, not_true_eq_false, not_false_eq_true, eq_self, Int32.lt_iff_toInt_lt, Int32.le_iff_toInt_le, ← Int32.toInt_inj, Int32.reduceToInt, Int64.lt_iff_toInt_lt, Int64.le_iff_toInt_le, ← Int64.toInt_inj, Int64.reduceToInt] at hcs po36 po48 hm51 ⊢) <;> omega : r_47 = m50)).2 kk) ?_
  refine OwnGo.back (T46.setTop (mkF m 61 #[.val (.int p1), .val (.int p2), .val (.ref b1), .val (.int (1 : Int32)), .val (.int w_38)] [(.int (1 : Int32)), (.int (1 : Int32))])) (fun tg kk => XS.iconst X46.here hx rfl (hb hby at_60) kk) ?_
  refine OwnGo.back (T46.setTop (mkF m 65 #[.val (.int p1), .val (.int p2), .val (.ref b1), .val (.int (1 : Int32)), .val (.int w_38)] [(.int (1 : Int32)), (.int (1 : Int32))])) (fun tg kk => XS.goto X46.here hx rfl (pc0 := 61) (pc' := 65) rfl (hb hby at_61) (by decide) (by decide) kk) ?_
  refine OwnGo.back (T46.setTop (mkF m 66 #[.val (.int p1), .val (.int p2), .val (.ref b1), .val (.int (1 : Int32)), .val (.int w_38)] [(.int (1 : Int32))])) (fun tg kk => XS.iand X46.here hx rfl (hb hby at_65) rfl kk) ?_
  refine OwnGo.back (T46.setTop (mkF m 67 #[.val (.int p1), .val (.int p2), .val (.ref b1), .val (.int (1 : Int32)), .val (.int w_38)] [])) (fun tg kk => XS.istoreN X46.here hx rfl (hb hby at_66) rfl (l' := #[.val (.int p1), .val (.int p2), .val (.ref b1), .val (.int (1 : Int32)), .val (.int w_38)]) rfl kk) ?_
  refine OwnGo.back (T46.setTop (mkF m 68 #[.val (.int p1), .val (.int p2), .val (.ref b1), .val (.int (1 : Int32)), .val (.int w_38)] [(.ref b1)])) (fun tg kk => XS.aloadN X46.here hx rfl (hb hby at_67) rfl rfl kk) ?_
  refine OwnGo.back (T46.setTop (mkF m 69 #[.val (.int p1), .val (.int p2), .val (.ref b1), .val (.int (1 : Int32)), .val (.int w_38)] [(.int p1), (.ref b1)])) (fun tg kk => XS.iloadN X46.here hx rfl (hb hby at_68) rfl kk) ?_
  refine OwnGo.back (T46.setTop (mkF m 70 #[.val (.int p1), .val (.int p2), .val (.ref b1), .val (.int (1 : Int32)), .val (.int w_38)] [(.int (1 : Int32)), (.int p1), (.ref b1)])) (fun tg kk => XS.iconst X46.here hx rfl (hb hby at_69) kk) ?_
  refine OwnGo.back (T46.setTop (mkF m 71 #[.val (.int p1), .val (.int p2), .val (.ref b1), .val (.int (1 : Int32)), .val (.int w_38)] [(.int ((p1.toUInt32 >>> ((1 : Int32) &&& 31).toUInt32).toInt32)), (.ref b1)])) (fun tg kk => XS.iushr X46.here hx rfl (hb hby at_70) rfl kk) ?_
  refine OwnGo.back (T46.setTop (mkF m 73 #[.val (.int p1), .val (.int p2), .val (.ref b1), .val (.int (1 : Int32)), .val (.int w_38)] [(.int w_38), (.int ((p1.toUInt32 >>> ((1 : Int32) &&& 31).toUInt32).toInt32)), (.ref b1)])) (fun tg kk => XS.iload X46.here hx rfl (hb hby at_71) rfl kk) ?_
  obtain ⟨_, _, ⟨T59, L59, k59, n59⟩, -, X59, ⟨Lc59, hQ59, l59, y59, z59⟩, st59⟩ := Jvm.LawKit.callS X46 hx (y := (⟨"com/example/lucid_policy/lucidpolicy/parse/SymbolVisiblePinLaw", "step", "(Lcom/example/lucid_policy/lucidpolicy/parse/Symbol;II)I"⟩ : MethodName)) hown (mvT hZ (hw _ (List.mem_of_getElem? (i := 71) rfl))) (mvT hZ (hw _ (List.mem_of_getElem? (i := 72) rfl))) (mvT hZ (hw _ (List.mem_of_getElem? (i := 73) rfl))) (mvT hZ (hw _ (List.mem_of_getElem? (i := 74) rfl))) (by decide) (backOf (W := 0) (own_step l Z a0 hw [] b1 ((p1.toUInt32 >>> ((1 : Int32) &&& 31).toUInt32).toInt32) w_38 T37.heap n0 Z45 po39 po40 g2) hZ (hw _ (List.mem_of_getElem? (i := 74) rfl)) (hw _ (List.mem_of_getElem? (i := 73) rfl)) (by decide) (by decide)) (g := (mkF m 73 #[.val (.int p1), .val (.int p2), .val (.ref b1), .val (.int (1 : Int32)), .val (.int w_38)] [(.int w_38), (.int ((p1.toUInt32 >>> ((1 : Int32) &&& 31).toUInt32).toInt32)), (.ref b1)])) rfl (by rw [hml]; rfl) (argsL := [(.ref b1), (.int ((p1.toUInt32 >>> ((1 : Int32) &&& 31).toUInt32).toInt32)), (.int w_38)]) (rest := []) (lenOf own_pd8 rfl) rfl (by show 2 * 0 + _ ≤ _; exact Nat.le_of_eq rfl) (hb hby at_73) (fun _ _ => ⟨rfl, e46, (by decide : 7 + 0 ≤ _), (by decide : 19 + 0 ≤ _)⟩)
  dsimp only [Pt.U, Pt.locs, Pt.cells, Pt.slots] at X59 l59 y59 z59 st59 hQ59
  subst l59 y59 z59
  obtain ⟨w_60, rfl, N59q, Kc59, po61, po62⟩ := hQ59
  have N59 := Fr.app N46 N59q
  have f63 : Old Z n0 T59.heap := f41.keep Kc59 (allS g2 all0)
  have f64 : Exa Z T59.heap b1 "com/example/lucid_policy/lucidpolicy/parse/Symbol" := po39.keep Kc59
  have f65 : Exa Z T59.heap a_12 "java/lang/String" := f43.keep Kc59
  have K66 : Keep h0 T59.heap [] := K44.trans Kc59 (allS (Or.inr s3) all0)
  have Z67 : n0 ≤ T59.heap.size := Nat.le_trans Z45 Kc59.1
  refine OwnGo.back (T59.setTop (mkF m 76 #[.val (.int p1), .val (.int p2), .val (.ref b1), .val (.int (1 : Int32)), .val (.int w_38)] [(.int w_60)])) (fun tg kk => st59 _ kk) ?_
  refine OwnGo.back (T59.setTop (mkF m 78 #[.val (.int p1), .val (.int p2), .val (.ref b1), .val (.int (1 : Int32)), .val (.int w_60)] [])) (fun tg kk => XS.istore X59.here hx rfl (hb hby at_76) rfl (l' := #[.val (.int p1), .val (.int p2), .val (.ref b1), .val (.int (1 : Int32)), .val (.int w_60)]) rfl kk) ?_
  refine OwnGo.back (T59.setTop (mkF m 79 #[.val (.int p1), .val (.int p2), .val (.ref b1), .val (.int (1 : Int32)), .val (.int w_60)] [(.int (1 : Int32))])) (fun tg kk => XS.iloadN X59.here hx rfl (hb hby at_78) rfl kk) ?_
  refine OwnGo.back (T59.setTop (mkF m 80 #[.val (.int p1), .val (.int p2), .val (.ref b1), .val (.int (1 : Int32)), .val (.int w_60)] [(.ref b1), (.int (1 : Int32))])) (fun tg kk => XS.aloadN X59.here hx rfl (hb hby at_79) rfl rfl kk) ?_
  obtain ⟨cq68, kq68, q68a, q68b, q68c⟩ := isOf hZ rfl po61
  obtain ⟨_, _, ⟨T68, L68, k68, n68⟩, -, X68, ⟨Lc68, hQ68, l68, y68, z68⟩, st68⟩ := X59.virtualBack hx (y := (⟨"com/example/lucid_policy/lucidpolicy/parse/Symbol", "visible", "()Z"⟩ : MethodName)) (z := (⟨"com/example/lucid_policy/lucidpolicy/parse/Symbol", "visible", "()Z"⟩ : MethodName)) hown (mvT hZ (hw _ (List.mem_of_getElem? (i := 64) rfl))) (mvT hZ (hw _ (List.mem_of_getElem? (i := 65) rfl))) (notFace_of_selects (args := #[]) (mvT hZ (hw _ (List.mem_of_getElem? (i := 67) rfl)))) (mvT hZ (hw _ (List.mem_of_getElem? (i := 67) rfl))) (mvT hZ (hw _ (List.mem_of_getElem? (i := 66) rfl))) (by decide) (backOf (W := 1) (own_vis l Z a0 hw [] b1 w_60 T59.heap n0 Z67 po62) hZ (hw _ (List.mem_of_getElem? (i := 68) rfl)) (hw _ (List.mem_of_getElem? (i := 2) rfl)) (by decide) (by decide)) q68a q68c (g := (mkF m 80 #[.val (.int p1), .val (.int p2), .val (.ref b1), .val (.int (1 : Int32)), .val (.int w_60)] [(.ref b1), (.int (1 : Int32))])) rfl (by rw [hml]; rfl) (Steps.refl _) (argsL := []) (rest := [(.int (1 : Int32))]) (lenOf own_pd7 rfl) rfl (by show 2 * 0 + _ ≤ _; exact Nat.le_of_eq rfl) (hb hby at_80) (fun _ _ => ⟨rfl, rfl, (by decide : 7 + 0 ≤ _), (by decide : 19 + 0 ≤ _)⟩)
  dsimp only [Pt.U, Pt.locs, Pt.cells, Pt.slots] at X68 l68 y68 z68 st68 hQ68
  subst l68 y68 z68
  obtain ⟨r_69, rfl, N68q, e68, po70⟩ := hQ68
  have N68 := Fr.app N59 N68q
  refine OwnGo.back (T68.setTop (mkF m 83 #[.val (.int p1), .val (.int p2), .val (.ref b1), .val (.int (1 : Int32)), .val (.int w_60)] [(.int r_69), (.int (1 : Int32))])) (fun tg kk => st68.trans kk) ?_
  obtain ⟨_, ⟨m72, rfl, hm73⟩, dm74⟩ : OwnMg p.tables e below (fun st' => ∃ (m72 : Int32), st' = T68.setTop (mkF m 93 #[.val (.int p1), .val (.int p2), .val (.ref b1), .val (.int (1 : Int32)), .val (.int w_60)] [(.int m72), (.int r_69), (.int (1 : Int32))]) ∧ ((((0 : Int32) < w_60) ∧ m72 = (1 : Int32)) ∨ ((¬ ((0 : Int32) < w_60)) ∧ m72 = (0 : Int32)))) (T68.setTop (mkF m 83 #[.val (.int p1), .val (.int p2), .val (.ref b1), .val (.int (1 : Int32)), .val (.int w_60)] [(.int r_69), (.int (1 : Int32))])) := by
    refine OwnMg.back (T68.setTop (mkF m 85 #[.val (.int p1), .val (.int p2), .val (.ref b1), .val (.int (1 : Int32)), .val (.int w_60)] [(.int w_60), (.int r_69), (.int (1 : Int32))])) (fun tg kk => XS.iload X68.here hx rfl (hb hby at_83) rfl kk) ?_
    by_cases hc80 : (0 : Int32) < w_60
    ·
      refine OwnMg.back (T68.setTop (mkF m 88 #[.val (.int p1), .val (.int p2), .val (.ref b1), .val (.int (1 : Int32)), .val (.int w_60)] [(.int r_69), (.int (1 : Int32))])) (fun tg kk => XS.ifNo X68.here hx rfl (hb hby at_85) rfl ((if0 _ _).trans (tlt hc80).2.2.2) kk) ?_
      refine OwnMg.back (T68.setTop (mkF m 89 #[.val (.int p1), .val (.int p2), .val (.ref b1), .val (.int (1 : Int32)), .val (.int w_60)] [(.int (1 : Int32)), (.int r_69), (.int (1 : Int32))])) (fun tg kk => XS.iconst X68.here hx rfl (hb hby at_88) kk) ?_
      refine OwnMg.back (T68.setTop (mkF m 93 #[.val (.int p1), .val (.int p2), .val (.ref b1), .val (.int (1 : Int32)), .val (.int w_60)] [(.int (1 : Int32)), (.int r_69), (.int (1 : Int32))])) (fun tg kk => XS.goto X68.here hx rfl (pc0 := 89) (pc' := 93) rfl (hb hby at_89) (by decide) (by decide) kk) ?_
      exact ⟨_, ⟨(1 : Int32), rfl, Or.inl ⟨hc80, rfl⟩⟩, fun tg kk => kk⟩
    ·
      refine OwnMg.back (T68.setTop (mkF m 92 #[.val (.int p1), .val (.int p2), .val (.ref b1), .val (.int (1 : Int32)), .val (.int w_60)] [(.int r_69), (.int (1 : Int32))])) (fun tg kk => XS.ifYes X68.here hx rfl (pc0 := 85) (pc' := 92) rfl (hb hby at_85) rfl ((if0 _ _).trans (flt hc80).2.2.2) (by decide) (by decide) kk) ?_
      refine OwnMg.back (T68.setTop (mkF m 93 #[.val (.int p1), .val (.int p2), .val (.ref b1), .val (.int (1 : Int32)), .val (.int w_60)] [(.int (0 : Int32)), (.int r_69), (.int (1 : Int32))])) (fun tg kk => XS.iconst X68.here hx rfl (hb hby at_92) kk) ?_
      exact ⟨_, ⟨(0 : Int32), rfl, Or.inr (⟨hc80, rfl⟩)⟩, fun tg kk => kk⟩
  refine OwnGo.back (T68.setTop (mkF m 93 #[.val (.int p1), .val (.int p2), .val (.ref b1), .val (.int (1 : Int32)), .val (.int w_60)] [(.int m72), (.int r_69), (.int (1 : Int32))])) dm74 ?_
  refine OwnGo.back (T68.setTop (mkF m 96 #[.val (.int p1), .val (.int p2), .val (.ref b1), .val (.int (1 : Int32)), .val (.int w_60)] [(.int (1 : Int32))])) (fun tg kk => XS.icmpNo X68.here hx rfl (hb hby at_93) rfl (teq (by (simp only [true_and, and_true, false_and, and_false, or_false, false_or, or_true, true_or, not_true_eq_false, not_false_eq_true, eq_self, Int32.lt_iff_toInt_lt, Int32.le_iff_toInt_le, ← Int32.toInt_inj, Int32.reduceToInt, Int64.lt_iff_toInt_lt, Int64.le_iff_toInt_le, ← Int64.toInt_inj, Int64.reduceToInt] at hcs po36 po48 hm51 po70 hm73 ⊢) <;> omega : r_69 = m72)).2 kk) ?_
  refine OwnGo.back (T68.setTop (mkF m 97 #[.val (.int p1), .val (.int p2), .val (.ref b1), .val (.int (1 : Int32)), .val (.int w_60)] [(.int (1 : Int32)), (.int (1 : Int32))])) (fun tg kk => XS.iconst X68.here hx rfl (hb hby at_96) kk) ?_
  refine OwnGo.back (T68.setTop (mkF m 101 #[.val (.int p1), .val (.int p2), .val (.ref b1), .val (.int (1 : Int32)), .val (.int w_60)] [(.int (1 : Int32)), (.int (1 : Int32))])) (fun tg kk => XS.goto X68.here hx rfl (pc0 := 97) (pc' := 101) rfl (hb hby at_97) (by decide) (by decide) kk) ?_
  refine OwnGo.back (T68.setTop (mkF m 102 #[.val (.int p1), .val (.int p2), .val (.ref b1), .val (.int (1 : Int32)), .val (.int w_60)] [(.int (1 : Int32))])) (fun tg kk => XS.iand X68.here hx rfl (hb hby at_101) rfl kk) ?_
  refine OwnGo.back (T68.setTop (mkF m 103 #[.val (.int p1), .val (.int p2), .val (.ref b1), .val (.int (1 : Int32)), .val (.int w_60)] [])) (fun tg kk => XS.istoreN X68.here hx rfl (hb hby at_102) rfl (l' := #[.val (.int p1), .val (.int p2), .val (.ref b1), .val (.int (1 : Int32)), .val (.int w_60)]) rfl kk) ?_
  refine OwnGo.back (T68.setTop (mkF m 104 #[.val (.int p1), .val (.int p2), .val (.ref b1), .val (.int (1 : Int32)), .val (.int w_60)] [(.ref b1)])) (fun tg kk => XS.aloadN X68.here hx rfl (hb hby at_103) rfl rfl kk) ?_
  refine OwnGo.back (T68.setTop (mkF m 105 #[.val (.int p1), .val (.int p2), .val (.ref b1), .val (.int (1 : Int32)), .val (.int w_60)] [(.int p1), (.ref b1)])) (fun tg kk => XS.iloadN X68.here hx rfl (hb hby at_104) rfl kk) ?_
  refine OwnGo.back (T68.setTop (mkF m 106 #[.val (.int p1), .val (.int p2), .val (.ref b1), .val (.int (1 : Int32)), .val (.int w_60)] [(.int (2 : Int32)), (.int p1), (.ref b1)])) (fun tg kk => XS.iconst X68.here hx rfl (hb hby at_105) kk) ?_
  refine OwnGo.back (T68.setTop (mkF m 107 #[.val (.int p1), .val (.int p2), .val (.ref b1), .val (.int (1 : Int32)), .val (.int w_60)] [(.int ((p1.toUInt32 >>> ((2 : Int32) &&& 31).toUInt32).toInt32)), (.ref b1)])) (fun tg kk => XS.iushr X68.here hx rfl (hb hby at_106) rfl kk) ?_
  refine OwnGo.back (T68.setTop (mkF m 109 #[.val (.int p1), .val (.int p2), .val (.ref b1), .val (.int (1 : Int32)), .val (.int w_60)] [(.int w_60), (.int ((p1.toUInt32 >>> ((2 : Int32) &&& 31).toUInt32).toInt32)), (.ref b1)])) (fun tg kk => XS.iload X68.here hx rfl (hb hby at_107) rfl kk) ?_
  obtain ⟨_, _, ⟨T81, L81, k81, n81⟩, -, X81, ⟨Lc81, hQ81, l81, y81, z81⟩, st81⟩ := Jvm.LawKit.callS X68 hx (y := (⟨"com/example/lucid_policy/lucidpolicy/parse/SymbolVisiblePinLaw", "step", "(Lcom/example/lucid_policy/lucidpolicy/parse/Symbol;II)I"⟩ : MethodName)) hown (mvT hZ (hw _ (List.mem_of_getElem? (i := 71) rfl))) (mvT hZ (hw _ (List.mem_of_getElem? (i := 72) rfl))) (mvT hZ (hw _ (List.mem_of_getElem? (i := 73) rfl))) (mvT hZ (hw _ (List.mem_of_getElem? (i := 74) rfl))) (by decide) (backOf (W := 0) (own_step l Z a0 hw [] b1 ((p1.toUInt32 >>> ((2 : Int32) &&& 31).toUInt32).toInt32) w_60 T59.heap n0 Z67 po61 po62 g2) hZ (hw _ (List.mem_of_getElem? (i := 74) rfl)) (hw _ (List.mem_of_getElem? (i := 73) rfl)) (by decide) (by decide)) (g := (mkF m 109 #[.val (.int p1), .val (.int p2), .val (.ref b1), .val (.int (1 : Int32)), .val (.int w_60)] [(.int w_60), (.int ((p1.toUInt32 >>> ((2 : Int32) &&& 31).toUInt32).toInt32)), (.ref b1)])) rfl (by rw [hml]; rfl) (argsL := [(.ref b1), (.int ((p1.toUInt32 >>> ((2 : Int32) &&& 31).toUInt32).toInt32)), (.int w_60)]) (rest := []) (lenOf own_pd8 rfl) rfl (by show 2 * 0 + _ ≤ _; exact Nat.le_of_eq rfl) (hb hby at_109) (fun _ _ => ⟨rfl, e68, (by decide : 7 + 0 ≤ _), (by decide : 19 + 0 ≤ _)⟩)
  dsimp only [Pt.U, Pt.locs, Pt.cells, Pt.slots] at X81 l81 y81 z81 st81 hQ81
  subst l81 y81 z81
  obtain ⟨w_82, rfl, N81q, Kc81, po83, po84⟩ := hQ81
  have N81 := Fr.app N68 N81q
  have f85 : Old Z n0 T81.heap := f63.keep Kc81 (allS g2 all0)
  have f86 : Exa Z T81.heap b1 "com/example/lucid_policy/lucidpolicy/parse/Symbol" := po61.keep Kc81
  have f87 : Exa Z T81.heap a_12 "java/lang/String" := f65.keep Kc81
  have K88 : Keep h0 T81.heap [] := K66.trans Kc81 (allS (Or.inr s3) all0)
  have Z89 : n0 ≤ T81.heap.size := Nat.le_trans Z67 Kc81.1
  refine OwnGo.back (T81.setTop (mkF m 112 #[.val (.int p1), .val (.int p2), .val (.ref b1), .val (.int (1 : Int32)), .val (.int w_60)] [(.int w_82)])) (fun tg kk => st81 _ kk) ?_
  refine OwnGo.back (T81.setTop (mkF m 114 #[.val (.int p1), .val (.int p2), .val (.ref b1), .val (.int (1 : Int32)), .val (.int w_82)] [])) (fun tg kk => XS.istore X81.here hx rfl (hb hby at_112) rfl (l' := #[.val (.int p1), .val (.int p2), .val (.ref b1), .val (.int (1 : Int32)), .val (.int w_82)]) rfl kk) ?_
  refine OwnGo.back (T81.setTop (mkF m 115 #[.val (.int p1), .val (.int p2), .val (.ref b1), .val (.int (1 : Int32)), .val (.int w_82)] [(.int (1 : Int32))])) (fun tg kk => XS.iloadN X81.here hx rfl (hb hby at_114) rfl kk) ?_
  refine OwnGo.back (T81.setTop (mkF m 116 #[.val (.int p1), .val (.int p2), .val (.ref b1), .val (.int (1 : Int32)), .val (.int w_82)] [(.ref b1), (.int (1 : Int32))])) (fun tg kk => XS.aloadN X81.here hx rfl (hb hby at_115) rfl rfl kk) ?_
  obtain ⟨cq90, kq90, q90a, q90b, q90c⟩ := isOf hZ rfl po83
  obtain ⟨_, _, ⟨T90, L90, k90, n90⟩, -, X90, ⟨Lc90, hQ90, l90, y90, z90⟩, st90⟩ := X81.virtualBack hx (y := (⟨"com/example/lucid_policy/lucidpolicy/parse/Symbol", "visible", "()Z"⟩ : MethodName)) (z := (⟨"com/example/lucid_policy/lucidpolicy/parse/Symbol", "visible", "()Z"⟩ : MethodName)) hown (mvT hZ (hw _ (List.mem_of_getElem? (i := 64) rfl))) (mvT hZ (hw _ (List.mem_of_getElem? (i := 65) rfl))) (notFace_of_selects (args := #[]) (mvT hZ (hw _ (List.mem_of_getElem? (i := 67) rfl)))) (mvT hZ (hw _ (List.mem_of_getElem? (i := 67) rfl))) (mvT hZ (hw _ (List.mem_of_getElem? (i := 66) rfl))) (by decide) (backOf (W := 1) (own_vis l Z a0 hw [] b1 w_82 T81.heap n0 Z89 po84) hZ (hw _ (List.mem_of_getElem? (i := 68) rfl)) (hw _ (List.mem_of_getElem? (i := 2) rfl)) (by decide) (by decide)) q90a q90c (g := (mkF m 116 #[.val (.int p1), .val (.int p2), .val (.ref b1), .val (.int (1 : Int32)), .val (.int w_82)] [(.ref b1), (.int (1 : Int32))])) rfl (by rw [hml]; rfl) (Steps.refl _) (argsL := []) (rest := [(.int (1 : Int32))]) (lenOf own_pd7 rfl) rfl (by show 2 * 0 + _ ≤ _; exact Nat.le_of_eq rfl) (hb hby at_116) (fun _ _ => ⟨rfl, rfl, (by decide : 7 + 0 ≤ _), (by decide : 19 + 0 ≤ _)⟩)
  dsimp only [Pt.U, Pt.locs, Pt.cells, Pt.slots] at X90 l90 y90 z90 st90 hQ90
  subst l90 y90 z90
  obtain ⟨r_91, rfl, N90q, e90, po92⟩ := hQ90
  have N90 := Fr.app N81 N90q
  refine OwnGo.back (T90.setTop (mkF m 119 #[.val (.int p1), .val (.int p2), .val (.ref b1), .val (.int (1 : Int32)), .val (.int w_82)] [(.int r_91), (.int (1 : Int32))])) (fun tg kk => st90.trans kk) ?_
  obtain ⟨_, ⟨m94, rfl, hm95⟩, dm96⟩ : OwnMg p.tables e below (fun st' => ∃ (m94 : Int32), st' = T90.setTop (mkF m 129 #[.val (.int p1), .val (.int p2), .val (.ref b1), .val (.int (1 : Int32)), .val (.int w_82)] [(.int m94), (.int r_91), (.int (1 : Int32))]) ∧ ((((0 : Int32) < w_82) ∧ m94 = (1 : Int32)) ∨ ((¬ ((0 : Int32) < w_82)) ∧ m94 = (0 : Int32)))) (T90.setTop (mkF m 119 #[.val (.int p1), .val (.int p2), .val (.ref b1), .val (.int (1 : Int32)), .val (.int w_82)] [(.int r_91), (.int (1 : Int32))])) := by
    refine OwnMg.back (T90.setTop (mkF m 121 #[.val (.int p1), .val (.int p2), .val (.ref b1), .val (.int (1 : Int32)), .val (.int w_82)] [(.int w_82), (.int r_91), (.int (1 : Int32))])) (fun tg kk => XS.iload X90.here hx rfl (hb hby at_119) rfl kk) ?_
    by_cases hc102 : (0 : Int32) < w_82
    ·
      refine OwnMg.back (T90.setTop (mkF m 124 #[.val (.int p1), .val (.int p2), .val (.ref b1), .val (.int (1 : Int32)), .val (.int w_82)] [(.int r_91), (.int (1 : Int32))])) (fun tg kk => XS.ifNo X90.here hx rfl (hb hby at_121) rfl ((if0 _ _).trans (tlt hc102).2.2.2) kk) ?_
      refine OwnMg.back (T90.setTop (mkF m 125 #[.val (.int p1), .val (.int p2), .val (.ref b1), .val (.int (1 : Int32)), .val (.int w_82)] [(.int (1 : Int32)), (.int r_91), (.int (1 : Int32))])) (fun tg kk => XS.iconst X90.here hx rfl (hb hby at_124) kk) ?_
      refine OwnMg.back (T90.setTop (mkF m 129 #[.val (.int p1), .val (.int p2), .val (.ref b1), .val (.int (1 : Int32)), .val (.int w_82)] [(.int (1 : Int32)), (.int r_91), (.int (1 : Int32))])) (fun tg kk => XS.goto X90.here hx rfl (pc0 := 125) (pc' := 129) rfl (hb hby at_125) (by decide) (by decide) kk) ?_
      exact ⟨_, ⟨(1 : Int32), rfl, Or.inl ⟨hc102, rfl⟩⟩, fun tg kk => kk⟩
    ·
      refine OwnMg.back (T90.setTop (mkF m 128 #[.val (.int p1), .val (.int p2), .val (.ref b1), .val (.int (1 : Int32)), .val (.int w_82)] [(.int r_91), (.int (1 : Int32))])) (fun tg kk => XS.ifYes X90.here hx rfl (pc0 := 121) (pc' := 128) rfl (hb hby at_121) rfl ((if0 _ _).trans (flt hc102).2.2.2) (by decide) (by decide) kk) ?_
      refine OwnMg.back (T90.setTop (mkF m 129 #[.val (.int p1), .val (.int p2), .val (.ref b1), .val (.int (1 : Int32)), .val (.int w_82)] [(.int (0 : Int32)), (.int r_91), (.int (1 : Int32))])) (fun tg kk => XS.iconst X90.here hx rfl (hb hby at_128) kk) ?_
      exact ⟨_, ⟨(0 : Int32), rfl, Or.inr (⟨hc102, rfl⟩)⟩, fun tg kk => kk⟩
  refine OwnGo.back (T90.setTop (mkF m 129 #[.val (.int p1), .val (.int p2), .val (.ref b1), .val (.int (1 : Int32)), .val (.int w_82)] [(.int m94), (.int r_91), (.int (1 : Int32))])) dm96 ?_
  refine OwnGo.back (T90.setTop (mkF m 132 #[.val (.int p1), .val (.int p2), .val (.ref b1), .val (.int (1 : Int32)), .val (.int w_82)] [(.int (1 : Int32))])) (fun tg kk => XS.icmpNo X90.here hx rfl (hb hby at_129) rfl (teq (by (simp only [true_and, and_true, false_and, and_false, or_false, false_or, or_true, true_or, not_true_eq_false, not_false_eq_true, eq_self, Int32.lt_iff_toInt_lt, Int32.le_iff_toInt_le, ← Int32.toInt_inj, Int32.reduceToInt, Int64.lt_iff_toInt_lt, Int64.le_iff_toInt_le, ← Int64.toInt_inj, Int64.reduceToInt] at hcs po36 po48 hm51 po70 hm73 po92 hm95 ⊢) <;> omega : r_91 = m94)).2 kk) ?_
  refine OwnGo.back (T90.setTop (mkF m 133 #[.val (.int p1), .val (.int p2), .val (.ref b1), .val (.int (1 : Int32)), .val (.int w_82)] [(.int (1 : Int32)), (.int (1 : Int32))])) (fun tg kk => XS.iconst X90.here hx rfl (hb hby at_132) kk) ?_
  refine OwnGo.back (T90.setTop (mkF m 137 #[.val (.int p1), .val (.int p2), .val (.ref b1), .val (.int (1 : Int32)), .val (.int w_82)] [(.int (1 : Int32)), (.int (1 : Int32))])) (fun tg kk => XS.goto X90.here hx rfl (pc0 := 133) (pc' := 137) rfl (hb hby at_133) (by decide) (by decide) kk) ?_
  refine OwnGo.back (T90.setTop (mkF m 138 #[.val (.int p1), .val (.int p2), .val (.ref b1), .val (.int (1 : Int32)), .val (.int w_82)] [(.int (1 : Int32))])) (fun tg kk => XS.iand X90.here hx rfl (hb hby at_137) rfl kk) ?_
  refine OwnGo.back (T90.setTop (mkF m 139 #[.val (.int p1), .val (.int p2), .val (.ref b1), .val (.int (1 : Int32)), .val (.int w_82)] [])) (fun tg kk => XS.istoreN X90.here hx rfl (hb hby at_138) rfl (l' := #[.val (.int p1), .val (.int p2), .val (.ref b1), .val (.int (1 : Int32)), .val (.int w_82)]) rfl kk) ?_
  refine OwnGo.back (T90.setTop (mkF m 140 #[.val (.int p1), .val (.int p2), .val (.ref b1), .val (.int (1 : Int32)), .val (.int w_82)] [(.ref b1)])) (fun tg kk => XS.aloadN X90.here hx rfl (hb hby at_139) rfl rfl kk) ?_
  refine OwnGo.back (T90.setTop (mkF m 141 #[.val (.int p1), .val (.int p2), .val (.ref b1), .val (.int (1 : Int32)), .val (.int w_82)] [(.int p1), (.ref b1)])) (fun tg kk => XS.iloadN X90.here hx rfl (hb hby at_140) rfl kk) ?_
  refine OwnGo.back (T90.setTop (mkF m 142 #[.val (.int p1), .val (.int p2), .val (.ref b1), .val (.int (1 : Int32)), .val (.int w_82)] [(.int (3 : Int32)), (.int p1), (.ref b1)])) (fun tg kk => XS.iconst X90.here hx rfl (hb hby at_141) kk) ?_
  refine OwnGo.back (T90.setTop (mkF m 143 #[.val (.int p1), .val (.int p2), .val (.ref b1), .val (.int (1 : Int32)), .val (.int w_82)] [(.int ((p1.toUInt32 >>> ((3 : Int32) &&& 31).toUInt32).toInt32)), (.ref b1)])) (fun tg kk => XS.iushr X90.here hx rfl (hb hby at_142) rfl kk) ?_
  refine OwnGo.back (T90.setTop (mkF m 145 #[.val (.int p1), .val (.int p2), .val (.ref b1), .val (.int (1 : Int32)), .val (.int w_82)] [(.int w_82), (.int ((p1.toUInt32 >>> ((3 : Int32) &&& 31).toUInt32).toInt32)), (.ref b1)])) (fun tg kk => XS.iload X90.here hx rfl (hb hby at_143) rfl kk) ?_
  obtain ⟨_, _, ⟨T103, L103, k103, n103⟩, -, X103, ⟨Lc103, hQ103, l103, y103, z103⟩, st103⟩ := Jvm.LawKit.callS X90 hx (y := (⟨"com/example/lucid_policy/lucidpolicy/parse/SymbolVisiblePinLaw", "step", "(Lcom/example/lucid_policy/lucidpolicy/parse/Symbol;II)I"⟩ : MethodName)) hown (mvT hZ (hw _ (List.mem_of_getElem? (i := 71) rfl))) (mvT hZ (hw _ (List.mem_of_getElem? (i := 72) rfl))) (mvT hZ (hw _ (List.mem_of_getElem? (i := 73) rfl))) (mvT hZ (hw _ (List.mem_of_getElem? (i := 74) rfl))) (by decide) (backOf (W := 0) (own_step l Z a0 hw [] b1 ((p1.toUInt32 >>> ((3 : Int32) &&& 31).toUInt32).toInt32) w_82 T81.heap n0 Z89 po83 po84 g2) hZ (hw _ (List.mem_of_getElem? (i := 74) rfl)) (hw _ (List.mem_of_getElem? (i := 73) rfl)) (by decide) (by decide)) (g := (mkF m 145 #[.val (.int p1), .val (.int p2), .val (.ref b1), .val (.int (1 : Int32)), .val (.int w_82)] [(.int w_82), (.int ((p1.toUInt32 >>> ((3 : Int32) &&& 31).toUInt32).toInt32)), (.ref b1)])) rfl (by rw [hml]; rfl) (argsL := [(.ref b1), (.int ((p1.toUInt32 >>> ((3 : Int32) &&& 31).toUInt32).toInt32)), (.int w_82)]) (rest := []) (lenOf own_pd8 rfl) rfl (by show 2 * 0 + _ ≤ _; exact Nat.le_of_eq rfl) (hb hby at_145) (fun _ _ => ⟨rfl, e90, (by decide : 7 + 0 ≤ _), (by decide : 19 + 0 ≤ _)⟩)
  dsimp only [Pt.U, Pt.locs, Pt.cells, Pt.slots] at X103 l103 y103 z103 st103 hQ103
  subst l103 y103 z103
  obtain ⟨w_104, rfl, N103q, Kc103, po105, po106⟩ := hQ103
  have N103 := Fr.app N90 N103q
  have f107 : Old Z n0 T103.heap := f85.keep Kc103 (allS g2 all0)
  have f108 : Exa Z T103.heap b1 "com/example/lucid_policy/lucidpolicy/parse/Symbol" := po83.keep Kc103
  have f109 : Exa Z T103.heap a_12 "java/lang/String" := f87.keep Kc103
  have K110 : Keep h0 T103.heap [] := K88.trans Kc103 (allS (Or.inr s3) all0)
  have Z111 : n0 ≤ T103.heap.size := Nat.le_trans Z89 Kc103.1
  refine OwnGo.back (T103.setTop (mkF m 148 #[.val (.int p1), .val (.int p2), .val (.ref b1), .val (.int (1 : Int32)), .val (.int w_82)] [(.int w_104)])) (fun tg kk => st103 _ kk) ?_
  refine OwnGo.back (T103.setTop (mkF m 150 #[.val (.int p1), .val (.int p2), .val (.ref b1), .val (.int (1 : Int32)), .val (.int w_104)] [])) (fun tg kk => XS.istore X103.here hx rfl (hb hby at_148) rfl (l' := #[.val (.int p1), .val (.int p2), .val (.ref b1), .val (.int (1 : Int32)), .val (.int w_104)]) rfl kk) ?_
  refine OwnGo.back (T103.setTop (mkF m 151 #[.val (.int p1), .val (.int p2), .val (.ref b1), .val (.int (1 : Int32)), .val (.int w_104)] [(.int (1 : Int32))])) (fun tg kk => XS.iloadN X103.here hx rfl (hb hby at_150) rfl kk) ?_
  refine OwnGo.back (T103.setTop (mkF m 152 #[.val (.int p1), .val (.int p2), .val (.ref b1), .val (.int (1 : Int32)), .val (.int w_104)] [(.ref b1), (.int (1 : Int32))])) (fun tg kk => XS.aloadN X103.here hx rfl (hb hby at_151) rfl rfl kk) ?_
  obtain ⟨cq112, kq112, q112a, q112b, q112c⟩ := isOf hZ rfl po105
  obtain ⟨_, _, ⟨T112, L112, k112, n112⟩, -, X112, ⟨Lc112, hQ112, l112, y112, z112⟩, st112⟩ := X103.virtualBack hx (y := (⟨"com/example/lucid_policy/lucidpolicy/parse/Symbol", "visible", "()Z"⟩ : MethodName)) (z := (⟨"com/example/lucid_policy/lucidpolicy/parse/Symbol", "visible", "()Z"⟩ : MethodName)) hown (mvT hZ (hw _ (List.mem_of_getElem? (i := 64) rfl))) (mvT hZ (hw _ (List.mem_of_getElem? (i := 65) rfl))) (notFace_of_selects (args := #[]) (mvT hZ (hw _ (List.mem_of_getElem? (i := 67) rfl)))) (mvT hZ (hw _ (List.mem_of_getElem? (i := 67) rfl))) (mvT hZ (hw _ (List.mem_of_getElem? (i := 66) rfl))) (by decide) (backOf (W := 1) (own_vis l Z a0 hw [] b1 w_104 T103.heap n0 Z111 po106) hZ (hw _ (List.mem_of_getElem? (i := 68) rfl)) (hw _ (List.mem_of_getElem? (i := 2) rfl)) (by decide) (by decide)) q112a q112c (g := (mkF m 152 #[.val (.int p1), .val (.int p2), .val (.ref b1), .val (.int (1 : Int32)), .val (.int w_104)] [(.ref b1), (.int (1 : Int32))])) rfl (by rw [hml]; rfl) (Steps.refl _) (argsL := []) (rest := [(.int (1 : Int32))]) (lenOf own_pd7 rfl) rfl (by show 2 * 0 + _ ≤ _; exact Nat.le_of_eq rfl) (hb hby at_152) (fun _ _ => ⟨rfl, rfl, (by decide : 7 + 0 ≤ _), (by decide : 19 + 0 ≤ _)⟩)
  dsimp only [Pt.U, Pt.locs, Pt.cells, Pt.slots] at X112 l112 y112 z112 st112 hQ112
  subst l112 y112 z112
  obtain ⟨r_113, rfl, N112q, e112, po114⟩ := hQ112
  have N112 := Fr.app N103 N112q
  refine OwnGo.back (T112.setTop (mkF m 155 #[.val (.int p1), .val (.int p2), .val (.ref b1), .val (.int (1 : Int32)), .val (.int w_104)] [(.int r_113), (.int (1 : Int32))])) (fun tg kk => st112.trans kk) ?_
  obtain ⟨_, ⟨m116, rfl, hm117⟩, dm118⟩ : OwnMg p.tables e below (fun st' => ∃ (m116 : Int32), st' = T112.setTop (mkF m 165 #[.val (.int p1), .val (.int p2), .val (.ref b1), .val (.int (1 : Int32)), .val (.int w_104)] [(.int m116), (.int r_113), (.int (1 : Int32))]) ∧ ((((0 : Int32) < w_104) ∧ m116 = (1 : Int32)) ∨ ((¬ ((0 : Int32) < w_104)) ∧ m116 = (0 : Int32)))) (T112.setTop (mkF m 155 #[.val (.int p1), .val (.int p2), .val (.ref b1), .val (.int (1 : Int32)), .val (.int w_104)] [(.int r_113), (.int (1 : Int32))])) := by
    refine OwnMg.back (T112.setTop (mkF m 157 #[.val (.int p1), .val (.int p2), .val (.ref b1), .val (.int (1 : Int32)), .val (.int w_104)] [(.int w_104), (.int r_113), (.int (1 : Int32))])) (fun tg kk => XS.iload X112.here hx rfl (hb hby at_155) rfl kk) ?_
    by_cases hc124 : (0 : Int32) < w_104
    ·
      refine OwnMg.back (T112.setTop (mkF m 160 #[.val (.int p1), .val (.int p2), .val (.ref b1), .val (.int (1 : Int32)), .val (.int w_104)] [(.int r_113), (.int (1 : Int32))])) (fun tg kk => XS.ifNo X112.here hx rfl (hb hby at_157) rfl ((if0 _ _).trans (tlt hc124).2.2.2) kk) ?_
      refine OwnMg.back (T112.setTop (mkF m 161 #[.val (.int p1), .val (.int p2), .val (.ref b1), .val (.int (1 : Int32)), .val (.int w_104)] [(.int (1 : Int32)), (.int r_113), (.int (1 : Int32))])) (fun tg kk => XS.iconst X112.here hx rfl (hb hby at_160) kk) ?_
      refine OwnMg.back (T112.setTop (mkF m 165 #[.val (.int p1), .val (.int p2), .val (.ref b1), .val (.int (1 : Int32)), .val (.int w_104)] [(.int (1 : Int32)), (.int r_113), (.int (1 : Int32))])) (fun tg kk => XS.goto X112.here hx rfl (pc0 := 161) (pc' := 165) rfl (hb hby at_161) (by decide) (by decide) kk) ?_
      exact ⟨_, ⟨(1 : Int32), rfl, Or.inl ⟨hc124, rfl⟩⟩, fun tg kk => kk⟩
    ·
      refine OwnMg.back (T112.setTop (mkF m 164 #[.val (.int p1), .val (.int p2), .val (.ref b1), .val (.int (1 : Int32)), .val (.int w_104)] [(.int r_113), (.int (1 : Int32))])) (fun tg kk => XS.ifYes X112.here hx rfl (pc0 := 157) (pc' := 164) rfl (hb hby at_157) rfl ((if0 _ _).trans (flt hc124).2.2.2) (by decide) (by decide) kk) ?_
      refine OwnMg.back (T112.setTop (mkF m 165 #[.val (.int p1), .val (.int p2), .val (.ref b1), .val (.int (1 : Int32)), .val (.int w_104)] [(.int (0 : Int32)), (.int r_113), (.int (1 : Int32))])) (fun tg kk => XS.iconst X112.here hx rfl (hb hby at_164) kk) ?_
      exact ⟨_, ⟨(0 : Int32), rfl, Or.inr (⟨hc124, rfl⟩)⟩, fun tg kk => kk⟩
  refine OwnGo.back (T112.setTop (mkF m 165 #[.val (.int p1), .val (.int p2), .val (.ref b1), .val (.int (1 : Int32)), .val (.int w_104)] [(.int m116), (.int r_113), (.int (1 : Int32))])) dm118 ?_
  refine OwnGo.back (T112.setTop (mkF m 168 #[.val (.int p1), .val (.int p2), .val (.ref b1), .val (.int (1 : Int32)), .val (.int w_104)] [(.int (1 : Int32))])) (fun tg kk => XS.icmpNo X112.here hx rfl (hb hby at_165) rfl (teq (by (simp only [true_and, and_true, false_and, and_false, or_false, false_or, or_true, true_or, not_true_eq_false, not_false_eq_true, eq_self, Int32.lt_iff_toInt_lt, Int32.le_iff_toInt_le, ← Int32.toInt_inj, Int32.reduceToInt, Int64.lt_iff_toInt_lt, Int64.le_iff_toInt_le, ← Int64.toInt_inj, Int64.reduceToInt] at hcs po36 po48 hm51 po70 hm73 po92 hm95 po114 hm117 ⊢) <;> omega : r_113 = m116)).2 kk) ?_
  refine OwnGo.back (T112.setTop (mkF m 169 #[.val (.int p1), .val (.int p2), .val (.ref b1), .val (.int (1 : Int32)), .val (.int w_104)] [(.int (1 : Int32)), (.int (1 : Int32))])) (fun tg kk => XS.iconst X112.here hx rfl (hb hby at_168) kk) ?_
  refine OwnGo.back (T112.setTop (mkF m 173 #[.val (.int p1), .val (.int p2), .val (.ref b1), .val (.int (1 : Int32)), .val (.int w_104)] [(.int (1 : Int32)), (.int (1 : Int32))])) (fun tg kk => XS.goto X112.here hx rfl (pc0 := 169) (pc' := 173) rfl (hb hby at_169) (by decide) (by decide) kk) ?_
  refine OwnGo.back (T112.setTop (mkF m 174 #[.val (.int p1), .val (.int p2), .val (.ref b1), .val (.int (1 : Int32)), .val (.int w_104)] [(.int (1 : Int32))])) (fun tg kk => XS.iand X112.here hx rfl (hb hby at_173) rfl kk) ?_
  refine OwnGo.back (T112.setTop (mkF m 175 #[.val (.int p1), .val (.int p2), .val (.ref b1), .val (.int (1 : Int32)), .val (.int w_104)] [])) (fun tg kk => XS.istoreN X112.here hx rfl (hb hby at_174) rfl (l' := #[.val (.int p1), .val (.int p2), .val (.ref b1), .val (.int (1 : Int32)), .val (.int w_104)]) rfl kk) ?_
  refine OwnGo.back (T112.setTop (mkF m 176 #[.val (.int p1), .val (.int p2), .val (.ref b1), .val (.int (1 : Int32)), .val (.int w_104)] [(.int (1 : Int32))])) (fun tg kk => XS.iloadN X112.here hx rfl (hb hby at_175) rfl kk) ?_
  obtain ⟨fs, hr, hrun, hended, hW, hsame⟩ := X112.leave (v := some (.int (1 : Int32))) (fun h => by rw [Bd.returns] at h; cases h)
  refine ⟨_, _, ?_, hrun, hended, _, _, rfl, ?_, ⟨_, rfl⟩, hW, hsame.mono (by decide) (by decide)⟩
  · exact retN X112 hx (t := .boolean) Bd.returns (by simp) (hb hby at_176) hr
  · show own_law_Q Z p1 p2 cs h0 n0 _ T112.heap _
    rw [e112]
    exact ⟨rfl, N112, K110⟩
set_option maxRecDepth 65536 in
set_option maxHeartbeats 40000000 in
theorem comes_1 {Post : Tables → Env → Array Value → State → Outcome → State → Prop} (hpost : ∀ tb e args s v u, (limb_1_1.after args s (.returned v) u = true ∧ limb_1_2.after args s (.returned v) u = true ∧ True) → FrameEnd s (.returned v) u (Jvm.fieldLocs frame_1_writes args s ++ Jvm.arrayLocs frame_1_arrays args s ++ Jvm.staticLocs frame_1_statics s) 24 128 → Post tb e args s (.returned v) u) :
    ArmFor flags0 classFile x code maxLocals ret World_1 tables_1 room_1 Calls_1 rest_1 Pre_1 Post := by
  intro l hfl _ _ p e ha hc hk s m args below hf hA hF happ hP
  obtain ⟨hcalls, hrest, hpre⟩ := hP
  obtain ⟨-, -, -, hnamed, -, -, -, hat⟩ := (Spec.applies_iff hf).mp happ
  obtain ⟨hg, hn⟩ := and_e (Cond.before_iff.mp (show (Jvm.Cond.and given_1 narrow_1).before args s = true from hpre))
  obtain ⟨hg0, hg⟩ := and_e hg
  obtain ⟨hg1, hg⟩ := and_e hg
  obtain ⟨w0, w1, rfl⟩ : ∃ w0 w1 : Value, args = #[w0, w1] := by
    have hs : args.size = 2 := by simpa [Cond.value, given_1] using hg0
    obtain ⟨L⟩ := args
    match L, hs with
    | [w0, w1], _ => exact ⟨w0, w1, rfl⟩
  have hw := fun d (hd : d ∈ tables_1) => atoms_spec (ws := Jvm.Cond.code x code maxLocals ret :: tables_1) hat d (List.mem_cons_of_mem _ hd)
  have hfit : Fit s := fun {y c} hc i hi => by
    obtain ⟨ha, rfl⟩ := Array.getElem?_eq_some_iff.mp hc
    have q := List.all_eq_true.mp ((Array.all_eq_true_iff_forall_mem.mp hF) _ (Array.getElem_mem ha)) i (List.mem_range.mpr hi)
    simpa [Array.getElem?_eq_getElem hi] using q
  obtain ⟨i0, ei0⟩ := is_v hg1
  obtain rfl : w0 = (.int i0) := Option.some.inj ei0
  obtain ⟨i1, ei1⟩ := is_v hg
  obtain rfl : w1 = (.int i1) := Option.some.inj ei1
  obtain ⟨hsets, hown0⟩ := atoms_of _ (rest_1_c_eq ▸ (show rest_1_c.before _ s = true from hrest))
  obtain ⟨cs, ecs⟩ := is_v (Cond.before_iff.mp (hsets _ (List.mem_of_getElem? (i := 1) rfl)))
  have S8 : Sta s s.heap "java/lang/String" "COMPACT_STRINGS" "Z" (.int cs) := Sta.start ecs (Or.inl (hsets _ (List.mem_of_getElem? (i := 0) rfl)))
  have n3 := not_v (Cond.before_iff.mp (hsets _ (List.mem_of_getElem? (i := 2) rfl)))
  have hcs : ¬ cs = 0 := gotF (Cond.eq_ints ecs (Term.int_eval (0))) n3
  obtain ⟨n, o, h1, h2, h3, _, L, rfl, ⟨rfl, N, -⟩, hq⟩ := own_law l s _ hw tables_1 i0 i1 cs s.heap s.heap.size (Nat.le_refl _) S8 (Old.start s) hcs p e ha hc hk s m _ below hf ((Spec.applies_iff_loose hf).mp happ).1 ⟨rfl, State.Warmed39.refl s, rfl⟩ trivial
  refine ⟨n, _, h1, h2, h3, hpost _ _ _ _ _ _ ⟨Cond.after_iff.mpr rfl, Cond.after_iff.mpr (eq_i res_at (Term.int_eval (1)) rfl), trivial⟩ ⟨hq.1, hq.2.1, (hq.2.2.sift fun y hy => Or.inr (N y hy)).mono (by decide) (by decide)⟩⟩
theorem main_1_1 : Claimed_1_1 := comes_1 fun _ _ _ _ _ _ h hF => ⟨h.1, hF⟩
theorem main_1_2 : Claimed_1_2 := comes_1 fun _ _ _ _ _ _ h hF => ⟨h.2.1, hF⟩
end Jvm.Pilot.@@N@@
namespace Jvm.Pilot.@@N@@
open Jvm Jvm.ClassFile Sem Op Lib Jvm.Free Jvm.Stand Jvm.Pilot.@@N@@.Jvm.D
/-! MADE BY PROGRAM (witnessworld.py) out of the Statement's table words and the real class files: 26 classes; the members and pool entries that the words name. The judged class is class 1, her method 2. -/
namespace start1
open Jvm.ClassFile
def u (s : String) : CpInfo := .utf8 (stringToUtf16 s)
/-- a pool by its gaps: so many unusable entries, then the entry; so many at the end -/
def gap : Nat → List CpInfo → List CpInfo
  | 0, r => r
  | n + 1, r => .unusable :: gap n r
def poolList (es : List (Nat × CpInfo)) (last : Nat) : List CpInfo := es.foldr (fun e r => gap e.1 (e.2 :: r)) (gap last [])
def pool (es : List (Nat × CpInfo)) (last : Nat) : Array CpInfo := ⟨poolList es last⟩
def fileOf (pool : Array CpInfo) (this : Nat) (attrs : Array Attribute := #[]) (ms : Array MethodInfo := #[]) (fl : Nat := 33) (sup : Nat := 0) (ifs : Array Nat := #[]) (fds : Array FieldInfo := #[]) : ClassFile where
  minorVersion := 0
  majorVersion := 65
  constantPool := pool
  accessFlags := fl
  thisClass := this
  superClass := sup
  interfaces := ifs
  fields := fds
  methods := ms
  attributes := attrs
def plain (name : String) (sup : Option ClassId) : Class where
  name := name
  kind := .ordinary
  loader := none
  accessFlags := 33
  super := sup
  interfaces := #[]
  cf := none
  fields := #[]
  methods := #[]
  instanceTypes := #[]
  staticTypes := #[]
  resolved := #[]
  callSites := []
  init := .initialized
  statics := none
  mirror := none

def pool0 : Array CpInfo := pool [(5, u "<init>"), (0, u "()V"), (1, .class_ 10), (1, u "java/lang/Object")] 113

def k0c0 : Code := { maxStack := 0, maxLocals := 1, code := object_method_1_code, exceptionTable := #[], attributes := #[] }
def k0m0 : Method := { name := "<init>", desc := "()V", sig := { parameters := [], returnType := none }, accessFlags := 1, code := some k0c0 }
/-- java/lang/Object -/
def k0 : Class := { plain "java/lang/Object" none with
  accessFlags := 33
  interfaces := #[]
  cf := some (fileOf pool0 8 #[] #[{ accessFlags := 1, nameIndex := 5, descriptorIndex := 6, attributes := #[] }] 33 0 #[] #[])
  fields := #[]
  methods := #[k0m0]
  instanceTypes := #[]
  staticTypes := #[]
  resolved := Array.replicate 124 none
  statics := none }

def pool1 : Array CpInfo := pool [(2, .class_ 4), (1, u "java/lang/Object"), (0, u "<init>"), (0, u "()V"), (0, .methodref 8 9), (0, .class_ 10), (0, .nameAndType 11 6), (0, u "com/example/lucid_policy/lucidpolicy/parse/Symbol"), (0, u "show"), (0, .methodref 8 13), (0, .nameAndType 14 6), (0, u "hide"), (0, .methodref 16 17), (0, .class_ 18), (0, .nameAndType 19 20), (0, u "java/lang/String"), (0, u "valueOf"), (0, u "(C)Ljava/lang/String;"), (0, .methodref 8 22), (0, .nameAndType 5 23), (0, u "(Ljava/lang/String;)V"), (0, .methodref 8 25), (0, .nameAndType 26 27), (0, u "visible"), (0, u "()Z"), (0, .methodref 29 30), (0, .class_ 31), (0, .nameAndType 32 33), (0, u "com/example/lucid_policy/lucidpolicy/parse/SymbolVisiblePinLaw"), (0, u "step"), (0, u "(Lcom/example/lucid_policy/lucidpolicy/parse/Symbol;II)I"), (3, u "law"), (0, u "(II)Z")] 2

def k1m0 : Method := { name := "<init>", desc := "()V", sig := { parameters := [], returnType := none }, accessFlags := 2, code := none }
def k1c1 : Code := { maxStack := 2, maxLocals := 3, code := method_2_code, exceptionTable := #[], attributes := #[] }
def k1m1 : Method := { name := "step", desc := "(Lcom/example/lucid_policy/lucidpolicy/parse/Symbol;II)I", sig := { parameters := [(.object "com/example/lucid_policy/lucidpolicy/parse/Symbol"), .int, .int], returnType := some .int }, accessFlags := 10, code := some k1c1 }
def k1c2 : Code := { maxStack := 4, maxLocals := 5, code := code, exceptionTable := #[], attributes := #[] }
def k1m2 : Method := { name := "law", desc := "(II)Z", sig := { parameters := [.int, .int], returnType := some .boolean }, accessFlags := 9, code := some k1c2 }
/-- com/example/lucid_policy/lucidpolicy/parse/SymbolVisiblePinLaw -/
def k1 : Class := { plain "com/example/lucid_policy/lucidpolicy/parse/SymbolVisiblePinLaw" (some 0) with
  accessFlags := 49
  interfaces := #[]
  cf := some (fileOf pool1 29 #[] #[{ accessFlags := 2, nameIndex := 5, descriptorIndex := 6, attributes := #[] }, { accessFlags := 10, nameIndex := 32, descriptorIndex := 33, attributes := #[] }, { accessFlags := 9, nameIndex := 37, descriptorIndex := 38, attributes := #[] }] 49 2 #[] #[])
  fields := #[]
  methods := #[k1m0, k1m1, k1m2]
  instanceTypes := #[]
  staticTypes := #[]
  resolved := Array.replicate 41 none
  statics := none }

def pool2 : Array CpInfo := pool [(1, .methodref 2 3), (0, .class_ 4), (0, .nameAndType 5 6), (0, u "java/lang/Object"), (0, u "<init>"), (0, u "()V"), (0, .class_ 8), (0, u "java/util/ArrayList"), (0, .methodref 7 10), (0, .nameAndType 5 11), (0, u "(I)V"), (0, .fieldref 13 14), (0, .class_ 15), (0, .nameAndType 16 17), (0, u "com/example/lucid_policy/lucidpolicy/parse/Symbol"), (0, u "declaredIn"), (0, u "Ljava/util/List;"), (0, .fieldref 13 19), (0, .nameAndType 20 17), (0, u "requiredIn"), (0, .fieldref 13 22), (0, .nameAndType 23 24), (0, u "name"), (0, u "Ljava/lang/String;"), (2, u "kind"), (0, u "Lcom/example/lucid_policy/lucidpolicy/parse/SymbolKind;"), (2, u "location"), (0, u "Lcom/example/lucid_policy/lucidpolicy/model/SourceLocation;"), (15, u "()Z"), (21, .fieldref 13 71), (0, .nameAndType 72 73), (0, u "visible"), (0, u "I"), (2, u "(Ljava/lang/String;)V"), (17, u "show"), (0, u "hide")] 4

def k2c0 : Code := { maxStack := 4, maxLocals := 2, code := prog_160_method_1_code, exceptionTable := #[], attributes := #[] }
def k2m0 : Method := { name := "<init>", desc := "(Ljava/lang/String;)V", sig := { parameters := [(.object "java/lang/String")], returnType := none }, accessFlags := 0, code := some k2c0 }
def k2c1 : Code := { maxStack := 3, maxLocals := 1, code := prog_160_method_13_code, exceptionTable := #[], attributes := #[] }
def k2m1 : Method := { name := "show", desc := "()V", sig := { parameters := [], returnType := none }, accessFlags := 0, code := some k2c1 }
def k2c2 : Code := { maxStack := 3, maxLocals := 1, code := prog_160_method_14_code, exceptionTable := #[], attributes := #[] }
def k2m2 : Method := { name := "hide", desc := "()V", sig := { parameters := [], returnType := none }, accessFlags := 0, code := some k2c2 }
def k2c3 : Code := { maxStack := 1, maxLocals := 1, code := prog_160_method_15_code, exceptionTable := #[], attributes := #[] }
def k2m3 : Method := { name := "visible", desc := "()Z", sig := { parameters := [], returnType := some .boolean }, accessFlags := 0, code := some k2c3 }
/-- com/example/lucid_policy/lucidpolicy/parse/Symbol -/
def k2 : Class := { plain "com/example/lucid_policy/lucidpolicy/parse/Symbol" (some 0) with
  accessFlags := 32
  interfaces := #[]
  cf := some (fileOf pool2 13 #[] #[{ accessFlags := 0, nameIndex := 5, descriptorIndex := 76, attributes := #[] }, { accessFlags := 0, nameIndex := 94, descriptorIndex := 6, attributes := #[] }, { accessFlags := 0, nameIndex := 95, descriptorIndex := 6, attributes := #[] }, { accessFlags := 0, nameIndex := 72, descriptorIndex := 48, attributes := #[] }] 32 2 #[] #[{ accessFlags := 18, nameIndex := 23, descriptorIndex := 24, attributes := #[] }, { accessFlags := 2, nameIndex := 27, descriptorIndex := 28, attributes := #[] }, { accessFlags := 2, nameIndex := 31, descriptorIndex := 32, attributes := #[] }, { accessFlags := 18, nameIndex := 16, descriptorIndex := 17, attributes := #[] }, { accessFlags := 18, nameIndex := 20, descriptorIndex := 17, attributes := #[] }, { accessFlags := 2, nameIndex := 72, descriptorIndex := 73, attributes := #[] }])
  fields := #[{ name := "name", type := (.object "java/lang/String"), accessFlags := 18, slot := 0, constantValue := 0 }, { name := "kind", type := (.object "com/example/lucid_policy/lucidpolicy/parse/SymbolKind"), accessFlags := 2, slot := 1, constantValue := 0 }, { name := "location", type := (.object "com/example/lucid_policy/lucidpolicy/model/SourceLocation"), accessFlags := 2, slot := 2, constantValue := 0 }, { name := "declaredIn", type := (.object "java/util/List"), accessFlags := 18, slot := 3, constantValue := 0 }, { name := "requiredIn", type := (.object "java/util/List"), accessFlags := 18, slot := 4, constantValue := 0 }, { name := "visible", type := .int, accessFlags := 2, slot := 5, constantValue := 0 }]
  methods := #[k2m0, k2m1, k2m2, k2m3]
  instanceTypes := #[(.object "java/lang/String"), (.object "com/example/lucid_policy/lucidpolicy/parse/SymbolKind"), (.object "com/example/lucid_policy/lucidpolicy/model/SourceLocation"), (.object "java/util/List"), (.object "java/util/List"), .int]
  staticTypes := #[]
  resolved := Array.replicate 100 none
  statics := none }

def pool3 : Array CpInfo := pool [(1, .class_ 2), (0, u "java/io/Serializable"), (0, .class_ 4), (0, u "java/lang/Object")] 2

/-- java/io/Serializable -/
def k3 : Class := { plain "java/io/Serializable" (some 0) with
  accessFlags := 1537
  interfaces := #[]
  cf := some (fileOf pool3 1 #[] #[] 1537 3 #[] #[])
  fields := #[]
  methods := #[]
  instanceTypes := #[]
  staticTypes := #[]
  resolved := Array.replicate 7 none
  statics := none }

def pool4 : Array CpInfo := pool [(1, .class_ 2), (0, u "java/lang/Comparable"), (0, .class_ 4), (0, u "java/lang/Object")] 7

/-- java/lang/Comparable -/
def k4 : Class := { plain "java/lang/Comparable" (some 0) with
  accessFlags := 1537
  interfaces := #[]
  cf := some (fileOf pool4 1 #[] #[] 1537 3 #[] #[])
  fields := #[]
  methods := #[]
  instanceTypes := #[]
  staticTypes := #[]
  resolved := Array.replicate 12 none
  statics := none }

def pool5 : Array CpInfo := pool [(2, .class_ 4), (1, u "java/lang/CharSequence"), (42, .class_ 48), (0, u "java/lang/CharSequence$1CodePointIterator"), (10, .class_ 60), (0, u "java/lang/CharSequence$1CharIterator"), (5, .class_ 67), (0, u "java/lang/Object")] 63

/-- java/lang/CharSequence -/
def k5 : Class := { plain "java/lang/CharSequence" (some 0) with
  accessFlags := 1537
  interfaces := #[]
  cf := some (fileOf pool5 2 #[.nestMembers #[47, 59]] #[] 1537 66 #[] #[])
  fields := #[]
  methods := #[]
  instanceTypes := #[]
  staticTypes := #[]
  resolved := Array.replicate 131 none
  statics := none }

def pool6 : Array CpInfo := pool [(1, .class_ 2), (0, u "java/lang/constant/Constable"), (0, .class_ 4), (0, u "java/lang/Object")] 6

/-- java/lang/constant/Constable -/
def k6 : Class := { plain "java/lang/constant/Constable" (some 0) with
  accessFlags := 1537
  interfaces := #[]
  cf := some (fileOf pool6 1 #[] #[] 1537 3 #[] #[])
  fields := #[]
  methods := #[]
  instanceTypes := #[]
  staticTypes := #[]
  resolved := Array.replicate 11 none
  statics := none }

def pool7 : Array CpInfo := pool [(1, .class_ 2), (0, u "java/lang/constant/ConstantDesc"), (0, .class_ 4), (0, u "java/lang/Object")] 32

/-- java/lang/constant/ConstantDesc -/
def k7 : Class := { plain "java/lang/constant/ConstantDesc" (some 0) with
  accessFlags := 1537
  interfaces := #[]
  cf := some (fileOf pool7 1 #[] #[] 1537 3 #[] #[])
  fields := #[]
  methods := #[]
  instanceTypes := #[]
  staticTypes := #[]
  resolved := Array.replicate 37 none
  statics := none }

def pool8 : Array CpInfo := pool [(1, .methodref 2 3), (0, .class_ 4), (0, .nameAndType 5 6), (0, u "java/lang/Object"), (0, u "<init>"), (0, u "()V"), (2, .fieldref 10 11), (0, .class_ 12), (0, .nameAndType 13 14), (0, u "java/lang/String"), (0, u "value"), (0, u "[B"), (0, .fieldref 10 16), (0, .nameAndType 17 18), (0, u "coder"), (0, u "B"), (2, u "hash"), (0, u "I"), (2, u "hashIsZero"), (0, u "Z"), (11, .fieldref 10 39), (0, .nameAndType 40 26), (0, u "COMPACT_STRINGS"), (12, u "toBytes"), (53, .class_ 109), (1, u "java/lang/StringLatin1"), (99, .methodref 10 210), (0, .nameAndType 5 211), (0, u "([BB)V"), (157, u "(C)Z"), (205, .class_ 576), (0, u "java/lang/CharSequence"), (22, u "CASE_INSENSITIVE_ORDER"), (0, u "Ljava/util/Comparator;"), (181, u "valueOf"), (0, u "(C)Ljava/lang/String;"), (231, .methodref 107 1016), (0, .nameAndType 1017 369), (0, u "canEncode"), (0, .methodref 107 1019), (0, .nameAndType 53 1020), (0, u "(C)[B"), (80, u "serialPersistentFields"), (0, u "[Ljava/io/ObjectStreamField;"), (0, .class_ 1104), (0, u "java/lang/String$CaseInsensitiveComparator"), (1, .class_ 1107), (0, u "java/io/Serializable"), (0, .class_ 1109), (0, u "java/lang/Comparable"), (0, .class_ 1111), (0, u "java/lang/constant/Constable"), (0, .class_ 1113), (0, u "java/lang/constant/ConstantDesc"), (2, u "serialVersionUID"), (0, u "J"), (3, u "REPL"), (0, u "C"), (2, u "LATIN1"), (1, u "UTF16")] 323

def k8m0 : Method := { name := "<init>", desc := "()V", sig := { parameters := [], returnType := none }, accessFlags := 1, code := none }
def k8c1 : Code := { maxStack := 4, maxLocals := 1, code := jdk_42_method_139_code, exceptionTable := #[], attributes := #[] }
def k8m1 : Method := { name := "valueOf", desc := "(C)Ljava/lang/String;", sig := { parameters := [.char], returnType := some (.object "java/lang/String") }, accessFlags := 9, code := some k8c1 }
def k8c2 : Code := { maxStack := 2, maxLocals := 3, code := jdk_42_method_151_code, exceptionTable := #[], attributes := #[] }
def k8m2 : Method := { name := "<init>", desc := "([BB)V", sig := { parameters := [(.array .byte), .byte], returnType := none }, accessFlags := 0, code := some k8c2 }
/-- java/lang/String -/
def k8 : Class := { plain "java/lang/String" (some 0) with
  accessFlags := 49
  interfaces := #[3, 4, 5, 6, 7]
  cf := some (fileOf pool8 10 #[.nestMembers #[1103]] #[{ accessFlags := 1, nameIndex := 5, descriptorIndex := 6, attributes := #[] }, { accessFlags := 9, nameIndex := 782, descriptorIndex := 783, attributes := #[] }, { accessFlags := 0, nameIndex := 5, descriptorIndex := 211, attributes := #[] }] 49 2 #[1106, 1108, 575, 1110, 1112] #[{ accessFlags := 18, nameIndex := 13, descriptorIndex := 14, attributes := #[] }, { accessFlags := 18, nameIndex := 17, descriptorIndex := 18, attributes := #[] }, { accessFlags := 2, nameIndex := 21, descriptorIndex := 22, attributes := #[] }, { accessFlags := 2, nameIndex := 25, descriptorIndex := 26, attributes := #[] }, { accessFlags := 26, nameIndex := 1116, descriptorIndex := 1117, attributes := #[] }, { accessFlags := 24, nameIndex := 40, descriptorIndex := 26, attributes := #[] }, { accessFlags := 26, nameIndex := 1101, descriptorIndex := 1102, attributes := #[] }, { accessFlags := 26, nameIndex := 1121, descriptorIndex := 1122, attributes := #[] }, { accessFlags := 25, nameIndex := 599, descriptorIndex := 600, attributes := #[] }, { accessFlags := 24, nameIndex := 1125, descriptorIndex := 18, attributes := #[] }, { accessFlags := 24, nameIndex := 1127, descriptorIndex := 18, attributes := #[] }])
  fields := #[{ name := "value", type := (.array .byte), accessFlags := 18, slot := 0, constantValue := 0 }, { name := "coder", type := .byte, accessFlags := 18, slot := 1, constantValue := 0 }, { name := "hash", type := .int, accessFlags := 2, slot := 2, constantValue := 0 }, { name := "hashIsZero", type := .boolean, accessFlags := 2, slot := 3, constantValue := 0 }, { name := "serialVersionUID", type := .long, accessFlags := 26, slot := 0, constantValue := 0 }, { name := "COMPACT_STRINGS", type := .boolean, accessFlags := 24, slot := 1, constantValue := 0 }, { name := "serialPersistentFields", type := (.array (.object "java/io/ObjectStreamField")), accessFlags := 26, slot := 2, constantValue := 0 }, { name := "REPL", type := .char, accessFlags := 26, slot := 3, constantValue := 0 }, { name := "CASE_INSENSITIVE_ORDER", type := (.object "java/util/Comparator"), accessFlags := 25, slot := 4, constantValue := 0 }, { name := "LATIN1", type := .byte, accessFlags := 24, slot := 5, constantValue := 0 }, { name := "UTF16", type := .byte, accessFlags := 24, slot := 6, constantValue := 0 }]
  methods := #[k8m0, k8m1, k8m2]
  instanceTypes := #[(.array .byte), .byte, .int, .boolean]
  staticTypes := #[.long, .boolean, (.array (.object "java/io/ObjectStreamField")), .char, (.object "java/util/Comparator"), .byte, .byte]
  resolved := Array.replicate 1451 none
  statics := some 0 }

def pool9 : Array CpInfo := pool [(4, .class_ 6), (1, u "java/lang/Object"), (0, u "<init>"), (0, u "()V"), (5, .class_ 16), (1, u "java/lang/StringLatin1"), (73, u "canEncode"), (14, u "(C)Z"), (15, u "$assertionsDisabled"), (0, u "Z"), (98, .class_ 223), (1, u "java/lang/StringLatin1$LinesSpliterator"), (156, u "toBytes"), (1, u "(C)[B"), (7, .class_ 391), (0, u "java/lang/StringLatin1$CharsSpliterator")] 3

def k9m0 : Method := { name := "<init>", desc := "()V", sig := { parameters := [], returnType := none }, accessFlags := 0, code := none }
def k9c1 : Code := { maxStack := 2, maxLocals := 1, code := jdk_43_method_3_code, exceptionTable := #[], attributes := #[] }
def k9m1 : Method := { name := "canEncode", desc := "(C)Z", sig := { parameters := [.char], returnType := some .boolean }, accessFlags := 9, code := some k9c1 }
def k9c2 : Code := { maxStack := 4, maxLocals := 1, code := jdk_43_method_46_code, exceptionTable := #[], attributes := #[] }
def k9m2 : Method := { name := "toBytes", desc := "(C)[B", sig := { parameters := [.char], returnType := some (.array .byte) }, accessFlags := 9, code := some k9c2 }
/-- java/lang/StringLatin1 -/
def k9 : Class := { plain "java/lang/StringLatin1" (some 0) with
  accessFlags := 48
  interfaces := #[]
  cf := some (fileOf pool9 14 #[.nestMembers #[390, 221]] #[{ accessFlags := 0, nameIndex := 7, descriptorIndex := 8, attributes := #[] }, { accessFlags := 9, nameIndex := 90, descriptorIndex := 105, attributes := #[] }, { accessFlags := 9, nameIndex := 380, descriptorIndex := 382, attributes := #[] }] 48 4 #[] #[{ accessFlags := 4120, nameIndex := 121, descriptorIndex := 122, attributes := #[] }])
  fields := #[{ name := "$assertionsDisabled", type := .boolean, accessFlags := 4120, slot := 0, constantValue := 0 }]
  methods := #[k9m0, k9m1, k9m2]
  instanceTypes := #[]
  staticTypes := #[.boolean]
  resolved := Array.replicate 395 none
  statics := none }

def pool10 : Array CpInfo := pool [(8, .class_ 10), (1, u "java/lang/Iterable"), (24, .class_ 36), (0, u "java/lang/Object")] 25

/-- java/lang/Iterable -/
def k10 : Class := { plain "java/lang/Iterable" (some 0) with
  accessFlags := 1537
  interfaces := #[]
  cf := some (fileOf pool10 8 #[] #[] 1537 35 #[] #[])
  fields := #[]
  methods := #[]
  instanceTypes := #[]
  staticTypes := #[]
  resolved := Array.replicate 62 none
  statics := none }

def pool11 : Array CpInfo := pool [(10, .class_ 12), (1, u "java/util/Collection"), (47, .class_ 61), (0, u "java/lang/Object"), (0, .class_ 63), (0, u "java/lang/Iterable")] 51

/-- java/util/Collection -/
def k11 : Class := { plain "java/util/Collection" (some 0) with
  accessFlags := 1537
  interfaces := #[10]
  cf := some (fileOf pool11 10 #[] #[] 1537 60 #[62] #[])
  fields := #[]
  methods := #[]
  instanceTypes := #[]
  staticTypes := #[]
  resolved := Array.replicate 115 none
  statics := none }

def pool12 : Array CpInfo := pool [(1, .methodref 2 3), (0, .class_ 4), (0, .nameAndType 5 6), (0, u "java/lang/Object"), (0, u "<init>"), (0, u "()V"), (1, .class_ 10), (1, u "java/util/AbstractCollection"), (66, .class_ 78), (0, u "java/util/Collection")] 81

def k12c0 : Code := { maxStack := 1, maxLocals := 1, code := jdk_22_method_1_code, exceptionTable := #[], attributes := #[] }
def k12m0 : Method := { name := "<init>", desc := "()V", sig := { parameters := [], returnType := none }, accessFlags := 4, code := some k12c0 }
/-- java/util/AbstractCollection -/
def k12 : Class := { plain "java/util/AbstractCollection" (some 0) with
  accessFlags := 1057
  interfaces := #[11]
  cf := some (fileOf pool12 8 #[] #[{ accessFlags := 4, nameIndex := 5, descriptorIndex := 6, attributes := #[] }] 1057 2 #[77] #[])
  fields := #[]
  methods := #[k12m0]
  instanceTypes := #[]
  staticTypes := #[]
  resolved := Array.replicate 160 none
  statics := none }

def pool13 : Array CpInfo := pool [(8, .class_ 10), (1, u "java/util/SequencedCollection"), (15, .class_ 27), (0, u "java/lang/Object"), (0, .class_ 29), (0, u "java/util/Collection")] 27

/-- java/util/SequencedCollection -/
def k13 : Class := { plain "java/util/SequencedCollection" (some 0) with
  accessFlags := 1537
  interfaces := #[11]
  cf := some (fileOf pool13 8 #[] #[] 1537 26 #[28] #[])
  fields := #[]
  methods := #[]
  instanceTypes := #[]
  staticTypes := #[]
  resolved := Array.replicate 57 none
  statics := none }

def pool14 : Array CpInfo := pool [(8, .class_ 10), (1, u "java/util/List"), (92, .class_ 104), (0, u "java/lang/Object"), (15, .class_ 121), (0, u "java/util/SequencedCollection")] 129

/-- java/util/List -/
def k14 : Class := { plain "java/util/List" (some 0) with
  accessFlags := 1537
  interfaces := #[13]
  cf := some (fileOf pool14 8 #[] #[] 1537 103 #[120] #[])
  fields := #[]
  methods := #[]
  instanceTypes := #[]
  staticTypes := #[]
  resolved := Array.replicate 251 none
  statics := none }

def pool15 : Array CpInfo := pool [(1, .methodref 2 3), (0, .class_ 4), (0, .nameAndType 5 6), (0, u "java/util/AbstractCollection"), (0, u "<init>"), (0, u "()V"), (0, .fieldref 8 9), (0, .class_ 10), (0, .nameAndType 11 12), (0, u "java/util/AbstractList"), (0, u "modCount"), (0, u "I"), (64, .class_ 78), (0, u "java/util/AbstractList$Itr"), (3, .class_ 83), (0, u "java/util/AbstractList$ListItr"), (9, .class_ 94), (0, u "java/util/AbstractList$RandomAccessSubList"), (3, .class_ 99), (0, u "java/util/AbstractList$SubList"), (33, .class_ 134), (0, u "java/util/List"), (73, .class_ 209), (0, u "java/util/AbstractList$SubList$1"), (0, .class_ 211), (0, u "java/util/AbstractList$RandomAccessSpliterator")] 6

def k15c0 : Code := { maxStack := 2, maxLocals := 1, code := jdk_39_method_1_code, exceptionTable := #[], attributes := #[] }
def k15m0 : Method := { name := "<init>", desc := "()V", sig := { parameters := [], returnType := none }, accessFlags := 4, code := some k15c0 }
/-- java/util/AbstractList -/
def k15 : Class := { plain "java/util/AbstractList" (some 12) with
  accessFlags := 1057
  interfaces := #[14]
  cf := some (fileOf pool15 8 #[.nestMembers #[93, 98, 208, 210, 82, 77]] #[{ accessFlags := 4, nameIndex := 5, descriptorIndex := 6, attributes := #[] }] 1057 2 #[133] #[{ accessFlags := 132, nameIndex := 11, descriptorIndex := 12, attributes := #[] }])
  fields := #[{ name := "modCount", type := .int, accessFlags := 132, slot := 0, constantValue := 0 }]
  methods := #[k15m0]
  instanceTypes := #[.int]
  staticTypes := #[]
  resolved := Array.replicate 218 none
  statics := none }

def pool16 : Array CpInfo := pool [(1, .class_ 2), (0, u "java/util/RandomAccess"), (0, .class_ 4), (0, u "java/lang/Object")] 2

/-- java/util/RandomAccess -/
def k16 : Class := { plain "java/util/RandomAccess" (some 0) with
  accessFlags := 1537
  interfaces := #[]
  cf := some (fileOf pool16 1 #[] #[] 1537 3 #[] #[])
  fields := #[]
  methods := #[]
  instanceTypes := #[]
  staticTypes := #[]
  resolved := Array.replicate 7 none
  statics := none }

def pool17 : Array CpInfo := pool [(1, .class_ 2), (0, u "java/lang/Cloneable"), (0, .class_ 4), (0, u "java/lang/Object")] 2

/-- java/lang/Cloneable -/
def k17 : Class := { plain "java/lang/Cloneable" (some 0) with
  accessFlags := 1537
  interfaces := #[]
  cf := some (fileOf pool17 1 #[] #[] 1537 3 #[] #[])
  fields := #[]
  methods := #[]
  instanceTypes := #[]
  staticTypes := #[]
  resolved := Array.replicate 7 none
  statics := none }

def pool18 : Array CpInfo := pool [(1, .methodref 2 3), (0, .class_ 4), (0, .nameAndType 5 6), (0, u "java/util/AbstractList"), (0, u "<init>"), (0, u "()V"), (0, .class_ 8), (0, u "java/lang/Object"), (0, .fieldref 10 11), (0, .class_ 12), (0, .nameAndType 13 14), (0, u "java/util/ArrayList"), (0, u "elementData"), (0, u "[Ljava/lang/Object;"), (2, u "EMPTY_ELEMENTDATA"), (23, u "DEFAULTCAPACITY_EMPTY_ELEMENTDATA"), (8, u "size"), (0, u "I"), (86, u "(I)V"), (9, .class_ 149), (0, u "java/util/List"), (112, .class_ 263), (0, u "java/util/ArrayList$ListItr"), (3, .class_ 268), (0, u "java/util/ArrayList$Itr"), (7, .class_ 277), (0, u "java/util/ArrayList$SubList"), (12, .class_ 291), (0, u "java/util/ArrayList$ArrayListSpliterator"), (37, .class_ 330), (0, u "java/util/RandomAccess"), (0, .class_ 332), (0, u "java/lang/Cloneable"), (0, .class_ 334), (0, u "java/io/Serializable"), (0, u "serialVersionUID"), (0, u "J"), (3, u "DEFAULT_CAPACITY"), (159, .class_ 501), (0, u "java/util/ArrayList$SubList$2"), (0, .class_ 503), (0, u "java/util/ArrayList$SubList$1")] 5

def k18c0 : Code := { maxStack := 4, maxLocals := 2, code := jdk_38_method_1_code, exceptionTable := #[], attributes := #[] }
def k18m0 : Method := { name := "<init>", desc := "(I)V", sig := { parameters := [.int], returnType := none }, accessFlags := 1, code := some k18c0 }
def k18m1 : Method := { name := "<init>", desc := "()V", sig := { parameters := [], returnType := none }, accessFlags := 1, code := none }
/-- java/util/ArrayList -/
def k18 : Class := { plain "java/util/ArrayList" (some 15) with
  accessFlags := 33
  interfaces := #[14, 16, 17, 3]
  cf := some (fileOf pool18 10 #[.nestMembers #[290, 276, 500, 502, 262, 267]] #[{ accessFlags := 1, nameIndex := 5, descriptorIndex := 138, attributes := #[] }, { accessFlags := 1, nameIndex := 5, descriptorIndex := 6, attributes := #[] }] 33 2 #[148, 329, 331, 333] #[{ accessFlags := 26, nameIndex := 335, descriptorIndex := 336, attributes := #[] }, { accessFlags := 26, nameIndex := 340, descriptorIndex := 51, attributes := #[] }, { accessFlags := 26, nameIndex := 17, descriptorIndex := 14, attributes := #[] }, { accessFlags := 26, nameIndex := 41, descriptorIndex := 14, attributes := #[] }, { accessFlags := 128, nameIndex := 13, descriptorIndex := 14, attributes := #[] }, { accessFlags := 2, nameIndex := 50, descriptorIndex := 51, attributes := #[] }])
  fields := #[{ name := "serialVersionUID", type := .long, accessFlags := 26, slot := 0, constantValue := 0 }, { name := "DEFAULT_CAPACITY", type := .int, accessFlags := 26, slot := 1, constantValue := 0 }, { name := "EMPTY_ELEMENTDATA", type := (.array (.object "java/lang/Object")), accessFlags := 26, slot := 2, constantValue := 0 }, { name := "DEFAULTCAPACITY_EMPTY_ELEMENTDATA", type := (.array (.object "java/lang/Object")), accessFlags := 26, slot := 3, constantValue := 0 }, { name := "elementData", type := (.array (.object "java/lang/Object")), accessFlags := 128, slot := 1, constantValue := 0 }, { name := "size", type := .int, accessFlags := 2, slot := 2, constantValue := 0 }]
  methods := #[k18m0, k18m1]
  instanceTypes := #[.int, (.array (.object "java/lang/Object")), .int]
  staticTypes := #[.long, .int, (.array (.object "java/lang/Object")), (.array (.object "java/lang/Object"))]
  resolved := Array.replicate 509 none
  statics := none }

def pool19 : Array CpInfo := pool [(2, .class_ 4), (1, u "java/lang/Object"), (0, u "<init>"), (0, u "()V"), (17, .class_ 26), (1, u "jdk/internal/util/Preconditions"), (28, .class_ 56), (0, u "jdk/internal/util/Preconditions$4"), (57, .class_ 115), (0, u "jdk/internal/util/Preconditions$1"), (7, u "SIOOBE_FORMATTER"), (0, u "Ljava/util/function/BiFunction;"), (0, .class_ 126), (0, u "jdk/internal/util/Preconditions$2"), (3, u "AIOOBE_FORMATTER"), (0, .class_ 132), (0, u "jdk/internal/util/Preconditions$3"), (3, u "IOOBE_FORMATTER")] 57

def k19m0 : Method := { name := "<init>", desc := "()V", sig := { parameters := [], returnType := none }, accessFlags := 1, code := none }
/-- jdk/internal/util/Preconditions -/
def k19 : Class := { plain "jdk/internal/util/Preconditions" (some 0) with
  accessFlags := 33
  interfaces := #[]
  cf := some (fileOf pool19 24 #[.nestMembers #[55, 131, 125, 114]] #[{ accessFlags := 1, nameIndex := 5, descriptorIndex := 6, attributes := #[] }] 33 2 #[] #[{ accessFlags := 25, nameIndex := 123, descriptorIndex := 124, attributes := #[] }, { accessFlags := 25, nameIndex := 130, descriptorIndex := 124, attributes := #[] }, { accessFlags := 25, nameIndex := 136, descriptorIndex := 124, attributes := #[] }])
  fields := #[{ name := "SIOOBE_FORMATTER", type := (.object "java/util/function/BiFunction"), accessFlags := 25, slot := 0, constantValue := 0 }, { name := "AIOOBE_FORMATTER", type := (.object "java/util/function/BiFunction"), accessFlags := 25, slot := 1, constantValue := 0 }, { name := "IOOBE_FORMATTER", type := (.object "java/util/function/BiFunction"), accessFlags := 25, slot := 2, constantValue := 0 }]
  methods := #[k19m0]
  instanceTypes := #[]
  staticTypes := #[(.object "java/util/function/BiFunction"), (.object "java/util/function/BiFunction"), (.object "java/util/function/BiFunction")]
  resolved := Array.replicate 194 none
  statics := some 1 }

def pool20 : Array CpInfo := pool [(9, u "<init>"), (6, .class_ 18), (1, u "java/lang/Object"), (0, u "()V"), (1, .class_ 23), (1, u "jdk/internal/util/ArraysSupport"), (0, u "LOG2_ARRAY_LONG_INDEX_SCALE"), (0, u "I"), (2, u "U"), (0, u "Ljdk/internal/misc/Unsafe;"), (8, u "BIG_ENDIAN"), (0, u "Z"), (8, u "LOG2_BYTE_BIT_SIZE"), (4, u "LOG2_ARRAY_INT_INDEX_SCALE"), (54, u "JLA"), (0, u "Ljdk/internal/access/JavaLangAccess;"), (11, u "LOG2_ARRAY_BOOLEAN_INDEX_SCALE"), (9, u "LOG2_ARRAY_BYTE_INDEX_SCALE"), (5, u "LOG2_ARRAY_CHAR_INDEX_SCALE"), (5, u "LOG2_ARRAY_SHORT_INDEX_SCALE"), (18, u "LOG2_ARRAY_FLOAT_INDEX_SCALE"), (24, u "LOG2_ARRAY_DOUBLE_INDEX_SCALE"), (89, u "T_BOOLEAN"), (2, u "T_CHAR"), (1, u "T_FLOAT"), (1, u "T_DOUBLE"), (1, u "T_BYTE"), (1, u "T_SHORT"), (1, u "T_INT"), (1, u "T_LONG"), (1, u "SOFT_MAX_ARRAY_LENGTH")] 83

def k20m0 : Method := { name := "<init>", desc := "()V", sig := { parameters := [], returnType := none }, accessFlags := 2, code := none }
/-- jdk/internal/util/ArraysSupport -/
def k20 : Class := { plain "jdk/internal/util/ArraysSupport" (some 0) with
  accessFlags := 33
  interfaces := #[]
  cf := some (fileOf pool20 21 #[] #[{ accessFlags := 2, nameIndex := 9, descriptorIndex := 19, attributes := #[] }] 33 16 #[] #[{ accessFlags := 24, nameIndex := 28, descriptorIndex := 29, attributes := #[] }, { accessFlags := 26, nameIndex := 38, descriptorIndex := 39, attributes := #[] }, { accessFlags := 25, nameIndex := 121, descriptorIndex := 25, attributes := #[] }, { accessFlags := 25, nameIndex := 131, descriptorIndex := 25, attributes := #[] }, { accessFlags := 25, nameIndex := 137, descriptorIndex := 25, attributes := #[] }, { accessFlags := 25, nameIndex := 143, descriptorIndex := 25, attributes := #[] }, { accessFlags := 25, nameIndex := 53, descriptorIndex := 25, attributes := #[] }, { accessFlags := 25, nameIndex := 24, descriptorIndex := 25, attributes := #[] }, { accessFlags := 25, nameIndex := 162, descriptorIndex := 25, attributes := #[] }, { accessFlags := 25, nameIndex := 187, descriptorIndex := 25, attributes := #[] }, { accessFlags := 26, nameIndex := 48, descriptorIndex := 25, attributes := #[] }, { accessFlags := 25, nameIndex := 277, descriptorIndex := 25, attributes := #[] }, { accessFlags := 25, nameIndex := 280, descriptorIndex := 25, attributes := #[] }, { accessFlags := 25, nameIndex := 282, descriptorIndex := 25, attributes := #[] }, { accessFlags := 25, nameIndex := 284, descriptorIndex := 25, attributes := #[] }, { accessFlags := 25, nameIndex := 286, descriptorIndex := 25, attributes := #[] }, { accessFlags := 25, nameIndex := 288, descriptorIndex := 25, attributes := #[] }, { accessFlags := 25, nameIndex := 290, descriptorIndex := 25, attributes := #[] }, { accessFlags := 25, nameIndex := 292, descriptorIndex := 25, attributes := #[] }, { accessFlags := 26, nameIndex := 108, descriptorIndex := 109, attributes := #[] }, { accessFlags := 25, nameIndex := 294, descriptorIndex := 25, attributes := #[] }])
  fields := #[{ name := "U", type := (.object "jdk/internal/misc/Unsafe"), accessFlags := 24, slot := 0, constantValue := 0 }, { name := "BIG_ENDIAN", type := .boolean, accessFlags := 26, slot := 1, constantValue := 0 }, { name := "LOG2_ARRAY_BOOLEAN_INDEX_SCALE", type := .int, accessFlags := 25, slot := 2, constantValue := 0 }, { name := "LOG2_ARRAY_BYTE_INDEX_SCALE", type := .int, accessFlags := 25, slot := 3, constantValue := 0 }, { name := "LOG2_ARRAY_CHAR_INDEX_SCALE", type := .int, accessFlags := 25, slot := 4, constantValue := 0 }, { name := "LOG2_ARRAY_SHORT_INDEX_SCALE", type := .int, accessFlags := 25, slot := 5, constantValue := 0 }, { name := "LOG2_ARRAY_INT_INDEX_SCALE", type := .int, accessFlags := 25, slot := 6, constantValue := 0 }, { name := "LOG2_ARRAY_LONG_INDEX_SCALE", type := .int, accessFlags := 25, slot := 7, constantValue := 0 }, { name := "LOG2_ARRAY_FLOAT_INDEX_SCALE", type := .int, accessFlags := 25, slot := 8, constantValue := 0 }, { name := "LOG2_ARRAY_DOUBLE_INDEX_SCALE", type := .int, accessFlags := 25, slot := 9, constantValue := 0 }, { name := "LOG2_BYTE_BIT_SIZE", type := .int, accessFlags := 26, slot := 10, constantValue := 0 }, { name := "T_BOOLEAN", type := .int, accessFlags := 25, slot := 11, constantValue := 0 }, { name := "T_CHAR", type := .int, accessFlags := 25, slot := 12, constantValue := 0 }, { name := "T_FLOAT", type := .int, accessFlags := 25, slot := 13, constantValue := 0 }, { name := "T_DOUBLE", type := .int, accessFlags := 25, slot := 14, constantValue := 0 }, { name := "T_BYTE", type := .int, accessFlags := 25, slot := 15, constantValue := 0 }, { name := "T_SHORT", type := .int, accessFlags := 25, slot := 16, constantValue := 0 }, { name := "T_INT", type := .int, accessFlags := 25, slot := 17, constantValue := 0 }, { name := "T_LONG", type := .int, accessFlags := 25, slot := 18, constantValue := 0 }, { name := "JLA", type := (.object "jdk/internal/access/JavaLangAccess"), accessFlags := 26, slot := 19, constantValue := 0 }, { name := "SOFT_MAX_ARRAY_LENGTH", type := .int, accessFlags := 25, slot := 20, constantValue := 0 }]
  methods := #[k20m0]
  instanceTypes := #[]
  staticTypes := #[(.object "jdk/internal/misc/Unsafe"), .boolean, .int, .int, .int, .int, .int, .int, .int, .int, .int, .int, .int, .int, .int, .int, .int, .int, .int, (.object "jdk/internal/access/JavaLangAccess"), .int]
  resolved := Array.replicate 378 none
  statics := none }

/-- the primitive byte -/
def k21 : Class := { plain "byte" none with kind := .primitive 'B', accessFlags := 0x411 }
/-- [B -/
def k22 : Class := { plain "[B" (some 0) with kind := .array 21 .byte, interfaces := #[17, 3], accessFlags := 1041 }

/-- the primitive int -/
def k23 : Class := { plain "int" none with kind := .primitive 'I', accessFlags := 0x411 }
/-- [I -/
def k24 : Class := { plain "[I" (some 0) with kind := .array 23 .int, interfaces := #[17, 3], accessFlags := 1041 }

/-- [Ljava/lang/Object; -/
def k25 : Class := { plain "[Ljava/lang/Object;" (some 0) with kind := .array 0 (.object "java/lang/Object"), interfaces := #[17, 3], accessFlags := 1041 }

def heap : Heap := #[{ cls := 8, slots := #[.long 0, .int 1, .null, .int 0, .null, .int 0, .int 0], vm := .statics 8 },
  { cls := 19, slots := #[.null, .null, .null], vm := .statics 19 }]
def classes : Array Class := #[k0, k1, k2, k3, k4, k5, k6, k7, k8, k9, k10, k11, k12, k13, k14, k15, k16, k17, k18, k19, k20, k21, k22, k23, k24, k25]
def interned : List (Array UInt16 × Addr) := []
def slotsUsed : Nat := 10
def theMethod : MethodId := ⟨1, 2⟩
def args0 : Array Value := #[.int 5, .int 2]
def aboutOver (below : List Frame) : State where
  vm := { classes := classes, interned := interned.toArray }
  heap := heap
  slotsUsed := slotsUsed
  threads := #[{ frames := .invoking theMethod args0 :: below }]
def below0 : List Frame := [.native { method := ⟨0, 0⟩, args := #[] }]
def about1 : State := aboutOver below0
def p0 : Program := .bare "" "" ""
def e0 : Env := launch0.env 0 0 0
theorem w_frames : about1.frames = Frame.invoking theMethod args0 :: below0 := rfl
set_option maxRecDepth 65536 in
theorem w_args : argsFit about1.vm theMethod args0 = true := by decide +kernel
set_option maxRecDepth 65536 in
theorem w_heap : heapFits about1 = true := by decide +kernel
set_option maxRecDepth 65536 in
theorem w_runnable : about1.curStatus? = some .runnable := by decide +kernel
set_option maxRecDepth 65536 in
theorem w_alone : about1.alone = true := by decide +kernel
set_option maxRecDepth 65536 in
theorem w_named : about1.methodNamed? x = some theMethod := by decide +kernel
set_option maxRecDepth 65536 in
theorem w_hears : about1.hears theMethod below0 = true := by decide +kernel
set_option maxRecDepth 65536 in
theorem w_ripe : about1.ripe theMethod args0 below0 = true := by decide +kernel
theorem w_running : about1.status = .running := rfl
set_option maxRecDepth 65536 in
theorem w_room : about1.hasRoom e0.platform room_1 = true :=
  launch0.hasRoom_least _ room_1 (by decide +kernel) (by decide +kernel) (by decide +kernel) (by decide +kernel) (by decide +kernel) (by decide +kernel)
theorem allAtoms_all (ts : List Jvm.Cond) (a : Array Jvm.Value) (st : Jvm.State) : (allAtoms ts).before a st = ts.all (fun c => c.before a st) := by
  induction ts with
  | nil => rfl
  | cons c t ih =>
    show (Jvm.Cond.and c (allAtoms t)).before a st = _
    rw [Jvm.Cond.before_and, ih, List.all_cons]
def words1 : List Jvm.Cond := Jvm.Cond.code x code maxLocals ret :: tables_1
/-- a 'code' word, met by the world's own term for the bytes: nothing is compared byte by byte -/
theorem code_word {y : MethodName} {bytes : ByteArray} {mx : Nat} {rt : Option FieldType} {a : Array Value} {s : State} {m : MethodId} {meth : Method} {c : Code} (h1 : s.methodNamed? y = some m) (h2 : s.vm.method? m = some meth) (h3 : meth.code = some c) (h4 : c.code = bytes)
    (h5 : (c.maxLocals == mx && c.exceptionTable.isEmpty && decide (c.maxStack ≤ mostOperands) && decide (meth.sig.returnType = rt) && !meth.locks && decide (parseMethodDescriptor y.desc = some meth.sig)) = true) : (Jvm.Cond.code y bytes mx rt).before a s = true := by
  simp only [Bool.and_eq_true, beq_iff_eq, Bool.not_eq_true', decide_eq_true_eq] at h5
  obtain ⟨⟨⟨⟨⟨g1, g2⟩, g3⟩, g4⟩, g5⟩, g6⟩ := h5
  simp [Cond.before, Cond.holds, Cond.value, h1, h2, h3, h4, g1, g2, g3, g4, g5, g6]
def isCode : Jvm.Cond → Bool
  | .code _ _ _ _ => true
  | _ => false
theorem all_split {L : List Jvm.Cond} {P : Jvm.Cond → Bool} (h1 : L.all (fun c => isCode c || P c) = true) (h2 : ∀ c ∈ L.filter isCode, P c = true) : L.all P = true := by
  refine List.all_eq_true.mpr fun c hc => ?_
  have h := List.all_eq_true.mp h1 c hc
  rcases Bool.eq_false_or_eq_true (isCode c) with hi | hi
  · exact h2 c (List.mem_filter.mpr ⟨hc, hi⟩)
  · simpa [hi] using h
set_option maxRecDepth 65536 in
theorem w_c0 : (Jvm.Cond.code x code maxLocals ret).before args0 about1 = true := code_word (m := ⟨1, 2⟩) (meth := k1m2) (c := k1c2) (by decide +kernel) rfl rfl rfl (by decide +kernel)
set_option maxRecDepth 65536 in
theorem w_c1 : (Jvm.Cond.code ({ cls := "java/lang/String", name := "valueOf", desc := "(C)Ljava/lang/String;" } : Jvm.MethodName) jdk_42_method_139_code (1 : Nat) (Option.some (Jvm.ClassFile.FieldType.object "java/lang/String"))).before args0 about1 = true := code_word (m := ⟨8, 1⟩) (meth := k8m1) (c := k8c1) (by decide +kernel) rfl rfl rfl (by decide +kernel)
set_option maxRecDepth 65536 in
theorem w_c2 : (Jvm.Cond.code ({ cls := "java/lang/StringLatin1", name := "canEncode", desc := "(C)Z" } : Jvm.MethodName) jdk_43_method_3_code (1 : Nat) (Option.some Jvm.ClassFile.FieldType.boolean)).before args0 about1 = true := code_word (m := ⟨9, 1⟩) (meth := k9m1) (c := k9c1) (by decide +kernel) rfl rfl rfl (by decide +kernel)
set_option maxRecDepth 65536 in
theorem w_c3 : (Jvm.Cond.code ({ cls := "java/lang/StringLatin1", name := "toBytes", desc := "(C)[B" } : Jvm.MethodName) jdk_43_method_46_code (1 : Nat) (Option.some (Jvm.ClassFile.FieldType.array Jvm.ClassFile.FieldType.byte))).before args0 about1 = true := code_word (m := ⟨9, 2⟩) (meth := k9m2) (c := k9c2) (by decide +kernel) rfl rfl rfl (by decide +kernel)
set_option maxRecDepth 65536 in
theorem w_c4 : (Jvm.Cond.code ({ cls := "java/lang/String", name := "<init>", desc := "([BB)V" } : Jvm.MethodName) jdk_42_method_151_code (3 : Nat) (Option.none : Option Jvm.ClassFile.FieldType)).before args0 about1 = true := code_word (m := ⟨8, 2⟩) (meth := k8m2) (c := k8c2) (by decide +kernel) rfl rfl rfl (by decide +kernel)
set_option maxRecDepth 65536 in
theorem w_c5 : (Jvm.Cond.code ({ cls := "java/lang/Object", name := "<init>", desc := "()V" } : Jvm.MethodName) object_method_1_code (1 : Nat) (Option.none : Option Jvm.ClassFile.FieldType)).before args0 about1 = true := code_word (m := ⟨0, 0⟩) (meth := k0m0) (c := k0c0) (by decide +kernel) rfl rfl rfl (by decide +kernel)
set_option maxRecDepth 65536 in
theorem w_c6 : (Jvm.Cond.code ({ cls := "com/example/lucid_policy/lucidpolicy/parse/Symbol", name := "<init>", desc := "(Ljava/lang/String;)V" } : Jvm.MethodName) prog_160_method_1_code (2 : Nat) (Option.none : Option Jvm.ClassFile.FieldType)).before args0 about1 = true := code_word (m := ⟨2, 0⟩) (meth := k2m0) (c := k2c0) (by decide +kernel) rfl rfl rfl (by decide +kernel)
set_option maxRecDepth 65536 in
theorem w_c7 : (Jvm.Cond.code ({ cls := "java/util/ArrayList", name := "<init>", desc := "(I)V" } : Jvm.MethodName) jdk_38_method_1_code (2 : Nat) (Option.none : Option Jvm.ClassFile.FieldType)).before args0 about1 = true := code_word (m := ⟨18, 0⟩) (meth := k18m0) (c := k18c0) (by decide +kernel) rfl rfl rfl (by decide +kernel)
set_option maxRecDepth 65536 in
theorem w_c8 : (Jvm.Cond.code ({ cls := "java/util/AbstractList", name := "<init>", desc := "()V" } : Jvm.MethodName) jdk_39_method_1_code (1 : Nat) (Option.none : Option Jvm.ClassFile.FieldType)).before args0 about1 = true := code_word (m := ⟨15, 0⟩) (meth := k15m0) (c := k15c0) (by decide +kernel) rfl rfl rfl (by decide +kernel)
set_option maxRecDepth 65536 in
theorem w_c9 : (Jvm.Cond.code ({ cls := "java/util/AbstractCollection", name := "<init>", desc := "()V" } : Jvm.MethodName) jdk_22_method_1_code (1 : Nat) (Option.none : Option Jvm.ClassFile.FieldType)).before args0 about1 = true := code_word (m := ⟨12, 0⟩) (meth := k12m0) (c := k12c0) (by decide +kernel) rfl rfl rfl (by decide +kernel)
set_option maxRecDepth 65536 in
theorem w_c10 : (Jvm.Cond.code ({ cls := "com/example/lucid_policy/lucidpolicy/parse/Symbol", name := "visible", desc := "()Z" } : Jvm.MethodName) prog_160_method_15_code (1 : Nat) (Option.some Jvm.ClassFile.FieldType.boolean)).before args0 about1 = true := code_word (m := ⟨2, 3⟩) (meth := k2m3) (c := k2c3) (by decide +kernel) rfl rfl rfl (by decide +kernel)
set_option maxRecDepth 65536 in
theorem w_c11 : (Jvm.Cond.code ({ cls := "com/example/lucid_policy/lucidpolicy/parse/SymbolVisiblePinLaw", name := "step", desc := "(Lcom/example/lucid_policy/lucidpolicy/parse/Symbol;II)I" } : Jvm.MethodName) method_2_code (3 : Nat) (Option.some Jvm.ClassFile.FieldType.int)).before args0 about1 = true := code_word (m := ⟨1, 1⟩) (meth := k1m1) (c := k1c1) (by decide +kernel) rfl rfl rfl (by decide +kernel)
set_option maxRecDepth 65536 in
theorem w_c12 : (Jvm.Cond.code ({ cls := "com/example/lucid_policy/lucidpolicy/parse/Symbol", name := "hide", desc := "()V" } : Jvm.MethodName) prog_160_method_14_code (1 : Nat) (Option.none : Option Jvm.ClassFile.FieldType)).before args0 about1 = true := code_word (m := ⟨2, 2⟩) (meth := k2m2) (c := k2c2) (by decide +kernel) rfl rfl rfl (by decide +kernel)
set_option maxRecDepth 65536 in
theorem w_c13 : (Jvm.Cond.code ({ cls := "com/example/lucid_policy/lucidpolicy/parse/Symbol", name := "show", desc := "()V" } : Jvm.MethodName) prog_160_method_13_code (1 : Nat) (Option.none : Option Jvm.ClassFile.FieldType)).before args0 about1 = true := code_word (m := ⟨2, 1⟩) (meth := k2m1) (c := k2c1) (by decide +kernel) rfl rfl rfl (by decide +kernel)
def codes1 : List Jvm.Cond := [Jvm.Cond.code x code maxLocals ret, Jvm.Cond.code ({ cls := "java/lang/String", name := "valueOf", desc := "(C)Ljava/lang/String;" } : Jvm.MethodName) jdk_42_method_139_code (1 : Nat) (Option.some (Jvm.ClassFile.FieldType.object "java/lang/String")), Jvm.Cond.code ({ cls := "java/lang/StringLatin1", name := "canEncode", desc := "(C)Z" } : Jvm.MethodName) jdk_43_method_3_code (1 : Nat) (Option.some Jvm.ClassFile.FieldType.boolean), Jvm.Cond.code ({ cls := "java/lang/StringLatin1", name := "toBytes", desc := "(C)[B" } : Jvm.MethodName) jdk_43_method_46_code (1 : Nat) (Option.some (Jvm.ClassFile.FieldType.array Jvm.ClassFile.FieldType.byte)), Jvm.Cond.code ({ cls := "java/lang/String", name := "<init>", desc := "([BB)V" } : Jvm.MethodName) jdk_42_method_151_code (3 : Nat) (Option.none : Option Jvm.ClassFile.FieldType), Jvm.Cond.code ({ cls := "java/lang/Object", name := "<init>", desc := "()V" } : Jvm.MethodName) object_method_1_code (1 : Nat) (Option.none : Option Jvm.ClassFile.FieldType), Jvm.Cond.code ({ cls := "com/example/lucid_policy/lucidpolicy/parse/Symbol", name := "<init>", desc := "(Ljava/lang/String;)V" } : Jvm.MethodName) prog_160_method_1_code (2 : Nat) (Option.none : Option Jvm.ClassFile.FieldType), Jvm.Cond.code ({ cls := "java/util/ArrayList", name := "<init>", desc := "(I)V" } : Jvm.MethodName) jdk_38_method_1_code (2 : Nat) (Option.none : Option Jvm.ClassFile.FieldType), Jvm.Cond.code ({ cls := "java/util/AbstractList", name := "<init>", desc := "()V" } : Jvm.MethodName) jdk_39_method_1_code (1 : Nat) (Option.none : Option Jvm.ClassFile.FieldType), Jvm.Cond.code ({ cls := "java/util/AbstractCollection", name := "<init>", desc := "()V" } : Jvm.MethodName) jdk_22_method_1_code (1 : Nat) (Option.none : Option Jvm.ClassFile.FieldType), Jvm.Cond.code ({ cls := "com/example/lucid_policy/lucidpolicy/parse/Symbol", name := "visible", desc := "()Z" } : Jvm.MethodName) prog_160_method_15_code (1 : Nat) (Option.some Jvm.ClassFile.FieldType.boolean), Jvm.Cond.code ({ cls := "com/example/lucid_policy/lucidpolicy/parse/SymbolVisiblePinLaw", name := "step", desc := "(Lcom/example/lucid_policy/lucidpolicy/parse/Symbol;II)I" } : Jvm.MethodName) method_2_code (3 : Nat) (Option.some Jvm.ClassFile.FieldType.int), Jvm.Cond.code ({ cls := "com/example/lucid_policy/lucidpolicy/parse/Symbol", name := "hide", desc := "()V" } : Jvm.MethodName) prog_160_method_14_code (1 : Nat) (Option.none : Option Jvm.ClassFile.FieldType), Jvm.Cond.code ({ cls := "com/example/lucid_policy/lucidpolicy/parse/Symbol", name := "show", desc := "()V" } : Jvm.MethodName) prog_160_method_13_code (1 : Nat) (Option.none : Option Jvm.ClassFile.FieldType)]
set_option maxRecDepth 65536 in
theorem codes_eq : words1.filter isCode = codes1 := rfl
theorem w_codes : ∀ c ∈ words1.filter isCode, c.before args0 about1 = true := by
  rw [codes_eq]
  intro c hc
  simp only [codes1, List.mem_cons, List.not_mem_nil, or_false] at hc
  rcases hc with rfl | rfl | rfl | rfl | rfl | rfl | rfl | rfl | rfl | rfl | rfl | rfl | rfl | rfl
  · exact w_c0
  · exact w_c1
  · exact w_c2
  · exact w_c3
  · exact w_c4
  · exact w_c5
  · exact w_c6
  · exact w_c7
  · exact w_c8
  · exact w_c9
  · exact w_c10
  · exact w_c11
  · exact w_c12
  · exact w_c13
set_option maxRecDepth 65536 in
theorem w_t1 : (words1.take 24).all (fun c => isCode c || c.before args0 about1) = true := by decide +kernel
set_option maxRecDepth 65536 in
theorem w_t2 : ((words1.drop 24).take 24).all (fun c => isCode c || c.before args0 about1) = true := by decide +kernel
set_option maxRecDepth 65536 in
theorem w_t3 : (((words1.drop 24).drop 24).take 24).all (fun c => isCode c || c.before args0 about1) = true := by decide +kernel
set_option maxRecDepth 65536 in
theorem w_t4 : (((words1.drop 24).drop 24).drop 24).all (fun c => isCode c || c.before args0 about1) = true := by decide +kernel
theorem w_tables : (allAtoms (Jvm.Cond.code x code maxLocals ret :: tables_1)).before args0 about1 = true := by
  rw [allAtoms_all]
  show words1.all (fun c => c.before args0 about1) = true
  refine all_split ?_ w_codes
  rw [← List.take_append_drop 24 words1, List.all_append, w_t1, ← List.take_append_drop 24 (words1.drop 24), List.all_append, w_t2, ← List.take_append_drop 24 ((words1.drop 24).drop 24), List.all_append, w_t3, w_t4]
  rfl
set_option maxRecDepth 65536 in
theorem w_rest : rest_1_c.before args0 about1 = true := by decide +kernel
set_option maxRecDepth 65536 in
theorem w_case : (Jvm.Cond.and given_1 narrow_1).before args0 about1 = true := by decide +kernel
theorem w_applies : (headSpec (Jvm.Cond.code x code maxLocals ret :: tables_1) room_1).applies x e0.platform about1 = true :=
  (Spec.applies_iff w_frames).mpr ⟨w_running, w_runnable, w_alone, w_named, w_hears, w_ripe, w_room, w_tables⟩
theorem atStart : AtStart classFile x code maxLocals ret World_1 tables_1 room_1 Calls_1 rest_1 Pre_1 launch0 p0 e0 about1 theMethod args0 below0 :=
  ⟨lists_1, trivial, launch0.admits_env _ _ _, launch0.least_env, fairChoices_fair.cas, fairChoices_fair.clock, w_frames, w_args, w_heap, w_applies, trivial, w_rest, w_case⟩
end start1
theorem witness_1 : WitnessClaimed_1 := ⟨start1.p0, start1.e0, start1.about1, start1.theMethod, start1.args0, start1.below0, start1.atStart⟩
end Jvm.Pilot.@@N@@
