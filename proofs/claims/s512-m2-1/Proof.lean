import JvmDerived
import JvmDerived.Pilot.@@N@@Statement
import JvmDerived.Pilot.@@N@@Code
set_option linter.unusedVariables false
set_option linter.unusedSimpArgs false
namespace Jvm.RoadKit
open Sem ClassFile Op Lib Jvm.Stand Jvm.Free Jvm.LawKit
section New
variable {p : Program} {l : Launch} {e : Env} {R : Room} {s : State} {m : MethodId} {args : Array Value} {below : List Frame} {meth : Method} {c : Code} {T : State} {locs : List Loc} {cells slots : Nat}
theorem own_retI (X : Stand p l e R s m args below meth c T locs cells slots) (hx : p.tables.exec = Jvm.exec) {pc : Nat} {Ls : Array Slot} {z : Int32} {rest : List Value} (hret : meth.sig.returnType = some .int) (hd : decode c.code pc = .ok (.ireturn, 1)) {fs : List Frame}
    (hl : ∀ (f : JFrame) (acts : List Action), f.method = m → f.locked = none → f.entered = [] → (doReturn e (T.setTop f) acts (some (.int z))).1 = T.setFrames fs) : Steps p.tables e below (T.setTop (mkF m pc Ls (.int z :: rest))) (T.setFrames fs) :=
  retOut X hx hret rfl (Or.inl ⟨rfl, Or.inl rfl, z, rfl⟩) hd hl
theorem own_retJ (X : Stand p l e R s m args below meth c T locs cells slots) (hx : p.tables.exec = Jvm.exec) {pc : Nat} {Ls : Array Slot} {z : Int64} {rest : List Value} (hret : meth.sig.returnType = some .long) (hd : decode c.code pc = .ok (.lreturn, 1)) {fs : List Frame}
    (hl : ∀ (f : JFrame) (acts : List Action), f.method = m → f.locked = none → f.entered = [] → (doReturn e (T.setTop f) acts (some (.long z))).1 = T.setFrames fs) : Steps p.tables e below (T.setTop (mkF m pc Ls (.long z :: rest))) (T.setFrames fs) :=
  retOut X hx hret rfl (Or.inr (Or.inl ⟨rfl, rfl, z, rfl⟩)) hd hl
theorem own_retA (X : Stand p l e R s m args below meth c T locs cells slots) (hx : p.tables.exec = Jvm.exec) {pc : Nat} {Ls : Array Slot} {w : Value} {t : FieldType} {rest : List Value} (hret : meth.sig.returnType = some t) (hn : narrow t w = w) (ht : t.isReference = true) (hw : w.isRef = true) (hd : decode c.code pc = .ok (.areturn, 1)) {fs : List Frame}
    (hl : ∀ (f : JFrame) (acts : List Action), f.method = m → f.locked = none → f.entered = [] → (doReturn e (T.setTop f) acts (some w)).1 = T.setFrames fs) : Steps p.tables e below (T.setTop (mkF m pc Ls (w :: rest))) (T.setFrames fs) :=
  retOut X hx hret hn (Or.inr (Or.inr (Or.inr (Or.inr ⟨rfl, ht, hw⟩)))) hd hl
end New
abbrev OwnGo (tb : Tables) (e : Env) (below : List Frame) (K : State → Outcome → Prop) (st : State) : Prop := ∃ s₂ o, Steps tb e below st s₂ ∧ s₂.status = .running ∧ Ended s₂ below o ∧ K s₂ o
theorem OwnGo.back {tb : Tables} {e : Env} {below : List Frame} {K : State → Outcome → Prop} {st : State} (st' : State) (h : ∀ t, Steps tb e below st' t → Steps tb e below st t) (g : OwnGo tb e below K st') : OwnGo tb e below K st := by
  obtain ⟨s₂, o, h1, h2⟩ := g
  exact ⟨s₂, o, h _ h1, h2⟩
abbrev OwnMg (tb : Tables) (e : Env) (below : List Frame) (D : State → Prop) (st : State) : Prop := ∃ st', D st' ∧ ∀ t, Steps tb e below st' t → Steps tb e below st t
theorem OwnMg.back {tb : Tables} {e : Env} {below : List Frame} {D : State → Prop} {st : State} (st' : State) (h : ∀ t, Steps tb e below st' t → Steps tb e below st t) (g : OwnMg tb e below D st') : OwnMg tb e below D st := by
  obtain ⟨s₂, h1, h2⟩ := g
  exact ⟨s₂, h1, fun t k => h t (h2 t k)⟩
theorem own_not {P Q : Prop} (h : P ↔ Q) (n : ¬ Q) : ¬ P := fun q => n (h.mp q)
theorem own_ne {a b n : Nat} (h : a < n) (q : b = n) : a ≠ b := Nat.ne_of_lt (q ▸ h)
theorem own_ne' {a b n : Nat} (h : a < n) (q : n ≤ b) : a ≠ b := Nat.ne_of_lt (Nat.lt_of_lt_of_le h q)
end Jvm.RoadKit
namespace Jvm.Pilot.@@N@@
open Jvm Jvm.ClassFile Sem Op Lib Jvm.Free Jvm.Stand Jvm.LawKit Jvm.RoadKit Bundle Jvm.Pilot.@@N@@.Jvm.D
theorem own_pn0 : plainName "java/lang/Record" = true := by first | (simp [plainName, overriddenIn]; done) | decide +kernel
theorem own_d2_0 : decode jdk_30_method_1_code 0 = .ok (.aload_n 0, 1) := by decide +kernel
theorem own_d2_1 : decode jdk_30_method_1_code 1 = .ok (.invokespecial 1, 3) := by decide +kernel
theorem own_d2_4 : decode jdk_30_method_1_code 4 = .ok (.return_, 1) := by decide +kernel
theorem own_pn1 : plainName "com/example/padlok/padlok/LockStore$Answer" = true := by first | (simp [plainName, overriddenIn]; done) | decide +kernel
theorem own_d1_0 : decode prog_7_method_1_code 0 = .ok (.aload_n 0, 1) := by decide +kernel
theorem own_d1_1 : decode prog_7_method_1_code 1 = .ok (.invokespecial 1, 3) := by decide +kernel
theorem own_pd0 : parseMethodDescriptor "()V" = some ⟨[], none⟩ := by decide +kernel
theorem own_d1_4 : decode prog_7_method_1_code 4 = .ok (.aload_n 0, 1) := by decide +kernel
theorem own_d1_5 : decode prog_7_method_1_code 5 = .ok (.iload_n 1, 1) := by decide +kernel
theorem own_d1_6 : decode prog_7_method_1_code 6 = .ok (.putfield 7, 3) := by decide +kernel
theorem own_d1_9 : decode prog_7_method_1_code 9 = .ok (.aload_n 0, 1) := by decide +kernel
theorem own_d1_10 : decode prog_7_method_1_code 10 = .ok (.lload_n 2, 1) := by decide +kernel
theorem own_d1_11 : decode prog_7_method_1_code 11 = .ok (.putfield 13, 3) := by decide +kernel
theorem own_d1_14 : decode prog_7_method_1_code 14 = .ok (.aload_n 0, 1) := by decide +kernel
theorem own_d1_15 : decode prog_7_method_1_code 15 = .ok (.lload 4, 2) := by decide +kernel
theorem own_d1_17 : decode prog_7_method_1_code 17 = .ok (.putfield 17, 3) := by decide +kernel
theorem own_d1_20 : decode prog_7_method_1_code 20 = .ok (.return_, 1) := by decide +kernel
theorem own_d5_0 : decode prog_7_method_3_code 0 = .ok (.new 8, 3) := by decide +kernel
theorem own_d5_3 : decode prog_7_method_3_code 3 = .ok (.dup, 1) := by decide +kernel
theorem own_d5_4 : decode prog_7_method_3_code 4 = .ok (.iconst 0, 1) := by decide +kernel
theorem own_d5_5 : decode prog_7_method_3_code 5 = .ok (.lconst 0, 1) := by decide +kernel
theorem own_d5_6 : decode prog_7_method_3_code 6 = .ok (.lload_n 0, 1) := by decide +kernel
theorem own_d5_7 : decode prog_7_method_3_code 7 = .ok (.invokespecial 20, 3) := by decide +kernel
theorem own_pd1 : parseMethodDescriptor "(ZJJ)V" = some ⟨[.boolean, .long, .long], none⟩ := by decide +kernel
theorem own_d5_10 : decode prog_7_method_3_code 10 = .ok (.areturn, 1) := by decide +kernel
theorem own_d4_0 : decode prog_7_method_4_code 0 = .ok (.aload_n 0, 1) := by decide +kernel
theorem own_d4_1 : decode prog_7_method_4_code 1 = .ok (.astore_n 3, 1) := by decide +kernel
theorem own_d4_2 : decode prog_7_method_4_code 2 = .ok (.aload_n 0, 1) := by decide +kernel
theorem own_d4_3 : decode prog_7_method_4_code 3 = .ok (.getfield 7, 3) := by decide +kernel
theorem own_d4_6 : decode prog_7_method_4_code 6 = .ok (.ifCond .ne 26, 3) := by decide +kernel
theorem own_d4_9 : decode prog_7_method_4_code 9 = .ok (.aload_n 0, 1) := by decide +kernel
theorem own_d4_10 : decode prog_7_method_4_code 10 = .ok (.getfield 17, 3) := by decide +kernel
theorem own_d4_13 : decode prog_7_method_4_code 13 = .ok (.lconst 0, 1) := by decide +kernel
theorem own_d4_14 : decode prog_7_method_4_code 14 = .ok (.lcmp, 1) := by decide +kernel
theorem own_d4_15 : decode prog_7_method_4_code 15 = .ok (.ifCond .lt 12, 3) := by decide +kernel
theorem own_d4_27 : decode prog_7_method_4_code 27 = .ok (.lload_n 1, 1) := by decide +kernel
theorem own_d4_28 : decode prog_7_method_4_code 28 = .ok (.invokestatic 23, 3) := by decide +kernel
theorem own_pd2 : parseMethodDescriptor "(J)Lcom/example/padlok/padlok/LockStore$Answer;" = some ⟨[.long], some (.object "com/example/padlok/padlok/LockStore$Answer")⟩ := by decide +kernel
theorem own_d4_31 : decode prog_7_method_4_code 31 = .ok (.astore_n 3, 1) := by decide +kernel
theorem own_d4_32 : decode prog_7_method_4_code 32 = .ok (.aload_n 3, 1) := by decide +kernel
theorem own_d4_33 : decode prog_7_method_4_code 33 = .ok (.areturn, 1) := by decide +kernel
theorem own_d4_18 : decode prog_7_method_4_code 18 = .ok (.aload_n 0, 1) := by decide +kernel
theorem own_d4_19 : decode prog_7_method_4_code 19 = .ok (.getfield 17, 3) := by decide +kernel
theorem own_d4_22 : decode prog_7_method_4_code 22 = .ok (.lload_n 1, 1) := by decide +kernel
theorem own_d4_23 : decode prog_7_method_4_code 23 = .ok (.lcmp, 1) := by decide +kernel
theorem own_d4_24 : decode prog_7_method_4_code 24 = .ok (.ifCond .le 8, 3) := by decide +kernel
theorem own_d6_0 : decode prog_7_method_8_code 0 = .ok (.aload_n 0, 1) := by decide +kernel
theorem own_d6_1 : decode prog_7_method_8_code 1 = .ok (.getfield 7, 3) := by decide +kernel
theorem own_d6_4 : decode prog_7_method_8_code 4 = .ok (.ireturn, 1) := by decide +kernel
theorem own_d7_0 : decode prog_7_method_9_code 0 = .ok (.aload_n 0, 1) := by decide +kernel
theorem own_d7_1 : decode prog_7_method_9_code 1 = .ok (.getfield 13, 3) := by decide +kernel
theorem own_d7_4 : decode prog_7_method_9_code 4 = .ok (.lreturn, 1) := by decide +kernel
theorem own_d8_0 : decode prog_7_method_10_code 0 = .ok (.aload_n 0, 1) := by decide +kernel
theorem own_d8_1 : decode prog_7_method_10_code 1 = .ok (.getfield 17, 3) := by decide +kernel
theorem own_d8_4 : decode prog_7_method_10_code 4 = .ok (.lreturn, 1) := by decide +kernel
theorem own_pn2 : plainFor (⟨"java/lang/Math", "min", "(JJ)J"⟩ : MethodName) = true := by decide +kernel
theorem own_d9_0 : decode jdk_29_method_70_code 0 = .ok (.lload_n 0, 1) := by decide +kernel
theorem own_d9_1 : decode jdk_29_method_70_code 1 = .ok (.lload_n 2, 1) := by decide +kernel
theorem own_d9_2 : decode jdk_29_method_70_code 2 = .ok (.lcmp, 1) := by decide +kernel
theorem own_d9_3 : decode jdk_29_method_70_code 3 = .ok (.ifCond .gt 7, 3) := by decide +kernel
theorem own_d9_10 : decode jdk_29_method_70_code 10 = .ok (.lload_n 2, 1) := by decide +kernel
theorem own_d9_11 : decode jdk_29_method_70_code 11 = .ok (.lreturn, 1) := by decide +kernel
theorem own_d9_6 : decode jdk_29_method_70_code 6 = .ok (.lload_n 0, 1) := by decide +kernel
theorem own_d9_7 : decode jdk_29_method_70_code 7 = .ok (.goto 4, 3) := by decide +kernel
theorem own_pn3 : plainName "com/example/padlok/padlok/AnswerAskingAgainWithinPinLaw" = true := by first | (simp [plainName, overriddenIn]; done) | decide +kernel
theorem own_pd3 : parseMethodDescriptor "()Z" = some ⟨[], some .boolean⟩ := by decide +kernel
theorem own_pd4 : parseMethodDescriptor "()J" = some ⟨[], some .long⟩ := by decide +kernel
theorem own_pd5 : parseMethodDescriptor "(JJ)J" = some ⟨[.long, .long], some .long⟩ := by decide +kernel
theorem own_rec_ef (m : MethodId) (x0 : Addr) : entryFrame m #[(.ref x0)] 1 = mkF m 0 #[.val (.ref x0)] [] := by first | (simp [entryFrame, mkF, argsToLocals, Value.category]; done) | rfl
def own_rec_Q (Z : State) (a : Addr) (h0 : Heap) (n0 : Nat) (rv : Option Value) (hN : Heap) (LL : List Loc) : Prop := rv = none ∧ Fr n0 LL ∧ hN = h0
set_option maxRecDepth 65536 in
set_option maxHeartbeats 40000000 in
theorem own_rec (l : Launch) (Z : State) (a0 : Array Value) (hw : ∀ d ∈ tables_1, d.before a0 Z = true) (ws : List Jvm.Cond) (a : Addr) (h0 : Heap) (n0 : Nat) (Z0 : n0 ≤ h0.size) :
    MetFree l (⟨"java/lang/Record", "<init>", "()V"⟩ : MethodName) (head1 (Jvm.Cond.code (⟨"java/lang/Record", "<init>", "()V"⟩ : MethodName) jdk_30_method_1_code 1 none :: ws) ({ frames := 1, cells := 0, slots := 0, locals := 12 } : Room)) (fun aa UU => aa = #[(.ref a)] ∧ Z.Warmed39 UU.vm ∧ UU.heap = h0) (fun _ _ _ _ _ => True) (fun _ UU oo UU' => ∃ rv LL, oo = .returned rv ∧ own_rec_Q Z a h0 n0 rv UU'.heap LL ∧ FrameEnd UU oo UU' LL ({ frames := 1, cells := 0, slots := 0, locals := 12 } : Room).cells ({ frames := 1, cells := 0, slots := 0, locals := 12 } : Room).slots) := by
  refine MetFree.of_bodySF (plainFor_of_name own_pn0) hisR ?_
  intro p e s m args below meth c s₁ Bd hml0 hP hK
  obtain ⟨rfl, hZ, hh⟩ := hP
  have hx := Bd.exec
  have hby := Bd.bytes
  have hml : c.maxLocals = 1 := hml0
  have hown : s.vm.findClass "java/lang/Record" = some m.cls := findClass_of_methodNamed Bd.named
  have hnm := (name_of_methodNamed Bd.named Bd.method).1
  have X0 : Stand p l e ({ frames := 1, cells := 0, slots := 0, locals := 12 } : Room) s m #[(.ref a)] below meth c s₁ [] 0 0 := Stand.of_body Bd
  have e0 : s₁.heap = h0 := by rw [← hh, Bd.state]; rfl
  have N0 := Fr.nil n0
  have K0 : Keep h0 h0 [] := Keep.refl h0 _
  refine (?_ : OwnGo p.tables e below (fun UU' oo => ∃ rv LL, oo = .returned rv ∧ own_rec_Q Z a h0 n0 rv UU'.heap LL ∧ FrameEnd s oo UU' LL ({ frames := 1, cells := 0, slots := 0, locals := 12 } : Room).cells ({ frames := 1, cells := 0, slots := 0, locals := 12 } : Room).slots) _)
  refine OwnGo.back (s₁.setTop (mkF m 0 #[.val (.ref a)] [])) (fun tg kk => castTop (own_rec_ef m a) kk) ?_
  refine OwnGo.back (s₁.setTop (mkF m 1 #[.val (.ref a)] [(.ref a)])) (fun tg kk => XS.aloadN X0.here hx rfl (hb hby own_d2_0) rfl rfl kk) ?_
  obtain ⟨T1, X1, e1, st1⟩ := initO X0 hx hZ hown (hw _ (List.mem_of_getElem? (i := 11) rfl)) (hw _ (List.mem_of_getElem? (i := 12) rfl)) (hw _ (List.mem_of_getElem? (i := 13) rfl)) e0 (g := (mkF m 1 #[.val (.ref a)] [(.ref a)])) rfl (by rw [hml]; rfl) rfl (hb hby own_d2_1) (by decide) (W := 0) (by show 2 * 0 + _ ≤ _; exact Nat.le_of_eq rfl) (by decide)
  refine OwnGo.back (T1.setTop (mkF m 4 #[.val (.ref a)] [])) (fun tg kk => st1 _ kk) ?_
  obtain ⟨fs, hr, hrun, hended, hW, hsame⟩ := X1.leave (v := none) (fun _ => rfl)
  refine ⟨_, _, ?_, hrun, hended, _, _, rfl, ?_, ⟨_, rfl⟩, hW, hsame.mono (by decide) (by decide)⟩
  · exact X1.returnOut hx Bd.returns (hb hby own_d2_4) hr
  · show own_rec_Q Z a h0 n0 _ T1.heap _
    rw [e1]
    exact ⟨rfl, N0, rfl⟩
theorem own_ini_ef (m : MethodId) (x0 : Addr) (x1 : Int32) (x2 : Int64) (x3 : Int64) : entryFrame m #[(.ref x0), (.int x1), (.long x2), (.long x3)] 6 = mkF m 0 #[.val (.ref x0), .val (.int x1), .val (.long x2), .second, .val (.long x3), .second] [] := by first | (simp [entryFrame, mkF, argsToLocals, Value.category]; done) | rfl
def own_ini_Q (Z : State) (a : Addr) (t : Int32) (k : Int64) (r : Int64) (h0 : Heap) (n0 : Nat) (rv : Option Value) (hN : Heap) (LL : List Loc) : Prop := rv = none ∧ Fr n0 LL ∧ Keep h0 hN [a] ∧ Exa Z hN a "com/example/padlok/padlok/LockStore$Answer" ∧ Fld Z hN a "com/example/padlok/padlok/LockStore$Answer" "taken" "Z" (.int t) ∧ Fld Z hN a "com/example/padlok/padlok/LockStore$Answer" "token" "J" (.long k) ∧ Fld Z hN a "com/example/padlok/padlok/LockStore$Answer" "retryInMillis" "J" (.long r)
set_option maxRecDepth 65536 in
set_option maxHeartbeats 40000000 in
theorem own_ini (l : Launch) (Z : State) (a0 : Array Value) (hw : ∀ d ∈ tables_1, d.before a0 Z = true) (ws : List Jvm.Cond) (a : Addr) (t : Int32) (k : Int64) (r : Int64) (h0 : Heap) (n0 : Nat) (Z0 : n0 ≤ h0.size) (H0 : Exa Z h0 a "com/example/padlok/padlok/LockStore$Answer") (H1 : Fld Z h0 a "com/example/padlok/padlok/LockStore$Answer" "taken" "Z" (.int (0 : Int32))) (H2 : Fld Z h0 a "com/example/padlok/padlok/LockStore$Answer" "token" "J" (.long (0 : Int64))) (H3 : Fld Z h0 a "com/example/padlok/padlok/LockStore$Answer" "retryInMillis" "J" (.long (0 : Int64))) (H4 : n0 ≤ a) (ht : t = 0 ∨ t = 1) :
    MetFree l (⟨"com/example/padlok/padlok/LockStore$Answer", "<init>", "(ZJJ)V"⟩ : MethodName) (head1 (Jvm.Cond.code (⟨"com/example/padlok/padlok/LockStore$Answer", "<init>", "(ZJJ)V"⟩ : MethodName) prog_7_method_1_code 6 none :: ws) ({ frames := 2, cells := 0, slots := 0, locals := 24 } : Room)) (fun aa UU => aa = #[(.ref a), (.int t), (.long k), (.long r)] ∧ Z.Warmed39 UU.vm ∧ UU.heap = h0) (fun _ _ _ _ _ => True) (fun _ UU oo UU' => ∃ rv LL, oo = .returned rv ∧ own_ini_Q Z a t k r h0 n0 rv UU'.heap LL ∧ FrameEnd UU oo UU' LL ({ frames := 2, cells := 0, slots := 0, locals := 24 } : Room).cells ({ frames := 2, cells := 0, slots := 0, locals := 24 } : Room).slots) := by
  refine MetFree.of_bodySF (plainFor_of_name own_pn1) hisR ?_
  intro p e s m args below meth c s₁ Bd hml0 hP hK
  obtain ⟨rfl, hZ, hh⟩ := hP
  have hx := Bd.exec
  have hby := Bd.bytes
  have hml : c.maxLocals = 6 := hml0
  have hown : s.vm.findClass "com/example/padlok/padlok/LockStore$Answer" = some m.cls := findClass_of_methodNamed Bd.named
  have hnm := (name_of_methodNamed Bd.named Bd.method).1
  have X0 : Stand p l e ({ frames := 2, cells := 0, slots := 0, locals := 24 } : Room) s m #[(.ref a), (.int t), (.long k), (.long r)] below meth c s₁ [] 0 0 := Stand.of_body Bd
  have e0 : s₁.heap = h0 := by rw [← hh, Bd.state]; rfl
  have N0 := Fr.nil n0
  have K0 : Keep h0 h0 [a] := Keep.refl h0 _
  refine (?_ : OwnGo p.tables e below (fun UU' oo => ∃ rv LL, oo = .returned rv ∧ own_ini_Q Z a t k r h0 n0 rv UU'.heap LL ∧ FrameEnd s oo UU' LL ({ frames := 2, cells := 0, slots := 0, locals := 24 } : Room).cells ({ frames := 2, cells := 0, slots := 0, locals := 24 } : Room).slots) _)
  refine OwnGo.back (s₁.setTop (mkF m 0 #[.val (.ref a), .val (.int t), .val (.long k), .second, .val (.long r), .second] [])) (fun tg kk => castTop (own_ini_ef m a t k r) kk) ?_
  refine OwnGo.back (s₁.setTop (mkF m 1 #[.val (.ref a), .val (.int t), .val (.long k), .second, .val (.long r), .second] [(.ref a)])) (fun tg kk => XS.aloadN X0.here hx rfl (hb hby own_d1_0) rfl rfl kk) ?_
  obtain ⟨_, _, ⟨T1, L1, k1, n1⟩, -, X1, ⟨Lc1, hQ1, l1, y1, z1⟩, st1⟩ := X0.specialBack hx (y := (⟨"java/lang/Record", "<init>", "()V"⟩ : MethodName)) rfl hown (mvT hZ (hw _ (List.mem_of_getElem? (i := 6) rfl))) (mvT hZ (hw _ (List.mem_of_getElem? (i := 7) rfl))) (mvT hZ (hw _ (List.mem_of_getElem? (i := 10) rfl))) (by decide) (backOf (W := 0) (own_rec l Z a0 hw [] a h0 n0 Z0 ) hZ (hw _ (List.mem_of_getElem? (i := 10) rfl)) (hw _ (List.mem_of_getElem? (i := 9) rfl)) (by decide) (by decide)) (g := (mkF m 1 #[.val (.ref a), .val (.int t), .val (.long k), .second, .val (.long r), .second] [(.ref a)])) rfl (by rw [hml]; rfl) (Steps.refl _) (a := a) (argsL := []) (rest := []) (lenOf own_pd0 rfl) rfl (by show 2 * 0 + _ ≤ _; exact Nat.le_of_eq rfl) (hb hby own_d1_1) (fun _ _ => ⟨rfl, e0, (by decide : 0 + 0 ≤ _), (by decide : 0 + 0 ≤ _)⟩)
  dsimp only [Pt.U, Pt.locs, Pt.cells, Pt.slots] at X1 l1 y1 z1 st1 hQ1
  subst l1 y1 z1
  obtain ⟨rfl, N1q, e1⟩ := hQ1
  have N1 := Fr.app N0 N1q
  refine OwnGo.back (T1.setTop (mkF m 4 #[.val (.ref a), .val (.int t), .val (.long k), .second, .val (.long r), .second] [])) (fun tg kk => st1.trans kk) ?_
  refine OwnGo.back (T1.setTop (mkF m 5 #[.val (.ref a), .val (.int t), .val (.long k), .second, .val (.long r), .second] [(.ref a)])) (fun tg kk => XS.aloadN X1.here hx rfl (hb hby own_d1_4) rfl rfl kk) ?_
  refine OwnGo.back (T1.setTop (mkF m 6 #[.val (.ref a), .val (.int t), .val (.long k), .second, .val (.long r), .second] [(.int t), (.ref a)])) (fun tg kk => XS.iloadN X1.here hx rfl (hb hby own_d1_5) rfl kk) ?_
  obtain ⟨T2, h2, X2, e2, W2, st2⟩ := putF X1 hx hZ hown (host := "") (Or.inl (hw _ (List.mem_of_getElem? (i := 14) rfl))) Via.refl e1 H1 H0 (Or.inr ⟨(hw _ (List.mem_of_getElem? (i := 15) rfl)), rfl, hnm⟩) (hw _ (List.mem_of_getElem? (i := 1) rfl)) (ty := .boolean) (by decide) (by rcases ht with h | h <;> rw [h] <;> rfl) (by rcases ht with h | h <;> rw [h] <;> rfl) (g := (mkF m 6 #[.val (.ref a), .val (.int t), .val (.long k), .second, .val (.long r), .second] [(.int t), (.ref a)])) rfl rfl (hb hby own_d1_6)
  have f3 : Fld Z h2 a "com/example/padlok/padlok/LockStore$Answer" "taken" "Z" (.int t) := H1.same W2
  have f4 : Exa Z h2 a "com/example/padlok/padlok/LockStore$Answer" := H0.wr W2
  have f5 : Fld Z h2 a "com/example/padlok/padlok/LockStore$Answer" "token" "J" (.long (0 : Int64)) := H2.other W2 (Or.inr (slot_ne (Or.inr (hw _ (List.mem_of_getElem? (i := 17) rfl))) (Or.inr (hw _ (List.mem_of_getElem? (i := 15) rfl))) (by decide) (t := .long) (t' := .boolean) (by decide) (by decide)))
  have f6 : Fld Z h2 a "com/example/padlok/padlok/LockStore$Answer" "retryInMillis" "J" (.long (0 : Int64)) := H3.other W2 (Or.inr (slot_ne (Or.inr (hw _ (List.mem_of_getElem? (i := 19) rfl))) (Or.inr (hw _ (List.mem_of_getElem? (i := 15) rfl))) (by decide) (t := .long) (t' := .boolean) (by decide) (by decide)))
  have K7 : Keep h0 h2 [a] := K0.wr W2 (Or.inl (List.mem_of_getElem? (i := 0) rfl))
  have Z8 : n0 ≤ h2.size := Nat.le_trans Z0 (Keep.of_wr W2).1
  have N9 := Fr.snoc X2 N1 H4
  refine OwnGo.back (T2.setTop (mkF m 9 #[.val (.ref a), .val (.int t), .val (.long k), .second, .val (.long r), .second] [])) (fun tg kk => st2 _ kk) ?_
  refine OwnGo.back (T2.setTop (mkF m 10 #[.val (.ref a), .val (.int t), .val (.long k), .second, .val (.long r), .second] [(.ref a)])) (fun tg kk => XS.aloadN X2.here hx rfl (hb hby own_d1_9) rfl rfl kk) ?_
  refine OwnGo.back (T2.setTop (mkF m 11 #[.val (.ref a), .val (.int t), .val (.long k), .second, .val (.long r), .second] [(.long k), (.ref a)])) (fun tg kk => XS.lloadN X2.here hx rfl (hb hby own_d1_10) rfl kk) ?_
  obtain ⟨T10, h10, X10, e10, W10, st10⟩ := putF X2 hx hZ hown (host := "") (Or.inl (hw _ (List.mem_of_getElem? (i := 16) rfl))) Via.refl e2 f5 f4 (Or.inr ⟨(hw _ (List.mem_of_getElem? (i := 17) rfl)), rfl, hnm⟩) (hw _ (List.mem_of_getElem? (i := 1) rfl)) (ty := .long) (by decide) rfl rfl (g := (mkF m 11 #[.val (.ref a), .val (.int t), .val (.long k), .second, .val (.long r), .second] [(.long k), (.ref a)])) rfl rfl (hb hby own_d1_11)
  have f11 : Fld Z h10 a "com/example/padlok/padlok/LockStore$Answer" "token" "J" (.long k) := f5.same W10
  have f12 : Exa Z h10 a "com/example/padlok/padlok/LockStore$Answer" := f4.wr W10
  have f13 : Fld Z h10 a "com/example/padlok/padlok/LockStore$Answer" "retryInMillis" "J" (.long (0 : Int64)) := f6.other W10 (Or.inr (slot_ne (Or.inr (hw _ (List.mem_of_getElem? (i := 19) rfl))) (Or.inr (hw _ (List.mem_of_getElem? (i := 17) rfl))) (by decide) (t := .long) (t' := .long) (by decide) (by decide)))
  have f14 : Fld Z h10 a "com/example/padlok/padlok/LockStore$Answer" "taken" "Z" (.int t) := f3.other W10 (Or.inr (slot_ne (Or.inr (hw _ (List.mem_of_getElem? (i := 15) rfl))) (Or.inr (hw _ (List.mem_of_getElem? (i := 17) rfl))) (by decide) (t := .boolean) (t' := .long) (by decide) (by decide)))
  have K15 : Keep h0 h10 [a] := K7.wr W10 (Or.inl (List.mem_of_getElem? (i := 0) rfl))
  have Z16 : n0 ≤ h10.size := Nat.le_trans Z8 (Keep.of_wr W10).1
  have N17 := Fr.snoc X10 N9 H4
  refine OwnGo.back (T10.setTop (mkF m 14 #[.val (.ref a), .val (.int t), .val (.long k), .second, .val (.long r), .second] [])) (fun tg kk => st10 _ kk) ?_
  refine OwnGo.back (T10.setTop (mkF m 15 #[.val (.ref a), .val (.int t), .val (.long k), .second, .val (.long r), .second] [(.ref a)])) (fun tg kk => XS.aloadN X10.here hx rfl (hb hby own_d1_14) rfl rfl kk) ?_
  refine OwnGo.back (T10.setTop (mkF m 17 #[.val (.ref a), .val (.int t), .val (.long k), .second, .val (.long r), .second] [(.long r), (.ref a)])) (fun tg kk => XS.lload X10.here hx rfl (hb hby own_d1_15) rfl kk) ?_
  obtain ⟨T18, h18, X18, e18, W18, st18⟩ := putF X10 hx hZ hown (host := "") (Or.inl (hw _ (List.mem_of_getElem? (i := 18) rfl))) Via.refl e10 f13 f12 (Or.inr ⟨(hw _ (List.mem_of_getElem? (i := 19) rfl)), rfl, hnm⟩) (hw _ (List.mem_of_getElem? (i := 1) rfl)) (ty := .long) (by decide) rfl rfl (g := (mkF m 17 #[.val (.ref a), .val (.int t), .val (.long k), .second, .val (.long r), .second] [(.long r), (.ref a)])) rfl rfl (hb hby own_d1_17)
  have f19 : Fld Z h18 a "com/example/padlok/padlok/LockStore$Answer" "retryInMillis" "J" (.long r) := f13.same W18
  have f20 : Exa Z h18 a "com/example/padlok/padlok/LockStore$Answer" := f12.wr W18
  have f21 : Fld Z h18 a "com/example/padlok/padlok/LockStore$Answer" "taken" "Z" (.int t) := f14.other W18 (Or.inr (slot_ne (Or.inr (hw _ (List.mem_of_getElem? (i := 15) rfl))) (Or.inr (hw _ (List.mem_of_getElem? (i := 19) rfl))) (by decide) (t := .boolean) (t' := .long) (by decide) (by decide)))
  have f22 : Fld Z h18 a "com/example/padlok/padlok/LockStore$Answer" "token" "J" (.long k) := f11.other W18 (Or.inr (slot_ne (Or.inr (hw _ (List.mem_of_getElem? (i := 17) rfl))) (Or.inr (hw _ (List.mem_of_getElem? (i := 19) rfl))) (by decide) (t := .long) (t' := .long) (by decide) (by decide)))
  have K23 : Keep h0 h18 [a] := K15.wr W18 (Or.inl (List.mem_of_getElem? (i := 0) rfl))
  have Z24 : n0 ≤ h18.size := Nat.le_trans Z16 (Keep.of_wr W18).1
  have N25 := Fr.snoc X18 N17 H4
  refine OwnGo.back (T18.setTop (mkF m 20 #[.val (.ref a), .val (.int t), .val (.long k), .second, .val (.long r), .second] [])) (fun tg kk => st18 _ kk) ?_
  obtain ⟨fs, hr, hrun, hended, hW, hsame⟩ := X18.leave (v := none) (fun _ => rfl)
  refine ⟨_, _, ?_, hrun, hended, _, _, rfl, ?_, ⟨_, rfl⟩, hW, hsame.mono (by decide) (by decide)⟩
  · exact X18.returnOut hx Bd.returns (hb hby own_d1_20) hr
  · show own_ini_Q Z a t k r h0 n0 _ T18.heap _
    rw [e18]
    exact ⟨rfl, N25, K23, f20, f21, f22, f19⟩
theorem own_ref_ef (m : MethodId) (x0 : Int64) : entryFrame m #[(.long x0)] 2 = mkF m 0 #[.val (.long x0), .second] [] := by first | (simp [entryFrame, mkF, argsToLocals, Value.category]; done) | rfl
def own_ref_Q (Z : State) (r : Int64) (h0 : Heap) (n0 : Nat) (rv : Option Value) (hN : Heap) (LL : List Loc) : Prop := ∃ (b : Addr), rv = some (.ref b) ∧ Fr n0 LL ∧ Keep h0 hN [] ∧ h0.size ≤ b ∧ Exa Z hN b "com/example/padlok/padlok/LockStore$Answer" ∧ Fld Z hN b "com/example/padlok/padlok/LockStore$Answer" "taken" "Z" (.int (0 : Int32)) ∧ Fld Z hN b "com/example/padlok/padlok/LockStore$Answer" "token" "J" (.long (0 : Int64)) ∧ Fld Z hN b "com/example/padlok/padlok/LockStore$Answer" "retryInMillis" "J" (.long r)
set_option maxRecDepth 65536 in
set_option maxHeartbeats 40000000 in
theorem own_ref (l : Launch) (Z : State) (a0 : Array Value) (hw : ∀ d ∈ tables_1, d.before a0 Z = true) (ws : List Jvm.Cond) (r : Int64) (h0 : Heap) (n0 : Nat) (Z0 : n0 ≤ h0.size) :
    MetFree l (⟨"com/example/padlok/padlok/LockStore$Answer", "refused", "(J)Lcom/example/padlok/padlok/LockStore$Answer;"⟩ : MethodName) (head1 (Jvm.Cond.code (⟨"com/example/padlok/padlok/LockStore$Answer", "refused", "(J)Lcom/example/padlok/padlok/LockStore$Answer;"⟩ : MethodName) prog_7_method_3_code 2 (some (.object "com/example/padlok/padlok/LockStore$Answer")) :: ws) ({ frames := 3, cells := 1, slots := 3, locals := 42 } : Room)) (fun aa UU => aa = #[(.long r)] ∧ Z.Warmed39 UU.vm ∧ UU.heap = h0) (fun _ _ _ _ _ => True) (fun _ UU oo UU' => ∃ rv LL, oo = .returned rv ∧ own_ref_Q Z r h0 n0 rv UU'.heap LL ∧ FrameEnd UU oo UU' LL ({ frames := 3, cells := 1, slots := 3, locals := 42 } : Room).cells ({ frames := 3, cells := 1, slots := 3, locals := 42 } : Room).slots) := by
  refine MetFree.of_bodySF (plainFor_of_name own_pn1) hisR ?_
  intro p e s m args below meth c s₁ Bd hml0 hP hK
  obtain ⟨rfl, hZ, hh⟩ := hP
  have hx := Bd.exec
  have hby := Bd.bytes
  have hml : c.maxLocals = 2 := hml0
  have hown : s.vm.findClass "com/example/padlok/padlok/LockStore$Answer" = some m.cls := findClass_of_methodNamed Bd.named
  have hnm := (name_of_methodNamed Bd.named Bd.method).1
  have X0 : Stand p l e ({ frames := 3, cells := 1, slots := 3, locals := 42 } : Room) s m #[(.long r)] below meth c s₁ [] 0 0 := Stand.of_body Bd
  have e0 : s₁.heap = h0 := by rw [← hh, Bd.state]; rfl
  have N0 := Fr.nil n0
  have K0 : Keep h0 h0 [] := Keep.refl h0 _
  refine (?_ : OwnGo p.tables e below (fun UU' oo => ∃ rv LL, oo = .returned rv ∧ own_ref_Q Z r h0 n0 rv UU'.heap LL ∧ FrameEnd s oo UU' LL ({ frames := 3, cells := 1, slots := 3, locals := 42 } : Room).cells ({ frames := 3, cells := 1, slots := 3, locals := 42 } : Room).slots) _)
  refine OwnGo.back (s₁.setTop (mkF m 0 #[.val (.long r), .second] [])) (fun tg kk => castTop (own_ref_ef m r) kk) ?_
  obtain ⟨T1, h1, X1, e1, E1, A1, D1, -, st1⟩ := newO X0 hx hZ hown (hw _ (List.mem_of_getElem? (i := 28) rfl)) (hw _ (List.mem_of_getElem? (i := 1) rfl)) (hw _ (List.mem_of_getElem? (i := 2) rfl)) e0 (g := (mkF m 0 #[.val (.long r), .second] [])) rfl (hb hby own_d5_0) (by decide) (by decide)
  obtain ⟨b1, q1⟩ : ∃ z, z = h0.size := ⟨_, rfl⟩
  rw [← q1] at A1 D1 st1
  have g2 : n0 ≤ b1 := Nat.le_trans Z0 (Nat.le_of_eq q1.symm)
  have s3 : h0.size ≤ b1 := Nat.le_trans K0.1 (Nat.le_of_eq q1.symm)
  have K4 : Keep h0 h1 [] := K0.ext E1
  have Z5 : n0 ≤ h1.size := Nat.le_trans Z0 E1.1
  have f6 : Fld Z h1 b1 "com/example/padlok/padlok/LockStore$Answer" "taken" "Z" (.int (0 : Int32)) := D1 (Or.inr (hw _ (List.mem_of_getElem? (i := 15) rfl))) (ty := .boolean) (by decide)
  have f7 : Fld Z h1 b1 "com/example/padlok/padlok/LockStore$Answer" "token" "J" (.long (0 : Int64)) := D1 (Or.inr (hw _ (List.mem_of_getElem? (i := 17) rfl))) (ty := .long) (by decide)
  have f8 : Fld Z h1 b1 "com/example/padlok/padlok/LockStore$Answer" "retryInMillis" "J" (.long (0 : Int64)) := D1 (Or.inr (hw _ (List.mem_of_getElem? (i := 19) rfl))) (ty := .long) (by decide)
  refine OwnGo.back (T1.setTop (mkF m 3 #[.val (.long r), .second] [(.ref b1)])) (fun tg kk => st1 _ kk) ?_
  refine OwnGo.back (T1.setTop (mkF m 4 #[.val (.long r), .second] [(.ref b1), (.ref b1)])) (fun tg kk => XS.dup X1.here hx rfl (hb hby own_d5_3) rfl rfl kk) ?_
  refine OwnGo.back (T1.setTop (mkF m 5 #[.val (.long r), .second] [(.int (0 : Int32)), (.ref b1), (.ref b1)])) (fun tg kk => XS.iconst X1.here hx rfl (hb hby own_d5_4) kk) ?_
  refine OwnGo.back (T1.setTop (mkF m 6 #[.val (.long r), .second] [(.long (0 : Int64)), (.int (0 : Int32)), (.ref b1), (.ref b1)])) (fun tg kk => XS.lconst X1.here hx rfl (hb hby own_d5_5) kk) ?_
  refine OwnGo.back (T1.setTop (mkF m 7 #[.val (.long r), .second] [(.long r), (.long (0 : Int64)), (.int (0 : Int32)), (.ref b1), (.ref b1)])) (fun tg kk => XS.lloadN X1.here hx rfl (hb hby own_d5_6) rfl kk) ?_
  obtain ⟨_, _, ⟨T9, L9, k9, n9⟩, -, X9, ⟨Lc9, hQ9, l9, y9, z9⟩, st9⟩ := X1.specialBack hx (y := (⟨"com/example/padlok/padlok/LockStore$Answer", "<init>", "(ZJJ)V"⟩ : MethodName)) rfl hown (mvT hZ (hw _ (List.mem_of_getElem? (i := 29) rfl))) (mvT hZ (hw _ (List.mem_of_getElem? (i := 4) rfl))) (mvT hZ (hw _ (List.mem_of_getElem? (i := 5) rfl))) (by decide) (backOf (W := 1) (own_ini l Z a0 hw [] b1 (0 : Int32) (0 : Int64) r h1 n0 Z5 A1 f6 f7 f8 g2 (by first | assumption | decide | omega)) hZ (hw _ (List.mem_of_getElem? (i := 5) rfl)) (hw _ (List.mem_of_getElem? (i := 2) rfl)) (by decide) (by decide)) (g := (mkF m 7 #[.val (.long r), .second] [(.long r), (.long (0 : Int64)), (.int (0 : Int32)), (.ref b1), (.ref b1)])) rfl (by rw [hml]; rfl) (Steps.refl _) (a := b1) (argsL := [(.int (0 : Int32)), (.long (0 : Int64)), (.long r)]) (rest := [(.ref b1)]) (lenOf own_pd1 rfl) rfl (by show 2 * 0 + _ ≤ _; exact Nat.le_of_eq rfl) (hb hby own_d5_7) (fun _ _ => ⟨rfl, e1, (by decide : 1 + 0 ≤ _), (by decide : 3 + 0 ≤ _)⟩)
  dsimp only [Pt.U, Pt.locs, Pt.cells, Pt.slots] at X9 l9 y9 z9 st9 hQ9
  subst l9 y9 z9
  obtain ⟨rfl, N9q, Kc9, po10, po11, po12, po13⟩ := hQ9
  have N9 := Fr.app N0 N9q
  have f14 : Exa Z T9.heap b1 "com/example/padlok/padlok/LockStore$Answer" := A1.keep Kc9
  have K15 : Keep h0 T9.heap [] := K4.trans Kc9 (allS (Or.inr s3) all0)
  have Z16 : n0 ≤ T9.heap.size := Nat.le_trans Z5 Kc9.1
  refine OwnGo.back (T9.setTop (mkF m 10 #[.val (.long r), .second] [(.ref b1)])) (fun tg kk => st9.trans kk) ?_
  obtain ⟨fs, hr, hrun, hended, hW, hsame⟩ := X9.leave (v := some (.ref b1)) (fun h => by rw [Bd.returns] at h; cases h)
  refine ⟨_, _, ?_, hrun, hended, _, _, rfl, ?_, ⟨_, rfl⟩, hW, hsame.mono (by decide) (by decide)⟩
  · exact own_retA X9 hx Bd.returns rfl rfl rfl (hb hby own_d5_10) hr
  · show own_ref_Q Z r h0 n0 _ T9.heap _
    exact ⟨b1, rfl, N9, K15, s3, po10, po11, po12, po13⟩
theorem own_ask_ef (m : MethodId) (x0 : Addr) (x1 : Int64) : entryFrame m #[(.ref x0), (.long x1)] 4 = mkF m 0 #[.val (.ref x0), .val (.long x1), .second, .unset] [] := by first | (simp [entryFrame, mkF, argsToLocals, Value.category]; done) | rfl
def own_ask_Q (Z : State) (a : Addr) (mi : Int64) (t : Int32) (k : Int64) (r : Int64) (h0 : Heap) (n0 : Nat) (rv : Option Value) (hN : Heap) (LL : List Loc) : Prop := ∃ (b : Addr), ∃ (t' : Int32), ∃ (k' : Int64), ∃ (r' : Int64), rv = some (.ref b) ∧ Fr n0 LL ∧ Keep h0 hN [] ∧ Exa Z hN b "com/example/padlok/padlok/LockStore$Answer" ∧ Fld Z hN b "com/example/padlok/padlok/LockStore$Answer" "taken" "Z" (.int t') ∧ Fld Z hN b "com/example/padlok/padlok/LockStore$Answer" "token" "J" (.long k') ∧ Fld Z hN b "com/example/padlok/padlok/LockStore$Answer" "retryInMillis" "J" (.long r') ∧ (t' = 0 ∨ t' = 1) ∧ (((¬ t = 0 ∨ (¬ r < 0 ∧ ¬ mi < r)) ∧ t' = t ∧ k' = k ∧ r' = r) ∨ (¬ (¬ t = 0 ∨ (¬ r < 0 ∧ ¬ mi < r)) ∧ t' = 0 ∧ k' = 0 ∧ r' = mi))
set_option maxRecDepth 65536 in
set_option maxHeartbeats 40000000 in
theorem own_ask (l : Launch) (Z : State) (a0 : Array Value) (hw : ∀ d ∈ tables_1, d.before a0 Z = true) (ws : List Jvm.Cond) (a : Addr) (mi : Int64) (t : Int32) (k : Int64) (r : Int64) (h0 : Heap) (n0 : Nat) (Z0 : n0 ≤ h0.size) (H0 : Exa Z h0 a "com/example/padlok/padlok/LockStore$Answer") (H1 : Fld Z h0 a "com/example/padlok/padlok/LockStore$Answer" "taken" "Z" (.int t)) (H2 : Fld Z h0 a "com/example/padlok/padlok/LockStore$Answer" "token" "J" (.long k)) (H3 : Fld Z h0 a "com/example/padlok/padlok/LockStore$Answer" "retryInMillis" "J" (.long r)) (ht : t = 0 ∨ t = 1) :
    MetFree l (⟨"com/example/padlok/padlok/LockStore$Answer", "askingAgainWithin", "(J)Lcom/example/padlok/padlok/LockStore$Answer;"⟩ : MethodName) (head1 (Jvm.Cond.code (⟨"com/example/padlok/padlok/LockStore$Answer", "askingAgainWithin", "(J)Lcom/example/padlok/padlok/LockStore$Answer;"⟩ : MethodName) prog_7_method_4_code 4 (some (.object "com/example/padlok/padlok/LockStore$Answer")) :: ws) ({ frames := 4, cells := 1, slots := 3, locals := 55 } : Room)) (fun aa UU => aa = #[(.ref a), (.long mi)] ∧ Z.Warmed39 UU.vm ∧ UU.heap = h0) (fun _ _ _ _ _ => True) (fun _ UU oo UU' => ∃ rv LL, oo = .returned rv ∧ own_ask_Q Z a mi t k r h0 n0 rv UU'.heap LL ∧ FrameEnd UU oo UU' LL ({ frames := 4, cells := 1, slots := 3, locals := 55 } : Room).cells ({ frames := 4, cells := 1, slots := 3, locals := 55 } : Room).slots) := by
  refine MetFree.of_bodySF (plainFor_of_name own_pn1) hisR ?_
  intro p e s m args below meth c s₁ Bd hml0 hP hK
  obtain ⟨rfl, hZ, hh⟩ := hP
  have hx := Bd.exec
  have hby := Bd.bytes
  have hml : c.maxLocals = 4 := hml0
  have hown : s.vm.findClass "com/example/padlok/padlok/LockStore$Answer" = some m.cls := findClass_of_methodNamed Bd.named
  have hnm := (name_of_methodNamed Bd.named Bd.method).1
  have X0 : Stand p l e ({ frames := 4, cells := 1, slots := 3, locals := 55 } : Room) s m #[(.ref a), (.long mi)] below meth c s₁ [] 0 0 := Stand.of_body Bd
  have e0 : s₁.heap = h0 := by rw [← hh, Bd.state]; rfl
  have N0 := Fr.nil n0
  have K0 : Keep h0 h0 [] := Keep.refl h0 _
  refine (?_ : OwnGo p.tables e below (fun UU' oo => ∃ rv LL, oo = .returned rv ∧ own_ask_Q Z a mi t k r h0 n0 rv UU'.heap LL ∧ FrameEnd s oo UU' LL ({ frames := 4, cells := 1, slots := 3, locals := 55 } : Room).cells ({ frames := 4, cells := 1, slots := 3, locals := 55 } : Room).slots) _)
  refine OwnGo.back (s₁.setTop (mkF m 0 #[.val (.ref a), .val (.long mi), .second, .unset] [])) (fun tg kk => castTop (own_ask_ef m a mi) kk) ?_
  refine OwnGo.back (s₁.setTop (mkF m 1 #[.val (.ref a), .val (.long mi), .second, .unset] [(.ref a)])) (fun tg kk => XS.aloadN X0.here hx rfl (hb hby own_d4_0) rfl rfl kk) ?_
  refine OwnGo.back (s₁.setTop (mkF m 2 #[.val (.ref a), .val (.long mi), .second, .val (.ref a)] [])) (fun tg kk => XS.astoreN X0.here hx rfl (hb hby own_d4_1) rfl rfl (l' := #[.val (.ref a), .val (.long mi), .second, .val (.ref a)]) rfl kk) ?_
  refine OwnGo.back (s₁.setTop (mkF m 3 #[.val (.ref a), .val (.long mi), .second, .val (.ref a)] [(.ref a)])) (fun tg kk => XS.aloadN X0.here hx rfl (hb hby own_d4_2) rfl rfl kk) ?_
  obtain ⟨T1, X1, e1, st1⟩ := getF X0 hx hZ hown (host := "") (Or.inl (hw _ (List.mem_of_getElem? (i := 14) rfl))) Via.refl e0 H1 (g := (mkF m 3 #[.val (.ref a), .val (.long mi), .second, .val (.ref a)] [(.ref a)])) rfl rfl (hb hby own_d4_3)
  refine OwnGo.back (T1.setTop (mkF m 6 #[.val (.ref a), .val (.long mi), .second, .val (.ref a)] [(.int t)])) (fun tg kk => st1 _ kk) ?_
  by_cases hc2 : t = (0 : Int32)
  ·
    refine OwnGo.back (T1.setTop (mkF m 9 #[.val (.ref a), .val (.long mi), .second, .val (.ref a)] [])) (fun tg kk => XS.ifNo X1.here hx rfl (hb hby own_d4_6) rfl ((if0 _ _).trans (teq hc2).2) kk) ?_
    refine OwnGo.back (T1.setTop (mkF m 10 #[.val (.ref a), .val (.long mi), .second, .val (.ref a)] [(.ref a)])) (fun tg kk => XS.aloadN X1.here hx rfl (hb hby own_d4_9) rfl rfl kk) ?_
    obtain ⟨T3, X3, e3, st3⟩ := getF X1 hx hZ hown (host := "") (Or.inl (hw _ (List.mem_of_getElem? (i := 18) rfl))) Via.refl e1 H3 (g := (mkF m 10 #[.val (.ref a), .val (.long mi), .second, .val (.ref a)] [(.ref a)])) rfl rfl (hb hby own_d4_10)
    refine OwnGo.back (T3.setTop (mkF m 13 #[.val (.ref a), .val (.long mi), .second, .val (.ref a)] [(.long r)])) (fun tg kk => st3 _ kk) ?_
    refine OwnGo.back (T3.setTop (mkF m 14 #[.val (.ref a), .val (.long mi), .second, .val (.ref a)] [(.long (0 : Int64)), (.long r)])) (fun tg kk => XS.lconst X3.here hx rfl (hb hby own_d4_13) kk) ?_
    refine OwnGo.back (T3.setTop (mkF m 15 #[.val (.ref a), .val (.long mi), .second, .val (.ref a)] [(.int (lcmpW r (0 : Int64)))])) (fun tg kk => XS.lcmp X3.here hx rfl (hb hby own_d4_14) rfl kk) ?_
    by_cases hc4 : r < (0 : Int64)
    ·
      refine OwnGo.back (T3.setTop (mkF m 27 #[.val (.ref a), .val (.long mi), .second, .val (.ref a)] [])) (fun tg kk => XS.ifYes X3.here hx rfl (pc0 := 15) (pc' := 27) rfl (hb hby own_d4_15) rfl ((if0 _ _).trans (tlt ((lw_lt _ _).mpr hc4)).1) (by decide) (by decide) kk) ?_
      refine OwnGo.back (T3.setTop (mkF m 28 #[.val (.ref a), .val (.long mi), .second, .val (.ref a)] [(.long mi)])) (fun tg kk => XS.lloadN X3.here hx rfl (hb hby own_d4_27) rfl kk) ?_
      obtain ⟨_, _, ⟨T5, L5, k5, n5⟩, -, X5, ⟨Lc5, hQ5, l5, y5, z5⟩, st5⟩ := Jvm.LawKit.callS X3 hx (y := (⟨"com/example/padlok/padlok/LockStore$Answer", "refused", "(J)Lcom/example/padlok/padlok/LockStore$Answer;"⟩ : MethodName)) hown (mvT hZ (hw _ (List.mem_of_getElem? (i := 25) rfl))) (mvT hZ (hw _ (List.mem_of_getElem? (i := 26) rfl))) (mvT hZ (hw _ (List.mem_of_getElem? (i := 2) rfl))) (mvT hZ (hw _ (List.mem_of_getElem? (i := 27) rfl))) (by decide) (backOf (W := 0) (own_ref l Z a0 hw [] mi h0 n0 Z0 ) hZ (hw _ (List.mem_of_getElem? (i := 27) rfl)) (hw _ (List.mem_of_getElem? (i := 2) rfl)) (by decide) (by decide)) (g := (mkF m 28 #[.val (.ref a), .val (.long mi), .second, .val (.ref a)] [(.long mi)])) rfl (by rw [hml]; rfl) (argsL := [(.long mi)]) (rest := []) (lenOf own_pd2 rfl) rfl (by show 2 * 0 + _ ≤ _; exact Nat.le_of_eq rfl) (hb hby own_d4_28) (fun _ _ => ⟨rfl, e3, (by decide : 0 + 1 ≤ _), (by decide : 0 + 3 ≤ _)⟩)
      dsimp only [Pt.U, Pt.locs, Pt.cells, Pt.slots] at X5 l5 y5 z5 st5 hQ5
      subst l5 y5 z5
      obtain ⟨b_6, rfl, N5q, Kc5, po7, po8, po9, po10, po11⟩ := hQ5
      have N5 := Fr.app N0 N5q
      have f12 : Exa Z T5.heap a "com/example/padlok/padlok/LockStore$Answer" := H0.keep Kc5
      have f13 : Fld Z T5.heap a "com/example/padlok/padlok/LockStore$Answer" "taken" "Z" (.int t) := H1.keep Kc5 nin0
      have f14 : Fld Z T5.heap a "com/example/padlok/padlok/LockStore$Answer" "token" "J" (.long k) := H2.keep Kc5 nin0
      have f15 : Fld Z T5.heap a "com/example/padlok/padlok/LockStore$Answer" "retryInMillis" "J" (.long r) := H3.keep Kc5 nin0
      have K16 : Keep h0 T5.heap [] := K0.trans Kc5 all0
      have Z17 : n0 ≤ T5.heap.size := Nat.le_trans Z0 Kc5.1
      have n18 : a ≠ b_6 := own_ne' H0.lt po7
      have g19 : n0 ≤ b_6 := Nat.le_trans Z0 po7
      have s20 : h0.size ≤ b_6 := Nat.le_trans K0.1 po7
      refine OwnGo.back (T5.setTop (mkF m 31 #[.val (.ref a), .val (.long mi), .second, .val (.ref a)] [(.ref b_6)])) (fun tg kk => st5 _ kk) ?_
      refine OwnGo.back (T5.setTop (mkF m 32 #[.val (.ref a), .val (.long mi), .second, .val (.ref b_6)] [])) (fun tg kk => XS.astoreN X5.here hx rfl (hb hby own_d4_31) rfl rfl (l' := #[.val (.ref a), .val (.long mi), .second, .val (.ref b_6)]) rfl kk) ?_
      refine OwnGo.back (T5.setTop (mkF m 33 #[.val (.ref a), .val (.long mi), .second, .val (.ref b_6)] [(.ref b_6)])) (fun tg kk => XS.aloadN X5.here hx rfl (hb hby own_d4_32) rfl rfl kk) ?_
      obtain ⟨fs, hr, hrun, hended, hW, hsame⟩ := X5.leave (v := some (.ref b_6)) (fun h => by rw [Bd.returns] at h; cases h)
      refine ⟨_, _, ?_, hrun, hended, _, _, rfl, ?_, ⟨_, rfl⟩, hW, hsame.mono (by decide) (by decide)⟩
      · exact own_retA X5 hx Bd.returns rfl rfl rfl (hb hby own_d4_33) hr
      · show own_ask_Q Z a mi t k r h0 n0 _ T5.heap _
        exact ⟨b_6, (0 : Int32), (0 : Int64), mi, rfl, N5, K16, po8, po9, po10, po11, (by (simp only [true_and, and_true, false_and, and_false, or_false, false_or, or_true, true_or, not_true_eq_false, not_false_eq_true, eq_self, Int32.lt_iff_toInt_lt, Int32.le_iff_toInt_le, ← Int32.toInt_inj, Int32.reduceToInt, Int64.lt_iff_toInt_lt, Int64.le_iff_toInt_le, ← Int64.toInt_inj, Int64.reduceToInt] at hc2 hc4 ht ⊢) <;> omega), (by (simp only [true_and, and_true, false_and, and_false, or_false, false_or, or_true, true_or, not_true_eq_false, not_false_eq_true, eq_self, Int32.lt_iff_toInt_lt, Int32.le_iff_toInt_le, ← Int32.toInt_inj, Int32.reduceToInt, Int64.lt_iff_toInt_lt, Int64.le_iff_toInt_le, ← Int64.toInt_inj, Int64.reduceToInt] at hc2 hc4 ht ⊢) <;> omega)⟩
    ·
      refine OwnGo.back (T3.setTop (mkF m 18 #[.val (.ref a), .val (.long mi), .second, .val (.ref a)] [])) (fun tg kk => XS.ifNo X3.here hx rfl (hb hby own_d4_15) rfl ((if0 _ _).trans (flt (own_not (lw_lt _ _) hc4)).1) kk) ?_
      refine OwnGo.back (T3.setTop (mkF m 19 #[.val (.ref a), .val (.long mi), .second, .val (.ref a)] [(.ref a)])) (fun tg kk => XS.aloadN X3.here hx rfl (hb hby own_d4_18) rfl rfl kk) ?_
      obtain ⟨T21, X21, e21, st21⟩ := getF X3 hx hZ hown (host := "") (Or.inl (hw _ (List.mem_of_getElem? (i := 18) rfl))) Via.refl e3 H3 (g := (mkF m 19 #[.val (.ref a), .val (.long mi), .second, .val (.ref a)] [(.ref a)])) rfl rfl (hb hby own_d4_19)
      refine OwnGo.back (T21.setTop (mkF m 22 #[.val (.ref a), .val (.long mi), .second, .val (.ref a)] [(.long r)])) (fun tg kk => st21 _ kk) ?_
      refine OwnGo.back (T21.setTop (mkF m 23 #[.val (.ref a), .val (.long mi), .second, .val (.ref a)] [(.long mi), (.long r)])) (fun tg kk => XS.lloadN X21.here hx rfl (hb hby own_d4_22) rfl kk) ?_
      refine OwnGo.back (T21.setTop (mkF m 24 #[.val (.ref a), .val (.long mi), .second, .val (.ref a)] [(.int (lcmpW r mi))])) (fun tg kk => XS.lcmp X21.here hx rfl (hb hby own_d4_23) rfl kk) ?_
      by_cases hc22 : mi < r
      ·
        refine OwnGo.back (T21.setTop (mkF m 27 #[.val (.ref a), .val (.long mi), .second, .val (.ref a)] [])) (fun tg kk => XS.ifNo X21.here hx rfl (hb hby own_d4_24) rfl ((if0 _ _).trans (tlt ((lw_gt _ _).mpr hc22)).2.2.2) kk) ?_
        refine OwnGo.back (T21.setTop (mkF m 28 #[.val (.ref a), .val (.long mi), .second, .val (.ref a)] [(.long mi)])) (fun tg kk => XS.lloadN X21.here hx rfl (hb hby own_d4_27) rfl kk) ?_
        obtain ⟨_, _, ⟨T23, L23, k23, n23⟩, -, X23, ⟨Lc23, hQ23, l23, y23, z23⟩, st23⟩ := Jvm.LawKit.callS X21 hx (y := (⟨"com/example/padlok/padlok/LockStore$Answer", "refused", "(J)Lcom/example/padlok/padlok/LockStore$Answer;"⟩ : MethodName)) hown (mvT hZ (hw _ (List.mem_of_getElem? (i := 25) rfl))) (mvT hZ (hw _ (List.mem_of_getElem? (i := 26) rfl))) (mvT hZ (hw _ (List.mem_of_getElem? (i := 2) rfl))) (mvT hZ (hw _ (List.mem_of_getElem? (i := 27) rfl))) (by decide) (backOf (W := 0) (own_ref l Z a0 hw [] mi h0 n0 Z0 ) hZ (hw _ (List.mem_of_getElem? (i := 27) rfl)) (hw _ (List.mem_of_getElem? (i := 2) rfl)) (by decide) (by decide)) (g := (mkF m 28 #[.val (.ref a), .val (.long mi), .second, .val (.ref a)] [(.long mi)])) rfl (by rw [hml]; rfl) (argsL := [(.long mi)]) (rest := []) (lenOf own_pd2 rfl) rfl (by show 2 * 0 + _ ≤ _; exact Nat.le_of_eq rfl) (hb hby own_d4_28) (fun _ _ => ⟨rfl, e21, (by decide : 0 + 1 ≤ _), (by decide : 0 + 3 ≤ _)⟩)
        dsimp only [Pt.U, Pt.locs, Pt.cells, Pt.slots] at X23 l23 y23 z23 st23 hQ23
        subst l23 y23 z23
        obtain ⟨b_24, rfl, N23q, Kc23, po25, po26, po27, po28, po29⟩ := hQ23
        have N23 := Fr.app N0 N23q
        have f30 : Exa Z T23.heap a "com/example/padlok/padlok/LockStore$Answer" := H0.keep Kc23
        have f31 : Fld Z T23.heap a "com/example/padlok/padlok/LockStore$Answer" "taken" "Z" (.int t) := H1.keep Kc23 nin0
        have f32 : Fld Z T23.heap a "com/example/padlok/padlok/LockStore$Answer" "token" "J" (.long k) := H2.keep Kc23 nin0
        have f33 : Fld Z T23.heap a "com/example/padlok/padlok/LockStore$Answer" "retryInMillis" "J" (.long r) := H3.keep Kc23 nin0
        have K34 : Keep h0 T23.heap [] := K0.trans Kc23 all0
        have Z35 : n0 ≤ T23.heap.size := Nat.le_trans Z0 Kc23.1
        have n36 : a ≠ b_24 := own_ne' H0.lt po25
        have g37 : n0 ≤ b_24 := Nat.le_trans Z0 po25
        have s38 : h0.size ≤ b_24 := Nat.le_trans K0.1 po25
        refine OwnGo.back (T23.setTop (mkF m 31 #[.val (.ref a), .val (.long mi), .second, .val (.ref a)] [(.ref b_24)])) (fun tg kk => st23 _ kk) ?_
        refine OwnGo.back (T23.setTop (mkF m 32 #[.val (.ref a), .val (.long mi), .second, .val (.ref b_24)] [])) (fun tg kk => XS.astoreN X23.here hx rfl (hb hby own_d4_31) rfl rfl (l' := #[.val (.ref a), .val (.long mi), .second, .val (.ref b_24)]) rfl kk) ?_
        refine OwnGo.back (T23.setTop (mkF m 33 #[.val (.ref a), .val (.long mi), .second, .val (.ref b_24)] [(.ref b_24)])) (fun tg kk => XS.aloadN X23.here hx rfl (hb hby own_d4_32) rfl rfl kk) ?_
        obtain ⟨fs, hr, hrun, hended, hW, hsame⟩ := X23.leave (v := some (.ref b_24)) (fun h => by rw [Bd.returns] at h; cases h)
        refine ⟨_, _, ?_, hrun, hended, _, _, rfl, ?_, ⟨_, rfl⟩, hW, hsame.mono (by decide) (by decide)⟩
        · exact own_retA X23 hx Bd.returns rfl rfl rfl (hb hby own_d4_33) hr
        · show own_ask_Q Z a mi t k r h0 n0 _ T23.heap _
          exact ⟨b_24, (0 : Int32), (0 : Int64), mi, rfl, N23, K34, po26, po27, po28, po29, (by (simp only [true_and, and_true, false_and, and_false, or_false, false_or, or_true, true_or, not_true_eq_false, not_false_eq_true, eq_self, Int32.lt_iff_toInt_lt, Int32.le_iff_toInt_le, ← Int32.toInt_inj, Int32.reduceToInt, Int64.lt_iff_toInt_lt, Int64.le_iff_toInt_le, ← Int64.toInt_inj, Int64.reduceToInt] at hc2 hc4 hc22 ht ⊢) <;> omega), (by (simp only [true_and, and_true, false_and, and_false, or_false, false_or, or_true, true_or, not_true_eq_false, not_false_eq_true, eq_self, Int32.lt_iff_toInt_lt, Int32.le_iff_toInt_le, ← Int32.toInt_inj, Int32.reduceToInt, Int64.lt_iff_toInt_lt, Int64.le_iff_toInt_le, ← Int64.toInt_inj, Int64.reduceToInt] at hc2 hc4 hc22 ht ⊢) <;> omega)⟩
      ·
        refine OwnGo.back (T21.setTop (mkF m 32 #[.val (.ref a), .val (.long mi), .second, .val (.ref a)] [])) (fun tg kk => XS.ifYes X21.here hx rfl (pc0 := 24) (pc' := 32) rfl (hb hby own_d4_24) rfl ((if0 _ _).trans (flt (own_not (lw_gt _ _) hc22)).2.2.2) (by decide) (by decide) kk) ?_
        refine OwnGo.back (T21.setTop (mkF m 33 #[.val (.ref a), .val (.long mi), .second, .val (.ref a)] [(.ref a)])) (fun tg kk => XS.aloadN X21.here hx rfl (hb hby own_d4_32) rfl rfl kk) ?_
        obtain ⟨fs, hr, hrun, hended, hW, hsame⟩ := X21.leave (v := some (.ref a)) (fun h => by rw [Bd.returns] at h; cases h)
        refine ⟨_, _, ?_, hrun, hended, _, _, rfl, ?_, ⟨_, rfl⟩, hW, hsame.mono (by decide) (by decide)⟩
        · exact own_retA X21 hx Bd.returns rfl rfl rfl (hb hby own_d4_33) hr
        · show own_ask_Q Z a mi t k r h0 n0 _ T21.heap _
          rw [e21]
          exact ⟨a, t, k, r, rfl, N0, K0, H0, H1, H2, H3, ht, (by (simp only [true_and, and_true, false_and, and_false, or_false, false_or, or_true, true_or, not_true_eq_false, not_false_eq_true, eq_self, Int32.lt_iff_toInt_lt, Int32.le_iff_toInt_le, ← Int32.toInt_inj, Int32.reduceToInt, Int64.lt_iff_toInt_lt, Int64.le_iff_toInt_le, ← Int64.toInt_inj, Int64.reduceToInt] at hc2 hc4 hc22 ht ⊢) <;> omega)⟩
  ·
    refine OwnGo.back (T1.setTop (mkF m 32 #[.val (.ref a), .val (.long mi), .second, .val (.ref a)] [])) (fun tg kk => XS.ifYes X1.here hx rfl (pc0 := 6) (pc' := 32) rfl (hb hby own_d4_6) rfl ((if0 _ _).trans (feq hc2).2) (by decide) (by decide) kk) ?_
    refine OwnGo.back (T1.setTop (mkF m 33 #[.val (.ref a), .val (.long mi), .second, .val (.ref a)] [(.ref a)])) (fun tg kk => XS.aloadN X1.here hx rfl (hb hby own_d4_32) rfl rfl kk) ?_
    obtain ⟨fs, hr, hrun, hended, hW, hsame⟩ := X1.leave (v := some (.ref a)) (fun h => by rw [Bd.returns] at h; cases h)
    refine ⟨_, _, ?_, hrun, hended, _, _, rfl, ?_, ⟨_, rfl⟩, hW, hsame.mono (by decide) (by decide)⟩
    · exact own_retA X1 hx Bd.returns rfl rfl rfl (hb hby own_d4_33) hr
    · show own_ask_Q Z a mi t k r h0 n0 _ T1.heap _
      rw [e1]
      exact ⟨a, t, k, r, rfl, N0, K0, H0, H1, H2, H3, ht, (by (simp only [true_and, and_true, false_and, and_false, or_false, false_or, or_true, true_or, not_true_eq_false, not_false_eq_true, eq_self, Int32.lt_iff_toInt_lt, Int32.le_iff_toInt_le, ← Int32.toInt_inj, Int32.reduceToInt, Int64.lt_iff_toInt_lt, Int64.le_iff_toInt_le, ← Int64.toInt_inj, Int64.reduceToInt] at hc2 ht ⊢) <;> omega)⟩
theorem own_tk_ef (m : MethodId) (x0 : Addr) : entryFrame m #[(.ref x0)] 1 = mkF m 0 #[.val (.ref x0)] [] := by first | (simp [entryFrame, mkF, argsToLocals, Value.category]; done) | rfl
def own_tk_Q (Z : State) (a : Addr) (t : Int32) (h0 : Heap) (n0 : Nat) (rv : Option Value) (hN : Heap) (LL : List Loc) : Prop := rv = some (.int t) ∧ Fr n0 LL ∧ hN = h0
set_option maxRecDepth 65536 in
set_option maxHeartbeats 40000000 in
theorem own_tk (l : Launch) (Z : State) (a0 : Array Value) (hw : ∀ d ∈ tables_1, d.before a0 Z = true) (ws : List Jvm.Cond) (a : Addr) (t : Int32) (h0 : Heap) (n0 : Nat) (Z0 : n0 ≤ h0.size) (F : Fld Z h0 a "com/example/padlok/padlok/LockStore$Answer" "taken" "Z" (.int t)) (ht : t = 0 ∨ t = 1) :
    MetFree l (⟨"com/example/padlok/padlok/LockStore$Answer", "taken", "()Z"⟩ : MethodName) (head1 (Jvm.Cond.code (⟨"com/example/padlok/padlok/LockStore$Answer", "taken", "()Z"⟩ : MethodName) prog_7_method_8_code 1 (some .boolean) :: ws) ({ frames := 0, cells := 0, slots := 0, locals := 0 } : Room)) (fun aa UU => aa = #[(.ref a)] ∧ Z.Warmed39 UU.vm ∧ UU.heap = h0) (fun _ _ _ _ _ => True) (fun _ UU oo UU' => ∃ rv LL, oo = .returned rv ∧ own_tk_Q Z a t h0 n0 rv UU'.heap LL ∧ FrameEnd UU oo UU' LL ({ frames := 0, cells := 0, slots := 0, locals := 0 } : Room).cells ({ frames := 0, cells := 0, slots := 0, locals := 0 } : Room).slots) := by
  refine MetFree.of_bodySF (plainFor_of_name own_pn1) hisR ?_
  intro p e s m args below meth c s₁ Bd hml0 hP hK
  obtain ⟨rfl, hZ, hh⟩ := hP
  have hx := Bd.exec
  have hby := Bd.bytes
  have hml : c.maxLocals = 1 := hml0
  have hown : s.vm.findClass "com/example/padlok/padlok/LockStore$Answer" = some m.cls := findClass_of_methodNamed Bd.named
  have hnm := (name_of_methodNamed Bd.named Bd.method).1
  have X0 : Stand p l e ({ frames := 0, cells := 0, slots := 0, locals := 0 } : Room) s m #[(.ref a)] below meth c s₁ [] 0 0 := Stand.of_body Bd
  have e0 : s₁.heap = h0 := by rw [← hh, Bd.state]; rfl
  have N0 := Fr.nil n0
  have K0 : Keep h0 h0 [] := Keep.refl h0 _
  refine (?_ : OwnGo p.tables e below (fun UU' oo => ∃ rv LL, oo = .returned rv ∧ own_tk_Q Z a t h0 n0 rv UU'.heap LL ∧ FrameEnd s oo UU' LL ({ frames := 0, cells := 0, slots := 0, locals := 0 } : Room).cells ({ frames := 0, cells := 0, slots := 0, locals := 0 } : Room).slots) _)
  refine OwnGo.back (s₁.setTop (mkF m 0 #[.val (.ref a)] [])) (fun tg kk => castTop (own_tk_ef m a) kk) ?_
  refine OwnGo.back (s₁.setTop (mkF m 1 #[.val (.ref a)] [(.ref a)])) (fun tg kk => XS.aloadN X0.here hx rfl (hb hby own_d6_0) rfl rfl kk) ?_
  obtain ⟨T1, X1, e1, st1⟩ := getF X0 hx hZ hown (host := "") (Or.inl (hw _ (List.mem_of_getElem? (i := 14) rfl))) Via.refl e0 F (g := (mkF m 1 #[.val (.ref a)] [(.ref a)])) rfl rfl (hb hby own_d6_1)
  refine OwnGo.back (T1.setTop (mkF m 4 #[.val (.ref a)] [(.int t)])) (fun tg kk => st1 _ kk) ?_
  obtain ⟨fs, hr, hrun, hended, hW, hsame⟩ := X1.leave (v := some (.int t)) (fun h => by rw [Bd.returns] at h; cases h)
  refine ⟨_, _, ?_, hrun, hended, _, _, rfl, ?_, ⟨_, rfl⟩, hW, hsame.mono (by decide) (by decide)⟩
  · exact retOut X1 hx Bd.returns (by rcases ht with h | h <;> rw [h] <;> rfl) (Or.inl ⟨rfl, by simp, _, rfl⟩) (hb hby own_d6_4) hr
  · show own_tk_Q Z a t h0 n0 _ T1.heap _
    rw [e1]
    exact ⟨rfl, N0, rfl⟩
theorem own_to_ef (m : MethodId) (x0 : Addr) : entryFrame m #[(.ref x0)] 1 = mkF m 0 #[.val (.ref x0)] [] := by first | (simp [entryFrame, mkF, argsToLocals, Value.category]; done) | rfl
def own_to_Q (Z : State) (a : Addr) (k : Int64) (h0 : Heap) (n0 : Nat) (rv : Option Value) (hN : Heap) (LL : List Loc) : Prop := rv = some (.long k) ∧ Fr n0 LL ∧ hN = h0
set_option maxRecDepth 65536 in
set_option maxHeartbeats 40000000 in
theorem own_to (l : Launch) (Z : State) (a0 : Array Value) (hw : ∀ d ∈ tables_1, d.before a0 Z = true) (ws : List Jvm.Cond) (a : Addr) (k : Int64) (h0 : Heap) (n0 : Nat) (Z0 : n0 ≤ h0.size) (F : Fld Z h0 a "com/example/padlok/padlok/LockStore$Answer" "token" "J" (.long k)) :
    MetFree l (⟨"com/example/padlok/padlok/LockStore$Answer", "token", "()J"⟩ : MethodName) (head1 (Jvm.Cond.code (⟨"com/example/padlok/padlok/LockStore$Answer", "token", "()J"⟩ : MethodName) prog_7_method_9_code 1 (some .long) :: ws) ({ frames := 0, cells := 0, slots := 0, locals := 0 } : Room)) (fun aa UU => aa = #[(.ref a)] ∧ Z.Warmed39 UU.vm ∧ UU.heap = h0) (fun _ _ _ _ _ => True) (fun _ UU oo UU' => ∃ rv LL, oo = .returned rv ∧ own_to_Q Z a k h0 n0 rv UU'.heap LL ∧ FrameEnd UU oo UU' LL ({ frames := 0, cells := 0, slots := 0, locals := 0 } : Room).cells ({ frames := 0, cells := 0, slots := 0, locals := 0 } : Room).slots) := by
  refine MetFree.of_bodySF (plainFor_of_name own_pn1) hisR ?_
  intro p e s m args below meth c s₁ Bd hml0 hP hK
  obtain ⟨rfl, hZ, hh⟩ := hP
  have hx := Bd.exec
  have hby := Bd.bytes
  have hml : c.maxLocals = 1 := hml0
  have hown : s.vm.findClass "com/example/padlok/padlok/LockStore$Answer" = some m.cls := findClass_of_methodNamed Bd.named
  have hnm := (name_of_methodNamed Bd.named Bd.method).1
  have X0 : Stand p l e ({ frames := 0, cells := 0, slots := 0, locals := 0 } : Room) s m #[(.ref a)] below meth c s₁ [] 0 0 := Stand.of_body Bd
  have e0 : s₁.heap = h0 := by rw [← hh, Bd.state]; rfl
  have N0 := Fr.nil n0
  have K0 : Keep h0 h0 [] := Keep.refl h0 _
  refine (?_ : OwnGo p.tables e below (fun UU' oo => ∃ rv LL, oo = .returned rv ∧ own_to_Q Z a k h0 n0 rv UU'.heap LL ∧ FrameEnd s oo UU' LL ({ frames := 0, cells := 0, slots := 0, locals := 0 } : Room).cells ({ frames := 0, cells := 0, slots := 0, locals := 0 } : Room).slots) _)
  refine OwnGo.back (s₁.setTop (mkF m 0 #[.val (.ref a)] [])) (fun tg kk => castTop (own_to_ef m a) kk) ?_
  refine OwnGo.back (s₁.setTop (mkF m 1 #[.val (.ref a)] [(.ref a)])) (fun tg kk => XS.aloadN X0.here hx rfl (hb hby own_d7_0) rfl rfl kk) ?_
  obtain ⟨T1, X1, e1, st1⟩ := getF X0 hx hZ hown (host := "") (Or.inl (hw _ (List.mem_of_getElem? (i := 16) rfl))) Via.refl e0 F (g := (mkF m 1 #[.val (.ref a)] [(.ref a)])) rfl rfl (hb hby own_d7_1)
  refine OwnGo.back (T1.setTop (mkF m 4 #[.val (.ref a)] [(.long k)])) (fun tg kk => st1 _ kk) ?_
  obtain ⟨fs, hr, hrun, hended, hW, hsame⟩ := X1.leave (v := some (.long k)) (fun h => by rw [Bd.returns] at h; cases h)
  refine ⟨_, _, ?_, hrun, hended, _, _, rfl, ?_, ⟨_, rfl⟩, hW, hsame.mono (by decide) (by decide)⟩
  · exact own_retJ X1 hx Bd.returns (hb hby own_d7_4) hr
  · show own_to_Q Z a k h0 n0 _ T1.heap _
    rw [e1]
    exact ⟨rfl, N0, rfl⟩
theorem own_re_ef (m : MethodId) (x0 : Addr) : entryFrame m #[(.ref x0)] 1 = mkF m 0 #[.val (.ref x0)] [] := by first | (simp [entryFrame, mkF, argsToLocals, Value.category]; done) | rfl
def own_re_Q (Z : State) (a : Addr) (r : Int64) (h0 : Heap) (n0 : Nat) (rv : Option Value) (hN : Heap) (LL : List Loc) : Prop := rv = some (.long r) ∧ Fr n0 LL ∧ hN = h0
set_option maxRecDepth 65536 in
set_option maxHeartbeats 40000000 in
theorem own_re (l : Launch) (Z : State) (a0 : Array Value) (hw : ∀ d ∈ tables_1, d.before a0 Z = true) (ws : List Jvm.Cond) (a : Addr) (r : Int64) (h0 : Heap) (n0 : Nat) (Z0 : n0 ≤ h0.size) (F : Fld Z h0 a "com/example/padlok/padlok/LockStore$Answer" "retryInMillis" "J" (.long r)) :
    MetFree l (⟨"com/example/padlok/padlok/LockStore$Answer", "retryInMillis", "()J"⟩ : MethodName) (head1 (Jvm.Cond.code (⟨"com/example/padlok/padlok/LockStore$Answer", "retryInMillis", "()J"⟩ : MethodName) prog_7_method_10_code 1 (some .long) :: ws) ({ frames := 0, cells := 0, slots := 0, locals := 0 } : Room)) (fun aa UU => aa = #[(.ref a)] ∧ Z.Warmed39 UU.vm ∧ UU.heap = h0) (fun _ _ _ _ _ => True) (fun _ UU oo UU' => ∃ rv LL, oo = .returned rv ∧ own_re_Q Z a r h0 n0 rv UU'.heap LL ∧ FrameEnd UU oo UU' LL ({ frames := 0, cells := 0, slots := 0, locals := 0 } : Room).cells ({ frames := 0, cells := 0, slots := 0, locals := 0 } : Room).slots) := by
  refine MetFree.of_bodySF (plainFor_of_name own_pn1) hisR ?_
  intro p e s m args below meth c s₁ Bd hml0 hP hK
  obtain ⟨rfl, hZ, hh⟩ := hP
  have hx := Bd.exec
  have hby := Bd.bytes
  have hml : c.maxLocals = 1 := hml0
  have hown : s.vm.findClass "com/example/padlok/padlok/LockStore$Answer" = some m.cls := findClass_of_methodNamed Bd.named
  have hnm := (name_of_methodNamed Bd.named Bd.method).1
  have X0 : Stand p l e ({ frames := 0, cells := 0, slots := 0, locals := 0 } : Room) s m #[(.ref a)] below meth c s₁ [] 0 0 := Stand.of_body Bd
  have e0 : s₁.heap = h0 := by rw [← hh, Bd.state]; rfl
  have N0 := Fr.nil n0
  have K0 : Keep h0 h0 [] := Keep.refl h0 _
  refine (?_ : OwnGo p.tables e below (fun UU' oo => ∃ rv LL, oo = .returned rv ∧ own_re_Q Z a r h0 n0 rv UU'.heap LL ∧ FrameEnd s oo UU' LL ({ frames := 0, cells := 0, slots := 0, locals := 0 } : Room).cells ({ frames := 0, cells := 0, slots := 0, locals := 0 } : Room).slots) _)
  refine OwnGo.back (s₁.setTop (mkF m 0 #[.val (.ref a)] [])) (fun tg kk => castTop (own_re_ef m a) kk) ?_
  refine OwnGo.back (s₁.setTop (mkF m 1 #[.val (.ref a)] [(.ref a)])) (fun tg kk => XS.aloadN X0.here hx rfl (hb hby own_d8_0) rfl rfl kk) ?_
  obtain ⟨T1, X1, e1, st1⟩ := getF X0 hx hZ hown (host := "") (Or.inl (hw _ (List.mem_of_getElem? (i := 18) rfl))) Via.refl e0 F (g := (mkF m 1 #[.val (.ref a)] [(.ref a)])) rfl rfl (hb hby own_d8_1)
  refine OwnGo.back (T1.setTop (mkF m 4 #[.val (.ref a)] [(.long r)])) (fun tg kk => st1 _ kk) ?_
  obtain ⟨fs, hr, hrun, hended, hW, hsame⟩ := X1.leave (v := some (.long r)) (fun h => by rw [Bd.returns] at h; cases h)
  refine ⟨_, _, ?_, hrun, hended, _, _, rfl, ?_, ⟨_, rfl⟩, hW, hsame.mono (by decide) (by decide)⟩
  · exact own_retJ X1 hx Bd.returns (hb hby own_d8_4) hr
  · show own_re_Q Z a r h0 n0 _ T1.heap _
    rw [e1]
    exact ⟨rfl, N0, rfl⟩
theorem own_min_ef (m : MethodId) (x0 : Int64) (x1 : Int64) : entryFrame m #[(.long x0), (.long x1)] 4 = mkF m 0 #[.val (.long x0), .second, .val (.long x1), .second] [] := by first | (simp [entryFrame, mkF, argsToLocals, Value.category]; done) | rfl
def own_min_Q (Z : State) (x : Int64) (y : Int64) (h0 : Heap) (n0 : Nat) (rv : Option Value) (hN : Heap) (LL : List Loc) : Prop := ∃ (r : Int64), rv = some (.long r) ∧ Fr n0 LL ∧ hN = h0 ∧ ((¬ y < x ∧ r = x) ∨ (y < x ∧ r = y))
set_option maxRecDepth 65536 in
set_option maxHeartbeats 40000000 in
theorem own_min (l : Launch) (Z : State) (a0 : Array Value) (hw : ∀ d ∈ tables_1, d.before a0 Z = true) (ws : List Jvm.Cond) (x : Int64) (y : Int64) (h0 : Heap) (n0 : Nat) (Z0 : n0 ≤ h0.size) :
    MetFree l (⟨"java/lang/Math", "min", "(JJ)J"⟩ : MethodName) (head1 (Jvm.Cond.code (⟨"java/lang/Math", "min", "(JJ)J"⟩ : MethodName) jdk_29_method_70_code 4 (some .long) :: ws) ({ frames := 0, cells := 0, slots := 0, locals := 0 } : Room)) (fun aa UU => aa = #[(.long x), (.long y)] ∧ Z.Warmed39 UU.vm ∧ UU.heap = h0) (fun _ _ _ _ _ => True) (fun _ UU oo UU' => ∃ rv LL, oo = .returned rv ∧ own_min_Q Z x y h0 n0 rv UU'.heap LL ∧ FrameEnd UU oo UU' LL ({ frames := 0, cells := 0, slots := 0, locals := 0 } : Room).cells ({ frames := 0, cells := 0, slots := 0, locals := 0 } : Room).slots) := by
  refine MetFree.of_bodySF own_pn2 hisR ?_
  intro p e s m args below meth c s₁ Bd hml0 hP hK
  obtain ⟨rfl, hZ, hh⟩ := hP
  have hx := Bd.exec
  have hby := Bd.bytes
  have hml : c.maxLocals = 4 := hml0
  have hown : s.vm.findClass "java/lang/Math" = some m.cls := findClass_of_methodNamed Bd.named
  have hnm := (name_of_methodNamed Bd.named Bd.method).1
  have X0 : Stand p l e ({ frames := 0, cells := 0, slots := 0, locals := 0 } : Room) s m #[(.long x), (.long y)] below meth c s₁ [] 0 0 := Stand.of_body Bd
  have e0 : s₁.heap = h0 := by rw [← hh, Bd.state]; rfl
  have N0 := Fr.nil n0
  have K0 : Keep h0 h0 [] := Keep.refl h0 _
  refine (?_ : OwnGo p.tables e below (fun UU' oo => ∃ rv LL, oo = .returned rv ∧ own_min_Q Z x y h0 n0 rv UU'.heap LL ∧ FrameEnd s oo UU' LL ({ frames := 0, cells := 0, slots := 0, locals := 0 } : Room).cells ({ frames := 0, cells := 0, slots := 0, locals := 0 } : Room).slots) _)
  refine OwnGo.back (s₁.setTop (mkF m 0 #[.val (.long x), .second, .val (.long y), .second] [])) (fun tg kk => castTop (own_min_ef m x y) kk) ?_
  refine OwnGo.back (s₁.setTop (mkF m 1 #[.val (.long x), .second, .val (.long y), .second] [(.long x)])) (fun tg kk => XS.lloadN X0.here hx rfl (hb hby own_d9_0) rfl kk) ?_
  refine OwnGo.back (s₁.setTop (mkF m 2 #[.val (.long x), .second, .val (.long y), .second] [(.long y), (.long x)])) (fun tg kk => XS.lloadN X0.here hx rfl (hb hby own_d9_1) rfl kk) ?_
  refine OwnGo.back (s₁.setTop (mkF m 3 #[.val (.long x), .second, .val (.long y), .second] [(.int (lcmpW x y))])) (fun tg kk => XS.lcmp X0.here hx rfl (hb hby own_d9_2) rfl kk) ?_
  by_cases hc1 : y < x
  ·
    refine OwnGo.back (s₁.setTop (mkF m 10 #[.val (.long x), .second, .val (.long y), .second] [])) (fun tg kk => XS.ifYes X0.here hx rfl (pc0 := 3) (pc' := 10) rfl (hb hby own_d9_3) rfl ((if0 _ _).trans (tlt ((lw_gt _ _).mpr hc1)).2.2.1) (by decide) (by decide) kk) ?_
    refine OwnGo.back (s₁.setTop (mkF m 11 #[.val (.long x), .second, .val (.long y), .second] [(.long y)])) (fun tg kk => XS.lloadN X0.here hx rfl (hb hby own_d9_10) rfl kk) ?_
    obtain ⟨fs, hr, hrun, hended, hW, hsame⟩ := X0.leave (v := some (.long y)) (fun h => by rw [Bd.returns] at h; cases h)
    refine ⟨_, _, ?_, hrun, hended, _, _, rfl, ?_, ⟨_, rfl⟩, hW, hsame.mono (by decide) (by decide)⟩
    · exact own_retJ X0 hx Bd.returns (hb hby own_d9_11) hr
    · show own_min_Q Z x y h0 n0 _ s₁.heap _
      rw [e0]
      exact ⟨y, rfl, N0, rfl, (by (simp only [true_and, and_true, false_and, and_false, or_false, false_or, or_true, true_or, not_true_eq_false, not_false_eq_true, eq_self, Int32.lt_iff_toInt_lt, Int32.le_iff_toInt_le, ← Int32.toInt_inj, Int32.reduceToInt, Int64.lt_iff_toInt_lt, Int64.le_iff_toInt_le, ← Int64.toInt_inj, Int64.reduceToInt] at hc1 ⊢) <;> omega)⟩
  ·
    refine OwnGo.back (s₁.setTop (mkF m 6 #[.val (.long x), .second, .val (.long y), .second] [])) (fun tg kk => XS.ifNo X0.here hx rfl (hb hby own_d9_3) rfl ((if0 _ _).trans (flt (own_not (lw_gt _ _) hc1)).2.2.1) kk) ?_
    refine OwnGo.back (s₁.setTop (mkF m 7 #[.val (.long x), .second, .val (.long y), .second] [(.long x)])) (fun tg kk => XS.lloadN X0.here hx rfl (hb hby own_d9_6) rfl kk) ?_
    refine OwnGo.back (s₁.setTop (mkF m 11 #[.val (.long x), .second, .val (.long y), .second] [(.long x)])) (fun tg kk => XS.goto X0.here hx rfl (pc0 := 7) (pc' := 11) rfl (hb hby own_d9_7) (by decide) (by decide) kk) ?_
    obtain ⟨fs, hr, hrun, hended, hW, hsame⟩ := X0.leave (v := some (.long x)) (fun h => by rw [Bd.returns] at h; cases h)
    refine ⟨_, _, ?_, hrun, hended, _, _, rfl, ?_, ⟨_, rfl⟩, hW, hsame.mono (by decide) (by decide)⟩
    · exact own_retJ X0 hx Bd.returns (hb hby own_d9_11) hr
    · show own_min_Q Z x y h0 n0 _ s₁.heap _
      rw [e0]
      exact ⟨x, rfl, N0, rfl, (by (simp only [true_and, and_true, false_and, and_false, or_false, false_or, or_true, true_or, not_true_eq_false, not_false_eq_true, eq_self, Int32.lt_iff_toInt_lt, Int32.le_iff_toInt_le, ← Int32.toInt_inj, Int32.reduceToInt, Int64.lt_iff_toInt_lt, Int64.le_iff_toInt_le, ← Int64.toInt_inj, Int64.reduceToInt] at hc1 ⊢) <;> omega)⟩
theorem own_law_ef (m : MethodId) (x0 : Int32) (x1 : Int64) (x2 : Int64) (x3 : Int64) : entryFrame m #[(.int x0), (.long x1), (.long x2), (.long x3)] maxLocals = mkF m 0 #[.val (.int x0), .val (.long x1), .second, .val (.long x2), .second, .val (.long x3), .second, .unset, .unset, .unset, .unset, .unset, .unset, .unset, .unset, .unset, .unset, .unset, .unset] [] := by first | (simp [entryFrame, mkF, argsToLocals, Value.category, maxLocals]; done) | rfl
def own_law_Q (Z : State) (p1 : Int32) (p2 : Int64) (p3 : Int64) (p4 : Int64) (h0 : Heap) (n0 : Nat) (rv : Option Value) (hN : Heap) (LL : List Loc) : Prop := rv = some (.int (1 : Int32)) ∧ Fr n0 LL ∧ Keep h0 hN []
set_option maxRecDepth 65536 in
set_option maxHeartbeats 40000000 in
theorem own_law (l : Launch) (Z : State) (a0 : Array Value) (hw : ∀ d ∈ tables_1, d.before a0 Z = true) (ws : List Jvm.Cond) (p1 : Int32) (p2 : Int64) (p3 : Int64) (p4 : Int64) (h0 : Heap) (n0 : Nat) (Z0 : n0 ≤ h0.size) :
    MetFree l x (head1 (Jvm.Cond.code x code maxLocals ret :: ws) room_1) (fun aa UU => aa = #[(.int p1), (.long p2), (.long p3), (.long p4)] ∧ Z.Warmed39 UU.vm ∧ UU.heap = h0) (fun _ _ _ _ _ => True) (fun _ UU oo UU' => ∃ rv LL, oo = .returned rv ∧ own_law_Q Z p1 p2 p3 p4 h0 n0 rv UU'.heap LL ∧ FrameEnd UU oo UU' LL room_1.cells room_1.slots) := by
  refine MetFree.of_bodySF (plainFor_of_name own_pn3) hisR ?_
  intro p e s m args below meth c s₁ Bd hml0 hP hK
  obtain ⟨rfl, hZ, hh⟩ := hP
  have hx := Bd.exec
  have hby := Bd.bytes
  have hml : c.maxLocals = 19 := hml0
  have hown : s.vm.findClass "com/example/padlok/padlok/AnswerAskingAgainWithinPinLaw" = some m.cls := findClass_of_methodNamed Bd.named
  have hnm := (name_of_methodNamed Bd.named Bd.method).1
  have X0 : Stand p l e room_1 s m #[(.int p1), (.long p2), (.long p3), (.long p4)] below meth c s₁ [] 0 0 := Stand.of_body Bd
  have e0 : s₁.heap = h0 := by rw [← hh, Bd.state]; rfl
  have N0 := Fr.nil n0
  have K0 : Keep h0 h0 [] := Keep.refl h0 _
  refine (?_ : OwnGo p.tables e below (fun UU' oo => ∃ rv LL, oo = .returned rv ∧ own_law_Q Z p1 p2 p3 p4 h0 n0 rv UU'.heap LL ∧ FrameEnd s oo UU' LL room_1.cells room_1.slots) _)
  refine OwnGo.back (s₁.setTop (mkF m 0 #[.val (.int p1), .val (.long p2), .second, .val (.long p3), .second, .val (.long p4), .second, .unset, .unset, .unset, .unset, .unset, .unset, .unset, .unset, .unset, .unset, .unset, .unset] [])) (fun tg kk => castTop (own_law_ef m p1 p2 p3 p4) kk) ?_
  obtain ⟨_, ⟨m2, rfl, hm3⟩, dm4⟩ : OwnMg p.tables e below (fun st' => ∃ (m2 : Int32), st' = s₁.setTop (mkF m 11 #[.val (.int p1), .val (.long p2), .second, .val (.long p3), .second, .val (.long p4), .second, .unset, .unset, .unset, .unset, .unset, .unset, .unset, .unset, .unset, .unset, .unset, .unset] [(.int m2)]) ∧ ((((p1 &&& (1 : Int32)) = (0 : Int32)) ∧ m2 = (0 : Int32)) ∨ ((¬ ((p1 &&& (1 : Int32)) = (0 : Int32))) ∧ m2 = (1 : Int32)))) (s₁.setTop (mkF m 0 #[.val (.int p1), .val (.long p2), .second, .val (.long p3), .second, .val (.long p4), .second, .unset, .unset, .unset, .unset, .unset, .unset, .unset, .unset, .unset, .unset, .unset, .unset] [])) := by
    refine OwnMg.back (s₁.setTop (mkF m 1 #[.val (.int p1), .val (.long p2), .second, .val (.long p3), .second, .val (.long p4), .second, .unset, .unset, .unset, .unset, .unset, .unset, .unset, .unset, .unset, .unset, .unset, .unset] [(.int p1)])) (fun tg kk => XS.iloadN X0.here hx rfl (hb hby at_0) rfl kk) ?_
    refine OwnMg.back (s₁.setTop (mkF m 2 #[.val (.int p1), .val (.long p2), .second, .val (.long p3), .second, .val (.long p4), .second, .unset, .unset, .unset, .unset, .unset, .unset, .unset, .unset, .unset, .unset, .unset, .unset] [(.int (1 : Int32)), (.int p1)])) (fun tg kk => XS.iconst X0.here hx rfl (hb hby at_1) kk) ?_
    refine OwnMg.back (s₁.setTop (mkF m 3 #[.val (.int p1), .val (.long p2), .second, .val (.long p3), .second, .val (.long p4), .second, .unset, .unset, .unset, .unset, .unset, .unset, .unset, .unset, .unset, .unset, .unset, .unset] [(.int (p1 &&& (1 : Int32)))])) (fun tg kk => XS.iand X0.here hx rfl (hb hby at_2) rfl kk) ?_
    by_cases hc10 : (p1 &&& (1 : Int32)) = (0 : Int32)
    ·
      refine OwnMg.back (s₁.setTop (mkF m 10 #[.val (.int p1), .val (.long p2), .second, .val (.long p3), .second, .val (.long p4), .second, .unset, .unset, .unset, .unset, .unset, .unset, .unset, .unset, .unset, .unset, .unset, .unset] [])) (fun tg kk => XS.ifYes X0.here hx rfl (pc0 := 3) (pc' := 10) rfl (hb hby at_3) rfl ((if0 _ _).trans (teq hc10).1) (by decide) (by decide) kk) ?_
      refine OwnMg.back (s₁.setTop (mkF m 11 #[.val (.int p1), .val (.long p2), .second, .val (.long p3), .second, .val (.long p4), .second, .unset, .unset, .unset, .unset, .unset, .unset, .unset, .unset, .unset, .unset, .unset, .unset] [(.int (0 : Int32))])) (fun tg kk => XS.iconst X0.here hx rfl (hb hby at_10) kk) ?_
      exact ⟨_, ⟨(0 : Int32), rfl, Or.inl ⟨hc10, rfl⟩⟩, fun tg kk => kk⟩
    ·
      refine OwnMg.back (s₁.setTop (mkF m 6 #[.val (.int p1), .val (.long p2), .second, .val (.long p3), .second, .val (.long p4), .second, .unset, .unset, .unset, .unset, .unset, .unset, .unset, .unset, .unset, .unset, .unset, .unset] [])) (fun tg kk => XS.ifNo X0.here hx rfl (hb hby at_3) rfl ((if0 _ _).trans (feq hc10).1) kk) ?_
      refine OwnMg.back (s₁.setTop (mkF m 7 #[.val (.int p1), .val (.long p2), .second, .val (.long p3), .second, .val (.long p4), .second, .unset, .unset, .unset, .unset, .unset, .unset, .unset, .unset, .unset, .unset, .unset, .unset] [(.int (1 : Int32))])) (fun tg kk => XS.iconst X0.here hx rfl (hb hby at_6) kk) ?_
      refine OwnMg.back (s₁.setTop (mkF m 11 #[.val (.int p1), .val (.long p2), .second, .val (.long p3), .second, .val (.long p4), .second, .unset, .unset, .unset, .unset, .unset, .unset, .unset, .unset, .unset, .unset, .unset, .unset] [(.int (1 : Int32))])) (fun tg kk => XS.goto X0.here hx rfl (pc0 := 7) (pc' := 11) rfl (hb hby at_7) (by decide) (by decide) kk) ?_
      exact ⟨_, ⟨(1 : Int32), rfl, Or.inr (⟨hc10, rfl⟩)⟩, fun tg kk => kk⟩
  refine OwnGo.back (s₁.setTop (mkF m 11 #[.val (.int p1), .val (.long p2), .second, .val (.long p3), .second, .val (.long p4), .second, .unset, .unset, .unset, .unset, .unset, .unset, .unset, .unset, .unset, .unset, .unset, .unset] [(.int m2)])) dm4 ?_
  refine OwnGo.back (s₁.setTop (mkF m 13 #[.val (.int p1), .val (.long p2), .second, .val (.long p3), .second, .val (.long p4), .second, .val (.int m2), .unset, .unset, .unset, .unset, .unset, .unset, .unset, .unset, .unset, .unset, .unset] [])) (fun tg kk => XS.istore X0.here hx rfl (hb hby at_11) rfl (l' := #[.val (.int p1), .val (.long p2), .second, .val (.long p3), .second, .val (.long p4), .second, .val (.int m2), .unset, .unset, .unset, .unset, .unset, .unset, .unset, .unset, .unset, .unset, .unset]) rfl kk) ?_
  obtain ⟨T11, h11, X11, e11, E11, A11, D11, -, st11⟩ := newO X0 hx hZ hown (hw _ (List.mem_of_getElem? (i := 0) rfl)) (hw _ (List.mem_of_getElem? (i := 1) rfl)) (hw _ (List.mem_of_getElem? (i := 2) rfl)) e0 (g := (mkF m 13 #[.val (.int p1), .val (.long p2), .second, .val (.long p3), .second, .val (.long p4), .second, .val (.int m2), .unset, .unset, .unset, .unset, .unset, .unset, .unset, .unset, .unset, .unset, .unset] [])) rfl (hb hby at_13) (by decide) (by decide)
  obtain ⟨b11, q11⟩ : ∃ z, z = h0.size := ⟨_, rfl⟩
  rw [← q11] at A11 D11 st11
  have g12 : n0 ≤ b11 := Nat.le_trans Z0 (Nat.le_of_eq q11.symm)
  have s13 : h0.size ≤ b11 := Nat.le_trans K0.1 (Nat.le_of_eq q11.symm)
  have K14 : Keep h0 h11 [] := K0.ext E11
  have Z15 : n0 ≤ h11.size := Nat.le_trans Z0 E11.1
  have f16 : Fld Z h11 b11 "com/example/padlok/padlok/LockStore$Answer" "taken" "Z" (.int (0 : Int32)) := D11 (Or.inr (hw _ (List.mem_of_getElem? (i := 15) rfl))) (ty := .boolean) (by decide)
  have f17 : Fld Z h11 b11 "com/example/padlok/padlok/LockStore$Answer" "token" "J" (.long (0 : Int64)) := D11 (Or.inr (hw _ (List.mem_of_getElem? (i := 17) rfl))) (ty := .long) (by decide)
  have f18 : Fld Z h11 b11 "com/example/padlok/padlok/LockStore$Answer" "retryInMillis" "J" (.long (0 : Int64)) := D11 (Or.inr (hw _ (List.mem_of_getElem? (i := 19) rfl))) (ty := .long) (by decide)
  refine OwnGo.back (T11.setTop (mkF m 16 #[.val (.int p1), .val (.long p2), .second, .val (.long p3), .second, .val (.long p4), .second, .val (.int m2), .unset, .unset, .unset, .unset, .unset, .unset, .unset, .unset, .unset, .unset, .unset] [(.ref b11)])) (fun tg kk => st11 _ kk) ?_
  refine OwnGo.back (T11.setTop (mkF m 17 #[.val (.int p1), .val (.long p2), .second, .val (.long p3), .second, .val (.long p4), .second, .val (.int m2), .unset, .unset, .unset, .unset, .unset, .unset, .unset, .unset, .unset, .unset, .unset] [(.ref b11), (.ref b11)])) (fun tg kk => XS.dup X11.here hx rfl (hb hby at_16) rfl rfl kk) ?_
  refine OwnGo.back (T11.setTop (mkF m 19 #[.val (.int p1), .val (.long p2), .second, .val (.long p3), .second, .val (.long p4), .second, .val (.int m2), .unset, .unset, .unset, .unset, .unset, .unset, .unset, .unset, .unset, .unset, .unset] [(.int m2), (.ref b11), (.ref b11)])) (fun tg kk => XS.iload X11.here hx rfl (hb hby at_17) rfl kk) ?_
  refine OwnGo.back (T11.setTop (mkF m 20 #[.val (.int p1), .val (.long p2), .second, .val (.long p3), .second, .val (.long p4), .second, .val (.int m2), .unset, .unset, .unset, .unset, .unset, .unset, .unset, .unset, .unset, .unset, .unset] [(.long p2), (.int m2), (.ref b11), (.ref b11)])) (fun tg kk => XS.lloadN X11.here hx rfl (hb hby at_19) rfl kk) ?_
  refine OwnGo.back (T11.setTop (mkF m 21 #[.val (.int p1), .val (.long p2), .second, .val (.long p3), .second, .val (.long p4), .second, .val (.int m2), .unset, .unset, .unset, .unset, .unset, .unset, .unset, .unset, .unset, .unset, .unset] [(.long p3), (.long p2), (.int m2), (.ref b11), (.ref b11)])) (fun tg kk => XS.lloadN X11.here hx rfl (hb hby at_20) rfl kk) ?_
  obtain ⟨_, _, ⟨T19, L19, k19, n19⟩, -, X19, ⟨Lc19, hQ19, l19, y19, z19⟩, st19⟩ := X11.specialBack hx (y := (⟨"com/example/padlok/padlok/LockStore$Answer", "<init>", "(ZJJ)V"⟩ : MethodName)) rfl hown (mvT hZ (hw _ (List.mem_of_getElem? (i := 3) rfl))) (mvT hZ (hw _ (List.mem_of_getElem? (i := 4) rfl))) (mvT hZ (hw _ (List.mem_of_getElem? (i := 5) rfl))) (by decide) (backOf (W := 1) (own_ini l Z a0 hw [] b11 m2 p2 p3 h11 n0 Z15 A11 f16 f17 f18 g12 (by (simp only [true_and, and_true, false_and, and_false, or_false, false_or, or_true, true_or, not_true_eq_false, not_false_eq_true, eq_self, Int32.lt_iff_toInt_lt, Int32.le_iff_toInt_le, ← Int32.toInt_inj, Int32.reduceToInt, Int64.lt_iff_toInt_lt, Int64.le_iff_toInt_le, ← Int64.toInt_inj, Int64.reduceToInt] at hm3 ⊢) <;> omega)) hZ (hw _ (List.mem_of_getElem? (i := 5) rfl)) (hw _ (List.mem_of_getElem? (i := 2) rfl)) (by decide) (by decide)) (g := (mkF m 21 #[.val (.int p1), .val (.long p2), .second, .val (.long p3), .second, .val (.long p4), .second, .val (.int m2), .unset, .unset, .unset, .unset, .unset, .unset, .unset, .unset, .unset, .unset, .unset] [(.long p3), (.long p2), (.int m2), (.ref b11), (.ref b11)])) rfl (by rw [hml]; rfl) (Steps.refl _) (a := b11) (argsL := [(.int m2), (.long p2), (.long p3)]) (rest := [(.ref b11)]) (lenOf own_pd1 rfl) rfl (by show 2 * 0 + _ ≤ _; exact Nat.le_of_eq rfl) (hb hby at_21) (fun _ _ => ⟨rfl, e11, (by decide : 1 + 0 ≤ _), (by decide : 3 + 0 ≤ _)⟩)
  dsimp only [Pt.U, Pt.locs, Pt.cells, Pt.slots] at X19 l19 y19 z19 st19 hQ19
  subst l19 y19 z19
  obtain ⟨rfl, N19q, Kc19, po20, po21, po22, po23⟩ := hQ19
  have N19 := Fr.app N0 N19q
  have f24 : Exa Z T19.heap b11 "com/example/padlok/padlok/LockStore$Answer" := A11.keep Kc19
  have K25 : Keep h0 T19.heap [] := K14.trans Kc19 (allS (Or.inr s13) all0)
  have Z26 : n0 ≤ T19.heap.size := Nat.le_trans Z15 Kc19.1
  refine OwnGo.back (T19.setTop (mkF m 24 #[.val (.int p1), .val (.long p2), .second, .val (.long p3), .second, .val (.long p4), .second, .val (.int m2), .unset, .unset, .unset, .unset, .unset, .unset, .unset, .unset, .unset, .unset, .unset] [(.ref b11)])) (fun tg kk => st19.trans kk) ?_
  refine OwnGo.back (T19.setTop (mkF m 26 #[.val (.int p1), .val (.long p2), .second, .val (.long p3), .second, .val (.long p4), .second, .val (.int m2), .val (.ref b11), .unset, .unset, .unset, .unset, .unset, .unset, .unset, .unset, .unset, .unset] [])) (fun tg kk => XS.astore X19.here hx rfl (hb hby at_24) rfl rfl (l' := #[.val (.int p1), .val (.long p2), .second, .val (.long p3), .second, .val (.long p4), .second, .val (.int m2), .val (.ref b11), .unset, .unset, .unset, .unset, .unset, .unset, .unset, .unset, .unset, .unset]) rfl kk) ?_
  refine OwnGo.back (T19.setTop (mkF m 28 #[.val (.int p1), .val (.long p2), .second, .val (.long p3), .second, .val (.long p4), .second, .val (.int m2), .val (.ref b11), .unset, .unset, .unset, .unset, .unset, .unset, .unset, .unset, .unset, .unset] [(.ref b11)])) (fun tg kk => XS.aload X19.here hx rfl (hb hby at_26) rfl rfl kk) ?_
  refine OwnGo.back (T19.setTop (mkF m 30 #[.val (.int p1), .val (.long p2), .second, .val (.long p3), .second, .val (.long p4), .second, .val (.int m2), .val (.ref b11), .unset, .unset, .unset, .unset, .unset, .unset, .unset, .unset, .unset, .unset] [(.long p4), (.ref b11)])) (fun tg kk => XS.lload X19.here hx rfl (hb hby at_28) rfl kk) ?_
  obtain ⟨cq27, kq27, q27a, q27b, q27c⟩ := isOf hZ rfl po20
  obtain ⟨_, _, ⟨T27, L27, k27, n27⟩, -, X27, ⟨Lc27, hQ27, l27, y27, z27⟩, st27⟩ := X19.virtualBack hx (y := (⟨"com/example/padlok/padlok/LockStore$Answer", "askingAgainWithin", "(J)Lcom/example/padlok/padlok/LockStore$Answer;"⟩ : MethodName)) (z := (⟨"com/example/padlok/padlok/LockStore$Answer", "askingAgainWithin", "(J)Lcom/example/padlok/padlok/LockStore$Answer;"⟩ : MethodName)) hown (mvT hZ (hw _ (List.mem_of_getElem? (i := 20) rfl))) (mvT hZ (hw _ (List.mem_of_getElem? (i := 21) rfl))) (notFace_of_selects (args := #[]) (mvT hZ (hw _ (List.mem_of_getElem? (i := 23) rfl)))) (mvT hZ (hw _ (List.mem_of_getElem? (i := 23) rfl))) (mvT hZ (hw _ (List.mem_of_getElem? (i := 22) rfl))) (by decide) (backOf (W := 0) (own_ask l Z a0 hw [] b11 p4 m2 p2 p3 T19.heap n0 Z26 po20 po21 po22 po23 (by (simp only [true_and, and_true, false_and, and_false, or_false, false_or, or_true, true_or, not_true_eq_false, not_false_eq_true, eq_self, Int32.lt_iff_toInt_lt, Int32.le_iff_toInt_le, ← Int32.toInt_inj, Int32.reduceToInt, Int64.lt_iff_toInt_lt, Int64.le_iff_toInt_le, ← Int64.toInt_inj, Int64.reduceToInt] at hm3 ⊢) <;> omega)) hZ (hw _ (List.mem_of_getElem? (i := 24) rfl)) (hw _ (List.mem_of_getElem? (i := 2) rfl)) (by decide) (by decide)) q27a q27c (g := (mkF m 30 #[.val (.int p1), .val (.long p2), .second, .val (.long p3), .second, .val (.long p4), .second, .val (.int m2), .val (.ref b11), .unset, .unset, .unset, .unset, .unset, .unset, .unset, .unset, .unset, .unset] [(.long p4), (.ref b11)])) rfl (by rw [hml]; rfl) (Steps.refl _) (argsL := [(.long p4)]) (rest := []) (lenOf own_pd2 rfl) rfl (by show 2 * 0 + _ ≤ _; exact Nat.le_of_eq rfl) (hb hby at_30) (fun _ _ => ⟨rfl, rfl, (by decide : 1 + 1 ≤ _), (by decide : 3 + 3 ≤ _)⟩)
  dsimp only [Pt.U, Pt.locs, Pt.cells, Pt.slots] at X27 l27 y27 z27 st27 hQ27
  subst l27 y27 z27
  obtain ⟨b_28, t__29, k__30, r__31, rfl, N27q, Kc27, po32, po33, po34, po35, po36, po37⟩ := hQ27
  have N27 := Fr.app N19 N27q
  have f38 : Exa Z T27.heap b11 "com/example/padlok/padlok/LockStore$Answer" := po20.keep Kc27
  have f39 : Fld Z T27.heap b11 "com/example/padlok/padlok/LockStore$Answer" "taken" "Z" (.int m2) := po21.keep Kc27 nin0
  have f40 : Fld Z T27.heap b11 "com/example/padlok/padlok/LockStore$Answer" "token" "J" (.long p2) := po22.keep Kc27 nin0
  have f41 : Fld Z T27.heap b11 "com/example/padlok/padlok/LockStore$Answer" "retryInMillis" "J" (.long p3) := po23.keep Kc27 nin0
  have K42 : Keep h0 T27.heap [] := K25.trans Kc27 all0
  have Z43 : n0 ≤ T27.heap.size := Nat.le_trans Z26 Kc27.1
  refine OwnGo.back (T27.setTop (mkF m 33 #[.val (.int p1), .val (.long p2), .second, .val (.long p3), .second, .val (.long p4), .second, .val (.int m2), .val (.ref b11), .unset, .unset, .unset, .unset, .unset, .unset, .unset, .unset, .unset, .unset] [(.ref b_28)])) (fun tg kk => st27.trans kk) ?_
  refine OwnGo.back (T27.setTop (mkF m 35 #[.val (.int p1), .val (.long p2), .second, .val (.long p3), .second, .val (.long p4), .second, .val (.int m2), .val (.ref b11), .val (.ref b_28), .unset, .unset, .unset, .unset, .unset, .unset, .unset, .unset, .unset] [])) (fun tg kk => XS.astore X27.here hx rfl (hb hby at_33) rfl rfl (l' := #[.val (.int p1), .val (.long p2), .second, .val (.long p3), .second, .val (.long p4), .second, .val (.int m2), .val (.ref b11), .val (.ref b_28), .unset, .unset, .unset, .unset, .unset, .unset, .unset, .unset, .unset]) rfl kk) ?_
  refine OwnGo.back (T27.setTop (mkF m 37 #[.val (.int p1), .val (.long p2), .second, .val (.long p3), .second, .val (.long p4), .second, .val (.int m2), .val (.ref b11), .val (.ref b_28), .unset, .unset, .unset, .unset, .unset, .unset, .unset, .unset, .unset] [(.ref b_28)])) (fun tg kk => XS.aload X27.here hx rfl (hb hby at_35) rfl rfl kk) ?_
  obtain ⟨cq44, kq44, q44a, q44b, q44c⟩ := isOf hZ rfl po32
  obtain ⟨_, _, ⟨T44, L44, k44, n44⟩, -, X44, ⟨Lc44, hQ44, l44, y44, z44⟩, st44⟩ := X27.virtualBack hx (y := (⟨"com/example/padlok/padlok/LockStore$Answer", "taken", "()Z"⟩ : MethodName)) (z := (⟨"com/example/padlok/padlok/LockStore$Answer", "taken", "()Z"⟩ : MethodName)) hown (mvT hZ (hw _ (List.mem_of_getElem? (i := 30) rfl))) (mvT hZ (hw _ (List.mem_of_getElem? (i := 31) rfl))) (notFace_of_selects (args := #[]) (mvT hZ (hw _ (List.mem_of_getElem? (i := 33) rfl)))) (mvT hZ (hw _ (List.mem_of_getElem? (i := 33) rfl))) (mvT hZ (hw _ (List.mem_of_getElem? (i := 32) rfl))) (by decide) (backOf (W := 0) (own_tk l Z a0 hw [] b_28 t__29 T27.heap n0 Z43 po33 po36) hZ (hw _ (List.mem_of_getElem? (i := 34) rfl)) (hw _ (List.mem_of_getElem? (i := 2) rfl)) (by decide) (by decide)) q44a q44c (g := (mkF m 37 #[.val (.int p1), .val (.long p2), .second, .val (.long p3), .second, .val (.long p4), .second, .val (.int m2), .val (.ref b11), .val (.ref b_28), .unset, .unset, .unset, .unset, .unset, .unset, .unset, .unset, .unset] [(.ref b_28)])) rfl (by rw [hml]; rfl) (Steps.refl _) (argsL := []) (rest := []) (lenOf own_pd3 rfl) rfl (by show 2 * 0 + _ ≤ _; exact Nat.le_of_eq rfl) (hb hby at_37) (fun _ _ => ⟨rfl, rfl, (by decide : 2 + 0 ≤ _), (by decide : 6 + 0 ≤ _)⟩)
  dsimp only [Pt.U, Pt.locs, Pt.cells, Pt.slots] at X44 l44 y44 z44 st44 hQ44
  subst l44 y44 z44
  obtain ⟨rfl, N44q, e44⟩ := hQ44
  have N44 := Fr.app N27 N44q
  refine OwnGo.back (T44.setTop (mkF m 40 #[.val (.int p1), .val (.long p2), .second, .val (.long p3), .second, .val (.long p4), .second, .val (.int m2), .val (.ref b11), .val (.ref b_28), .unset, .unset, .unset, .unset, .unset, .unset, .unset, .unset, .unset] [(.int t__29)])) (fun tg kk => st44.trans kk) ?_
  refine OwnGo.back (T44.setTop (mkF m 42 #[.val (.int p1), .val (.long p2), .second, .val (.long p3), .second, .val (.long p4), .second, .val (.int m2), .val (.ref b11), .val (.ref b_28), .val (.int t__29), .unset, .unset, .unset, .unset, .unset, .unset, .unset, .unset] [])) (fun tg kk => XS.istore X44.here hx rfl (hb hby at_40) rfl (l' := #[.val (.int p1), .val (.long p2), .second, .val (.long p3), .second, .val (.long p4), .second, .val (.int m2), .val (.ref b11), .val (.ref b_28), .val (.int t__29), .unset, .unset, .unset, .unset, .unset, .unset, .unset, .unset]) rfl kk) ?_
  refine OwnGo.back (T44.setTop (mkF m 44 #[.val (.int p1), .val (.long p2), .second, .val (.long p3), .second, .val (.long p4), .second, .val (.int m2), .val (.ref b11), .val (.ref b_28), .val (.int t__29), .unset, .unset, .unset, .unset, .unset, .unset, .unset, .unset] [(.ref b_28)])) (fun tg kk => XS.aload X44.here hx rfl (hb hby at_42) rfl rfl kk) ?_
  obtain ⟨cq45, kq45, q45a, q45b, q45c⟩ := isOf hZ e44 po32
  obtain ⟨_, _, ⟨T45, L45, k45, n45⟩, -, X45, ⟨Lc45, hQ45, l45, y45, z45⟩, st45⟩ := X44.virtualBack hx (y := (⟨"com/example/padlok/padlok/LockStore$Answer", "token", "()J"⟩ : MethodName)) (z := (⟨"com/example/padlok/padlok/LockStore$Answer", "token", "()J"⟩ : MethodName)) hown (mvT hZ (hw _ (List.mem_of_getElem? (i := 35) rfl))) (mvT hZ (hw _ (List.mem_of_getElem? (i := 36) rfl))) (notFace_of_selects (args := #[]) (mvT hZ (hw _ (List.mem_of_getElem? (i := 38) rfl)))) (mvT hZ (hw _ (List.mem_of_getElem? (i := 38) rfl))) (mvT hZ (hw _ (List.mem_of_getElem? (i := 37) rfl))) (by decide) (backOf (W := 0) (own_to l Z a0 hw [] b_28 k__30 T27.heap n0 Z43 po34) hZ (hw _ (List.mem_of_getElem? (i := 39) rfl)) (hw _ (List.mem_of_getElem? (i := 2) rfl)) (by decide) (by decide)) q45a q45c (g := (mkF m 44 #[.val (.int p1), .val (.long p2), .second, .val (.long p3), .second, .val (.long p4), .second, .val (.int m2), .val (.ref b11), .val (.ref b_28), .val (.int t__29), .unset, .unset, .unset, .unset, .unset, .unset, .unset, .unset] [(.ref b_28)])) rfl (by rw [hml]; rfl) (Steps.refl _) (argsL := []) (rest := []) (lenOf own_pd4 rfl) rfl (by show 2 * 0 + _ ≤ _; exact Nat.le_of_eq rfl) (hb hby at_44) (fun _ _ => ⟨rfl, e44, (by decide : 2 + 0 ≤ _), (by decide : 6 + 0 ≤ _)⟩)
  dsimp only [Pt.U, Pt.locs, Pt.cells, Pt.slots] at X45 l45 y45 z45 st45 hQ45
  subst l45 y45 z45
  obtain ⟨rfl, N45q, e45⟩ := hQ45
  have N45 := Fr.app N44 N45q
  refine OwnGo.back (T45.setTop (mkF m 47 #[.val (.int p1), .val (.long p2), .second, .val (.long p3), .second, .val (.long p4), .second, .val (.int m2), .val (.ref b11), .val (.ref b_28), .val (.int t__29), .unset, .unset, .unset, .unset, .unset, .unset, .unset, .unset] [(.long k__30)])) (fun tg kk => st45.trans kk) ?_
  refine OwnGo.back (T45.setTop (mkF m 49 #[.val (.int p1), .val (.long p2), .second, .val (.long p3), .second, .val (.long p4), .second, .val (.int m2), .val (.ref b11), .val (.ref b_28), .val (.int t__29), .val (.long k__30), .second, .unset, .unset, .unset, .unset, .unset, .unset] [])) (fun tg kk => XS.lstore X45.here hx rfl (hb hby at_47) rfl (l' := #[.val (.int p1), .val (.long p2), .second, .val (.long p3), .second, .val (.long p4), .second, .val (.int m2), .val (.ref b11), .val (.ref b_28), .val (.int t__29), .val (.long k__30), .second, .unset, .unset, .unset, .unset, .unset, .unset]) rfl kk) ?_
  refine OwnGo.back (T45.setTop (mkF m 51 #[.val (.int p1), .val (.long p2), .second, .val (.long p3), .second, .val (.long p4), .second, .val (.int m2), .val (.ref b11), .val (.ref b_28), .val (.int t__29), .val (.long k__30), .second, .unset, .unset, .unset, .unset, .unset, .unset] [(.ref b_28)])) (fun tg kk => XS.aload X45.here hx rfl (hb hby at_49) rfl rfl kk) ?_
  obtain ⟨cq46, kq46, q46a, q46b, q46c⟩ := isOf hZ e45 po32
  obtain ⟨_, _, ⟨T46, L46, k46, n46⟩, -, X46, ⟨Lc46, hQ46, l46, y46, z46⟩, st46⟩ := X45.virtualBack hx (y := (⟨"com/example/padlok/padlok/LockStore$Answer", "retryInMillis", "()J"⟩ : MethodName)) (z := (⟨"com/example/padlok/padlok/LockStore$Answer", "retryInMillis", "()J"⟩ : MethodName)) hown (mvT hZ (hw _ (List.mem_of_getElem? (i := 40) rfl))) (mvT hZ (hw _ (List.mem_of_getElem? (i := 41) rfl))) (notFace_of_selects (args := #[]) (mvT hZ (hw _ (List.mem_of_getElem? (i := 43) rfl)))) (mvT hZ (hw _ (List.mem_of_getElem? (i := 43) rfl))) (mvT hZ (hw _ (List.mem_of_getElem? (i := 42) rfl))) (by decide) (backOf (W := 0) (own_re l Z a0 hw [] b_28 r__31 T27.heap n0 Z43 po35) hZ (hw _ (List.mem_of_getElem? (i := 44) rfl)) (hw _ (List.mem_of_getElem? (i := 2) rfl)) (by decide) (by decide)) q46a q46c (g := (mkF m 51 #[.val (.int p1), .val (.long p2), .second, .val (.long p3), .second, .val (.long p4), .second, .val (.int m2), .val (.ref b11), .val (.ref b_28), .val (.int t__29), .val (.long k__30), .second, .unset, .unset, .unset, .unset, .unset, .unset] [(.ref b_28)])) rfl (by rw [hml]; rfl) (Steps.refl _) (argsL := []) (rest := []) (lenOf own_pd4 rfl) rfl (by show 2 * 0 + _ ≤ _; exact Nat.le_of_eq rfl) (hb hby at_51) (fun _ _ => ⟨rfl, e45, (by decide : 2 + 0 ≤ _), (by decide : 6 + 0 ≤ _)⟩)
  dsimp only [Pt.U, Pt.locs, Pt.cells, Pt.slots] at X46 l46 y46 z46 st46 hQ46
  subst l46 y46 z46
  obtain ⟨rfl, N46q, e46⟩ := hQ46
  have N46 := Fr.app N45 N46q
  refine OwnGo.back (T46.setTop (mkF m 54 #[.val (.int p1), .val (.long p2), .second, .val (.long p3), .second, .val (.long p4), .second, .val (.int m2), .val (.ref b11), .val (.ref b_28), .val (.int t__29), .val (.long k__30), .second, .unset, .unset, .unset, .unset, .unset, .unset] [(.long r__31)])) (fun tg kk => st46.trans kk) ?_
  refine OwnGo.back (T46.setTop (mkF m 56 #[.val (.int p1), .val (.long p2), .second, .val (.long p3), .second, .val (.long p4), .second, .val (.int m2), .val (.ref b11), .val (.ref b_28), .val (.int t__29), .val (.long k__30), .second, .val (.long r__31), .second, .unset, .unset, .unset, .unset] [])) (fun tg kk => XS.lstore X46.here hx rfl (hb hby at_54) rfl (l' := #[.val (.int p1), .val (.long p2), .second, .val (.long p3), .second, .val (.long p4), .second, .val (.int m2), .val (.ref b11), .val (.ref b_28), .val (.int t__29), .val (.long k__30), .second, .val (.long r__31), .second, .unset, .unset, .unset, .unset]) rfl kk) ?_
  refine OwnGo.back (T46.setTop (mkF m 58 #[.val (.int p1), .val (.long p2), .second, .val (.long p3), .second, .val (.long p4), .second, .val (.int m2), .val (.ref b11), .val (.ref b_28), .val (.int t__29), .val (.long k__30), .second, .val (.long r__31), .second, .unset, .unset, .unset, .unset] [(.int m2)])) (fun tg kk => XS.iload X46.here hx rfl (hb hby at_56) rfl kk) ?_
  by_cases hc47 : m2 = (0 : Int32)
  ·
    refine OwnGo.back (T46.setTop (mkF m 86 #[.val (.int p1), .val (.long p2), .second, .val (.long p3), .second, .val (.long p4), .second, .val (.int m2), .val (.ref b11), .val (.ref b_28), .val (.int t__29), .val (.long k__30), .second, .val (.long r__31), .second, .unset, .unset, .unset, .unset] [])) (fun tg kk => XS.ifYes X46.here hx rfl (pc0 := 58) (pc' := 86) rfl (hb hby at_58) rfl ((if0 _ _).trans (teq hc47).1) (by decide) (by decide) kk) ?_
    refine OwnGo.back (T46.setTop (mkF m 87 #[.val (.int p1), .val (.long p2), .second, .val (.long p3), .second, .val (.long p4), .second, .val (.int m2), .val (.ref b11), .val (.ref b_28), .val (.int t__29), .val (.long k__30), .second, .val (.long r__31), .second, .unset, .unset, .unset, .unset] [(.long p3)])) (fun tg kk => XS.lloadN X46.here hx rfl (hb hby at_86) rfl kk) ?_
    refine OwnGo.back (T46.setTop (mkF m 88 #[.val (.int p1), .val (.long p2), .second, .val (.long p3), .second, .val (.long p4), .second, .val (.int m2), .val (.ref b11), .val (.ref b_28), .val (.int t__29), .val (.long k__30), .second, .val (.long r__31), .second, .unset, .unset, .unset, .unset] [(.long (0 : Int64)), (.long p3)])) (fun tg kk => XS.lconst X46.here hx rfl (hb hby at_87) kk) ?_
    refine OwnGo.back (T46.setTop (mkF m 89 #[.val (.int p1), .val (.long p2), .second, .val (.long p3), .second, .val (.long p4), .second, .val (.int m2), .val (.ref b11), .val (.ref b_28), .val (.int t__29), .val (.long k__30), .second, .val (.long r__31), .second, .unset, .unset, .unset, .unset] [(.int (lcmpW p3 (0 : Int64)))])) (fun tg kk => XS.lcmp X46.here hx rfl (hb hby at_88) rfl kk) ?_
    by_cases hc48 : p3 < (0 : Int64)
    ·
      refine OwnGo.back (T46.setTop (mkF m 92 #[.val (.int p1), .val (.long p2), .second, .val (.long p3), .second, .val (.long p4), .second, .val (.int m2), .val (.ref b11), .val (.ref b_28), .val (.int t__29), .val (.long k__30), .second, .val (.long r__31), .second, .unset, .unset, .unset, .unset] [])) (fun tg kk => XS.ifNo X46.here hx rfl (hb hby at_89) rfl ((if0 _ _).trans (tlt ((lw_lt _ _).mpr hc48)).2.1) kk) ?_
      refine OwnGo.back (T46.setTop (mkF m 94 #[.val (.int p1), .val (.long p2), .second, .val (.long p3), .second, .val (.long p4), .second, .val (.int m2), .val (.ref b11), .val (.ref b_28), .val (.int t__29), .val (.long k__30), .second, .val (.long r__31), .second, .unset, .unset, .unset, .unset] [(.long p4)])) (fun tg kk => XS.lload X46.here hx rfl (hb hby at_92) rfl kk) ?_
      refine OwnGo.back (T46.setTop (mkF m 96 #[.val (.int p1), .val (.long p2), .second, .val (.long p3), .second, .val (.long p4), .second, .val (.int m2), .val (.ref b11), .val (.ref b_28), .val (.int t__29), .val (.long k__30), .second, .val (.long r__31), .second, .val (.long p4), .second, .unset, .unset] [])) (fun tg kk => XS.lstore X46.here hx rfl (hb hby at_94) rfl (l' := #[.val (.int p1), .val (.long p2), .second, .val (.long p3), .second, .val (.long p4), .second, .val (.int m2), .val (.ref b11), .val (.ref b_28), .val (.int t__29), .val (.long k__30), .second, .val (.long r__31), .second, .val (.long p4), .second, .unset, .unset]) rfl kk) ?_
      refine OwnGo.back (T46.setTop (mkF m 107 #[.val (.int p1), .val (.long p2), .second, .val (.long p3), .second, .val (.long p4), .second, .val (.int m2), .val (.ref b11), .val (.ref b_28), .val (.int t__29), .val (.long k__30), .second, .val (.long r__31), .second, .val (.long p4), .second, .unset, .unset] [])) (fun tg kk => XS.goto X46.here hx rfl (pc0 := 96) (pc' := 107) rfl (hb hby at_96) (by decide) (by decide) kk) ?_
      refine OwnGo.back (T46.setTop (mkF m 108 #[.val (.int p1), .val (.long p2), .second, .val (.long p3), .second, .val (.long p4), .second, .val (.int m2), .val (.ref b11), .val (.ref b_28), .val (.int t__29), .val (.long k__30), .second, .val (.long r__31), .second, .val (.long p4), .second, .unset, .unset] [(.long p3)])) (fun tg kk => XS.lloadN X46.here hx rfl (hb hby at_107) rfl kk) ?_
      refine OwnGo.back (T46.setTop (mkF m 109 #[.val (.int p1), .val (.long p2), .second, .val (.long p3), .second, .val (.long p4), .second, .val (.int m2), .val (.ref b11), .val (.ref b_28), .val (.int t__29), .val (.long k__30), .second, .val (.long r__31), .second, .val (.long p4), .second, .unset, .unset] [(.long (0 : Int64)), (.long p3)])) (fun tg kk => XS.lconst X46.here hx rfl (hb hby at_108) kk) ?_
      refine OwnGo.back (T46.setTop (mkF m 110 #[.val (.int p1), .val (.long p2), .second, .val (.long p3), .second, .val (.long p4), .second, .val (.int m2), .val (.ref b11), .val (.ref b_28), .val (.int t__29), .val (.long k__30), .second, .val (.long r__31), .second, .val (.long p4), .second, .unset, .unset] [(.int (lcmpW p3 (0 : Int64)))])) (fun tg kk => XS.lcmp X46.here hx rfl (hb hby at_109) rfl kk) ?_
      refine OwnGo.back (T46.setTop (mkF m 126 #[.val (.int p1), .val (.long p2), .second, .val (.long p3), .second, .val (.long p4), .second, .val (.int m2), .val (.ref b11), .val (.ref b_28), .val (.int t__29), .val (.long k__30), .second, .val (.long r__31), .second, .val (.long p4), .second, .unset, .unset] [])) (fun tg kk => XS.ifYes X46.here hx rfl (pc0 := 110) (pc' := 126) rfl (hb hby at_110) rfl ((if0 _ _).trans (tlt ((lw_lt _ _).mpr hc48)).1) (by decide) (by decide) kk) ?_
      refine OwnGo.back (T46.setTop (mkF m 127 #[.val (.int p1), .val (.long p2), .second, .val (.long p3), .second, .val (.long p4), .second, .val (.int m2), .val (.ref b11), .val (.ref b_28), .val (.int t__29), .val (.long k__30), .second, .val (.long r__31), .second, .val (.long p4), .second, .unset, .unset] [(.long (0 : Int64))])) (fun tg kk => XS.lconst X46.here hx rfl (hb hby at_126) kk) ?_
      refine OwnGo.back (T46.setTop (mkF m 129 #[.val (.int p1), .val (.long p2), .second, .val (.long p3), .second, .val (.long p4), .second, .val (.int m2), .val (.ref b11), .val (.ref b_28), .val (.int t__29), .val (.long k__30), .second, .val (.long r__31), .second, .val (.long p4), .second, .val (.long (0 : Int64)), .second] [])) (fun tg kk => XS.lstore X46.here hx rfl (hb hby at_127) rfl (l' := #[.val (.int p1), .val (.long p2), .second, .val (.long p3), .second, .val (.long p4), .second, .val (.int m2), .val (.ref b11), .val (.ref b_28), .val (.int t__29), .val (.long k__30), .second, .val (.long r__31), .second, .val (.long p4), .second, .val (.long (0 : Int64)), .second]) rfl kk) ?_
      refine OwnGo.back (T46.setTop (mkF m 131 #[.val (.int p1), .val (.long p2), .second, .val (.long p3), .second, .val (.long p4), .second, .val (.int m2), .val (.ref b11), .val (.ref b_28), .val (.int t__29), .val (.long k__30), .second, .val (.long r__31), .second, .val (.long p4), .second, .val (.long (0 : Int64)), .second] [(.int t__29)])) (fun tg kk => XS.iload X46.here hx rfl (hb hby at_129) rfl kk) ?_
      refine OwnGo.back (T46.setTop (mkF m 134 #[.val (.int p1), .val (.long p2), .second, .val (.long p3), .second, .val (.long p4), .second, .val (.int m2), .val (.ref b11), .val (.ref b_28), .val (.int t__29), .val (.long k__30), .second, .val (.long r__31), .second, .val (.long p4), .second, .val (.long (0 : Int64)), .second] [])) (fun tg kk => XS.ifNo X46.here hx rfl (hb hby at_131) rfl ((if0 _ _).trans (teq (by (simp only [true_and, and_true, false_and, and_false, or_false, false_or, or_true, true_or, not_true_eq_false, not_false_eq_true, eq_self, Int32.lt_iff_toInt_lt, Int32.le_iff_toInt_le, ← Int32.toInt_inj, Int32.reduceToInt, Int64.lt_iff_toInt_lt, Int64.le_iff_toInt_le, ← Int64.toInt_inj, Int64.reduceToInt] at hc47 hc48 hm3 po36 po37 ⊢) <;> omega : t__29 = (0 : Int32))).2) kk) ?_
      refine OwnGo.back (T46.setTop (mkF m 136 #[.val (.int p1), .val (.long p2), .second, .val (.long p3), .second, .val (.long p4), .second, .val (.int m2), .val (.ref b11), .val (.ref b_28), .val (.int t__29), .val (.long k__30), .second, .val (.long r__31), .second, .val (.long p4), .second, .val (.long (0 : Int64)), .second] [(.long r__31)])) (fun tg kk => XS.lload X46.here hx rfl (hb hby at_134) rfl kk) ?_
      refine OwnGo.back (T46.setTop (mkF m 138 #[.val (.int p1), .val (.long p2), .second, .val (.long p3), .second, .val (.long p4), .second, .val (.int m2), .val (.ref b11), .val (.ref b_28), .val (.int t__29), .val (.long k__30), .second, .val (.long r__31), .second, .val (.long p4), .second, .val (.long (0 : Int64)), .second] [(.long p4), (.long r__31)])) (fun tg kk => XS.lload X46.here hx rfl (hb hby at_136) rfl kk) ?_
      refine OwnGo.back (T46.setTop (mkF m 139 #[.val (.int p1), .val (.long p2), .second, .val (.long p3), .second, .val (.long p4), .second, .val (.int m2), .val (.ref b11), .val (.ref b_28), .val (.int t__29), .val (.long k__30), .second, .val (.long r__31), .second, .val (.long p4), .second, .val (.long (0 : Int64)), .second] [(.int (lcmpW r__31 p4))])) (fun tg kk => XS.lcmp X46.here hx rfl (hb hby at_138) rfl kk) ?_
      refine OwnGo.back (T46.setTop (mkF m 142 #[.val (.int p1), .val (.long p2), .second, .val (.long p3), .second, .val (.long p4), .second, .val (.int m2), .val (.ref b11), .val (.ref b_28), .val (.int t__29), .val (.long k__30), .second, .val (.long r__31), .second, .val (.long p4), .second, .val (.long (0 : Int64)), .second] [])) (fun tg kk => XS.ifNo X46.here hx rfl (hb hby at_139) rfl ((if0 _ _).trans (teq ((lw_eq _ _).mpr (by (simp only [true_and, and_true, false_and, and_false, or_false, false_or, or_true, true_or, not_true_eq_false, not_false_eq_true, eq_self, Int32.lt_iff_toInt_lt, Int32.le_iff_toInt_le, ← Int32.toInt_inj, Int32.reduceToInt, Int64.lt_iff_toInt_lt, Int64.le_iff_toInt_le, ← Int64.toInt_inj, Int64.reduceToInt] at hc47 hc48 hm3 po36 po37 ⊢) <;> omega : r__31 = p4))).2) kk) ?_
      refine OwnGo.back (T46.setTop (mkF m 144 #[.val (.int p1), .val (.long p2), .second, .val (.long p3), .second, .val (.long p4), .second, .val (.int m2), .val (.ref b11), .val (.ref b_28), .val (.int t__29), .val (.long k__30), .second, .val (.long r__31), .second, .val (.long p4), .second, .val (.long (0 : Int64)), .second] [(.long k__30)])) (fun tg kk => XS.lload X46.here hx rfl (hb hby at_142) rfl kk) ?_
      refine OwnGo.back (T46.setTop (mkF m 146 #[.val (.int p1), .val (.long p2), .second, .val (.long p3), .second, .val (.long p4), .second, .val (.int m2), .val (.ref b11), .val (.ref b_28), .val (.int t__29), .val (.long k__30), .second, .val (.long r__31), .second, .val (.long p4), .second, .val (.long (0 : Int64)), .second] [(.long (0 : Int64)), (.long k__30)])) (fun tg kk => XS.lload X46.here hx rfl (hb hby at_144) rfl kk) ?_
      refine OwnGo.back (T46.setTop (mkF m 147 #[.val (.int p1), .val (.long p2), .second, .val (.long p3), .second, .val (.long p4), .second, .val (.int m2), .val (.ref b11), .val (.ref b_28), .val (.int t__29), .val (.long k__30), .second, .val (.long r__31), .second, .val (.long p4), .second, .val (.long (0 : Int64)), .second] [(.int (lcmpW k__30 (0 : Int64)))])) (fun tg kk => XS.lcmp X46.here hx rfl (hb hby at_146) rfl kk) ?_
      refine OwnGo.back (T46.setTop (mkF m 150 #[.val (.int p1), .val (.long p2), .second, .val (.long p3), .second, .val (.long p4), .second, .val (.int m2), .val (.ref b11), .val (.ref b_28), .val (.int t__29), .val (.long k__30), .second, .val (.long r__31), .second, .val (.long p4), .second, .val (.long (0 : Int64)), .second] [])) (fun tg kk => XS.ifNo X46.here hx rfl (hb hby at_147) rfl ((if0 _ _).trans (teq ((lw_eq _ _).mpr (by (simp only [true_and, and_true, false_and, and_false, or_false, false_or, or_true, true_or, not_true_eq_false, not_false_eq_true, eq_self, Int32.lt_iff_toInt_lt, Int32.le_iff_toInt_le, ← Int32.toInt_inj, Int32.reduceToInt, Int64.lt_iff_toInt_lt, Int64.le_iff_toInt_le, ← Int64.toInt_inj, Int64.reduceToInt] at hc47 hc48 hm3 po36 po37 ⊢) <;> omega : k__30 = (0 : Int64)))).2) kk) ?_
      refine OwnGo.back (T46.setTop (mkF m 151 #[.val (.int p1), .val (.long p2), .second, .val (.long p3), .second, .val (.long p4), .second, .val (.int m2), .val (.ref b11), .val (.ref b_28), .val (.int t__29), .val (.long k__30), .second, .val (.long r__31), .second, .val (.long p4), .second, .val (.long (0 : Int64)), .second] [(.int (1 : Int32))])) (fun tg kk => XS.iconst X46.here hx rfl (hb hby at_150) kk) ?_
      refine OwnGo.back (T46.setTop (mkF m 155 #[.val (.int p1), .val (.long p2), .second, .val (.long p3), .second, .val (.long p4), .second, .val (.int m2), .val (.ref b11), .val (.ref b_28), .val (.int t__29), .val (.long k__30), .second, .val (.long r__31), .second, .val (.long p4), .second, .val (.long (0 : Int64)), .second] [(.int (1 : Int32))])) (fun tg kk => XS.goto X46.here hx rfl (pc0 := 151) (pc' := 155) rfl (hb hby at_151) (by decide) (by decide) kk) ?_
      obtain ⟨fs, hr, hrun, hended, hW, hsame⟩ := X46.leave (v := some (.int (1 : Int32))) (fun h => by rw [Bd.returns] at h; cases h)
      refine ⟨_, _, ?_, hrun, hended, _, _, rfl, ?_, ⟨_, rfl⟩, hW, hsame.mono (by decide) (by decide)⟩
      · exact retN X46 hx (t := .boolean) Bd.returns (by simp) (hb hby at_155) hr
      · show own_law_Q Z p1 p2 p3 p4 h0 n0 _ T46.heap _
        rw [e46]
        exact ⟨rfl, N46, K42⟩
    ·
      refine OwnGo.back (T46.setTop (mkF m 99 #[.val (.int p1), .val (.long p2), .second, .val (.long p3), .second, .val (.long p4), .second, .val (.int m2), .val (.ref b11), .val (.ref b_28), .val (.int t__29), .val (.long k__30), .second, .val (.long r__31), .second, .unset, .unset, .unset, .unset] [])) (fun tg kk => XS.ifYes X46.here hx rfl (pc0 := 89) (pc' := 99) rfl (hb hby at_89) rfl ((if0 _ _).trans (flt (own_not (lw_lt _ _) hc48)).2.1) (by decide) (by decide) kk) ?_
      refine OwnGo.back (T46.setTop (mkF m 100 #[.val (.int p1), .val (.long p2), .second, .val (.long p3), .second, .val (.long p4), .second, .val (.int m2), .val (.ref b11), .val (.ref b_28), .val (.int t__29), .val (.long k__30), .second, .val (.long r__31), .second, .unset, .unset, .unset, .unset] [(.long p3)])) (fun tg kk => XS.lloadN X46.here hx rfl (hb hby at_99) rfl kk) ?_
      refine OwnGo.back (T46.setTop (mkF m 102 #[.val (.int p1), .val (.long p2), .second, .val (.long p3), .second, .val (.long p4), .second, .val (.int m2), .val (.ref b11), .val (.ref b_28), .val (.int t__29), .val (.long k__30), .second, .val (.long r__31), .second, .unset, .unset, .unset, .unset] [(.long p4), (.long p3)])) (fun tg kk => XS.lload X46.here hx rfl (hb hby at_100) rfl kk) ?_
      obtain ⟨_, _, ⟨T49, L49, k49, n49⟩, -, X49, ⟨Lc49, hQ49, l49, y49, z49⟩, st49⟩ := Jvm.LawKit.callS X46 hx (y := (⟨"java/lang/Math", "min", "(JJ)J"⟩ : MethodName)) hown (mvT hZ (hw _ (List.mem_of_getElem? (i := 45) rfl))) (mvT hZ (hw _ (List.mem_of_getElem? (i := 46) rfl))) (mvT hZ (hw _ (List.mem_of_getElem? (i := 47) rfl))) (mvT hZ (hw _ (List.mem_of_getElem? (i := 48) rfl))) (by decide) (backOf (W := 0) (own_min l Z a0 hw [] p3 p4 T27.heap n0 Z43 ) hZ (hw _ (List.mem_of_getElem? (i := 48) rfl)) (hw _ (List.mem_of_getElem? (i := 47) rfl)) (by decide) (by decide)) (g := (mkF m 102 #[.val (.int p1), .val (.long p2), .second, .val (.long p3), .second, .val (.long p4), .second, .val (.int m2), .val (.ref b11), .val (.ref b_28), .val (.int t__29), .val (.long k__30), .second, .val (.long r__31), .second, .unset, .unset, .unset, .unset] [(.long p4), (.long p3)])) rfl (by rw [hml]; rfl) (argsL := [(.long p3), (.long p4)]) (rest := []) (lenOf own_pd5 rfl) rfl (by show 2 * 0 + _ ≤ _; exact Nat.le_of_eq rfl) (hb hby at_102) (fun _ _ => ⟨rfl, e46, (by decide : 2 + 0 ≤ _), (by decide : 6 + 0 ≤ _)⟩)
      dsimp only [Pt.U, Pt.locs, Pt.cells, Pt.slots] at X49 l49 y49 z49 st49 hQ49
      subst l49 y49 z49
      obtain ⟨r_50, rfl, N49q, e49, po51⟩ := hQ49
      have N49 := Fr.app N46 N49q
      refine OwnGo.back (T49.setTop (mkF m 105 #[.val (.int p1), .val (.long p2), .second, .val (.long p3), .second, .val (.long p4), .second, .val (.int m2), .val (.ref b11), .val (.ref b_28), .val (.int t__29), .val (.long k__30), .second, .val (.long r__31), .second, .unset, .unset, .unset, .unset] [(.long r_50)])) (fun tg kk => st49 _ kk) ?_
      refine OwnGo.back (T49.setTop (mkF m 107 #[.val (.int p1), .val (.long p2), .second, .val (.long p3), .second, .val (.long p4), .second, .val (.int m2), .val (.ref b11), .val (.ref b_28), .val (.int t__29), .val (.long k__30), .second, .val (.long r__31), .second, .val (.long r_50), .second, .unset, .unset] [])) (fun tg kk => XS.lstore X49.here hx rfl (hb hby at_105) rfl (l' := #[.val (.int p1), .val (.long p2), .second, .val (.long p3), .second, .val (.long p4), .second, .val (.int m2), .val (.ref b11), .val (.ref b_28), .val (.int t__29), .val (.long k__30), .second, .val (.long r__31), .second, .val (.long r_50), .second, .unset, .unset]) rfl kk) ?_
      refine OwnGo.back (T49.setTop (mkF m 108 #[.val (.int p1), .val (.long p2), .second, .val (.long p3), .second, .val (.long p4), .second, .val (.int m2), .val (.ref b11), .val (.ref b_28), .val (.int t__29), .val (.long k__30), .second, .val (.long r__31), .second, .val (.long r_50), .second, .unset, .unset] [(.long p3)])) (fun tg kk => XS.lloadN X49.here hx rfl (hb hby at_107) rfl kk) ?_
      refine OwnGo.back (T49.setTop (mkF m 109 #[.val (.int p1), .val (.long p2), .second, .val (.long p3), .second, .val (.long p4), .second, .val (.int m2), .val (.ref b11), .val (.ref b_28), .val (.int t__29), .val (.long k__30), .second, .val (.long r__31), .second, .val (.long r_50), .second, .unset, .unset] [(.long (0 : Int64)), (.long p3)])) (fun tg kk => XS.lconst X49.here hx rfl (hb hby at_108) kk) ?_
      refine OwnGo.back (T49.setTop (mkF m 110 #[.val (.int p1), .val (.long p2), .second, .val (.long p3), .second, .val (.long p4), .second, .val (.int m2), .val (.ref b11), .val (.ref b_28), .val (.int t__29), .val (.long k__30), .second, .val (.long r__31), .second, .val (.long r_50), .second, .unset, .unset] [(.int (lcmpW p3 (0 : Int64)))])) (fun tg kk => XS.lcmp X49.here hx rfl (hb hby at_109) rfl kk) ?_
      refine OwnGo.back (T49.setTop (mkF m 113 #[.val (.int p1), .val (.long p2), .second, .val (.long p3), .second, .val (.long p4), .second, .val (.int m2), .val (.ref b11), .val (.ref b_28), .val (.int t__29), .val (.long k__30), .second, .val (.long r__31), .second, .val (.long r_50), .second, .unset, .unset] [])) (fun tg kk => XS.ifNo X49.here hx rfl (hb hby at_110) rfl ((if0 _ _).trans (flt (own_not (lw_lt _ _) hc48)).1) kk) ?_
      refine OwnGo.back (T49.setTop (mkF m 114 #[.val (.int p1), .val (.long p2), .second, .val (.long p3), .second, .val (.long p4), .second, .val (.int m2), .val (.ref b11), .val (.ref b_28), .val (.int t__29), .val (.long k__30), .second, .val (.long r__31), .second, .val (.long r_50), .second, .unset, .unset] [(.long p3)])) (fun tg kk => XS.lloadN X49.here hx rfl (hb hby at_113) rfl kk) ?_
      refine OwnGo.back (T49.setTop (mkF m 116 #[.val (.int p1), .val (.long p2), .second, .val (.long p3), .second, .val (.long p4), .second, .val (.int m2), .val (.ref b11), .val (.ref b_28), .val (.int t__29), .val (.long k__30), .second, .val (.long r__31), .second, .val (.long r_50), .second, .unset, .unset] [(.long p4), (.long p3)])) (fun tg kk => XS.lload X49.here hx rfl (hb hby at_114) rfl kk) ?_
      refine OwnGo.back (T49.setTop (mkF m 117 #[.val (.int p1), .val (.long p2), .second, .val (.long p3), .second, .val (.long p4), .second, .val (.int m2), .val (.ref b11), .val (.ref b_28), .val (.int t__29), .val (.long k__30), .second, .val (.long r__31), .second, .val (.long r_50), .second, .unset, .unset] [(.int (lcmpW p3 p4))])) (fun tg kk => XS.lcmp X49.here hx rfl (hb hby at_116) rfl kk) ?_
      by_cases hc52 : p4 < p3
      ·
        refine OwnGo.back (T49.setTop (mkF m 126 #[.val (.int p1), .val (.long p2), .second, .val (.long p3), .second, .val (.long p4), .second, .val (.int m2), .val (.ref b11), .val (.ref b_28), .val (.int t__29), .val (.long k__30), .second, .val (.long r__31), .second, .val (.long r_50), .second, .unset, .unset] [])) (fun tg kk => XS.ifYes X49.here hx rfl (pc0 := 117) (pc' := 126) rfl (hb hby at_117) rfl ((if0 _ _).trans (tlt ((lw_gt _ _).mpr hc52)).2.2.1) (by decide) (by decide) kk) ?_
        refine OwnGo.back (T49.setTop (mkF m 127 #[.val (.int p1), .val (.long p2), .second, .val (.long p3), .second, .val (.long p4), .second, .val (.int m2), .val (.ref b11), .val (.ref b_28), .val (.int t__29), .val (.long k__30), .second, .val (.long r__31), .second, .val (.long r_50), .second, .unset, .unset] [(.long (0 : Int64))])) (fun tg kk => XS.lconst X49.here hx rfl (hb hby at_126) kk) ?_
        refine OwnGo.back (T49.setTop (mkF m 129 #[.val (.int p1), .val (.long p2), .second, .val (.long p3), .second, .val (.long p4), .second, .val (.int m2), .val (.ref b11), .val (.ref b_28), .val (.int t__29), .val (.long k__30), .second, .val (.long r__31), .second, .val (.long r_50), .second, .val (.long (0 : Int64)), .second] [])) (fun tg kk => XS.lstore X49.here hx rfl (hb hby at_127) rfl (l' := #[.val (.int p1), .val (.long p2), .second, .val (.long p3), .second, .val (.long p4), .second, .val (.int m2), .val (.ref b11), .val (.ref b_28), .val (.int t__29), .val (.long k__30), .second, .val (.long r__31), .second, .val (.long r_50), .second, .val (.long (0 : Int64)), .second]) rfl kk) ?_
        refine OwnGo.back (T49.setTop (mkF m 131 #[.val (.int p1), .val (.long p2), .second, .val (.long p3), .second, .val (.long p4), .second, .val (.int m2), .val (.ref b11), .val (.ref b_28), .val (.int t__29), .val (.long k__30), .second, .val (.long r__31), .second, .val (.long r_50), .second, .val (.long (0 : Int64)), .second] [(.int t__29)])) (fun tg kk => XS.iload X49.here hx rfl (hb hby at_129) rfl kk) ?_
        refine OwnGo.back (T49.setTop (mkF m 134 #[.val (.int p1), .val (.long p2), .second, .val (.long p3), .second, .val (.long p4), .second, .val (.int m2), .val (.ref b11), .val (.ref b_28), .val (.int t__29), .val (.long k__30), .second, .val (.long r__31), .second, .val (.long r_50), .second, .val (.long (0 : Int64)), .second] [])) (fun tg kk => XS.ifNo X49.here hx rfl (hb hby at_131) rfl ((if0 _ _).trans (teq (by (simp only [true_and, and_true, false_and, and_false, or_false, false_or, or_true, true_or, not_true_eq_false, not_false_eq_true, eq_self, Int32.lt_iff_toInt_lt, Int32.le_iff_toInt_le, ← Int32.toInt_inj, Int32.reduceToInt, Int64.lt_iff_toInt_lt, Int64.le_iff_toInt_le, ← Int64.toInt_inj, Int64.reduceToInt] at hc47 hc48 hc52 hm3 po36 po37 po51 ⊢) <;> omega : t__29 = (0 : Int32))).2) kk) ?_
        refine OwnGo.back (T49.setTop (mkF m 136 #[.val (.int p1), .val (.long p2), .second, .val (.long p3), .second, .val (.long p4), .second, .val (.int m2), .val (.ref b11), .val (.ref b_28), .val (.int t__29), .val (.long k__30), .second, .val (.long r__31), .second, .val (.long r_50), .second, .val (.long (0 : Int64)), .second] [(.long r__31)])) (fun tg kk => XS.lload X49.here hx rfl (hb hby at_134) rfl kk) ?_
        refine OwnGo.back (T49.setTop (mkF m 138 #[.val (.int p1), .val (.long p2), .second, .val (.long p3), .second, .val (.long p4), .second, .val (.int m2), .val (.ref b11), .val (.ref b_28), .val (.int t__29), .val (.long k__30), .second, .val (.long r__31), .second, .val (.long r_50), .second, .val (.long (0 : Int64)), .second] [(.long r_50), (.long r__31)])) (fun tg kk => XS.lload X49.here hx rfl (hb hby at_136) rfl kk) ?_
        refine OwnGo.back (T49.setTop (mkF m 139 #[.val (.int p1), .val (.long p2), .second, .val (.long p3), .second, .val (.long p4), .second, .val (.int m2), .val (.ref b11), .val (.ref b_28), .val (.int t__29), .val (.long k__30), .second, .val (.long r__31), .second, .val (.long r_50), .second, .val (.long (0 : Int64)), .second] [(.int (lcmpW r__31 r_50))])) (fun tg kk => XS.lcmp X49.here hx rfl (hb hby at_138) rfl kk) ?_
        refine OwnGo.back (T49.setTop (mkF m 142 #[.val (.int p1), .val (.long p2), .second, .val (.long p3), .second, .val (.long p4), .second, .val (.int m2), .val (.ref b11), .val (.ref b_28), .val (.int t__29), .val (.long k__30), .second, .val (.long r__31), .second, .val (.long r_50), .second, .val (.long (0 : Int64)), .second] [])) (fun tg kk => XS.ifNo X49.here hx rfl (hb hby at_139) rfl ((if0 _ _).trans (teq ((lw_eq _ _).mpr (by (simp only [true_and, and_true, false_and, and_false, or_false, false_or, or_true, true_or, not_true_eq_false, not_false_eq_true, eq_self, Int32.lt_iff_toInt_lt, Int32.le_iff_toInt_le, ← Int32.toInt_inj, Int32.reduceToInt, Int64.lt_iff_toInt_lt, Int64.le_iff_toInt_le, ← Int64.toInt_inj, Int64.reduceToInt] at hc47 hc48 hc52 hm3 po36 po37 po51 ⊢) <;> omega : r__31 = r_50))).2) kk) ?_
        refine OwnGo.back (T49.setTop (mkF m 144 #[.val (.int p1), .val (.long p2), .second, .val (.long p3), .second, .val (.long p4), .second, .val (.int m2), .val (.ref b11), .val (.ref b_28), .val (.int t__29), .val (.long k__30), .second, .val (.long r__31), .second, .val (.long r_50), .second, .val (.long (0 : Int64)), .second] [(.long k__30)])) (fun tg kk => XS.lload X49.here hx rfl (hb hby at_142) rfl kk) ?_
        refine OwnGo.back (T49.setTop (mkF m 146 #[.val (.int p1), .val (.long p2), .second, .val (.long p3), .second, .val (.long p4), .second, .val (.int m2), .val (.ref b11), .val (.ref b_28), .val (.int t__29), .val (.long k__30), .second, .val (.long r__31), .second, .val (.long r_50), .second, .val (.long (0 : Int64)), .second] [(.long (0 : Int64)), (.long k__30)])) (fun tg kk => XS.lload X49.here hx rfl (hb hby at_144) rfl kk) ?_
        refine OwnGo.back (T49.setTop (mkF m 147 #[.val (.int p1), .val (.long p2), .second, .val (.long p3), .second, .val (.long p4), .second, .val (.int m2), .val (.ref b11), .val (.ref b_28), .val (.int t__29), .val (.long k__30), .second, .val (.long r__31), .second, .val (.long r_50), .second, .val (.long (0 : Int64)), .second] [(.int (lcmpW k__30 (0 : Int64)))])) (fun tg kk => XS.lcmp X49.here hx rfl (hb hby at_146) rfl kk) ?_
        refine OwnGo.back (T49.setTop (mkF m 150 #[.val (.int p1), .val (.long p2), .second, .val (.long p3), .second, .val (.long p4), .second, .val (.int m2), .val (.ref b11), .val (.ref b_28), .val (.int t__29), .val (.long k__30), .second, .val (.long r__31), .second, .val (.long r_50), .second, .val (.long (0 : Int64)), .second] [])) (fun tg kk => XS.ifNo X49.here hx rfl (hb hby at_147) rfl ((if0 _ _).trans (teq ((lw_eq _ _).mpr (by (simp only [true_and, and_true, false_and, and_false, or_false, false_or, or_true, true_or, not_true_eq_false, not_false_eq_true, eq_self, Int32.lt_iff_toInt_lt, Int32.le_iff_toInt_le, ← Int32.toInt_inj, Int32.reduceToInt, Int64.lt_iff_toInt_lt, Int64.le_iff_toInt_le, ← Int64.toInt_inj, Int64.reduceToInt] at hc47 hc48 hc52 hm3 po36 po37 po51 ⊢) <;> omega : k__30 = (0 : Int64)))).2) kk) ?_
        refine OwnGo.back (T49.setTop (mkF m 151 #[.val (.int p1), .val (.long p2), .second, .val (.long p3), .second, .val (.long p4), .second, .val (.int m2), .val (.ref b11), .val (.ref b_28), .val (.int t__29), .val (.long k__30), .second, .val (.long r__31), .second, .val (.long r_50), .second, .val (.long (0 : Int64)), .second] [(.int (1 : Int32))])) (fun tg kk => XS.iconst X49.here hx rfl (hb hby at_150) kk) ?_
        refine OwnGo.back (T49.setTop (mkF m 155 #[.val (.int p1), .val (.long p2), .second, .val (.long p3), .second, .val (.long p4), .second, .val (.int m2), .val (.ref b11), .val (.ref b_28), .val (.int t__29), .val (.long k__30), .second, .val (.long r__31), .second, .val (.long r_50), .second, .val (.long (0 : Int64)), .second] [(.int (1 : Int32))])) (fun tg kk => XS.goto X49.here hx rfl (pc0 := 151) (pc' := 155) rfl (hb hby at_151) (by decide) (by decide) kk) ?_
        obtain ⟨fs, hr, hrun, hended, hW, hsame⟩ := X49.leave (v := some (.int (1 : Int32))) (fun h => by rw [Bd.returns] at h; cases h)
        refine ⟨_, _, ?_, hrun, hended, _, _, rfl, ?_, ⟨_, rfl⟩, hW, hsame.mono (by decide) (by decide)⟩
        · exact retN X49 hx (t := .boolean) Bd.returns (by simp) (hb hby at_155) hr
        · show own_law_Q Z p1 p2 p3 p4 h0 n0 _ T49.heap _
          rw [e49]
          exact ⟨rfl, N49, K42⟩
      ·
        refine OwnGo.back (T49.setTop (mkF m 120 #[.val (.int p1), .val (.long p2), .second, .val (.long p3), .second, .val (.long p4), .second, .val (.int m2), .val (.ref b11), .val (.ref b_28), .val (.int t__29), .val (.long k__30), .second, .val (.long r__31), .second, .val (.long r_50), .second, .unset, .unset] [])) (fun tg kk => XS.ifNo X49.here hx rfl (hb hby at_117) rfl ((if0 _ _).trans (flt (own_not (lw_gt _ _) hc52)).2.2.1) kk) ?_
        refine OwnGo.back (T49.setTop (mkF m 121 #[.val (.int p1), .val (.long p2), .second, .val (.long p3), .second, .val (.long p4), .second, .val (.int m2), .val (.ref b11), .val (.ref b_28), .val (.int t__29), .val (.long k__30), .second, .val (.long r__31), .second, .val (.long r_50), .second, .unset, .unset] [(.long p2)])) (fun tg kk => XS.lloadN X49.here hx rfl (hb hby at_120) rfl kk) ?_
        refine OwnGo.back (T49.setTop (mkF m 123 #[.val (.int p1), .val (.long p2), .second, .val (.long p3), .second, .val (.long p4), .second, .val (.int m2), .val (.ref b11), .val (.ref b_28), .val (.int t__29), .val (.long k__30), .second, .val (.long r__31), .second, .val (.long r_50), .second, .val (.long p2), .second] [])) (fun tg kk => XS.lstore X49.here hx rfl (hb hby at_121) rfl (l' := #[.val (.int p1), .val (.long p2), .second, .val (.long p3), .second, .val (.long p4), .second, .val (.int m2), .val (.ref b11), .val (.ref b_28), .val (.int t__29), .val (.long k__30), .second, .val (.long r__31), .second, .val (.long r_50), .second, .val (.long p2), .second]) rfl kk) ?_
        refine OwnGo.back (T49.setTop (mkF m 129 #[.val (.int p1), .val (.long p2), .second, .val (.long p3), .second, .val (.long p4), .second, .val (.int m2), .val (.ref b11), .val (.ref b_28), .val (.int t__29), .val (.long k__30), .second, .val (.long r__31), .second, .val (.long r_50), .second, .val (.long p2), .second] [])) (fun tg kk => XS.goto X49.here hx rfl (pc0 := 123) (pc' := 129) rfl (hb hby at_123) (by decide) (by decide) kk) ?_
        refine OwnGo.back (T49.setTop (mkF m 131 #[.val (.int p1), .val (.long p2), .second, .val (.long p3), .second, .val (.long p4), .second, .val (.int m2), .val (.ref b11), .val (.ref b_28), .val (.int t__29), .val (.long k__30), .second, .val (.long r__31), .second, .val (.long r_50), .second, .val (.long p2), .second] [(.int t__29)])) (fun tg kk => XS.iload X49.here hx rfl (hb hby at_129) rfl kk) ?_
        refine OwnGo.back (T49.setTop (mkF m 134 #[.val (.int p1), .val (.long p2), .second, .val (.long p3), .second, .val (.long p4), .second, .val (.int m2), .val (.ref b11), .val (.ref b_28), .val (.int t__29), .val (.long k__30), .second, .val (.long r__31), .second, .val (.long r_50), .second, .val (.long p2), .second] [])) (fun tg kk => XS.ifNo X49.here hx rfl (hb hby at_131) rfl ((if0 _ _).trans (teq (by (simp only [true_and, and_true, false_and, and_false, or_false, false_or, or_true, true_or, not_true_eq_false, not_false_eq_true, eq_self, Int32.lt_iff_toInt_lt, Int32.le_iff_toInt_le, ← Int32.toInt_inj, Int32.reduceToInt, Int64.lt_iff_toInt_lt, Int64.le_iff_toInt_le, ← Int64.toInt_inj, Int64.reduceToInt] at hc47 hc48 hc52 hm3 po36 po37 po51 ⊢) <;> omega : t__29 = (0 : Int32))).2) kk) ?_
        refine OwnGo.back (T49.setTop (mkF m 136 #[.val (.int p1), .val (.long p2), .second, .val (.long p3), .second, .val (.long p4), .second, .val (.int m2), .val (.ref b11), .val (.ref b_28), .val (.int t__29), .val (.long k__30), .second, .val (.long r__31), .second, .val (.long r_50), .second, .val (.long p2), .second] [(.long r__31)])) (fun tg kk => XS.lload X49.here hx rfl (hb hby at_134) rfl kk) ?_
        refine OwnGo.back (T49.setTop (mkF m 138 #[.val (.int p1), .val (.long p2), .second, .val (.long p3), .second, .val (.long p4), .second, .val (.int m2), .val (.ref b11), .val (.ref b_28), .val (.int t__29), .val (.long k__30), .second, .val (.long r__31), .second, .val (.long r_50), .second, .val (.long p2), .second] [(.long r_50), (.long r__31)])) (fun tg kk => XS.lload X49.here hx rfl (hb hby at_136) rfl kk) ?_
        refine OwnGo.back (T49.setTop (mkF m 139 #[.val (.int p1), .val (.long p2), .second, .val (.long p3), .second, .val (.long p4), .second, .val (.int m2), .val (.ref b11), .val (.ref b_28), .val (.int t__29), .val (.long k__30), .second, .val (.long r__31), .second, .val (.long r_50), .second, .val (.long p2), .second] [(.int (lcmpW r__31 r_50))])) (fun tg kk => XS.lcmp X49.here hx rfl (hb hby at_138) rfl kk) ?_
        refine OwnGo.back (T49.setTop (mkF m 142 #[.val (.int p1), .val (.long p2), .second, .val (.long p3), .second, .val (.long p4), .second, .val (.int m2), .val (.ref b11), .val (.ref b_28), .val (.int t__29), .val (.long k__30), .second, .val (.long r__31), .second, .val (.long r_50), .second, .val (.long p2), .second] [])) (fun tg kk => XS.ifNo X49.here hx rfl (hb hby at_139) rfl ((if0 _ _).trans (teq ((lw_eq _ _).mpr (by (simp only [true_and, and_true, false_and, and_false, or_false, false_or, or_true, true_or, not_true_eq_false, not_false_eq_true, eq_self, Int32.lt_iff_toInt_lt, Int32.le_iff_toInt_le, ← Int32.toInt_inj, Int32.reduceToInt, Int64.lt_iff_toInt_lt, Int64.le_iff_toInt_le, ← Int64.toInt_inj, Int64.reduceToInt] at hc47 hc48 hc52 hm3 po36 po37 po51 ⊢) <;> omega : r__31 = r_50))).2) kk) ?_
        refine OwnGo.back (T49.setTop (mkF m 144 #[.val (.int p1), .val (.long p2), .second, .val (.long p3), .second, .val (.long p4), .second, .val (.int m2), .val (.ref b11), .val (.ref b_28), .val (.int t__29), .val (.long k__30), .second, .val (.long r__31), .second, .val (.long r_50), .second, .val (.long p2), .second] [(.long k__30)])) (fun tg kk => XS.lload X49.here hx rfl (hb hby at_142) rfl kk) ?_
        refine OwnGo.back (T49.setTop (mkF m 146 #[.val (.int p1), .val (.long p2), .second, .val (.long p3), .second, .val (.long p4), .second, .val (.int m2), .val (.ref b11), .val (.ref b_28), .val (.int t__29), .val (.long k__30), .second, .val (.long r__31), .second, .val (.long r_50), .second, .val (.long p2), .second] [(.long p2), (.long k__30)])) (fun tg kk => XS.lload X49.here hx rfl (hb hby at_144) rfl kk) ?_
        refine OwnGo.back (T49.setTop (mkF m 147 #[.val (.int p1), .val (.long p2), .second, .val (.long p3), .second, .val (.long p4), .second, .val (.int m2), .val (.ref b11), .val (.ref b_28), .val (.int t__29), .val (.long k__30), .second, .val (.long r__31), .second, .val (.long r_50), .second, .val (.long p2), .second] [(.int (lcmpW k__30 p2))])) (fun tg kk => XS.lcmp X49.here hx rfl (hb hby at_146) rfl kk) ?_
        refine OwnGo.back (T49.setTop (mkF m 150 #[.val (.int p1), .val (.long p2), .second, .val (.long p3), .second, .val (.long p4), .second, .val (.int m2), .val (.ref b11), .val (.ref b_28), .val (.int t__29), .val (.long k__30), .second, .val (.long r__31), .second, .val (.long r_50), .second, .val (.long p2), .second] [])) (fun tg kk => XS.ifNo X49.here hx rfl (hb hby at_147) rfl ((if0 _ _).trans (teq ((lw_eq _ _).mpr (by (simp only [true_and, and_true, false_and, and_false, or_false, false_or, or_true, true_or, not_true_eq_false, not_false_eq_true, eq_self, Int32.lt_iff_toInt_lt, Int32.le_iff_toInt_le, ← Int32.toInt_inj, Int32.reduceToInt, Int64.lt_iff_toInt_lt, Int64.le_iff_toInt_le, ← Int64.toInt_inj, Int64.reduceToInt] at hc47 hc48 hc52 hm3 po36 po37 po51 ⊢) <;> omega : k__30 = p2))).2) kk) ?_
        refine OwnGo.back (T49.setTop (mkF m 151 #[.val (.int p1), .val (.long p2), .second, .val (.long p3), .second, .val (.long p4), .second, .val (.int m2), .val (.ref b11), .val (.ref b_28), .val (.int t__29), .val (.long k__30), .second, .val (.long r__31), .second, .val (.long r_50), .second, .val (.long p2), .second] [(.int (1 : Int32))])) (fun tg kk => XS.iconst X49.here hx rfl (hb hby at_150) kk) ?_
        refine OwnGo.back (T49.setTop (mkF m 155 #[.val (.int p1), .val (.long p2), .second, .val (.long p3), .second, .val (.long p4), .second, .val (.int m2), .val (.ref b11), .val (.ref b_28), .val (.int t__29), .val (.long k__30), .second, .val (.long r__31), .second, .val (.long r_50), .second, .val (.long p2), .second] [(.int (1 : Int32))])) (fun tg kk => XS.goto X49.here hx rfl (pc0 := 151) (pc' := 155) rfl (hb hby at_151) (by decide) (by decide) kk) ?_
        obtain ⟨fs, hr, hrun, hended, hW, hsame⟩ := X49.leave (v := some (.int (1 : Int32))) (fun h => by rw [Bd.returns] at h; cases h)
        refine ⟨_, _, ?_, hrun, hended, _, _, rfl, ?_, ⟨_, rfl⟩, hW, hsame.mono (by decide) (by decide)⟩
        · exact retN X49 hx (t := .boolean) Bd.returns (by simp) (hb hby at_155) hr
        · show own_law_Q Z p1 p2 p3 p4 h0 n0 _ T49.heap _
          rw [e49]
          exact ⟨rfl, N49, K42⟩
  ·
    refine OwnGo.back (T46.setTop (mkF m 61 #[.val (.int p1), .val (.long p2), .second, .val (.long p3), .second, .val (.long p4), .second, .val (.int m2), .val (.ref b11), .val (.ref b_28), .val (.int t__29), .val (.long k__30), .second, .val (.long r__31), .second, .unset, .unset, .unset, .unset] [])) (fun tg kk => XS.ifNo X46.here hx rfl (hb hby at_58) rfl ((if0 _ _).trans (feq hc47).1) kk) ?_
    refine OwnGo.back (T46.setTop (mkF m 63 #[.val (.int p1), .val (.long p2), .second, .val (.long p3), .second, .val (.long p4), .second, .val (.int m2), .val (.ref b11), .val (.ref b_28), .val (.int t__29), .val (.long k__30), .second, .val (.long r__31), .second, .unset, .unset, .unset, .unset] [(.int t__29)])) (fun tg kk => XS.iload X46.here hx rfl (hb hby at_61) rfl kk) ?_
    refine OwnGo.back (T46.setTop (mkF m 66 #[.val (.int p1), .val (.long p2), .second, .val (.long p3), .second, .val (.long p4), .second, .val (.int m2), .val (.ref b11), .val (.ref b_28), .val (.int t__29), .val (.long k__30), .second, .val (.long r__31), .second, .unset, .unset, .unset, .unset] [])) (fun tg kk => XS.ifNo X46.here hx rfl (hb hby at_63) rfl ((if0 _ _).trans (feq (by (simp only [true_and, and_true, false_and, and_false, or_false, false_or, or_true, true_or, not_true_eq_false, not_false_eq_true, eq_self, Int32.lt_iff_toInt_lt, Int32.le_iff_toInt_le, ← Int32.toInt_inj, Int32.reduceToInt, Int64.lt_iff_toInt_lt, Int64.le_iff_toInt_le, ← Int64.toInt_inj, Int64.reduceToInt] at hc47 hm3 po36 po37 ⊢) <;> omega : ¬ (t__29 = (0 : Int32)))).1) kk) ?_
    refine OwnGo.back (T46.setTop (mkF m 68 #[.val (.int p1), .val (.long p2), .second, .val (.long p3), .second, .val (.long p4), .second, .val (.int m2), .val (.ref b11), .val (.ref b_28), .val (.int t__29), .val (.long k__30), .second, .val (.long r__31), .second, .unset, .unset, .unset, .unset] [(.long k__30)])) (fun tg kk => XS.lload X46.here hx rfl (hb hby at_66) rfl kk) ?_
    refine OwnGo.back (T46.setTop (mkF m 69 #[.val (.int p1), .val (.long p2), .second, .val (.long p3), .second, .val (.long p4), .second, .val (.int m2), .val (.ref b11), .val (.ref b_28), .val (.int t__29), .val (.long k__30), .second, .val (.long r__31), .second, .unset, .unset, .unset, .unset] [(.long p2), (.long k__30)])) (fun tg kk => XS.lloadN X46.here hx rfl (hb hby at_68) rfl kk) ?_
    refine OwnGo.back (T46.setTop (mkF m 70 #[.val (.int p1), .val (.long p2), .second, .val (.long p3), .second, .val (.long p4), .second, .val (.int m2), .val (.ref b11), .val (.ref b_28), .val (.int t__29), .val (.long k__30), .second, .val (.long r__31), .second, .unset, .unset, .unset, .unset] [(.int (lcmpW k__30 p2))])) (fun tg kk => XS.lcmp X46.here hx rfl (hb hby at_69) rfl kk) ?_
    refine OwnGo.back (T46.setTop (mkF m 73 #[.val (.int p1), .val (.long p2), .second, .val (.long p3), .second, .val (.long p4), .second, .val (.int m2), .val (.ref b11), .val (.ref b_28), .val (.int t__29), .val (.long k__30), .second, .val (.long r__31), .second, .unset, .unset, .unset, .unset] [])) (fun tg kk => XS.ifNo X46.here hx rfl (hb hby at_70) rfl ((if0 _ _).trans (teq ((lw_eq _ _).mpr (by (simp only [true_and, and_true, false_and, and_false, or_false, false_or, or_true, true_or, not_true_eq_false, not_false_eq_true, eq_self, Int32.lt_iff_toInt_lt, Int32.le_iff_toInt_le, ← Int32.toInt_inj, Int32.reduceToInt, Int64.lt_iff_toInt_lt, Int64.le_iff_toInt_le, ← Int64.toInt_inj, Int64.reduceToInt] at hc47 hm3 po36 po37 ⊢) <;> omega : k__30 = p2))).2) kk) ?_
    refine OwnGo.back (T46.setTop (mkF m 75 #[.val (.int p1), .val (.long p2), .second, .val (.long p3), .second, .val (.long p4), .second, .val (.int m2), .val (.ref b11), .val (.ref b_28), .val (.int t__29), .val (.long k__30), .second, .val (.long r__31), .second, .unset, .unset, .unset, .unset] [(.long r__31)])) (fun tg kk => XS.lload X46.here hx rfl (hb hby at_73) rfl kk) ?_
    refine OwnGo.back (T46.setTop (mkF m 76 #[.val (.int p1), .val (.long p2), .second, .val (.long p3), .second, .val (.long p4), .second, .val (.int m2), .val (.ref b11), .val (.ref b_28), .val (.int t__29), .val (.long k__30), .second, .val (.long r__31), .second, .unset, .unset, .unset, .unset] [(.long p3), (.long r__31)])) (fun tg kk => XS.lloadN X46.here hx rfl (hb hby at_75) rfl kk) ?_
    refine OwnGo.back (T46.setTop (mkF m 77 #[.val (.int p1), .val (.long p2), .second, .val (.long p3), .second, .val (.long p4), .second, .val (.int m2), .val (.ref b11), .val (.ref b_28), .val (.int t__29), .val (.long k__30), .second, .val (.long r__31), .second, .unset, .unset, .unset, .unset] [(.int (lcmpW r__31 p3))])) (fun tg kk => XS.lcmp X46.here hx rfl (hb hby at_76) rfl kk) ?_
    refine OwnGo.back (T46.setTop (mkF m 80 #[.val (.int p1), .val (.long p2), .second, .val (.long p3), .second, .val (.long p4), .second, .val (.int m2), .val (.ref b11), .val (.ref b_28), .val (.int t__29), .val (.long k__30), .second, .val (.long r__31), .second, .unset, .unset, .unset, .unset] [])) (fun tg kk => XS.ifNo X46.here hx rfl (hb hby at_77) rfl ((if0 _ _).trans (teq ((lw_eq _ _).mpr (by (simp only [true_and, and_true, false_and, and_false, or_false, false_or, or_true, true_or, not_true_eq_false, not_false_eq_true, eq_self, Int32.lt_iff_toInt_lt, Int32.le_iff_toInt_le, ← Int32.toInt_inj, Int32.reduceToInt, Int64.lt_iff_toInt_lt, Int64.le_iff_toInt_le, ← Int64.toInt_inj, Int64.reduceToInt] at hc47 hm3 po36 po37 ⊢) <;> omega : r__31 = p3))).2) kk) ?_
    refine OwnGo.back (T46.setTop (mkF m 81 #[.val (.int p1), .val (.long p2), .second, .val (.long p3), .second, .val (.long p4), .second, .val (.int m2), .val (.ref b11), .val (.ref b_28), .val (.int t__29), .val (.long k__30), .second, .val (.long r__31), .second, .unset, .unset, .unset, .unset] [(.int (1 : Int32))])) (fun tg kk => XS.iconst X46.here hx rfl (hb hby at_80) kk) ?_
    refine OwnGo.back (T46.setTop (mkF m 85 #[.val (.int p1), .val (.long p2), .second, .val (.long p3), .second, .val (.long p4), .second, .val (.int m2), .val (.ref b11), .val (.ref b_28), .val (.int t__29), .val (.long k__30), .second, .val (.long r__31), .second, .unset, .unset, .unset, .unset] [(.int (1 : Int32))])) (fun tg kk => XS.goto X46.here hx rfl (pc0 := 81) (pc' := 85) rfl (hb hby at_81) (by decide) (by decide) kk) ?_
    obtain ⟨fs, hr, hrun, hended, hW, hsame⟩ := X46.leave (v := some (.int (1 : Int32))) (fun h => by rw [Bd.returns] at h; cases h)
    refine ⟨_, _, ?_, hrun, hended, _, _, rfl, ?_, ⟨_, rfl⟩, hW, hsame.mono (by decide) (by decide)⟩
    · exact retN X46 hx (t := .boolean) Bd.returns (by simp) (hb hby at_85) hr
    · show own_law_Q Z p1 p2 p3 p4 h0 n0 _ T46.heap _
      rw [e46]
      exact ⟨rfl, N46, K42⟩
set_option maxRecDepth 65536 in
set_option maxHeartbeats 40000000 in
theorem comes_1 {Post : Tables → Env → Array Value → State → Outcome → State → Prop} (hpost : ∀ tb e args s v u, (limb_1_1.after args s (.returned v) u = true ∧ limb_1_2.after args s (.returned v) u = true ∧ True) → FrameEnd s (.returned v) u (Jvm.fieldLocs frame_1_writes args s ++ Jvm.arrayLocs frame_1_arrays args s ++ Jvm.staticLocs frame_1_statics s) 16 128 → Post tb e args s (.returned v) u) :
    ArmFor flags0 classFile x code maxLocals ret World_1 tables_1 room_1 Calls_1 rest_1 Pre_1 Post := by
  intro l hfl _ _ p e ha hc hk s m args below hf hA hF happ hP
  obtain ⟨hcalls, hrest, hpre⟩ := hP
  obtain ⟨-, -, -, hnamed, -, -, -, hat⟩ := (Spec.applies_iff hf).mp happ
  obtain ⟨hg, hn⟩ := and_e (Cond.before_iff.mp (show (Jvm.Cond.and given_1 narrow_1).before args s = true from hpre))
  obtain ⟨hg0, hg⟩ := and_e hg
  obtain ⟨hg1, hg⟩ := and_e hg
  obtain ⟨hg2, hg⟩ := and_e hg
  obtain ⟨hg3, hg⟩ := and_e hg
  obtain ⟨w0, w1, w2, w3, rfl⟩ : ∃ w0 w1 w2 w3 : Value, args = #[w0, w1, w2, w3] := by
    have hs : args.size = 4 := by simpa [Cond.value, given_1] using hg0
    obtain ⟨L⟩ := args
    match L, hs with
    | [w0, w1, w2, w3], _ => exact ⟨w0, w1, w2, w3, rfl⟩
  have hw := fun d (hd : d ∈ tables_1) => atoms_spec (ws := Jvm.Cond.code x code maxLocals ret :: tables_1) hat d (List.mem_cons_of_mem _ hd)
  have hfit : Fit s := fun {y c} hc i hi => by
    obtain ⟨ha, rfl⟩ := Array.getElem?_eq_some_iff.mp hc
    have q := List.all_eq_true.mp ((Array.all_eq_true_iff_forall_mem.mp hF) _ (Array.getElem_mem ha)) i (List.mem_range.mpr hi)
    simpa [Array.getElem?_eq_getElem hi] using q
  obtain ⟨i0, ei0⟩ := is_v hg1
  obtain rfl : w0 = (.int i0) := Option.some.inj ei0
  obtain ⟨i1, ei1⟩ := isL_v hg2
  obtain rfl : w1 = (.long i1) := Option.some.inj ei1
  obtain ⟨i2, ei2⟩ := isL_v hg3
  obtain rfl : w2 = (.long i2) := Option.some.inj ei2
  obtain ⟨i3, ei3⟩ := isL_v hg
  obtain rfl : w3 = (.long i3) := Option.some.inj ei3
  obtain ⟨n, o, h1, h2, h3, _, L, rfl, ⟨rfl, N, -⟩, hq⟩ := own_law l s _ hw tables_1 i0 i1 i2 i3 s.heap s.heap.size (Nat.le_refl _)  p e ha hc hk s m _ below hf ((Spec.applies_iff_loose hf).mp happ).1 ⟨rfl, State.Warmed39.refl s, rfl⟩ trivial
  refine ⟨n, _, h1, h2, h3, hpost _ _ _ _ _ _ ⟨Cond.after_iff.mpr rfl, Cond.after_iff.mpr (eq_i res_at (Term.int_eval (1)) rfl), trivial⟩ ⟨hq.1, hq.2.1, (hq.2.2.sift fun y hy => Or.inr (N y hy)).mono (by decide) (by decide)⟩⟩
theorem main_1_1 : Claimed_1_1 := comes_1 fun _ _ _ _ _ _ h hF => ⟨h.1, hF⟩
theorem main_1_2 : Claimed_1_2 := comes_1 fun _ _ _ _ _ _ h hF => ⟨h.2.1, hF⟩
end Jvm.Pilot.@@N@@
namespace Jvm.Pilot.@@N@@
open Jvm Jvm.ClassFile Sem Op Lib Jvm.Free Jvm.Stand Jvm.Pilot.@@N@@.Jvm.D
/-! MADE BY PROGRAM (witnessworld.py) out of the Statement's table words and the real class files: 11 classes; the members and pool entries that the words name. The judged class is class 1, her method 1. -/
namespace start1
open Jvm.ClassFile
def u (s : String) : CpInfo := .utf8 (stringToUtf16 s)
/-- a pool by its gaps: so many unusable entries, then the entry; so many at the end -/
def gap : Nat → List CpInfo → List CpInfo
  | 0, r => r
  | n + 1, r => .unusable :: gap n r
def poolList (es : List (Nat × CpInfo)) (last : Nat) : List CpInfo := es.foldr (fun e r => gap e.1 (e.2 :: r)) (gap last [])
def pool (es : List (Nat × CpInfo)) (last : Nat) : Array CpInfo := ⟨poolList es last⟩
def fileOf (pool : Array CpInfo) (this : Nat) (attrs : Array Attribute := #[]) (ms : Array MethodInfo := #[]) (fl : Nat := 33) (sup : Nat := 0) (ifs : Array Nat := #[]) (fds : Array FieldInfo := #[]) : ClassFile where
  minorVersion := 0
  majorVersion := 65
  constantPool := pool
  accessFlags := fl
  thisClass := this
  superClass := sup
  interfaces := ifs
  fields := fds
  methods := ms
  attributes := attrs
def plain (name : String) (sup : Option ClassId) : Class where
  name := name
  kind := .ordinary
  loader := none
  accessFlags := 33
  super := sup
  interfaces := #[]
  cf := none
  fields := #[]
  methods := #[]
  instanceTypes := #[]
  staticTypes := #[]
  resolved := #[]
  callSites := []
  init := .initialized
  statics := none
  mirror := none

def pool0 : Array CpInfo := pool [(5, u "<init>"), (0, u "()V"), (1, .class_ 10), (1, u "java/lang/Object")] 113

def k0c0 : Code := { maxStack := 0, maxLocals := 1, code := object_method_1_code, exceptionTable := #[], attributes := #[] }
def k0m0 : Method := { name := "<init>", desc := "()V", sig := { parameters := [], returnType := none }, accessFlags := 1, code := some k0c0 }
/-- java/lang/Object -/
def k0 : Class := { plain "java/lang/Object" none with
  accessFlags := 33
  interfaces := #[]
  cf := some (fileOf pool0 8 #[] #[{ accessFlags := 1, nameIndex := 5, descriptorIndex := 6, attributes := #[] }] 33 0 #[] #[])
  fields := #[]
  methods := #[k0m0]
  instanceTypes := #[]
  staticTypes := #[]
  resolved := Array.replicate 124 none
  statics := none }

def pool1 : Array CpInfo := pool [(2, .class_ 4), (1, u "java/lang/Object"), (0, u "<init>"), (0, u "()V"), (0, .class_ 8), (0, u "com/example/padlok/padlok/LockStore$Answer"), (0, .methodref 7 10), (0, .nameAndType 5 11), (0, u "(ZJJ)V"), (0, .methodref 7 13), (0, .nameAndType 14 15), (0, u "askingAgainWithin"), (0, u "(J)Lcom/example/padlok/padlok/LockStore$Answer;"), (0, .methodref 7 17), (0, .nameAndType 18 19), (0, u "taken"), (0, u "()Z"), (0, .methodref 7 21), (0, .nameAndType 22 23), (0, u "token"), (0, u "()J"), (0, .methodref 7 25), (0, .nameAndType 26 23), (0, u "retryInMillis"), (0, .methodref 28 29), (0, .class_ 30), (0, .nameAndType 31 32), (0, u "java/lang/Math"), (0, u "min"), (0, u "(JJ)J"), (0, .class_ 34), (0, u "com/example/padlok/padlok/AnswerAskingAgainWithinPinLaw"), (2, u "law"), (0, u "(IJJJ)Z")] 7

def k1m0 : Method := { name := "<init>", desc := "()V", sig := { parameters := [], returnType := none }, accessFlags := 1, code := none }
def k1c1 : Code := { maxStack := 7, maxLocals := 19, code := code, exceptionTable := #[], attributes := #[] }
def k1m1 : Method := { name := "law", desc := "(IJJJ)Z", sig := { parameters := [.int, .long, .long, .long], returnType := some .boolean }, accessFlags := 9, code := some k1c1 }
/-- com/example/padlok/padlok/AnswerAskingAgainWithinPinLaw -/
def k1 : Class := { plain "com/example/padlok/padlok/AnswerAskingAgainWithinPinLaw" (some 0) with
  accessFlags := 49
  interfaces := #[]
  cf := some (fileOf pool1 33 #[] #[{ accessFlags := 1, nameIndex := 5, descriptorIndex := 6, attributes := #[] }, { accessFlags := 9, nameIndex := 37, descriptorIndex := 38, attributes := #[] }] 49 2 #[] #[])
  fields := #[]
  methods := #[k1m0, k1m1]
  instanceTypes := #[]
  staticTypes := #[]
  resolved := Array.replicate 46 none
  statics := none }

def pool2 : Array CpInfo := pool [(1, .methodref 2 3), (0, .class_ 4), (0, .nameAndType 5 6), (0, u "java/lang/Object"), (0, u "<init>"), (0, u "()V"), (0, .class_ 8), (0, u "java/lang/Record")] 13

def k2c0 : Code := { maxStack := 1, maxLocals := 1, code := jdk_30_method_1_code, exceptionTable := #[], attributes := #[] }
def k2m0 : Method := { name := "<init>", desc := "()V", sig := { parameters := [], returnType := none }, accessFlags := 4, code := some k2c0 }
/-- java/lang/Record -/
def k2 : Class := { plain "java/lang/Record" (some 0) with
  accessFlags := 1057
  interfaces := #[]
  cf := some (fileOf pool2 7 #[] #[{ accessFlags := 4, nameIndex := 5, descriptorIndex := 6, attributes := #[] }] 1057 2 #[] #[])
  fields := #[]
  methods := #[k2m0]
  instanceTypes := #[]
  staticTypes := #[]
  resolved := Array.replicate 22 none
  statics := none }

def pool3 : Array CpInfo := pool [(1, .methodref 2 3), (0, .class_ 4), (0, .nameAndType 5 6), (0, u "java/lang/Record"), (0, u "<init>"), (0, u "()V"), (0, .fieldref 8 9), (0, .class_ 10), (0, .nameAndType 11 12), (0, u "com/example/padlok/padlok/LockStore$Answer"), (0, u "taken"), (0, u "Z"), (0, .fieldref 8 14), (0, .nameAndType 15 16), (0, u "token"), (0, u "J"), (0, .fieldref 8 18), (0, .nameAndType 19 16), (0, u "retryInMillis"), (0, .methodref 8 21), (0, .nameAndType 5 22), (0, u "(ZJJ)V"), (0, .methodref 8 24), (0, .nameAndType 25 26), (0, u "refused"), (0, u "(J)Lcom/example/padlok/padlok/LockStore$Answer;"), (16, u "askingAgainWithin"), (4, u "()Z"), (0, u "()J"), (3, .class_ 54), (0, u "com/example/padlok/padlok/LockStore")] 21

def k3c0 : Code := { maxStack := 3, maxLocals := 6, code := prog_7_method_1_code, exceptionTable := #[], attributes := #[] }
def k3m0 : Method := { name := "<init>", desc := "(ZJJ)V", sig := { parameters := [.boolean, .long, .long], returnType := none }, accessFlags := 1, code := some k3c0 }
def k3c1 : Code := { maxStack := 7, maxLocals := 2, code := prog_7_method_3_code, exceptionTable := #[], attributes := #[] }
def k3m1 : Method := { name := "refused", desc := "(J)Lcom/example/padlok/padlok/LockStore$Answer;", sig := { parameters := [.long], returnType := some (.object "com/example/padlok/padlok/LockStore$Answer") }, accessFlags := 8, code := some k3c1 }
def k3c2 : Code := { maxStack := 4, maxLocals := 4, code := prog_7_method_4_code, exceptionTable := #[], attributes := #[] }
def k3m2 : Method := { name := "askingAgainWithin", desc := "(J)Lcom/example/padlok/padlok/LockStore$Answer;", sig := { parameters := [.long], returnType := some (.object "com/example/padlok/padlok/LockStore$Answer") }, accessFlags := 0, code := some k3c2 }
def k3c3 : Code := { maxStack := 1, maxLocals := 1, code := prog_7_method_8_code, exceptionTable := #[], attributes := #[] }
def k3m3 : Method := { name := "taken", desc := "()Z", sig := { parameters := [], returnType := some .boolean }, accessFlags := 1, code := some k3c3 }
def k3c4 : Code := { maxStack := 2, maxLocals := 1, code := prog_7_method_9_code, exceptionTable := #[], attributes := #[] }
def k3m4 : Method := { name := "token", desc := "()J", sig := { parameters := [], returnType := some .long }, accessFlags := 1, code := some k3c4 }
def k3c5 : Code := { maxStack := 2, maxLocals := 1, code := prog_7_method_10_code, exceptionTable := #[], attributes := #[] }
def k3m5 : Method := { name := "retryInMillis", desc := "()J", sig := { parameters := [], returnType := some .long }, accessFlags := 1, code := some k3c5 }
/-- com/example/padlok/padlok/LockStore$Answer -/
def k3 : Class := { plain "com/example/padlok/padlok/LockStore$Answer" (some 2) with
  accessFlags := 49
  interfaces := #[]
  cf := some (fileOf pool3 8 #[.nestHost 53] #[{ accessFlags := 1, nameIndex := 5, descriptorIndex := 22, attributes := #[] }, { accessFlags := 8, nameIndex := 25, descriptorIndex := 26, attributes := #[] }, { accessFlags := 0, nameIndex := 43, descriptorIndex := 26, attributes := #[] }, { accessFlags := 1, nameIndex := 11, descriptorIndex := 48, attributes := #[] }, { accessFlags := 1, nameIndex := 15, descriptorIndex := 49, attributes := #[] }, { accessFlags := 1, nameIndex := 19, descriptorIndex := 49, attributes := #[] }] 49 2 #[] #[{ accessFlags := 18, nameIndex := 11, descriptorIndex := 12, attributes := #[] }, { accessFlags := 18, nameIndex := 15, descriptorIndex := 16, attributes := #[] }, { accessFlags := 18, nameIndex := 19, descriptorIndex := 16, attributes := #[] }])
  fields := #[{ name := "taken", type := .boolean, accessFlags := 18, slot := 0, constantValue := 0 }, { name := "token", type := .long, accessFlags := 18, slot := 1, constantValue := 0 }, { name := "retryInMillis", type := .long, accessFlags := 18, slot := 2, constantValue := 0 }]
  methods := #[k3m0, k3m1, k3m2, k3m3, k3m4, k3m5]
  instanceTypes := #[.boolean, .long, .long]
  staticTypes := #[]
  resolved := Array.replicate 76 none
  statics := none }

def pool4 : Array CpInfo := pool [(1, .class_ 2), (0, u "java/lang/Math"), (1, .class_ 6), (1, u "java/lang/Object"), (0, u "<init>"), (0, u "()V"), (89, .class_ 100), (1, u "java/lang/Math$RandomNumberGeneratorHolder"), (20, u "(JJ)J"), (50, u "negativeZeroFloatBits"), (0, u "J"), (2, u "negativeZeroDoubleBits"), (24, u "min"), (43, u "$assertionsDisabled"), (0, u "Z"), (91, u "twoToTheDoubleScaleDown"), (0, u "D"), (4, u "twoToTheDoubleScaleUp"), (9, u "E"), (3, u "PI"), (2, u "TAU"), (2, u "DEGREES_TO_RADIANS"), (0, u "RADIANS_TO_DEGREES")] 94

def k4m0 : Method := { name := "<init>", desc := "()V", sig := { parameters := [], returnType := none }, accessFlags := 2, code := none }
def k4c1 : Code := { maxStack := 4, maxLocals := 4, code := jdk_29_method_70_code, exceptionTable := #[], attributes := #[] }
def k4m1 : Method := { name := "min", desc := "(JJ)J", sig := { parameters := [.long, .long], returnType := some .long }, accessFlags := 9, code := some k4c1 }
/-- java/lang/Math -/
def k4 : Class := { plain "java/lang/Math" (some 0) with
  accessFlags := 49
  interfaces := #[]
  cf := some (fileOf pool4 1 #[.nestMembers #[98]] #[{ accessFlags := 2, nameIndex := 7, descriptorIndex := 8, attributes := #[] }, { accessFlags := 9, nameIndex := 201, descriptorIndex := 121, attributes := #[] }] 49 4 #[] #[{ accessFlags := 25, nameIndex := 354, descriptorIndex := 339, attributes := #[] }, { accessFlags := 25, nameIndex := 358, descriptorIndex := 339, attributes := #[] }, { accessFlags := 25, nameIndex := 361, descriptorIndex := 339, attributes := #[] }, { accessFlags := 26, nameIndex := 364, descriptorIndex := 339, attributes := #[] }, { accessFlags := 26, nameIndex := 365, descriptorIndex := 339, attributes := #[] }, { accessFlags := 26, nameIndex := 172, descriptorIndex := 173, attributes := #[] }, { accessFlags := 26, nameIndex := 176, descriptorIndex := 173, attributes := #[] }, { accessFlags := 8, nameIndex := 344, descriptorIndex := 339, attributes := #[] }, { accessFlags := 8, nameIndex := 338, descriptorIndex := 339, attributes := #[] }, { accessFlags := 4120, nameIndex := 245, descriptorIndex := 246, attributes := #[] }])
  fields := #[{ name := "E", type := .double, accessFlags := 25, slot := 0, constantValue := 0 }, { name := "PI", type := .double, accessFlags := 25, slot := 1, constantValue := 0 }, { name := "TAU", type := .double, accessFlags := 25, slot := 2, constantValue := 0 }, { name := "DEGREES_TO_RADIANS", type := .double, accessFlags := 26, slot := 3, constantValue := 0 }, { name := "RADIANS_TO_DEGREES", type := .double, accessFlags := 26, slot := 4, constantValue := 0 }, { name := "negativeZeroFloatBits", type := .long, accessFlags := 26, slot := 5, constantValue := 0 }, { name := "negativeZeroDoubleBits", type := .long, accessFlags := 26, slot := 6, constantValue := 0 }, { name := "twoToTheDoubleScaleUp", type := .double, accessFlags := 8, slot := 7, constantValue := 0 }, { name := "twoToTheDoubleScaleDown", type := .double, accessFlags := 8, slot := 8, constantValue := 0 }, { name := "$assertionsDisabled", type := .boolean, accessFlags := 4120, slot := 9, constantValue := 0 }]
  methods := #[k4m0, k4m1]
  instanceTypes := #[]
  staticTypes := #[.double, .double, .double, .double, .double, .long, .long, .double, .double, .boolean]
  resolved := Array.replicate 460 none
  statics := none }

def pool5 : Array CpInfo := pool [(1, u "java/lang/Cloneable"), (0, .class_ 1), (0, u "java/lang/Object"), (0, .class_ 3)] 3

/-- java/lang/Cloneable -/
def k5 : Class := { plain "java/lang/Cloneable" (some 0) with
  accessFlags := 1537
  interfaces := #[]
  cf := some (fileOf pool5 2 #[] #[] 1537 4 #[] #[])
  fields := #[]
  methods := #[]
  instanceTypes := #[]
  staticTypes := #[]
  resolved := Array.replicate 8 none
  statics := none }

def pool6 : Array CpInfo := pool [(1, u "java/io/Serializable"), (0, .class_ 1), (0, u "java/lang/Object"), (0, .class_ 3)] 3

/-- java/io/Serializable -/
def k6 : Class := { plain "java/io/Serializable" (some 0) with
  accessFlags := 1537
  interfaces := #[]
  cf := some (fileOf pool6 2 #[] #[] 1537 4 #[] #[])
  fields := #[]
  methods := #[]
  instanceTypes := #[]
  staticTypes := #[]
  resolved := Array.replicate 8 none
  statics := none }

/-- the primitive byte -/
def k7 : Class := { plain "byte" none with kind := .primitive 'B', accessFlags := 0x411 }
/-- [B -/
def k8 : Class := { plain "[B" (some 0) with kind := .array 7 .byte, interfaces := #[5, 6], accessFlags := 1041 }

/-- the primitive int -/
def k9 : Class := { plain "int" none with kind := .primitive 'I', accessFlags := 0x411 }
/-- [I -/
def k10 : Class := { plain "[I" (some 0) with kind := .array 9 .int, interfaces := #[5, 6], accessFlags := 1041 }

def heap : Heap := #[]
def classes : Array Class := #[k0, k1, k2, k3, k4, k5, k6, k7, k8, k9, k10]
def interned : List (Array UInt16 × Addr) := []
def slotsUsed : Nat := 0
def theMethod : MethodId := ⟨1, 1⟩
def args0 : Array Value := #[.int 5, .long 2, .long 7, .long 8]
def aboutOver (below : List Frame) : State where
  vm := { classes := classes, interned := interned.toArray }
  heap := heap
  slotsUsed := slotsUsed
  threads := #[{ frames := .invoking theMethod args0 :: below }]
def below0 : List Frame := [.native { method := ⟨0, 0⟩, args := #[] }]
def about1 : State := aboutOver below0
def p0 : Program := .bare "" "" ""
def e0 : Env := launch0.env 0 0 0
theorem w_frames : about1.frames = Frame.invoking theMethod args0 :: below0 := rfl
set_option maxRecDepth 65536 in
theorem w_args : argsFit about1.vm theMethod args0 = true := by decide +kernel
set_option maxRecDepth 65536 in
theorem w_heap : heapFits about1 = true := by decide +kernel
set_option maxRecDepth 65536 in
theorem w_runnable : about1.curStatus? = some .runnable := by decide +kernel
set_option maxRecDepth 65536 in
theorem w_alone : about1.alone = true := by decide +kernel
set_option maxRecDepth 65536 in
theorem w_named : about1.methodNamed? x = some theMethod := by decide +kernel
set_option maxRecDepth 65536 in
theorem w_hears : about1.hears theMethod below0 = true := by decide +kernel
set_option maxRecDepth 65536 in
theorem w_ripe : about1.ripe theMethod args0 below0 = true := by decide +kernel
theorem w_running : about1.status = .running := rfl
set_option maxRecDepth 65536 in
theorem w_room : about1.hasRoom e0.platform room_1 = true :=
  launch0.hasRoom_least _ room_1 (by decide +kernel) (by decide +kernel) (by decide +kernel) (by decide +kernel) (by decide +kernel) (by decide +kernel)
theorem allAtoms_all (ts : List Jvm.Cond) (a : Array Jvm.Value) (st : Jvm.State) : (allAtoms ts).before a st = ts.all (fun c => c.before a st) := by
  induction ts with
  | nil => rfl
  | cons c t ih =>
    show (Jvm.Cond.and c (allAtoms t)).before a st = _
    rw [Jvm.Cond.before_and, ih, List.all_cons]
def words1 : List Jvm.Cond := Jvm.Cond.code x code maxLocals ret :: tables_1
/-- a 'code' word, met by the world's own term for the bytes: nothing is compared byte by byte -/
theorem code_word {y : MethodName} {bytes : ByteArray} {mx : Nat} {rt : Option FieldType} {a : Array Value} {s : State} {m : MethodId} {meth : Method} {c : Code} (h1 : s.methodNamed? y = some m) (h2 : s.vm.method? m = some meth) (h3 : meth.code = some c) (h4 : c.code = bytes)
    (h5 : (c.maxLocals == mx && c.exceptionTable.isEmpty && decide (c.maxStack ≤ mostOperands) && decide (meth.sig.returnType = rt) && !meth.locks && decide (parseMethodDescriptor y.desc = some meth.sig)) = true) : (Jvm.Cond.code y bytes mx rt).before a s = true := by
  simp only [Bool.and_eq_true, beq_iff_eq, Bool.not_eq_true', decide_eq_true_eq] at h5
  obtain ⟨⟨⟨⟨⟨g1, g2⟩, g3⟩, g4⟩, g5⟩, g6⟩ := h5
  simp [Cond.before, Cond.holds, Cond.value, h1, h2, h3, h4, g1, g2, g3, g4, g5, g6]
def isCode : Jvm.Cond → Bool
  | .code _ _ _ _ => true
  | _ => false
theorem all_split {L : List Jvm.Cond} {P : Jvm.Cond → Bool} (h1 : L.all (fun c => isCode c || P c) = true) (h2 : ∀ c ∈ L.filter isCode, P c = true) : L.all P = true := by
  refine List.all_eq_true.mpr fun c hc => ?_
  have h := List.all_eq_true.mp h1 c hc
  rcases Bool.eq_false_or_eq_true (isCode c) with hi | hi
  · exact h2 c (List.mem_filter.mpr ⟨hc, hi⟩)
  · simpa [hi] using h
set_option maxRecDepth 65536 in
theorem w_c0 : (Jvm.Cond.code x code maxLocals ret).before args0 about1 = true := code_word (m := ⟨1, 1⟩) (meth := k1m1) (c := k1c1) (by decide +kernel) rfl rfl rfl (by decide +kernel)
set_option maxRecDepth 65536 in
theorem w_c1 : (Jvm.Cond.code ({ cls := "com/example/padlok/padlok/LockStore$Answer", name := "<init>", desc := "(ZJJ)V" } : Jvm.MethodName) prog_7_method_1_code (6 : Nat) (Option.none : Option Jvm.ClassFile.FieldType)).before args0 about1 = true := code_word (m := ⟨3, 0⟩) (meth := k3m0) (c := k3c0) (by decide +kernel) rfl rfl rfl (by decide +kernel)
set_option maxRecDepth 65536 in
theorem w_c2 : (Jvm.Cond.code ({ cls := "java/lang/Record", name := "<init>", desc := "()V" } : Jvm.MethodName) jdk_30_method_1_code (1 : Nat) (Option.none : Option Jvm.ClassFile.FieldType)).before args0 about1 = true := code_word (m := ⟨2, 0⟩) (meth := k2m0) (c := k2c0) (by decide +kernel) rfl rfl rfl (by decide +kernel)
set_option maxRecDepth 65536 in
theorem w_c3 : (Jvm.Cond.code ({ cls := "java/lang/Object", name := "<init>", desc := "()V" } : Jvm.MethodName) object_method_1_code (1 : Nat) (Option.none : Option Jvm.ClassFile.FieldType)).before args0 about1 = true := code_word (m := ⟨0, 0⟩) (meth := k0m0) (c := k0c0) (by decide +kernel) rfl rfl rfl (by decide +kernel)
set_option maxRecDepth 65536 in
theorem w_c4 : (Jvm.Cond.code ({ cls := "com/example/padlok/padlok/LockStore$Answer", name := "askingAgainWithin", desc := "(J)Lcom/example/padlok/padlok/LockStore$Answer;" } : Jvm.MethodName) prog_7_method_4_code (4 : Nat) (Option.some (Jvm.ClassFile.FieldType.object "com/example/padlok/padlok/LockStore$Answer"))).before args0 about1 = true := code_word (m := ⟨3, 2⟩) (meth := k3m2) (c := k3c2) (by decide +kernel) rfl rfl rfl (by decide +kernel)
set_option maxRecDepth 65536 in
theorem w_c5 : (Jvm.Cond.code ({ cls := "com/example/padlok/padlok/LockStore$Answer", name := "refused", desc := "(J)Lcom/example/padlok/padlok/LockStore$Answer;" } : Jvm.MethodName) prog_7_method_3_code (2 : Nat) (Option.some (Jvm.ClassFile.FieldType.object "com/example/padlok/padlok/LockStore$Answer"))).before args0 about1 = true := code_word (m := ⟨3, 1⟩) (meth := k3m1) (c := k3c1) (by decide +kernel) rfl rfl rfl (by decide +kernel)
set_option maxRecDepth 65536 in
theorem w_c6 : (Jvm.Cond.code ({ cls := "com/example/padlok/padlok/LockStore$Answer", name := "taken", desc := "()Z" } : Jvm.MethodName) prog_7_method_8_code (1 : Nat) (Option.some Jvm.ClassFile.FieldType.boolean)).before args0 about1 = true := code_word (m := ⟨3, 3⟩) (meth := k3m3) (c := k3c3) (by decide +kernel) rfl rfl rfl (by decide +kernel)
set_option maxRecDepth 65536 in
theorem w_c7 : (Jvm.Cond.code ({ cls := "com/example/padlok/padlok/LockStore$Answer", name := "token", desc := "()J" } : Jvm.MethodName) prog_7_method_9_code (1 : Nat) (Option.some Jvm.ClassFile.FieldType.long)).before args0 about1 = true := code_word (m := ⟨3, 4⟩) (meth := k3m4) (c := k3c4) (by decide +kernel) rfl rfl rfl (by decide +kernel)
set_option maxRecDepth 65536 in
theorem w_c8 : (Jvm.Cond.code ({ cls := "com/example/padlok/padlok/LockStore$Answer", name := "retryInMillis", desc := "()J" } : Jvm.MethodName) prog_7_method_10_code (1 : Nat) (Option.some Jvm.ClassFile.FieldType.long)).before args0 about1 = true := code_word (m := ⟨3, 5⟩) (meth := k3m5) (c := k3c5) (by decide +kernel) rfl rfl rfl (by decide +kernel)
set_option maxRecDepth 65536 in
theorem w_c9 : (Jvm.Cond.code ({ cls := "java/lang/Math", name := "min", desc := "(JJ)J" } : Jvm.MethodName) jdk_29_method_70_code (4 : Nat) (Option.some Jvm.ClassFile.FieldType.long)).before args0 about1 = true := code_word (m := ⟨4, 1⟩) (meth := k4m1) (c := k4c1) (by decide +kernel) rfl rfl rfl (by decide +kernel)
def codes1 : List Jvm.Cond := [Jvm.Cond.code x code maxLocals ret, Jvm.Cond.code ({ cls := "com/example/padlok/padlok/LockStore$Answer", name := "<init>", desc := "(ZJJ)V" } : Jvm.MethodName) prog_7_method_1_code (6 : Nat) (Option.none : Option Jvm.ClassFile.FieldType), Jvm.Cond.code ({ cls := "java/lang/Record", name := "<init>", desc := "()V" } : Jvm.MethodName) jdk_30_method_1_code (1 : Nat) (Option.none : Option Jvm.ClassFile.FieldType), Jvm.Cond.code ({ cls := "java/lang/Object", name := "<init>", desc := "()V" } : Jvm.MethodName) object_method_1_code (1 : Nat) (Option.none : Option Jvm.ClassFile.FieldType), Jvm.Cond.code ({ cls := "com/example/padlok/padlok/LockStore$Answer", name := "askingAgainWithin", desc := "(J)Lcom/example/padlok/padlok/LockStore$Answer;" } : Jvm.MethodName) prog_7_method_4_code (4 : Nat) (Option.some (Jvm.ClassFile.FieldType.object "com/example/padlok/padlok/LockStore$Answer")), Jvm.Cond.code ({ cls := "com/example/padlok/padlok/LockStore$Answer", name := "refused", desc := "(J)Lcom/example/padlok/padlok/LockStore$Answer;" } : Jvm.MethodName) prog_7_method_3_code (2 : Nat) (Option.some (Jvm.ClassFile.FieldType.object "com/example/padlok/padlok/LockStore$Answer")), Jvm.Cond.code ({ cls := "com/example/padlok/padlok/LockStore$Answer", name := "taken", desc := "()Z" } : Jvm.MethodName) prog_7_method_8_code (1 : Nat) (Option.some Jvm.ClassFile.FieldType.boolean), Jvm.Cond.code ({ cls := "com/example/padlok/padlok/LockStore$Answer", name := "token", desc := "()J" } : Jvm.MethodName) prog_7_method_9_code (1 : Nat) (Option.some Jvm.ClassFile.FieldType.long), Jvm.Cond.code ({ cls := "com/example/padlok/padlok/LockStore$Answer", name := "retryInMillis", desc := "()J" } : Jvm.MethodName) prog_7_method_10_code (1 : Nat) (Option.some Jvm.ClassFile.FieldType.long), Jvm.Cond.code ({ cls := "java/lang/Math", name := "min", desc := "(JJ)J" } : Jvm.MethodName) jdk_29_method_70_code (4 : Nat) (Option.some Jvm.ClassFile.FieldType.long)]
set_option maxRecDepth 65536 in
theorem codes_eq : words1.filter isCode = codes1 := rfl
theorem w_codes : ∀ c ∈ words1.filter isCode, c.before args0 about1 = true := by
  rw [codes_eq]
  intro c hc
  simp only [codes1, List.mem_cons, List.not_mem_nil, or_false] at hc
  rcases hc with rfl | rfl | rfl | rfl | rfl | rfl | rfl | rfl | rfl | rfl
  · exact w_c0
  · exact w_c1
  · exact w_c2
  · exact w_c3
  · exact w_c4
  · exact w_c5
  · exact w_c6
  · exact w_c7
  · exact w_c8
  · exact w_c9
set_option maxRecDepth 65536 in
theorem w_t1 : (words1.take 24).all (fun c => isCode c || c.before args0 about1) = true := by decide +kernel
set_option maxRecDepth 65536 in
theorem w_t2 : ((words1.drop 24).take 24).all (fun c => isCode c || c.before args0 about1) = true := by decide +kernel
set_option maxRecDepth 65536 in
theorem w_t3 : ((words1.drop 24).drop 24).all (fun c => isCode c || c.before args0 about1) = true := by decide +kernel
theorem w_tables : (allAtoms (Jvm.Cond.code x code maxLocals ret :: tables_1)).before args0 about1 = true := by
  rw [allAtoms_all]
  show words1.all (fun c => c.before args0 about1) = true
  refine all_split ?_ w_codes
  rw [← List.take_append_drop 24 words1, List.all_append, w_t1, ← List.take_append_drop 24 (words1.drop 24), List.all_append, w_t2, w_t3]
  rfl
set_option maxRecDepth 65536 in
theorem w_case : (Jvm.Cond.and given_1 narrow_1).before args0 about1 = true := by decide +kernel
theorem w_applies : (headSpec (Jvm.Cond.code x code maxLocals ret :: tables_1) room_1).applies x e0.platform about1 = true :=
  (Spec.applies_iff w_frames).mpr ⟨w_running, w_runnable, w_alone, w_named, w_hears, w_ripe, w_room, w_tables⟩
theorem atStart : AtStart classFile x code maxLocals ret World_1 tables_1 room_1 Calls_1 rest_1 Pre_1 launch0 p0 e0 about1 theMethod args0 below0 :=
  ⟨lists_1, trivial, launch0.admits_env _ _ _, launch0.least_env, fairChoices_fair.cas, fairChoices_fair.clock, w_frames, w_args, w_heap, w_applies, trivial, trivial, w_case⟩
end start1
theorem witness_1 : WitnessClaimed_1 := ⟨start1.p0, start1.e0, start1.about1, start1.theMethod, start1.args0, start1.below0, start1.atStart⟩
end Jvm.Pilot.@@N@@
