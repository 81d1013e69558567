import JvmDerived
import JvmDerived.Pilot.@@N@@Statement
import JvmDerived.Pilot.@@N@@Code
set_option linter.unusedVariables false
set_option linter.unusedSimpArgs false
namespace Jvm.RoadKit
open Sem ClassFile Op Lib Jvm.Stand Jvm.Free Jvm.LawKit
section New
variable {p : Program} {l : Launch} {e : Env} {R : Room} {s : State} {m : MethodId} {args : Array Value} {below : List Frame} {meth : Method} {c : Code} {T : State} {locs : List Loc} {cells slots : Nat}
theorem own_retI (X : Stand p l e R s m args below meth c T locs cells slots) (hx : p.tables.exec = Jvm.exec) {pc : Nat} {Ls : Array Slot} {z : Int32} {rest : List Value} (hret : meth.sig.returnType = some .int) (hd : decode c.code pc = .ok (.ireturn, 1)) {fs : List Frame}
    (hl : ∀ (f : JFrame) (acts : List Action), f.method = m → f.locked = none → f.entered = [] → (doReturn e (T.setTop f) acts (some (.int z))).1 = T.setFrames fs) : Steps p.tables e below (T.setTop (mkF m pc Ls (.int z :: rest))) (T.setFrames fs) :=
  retOut X hx hret rfl (Or.inl ⟨rfl, Or.inl rfl, z, rfl⟩) hd hl
theorem own_retJ (X : Stand p l e R s m args below meth c T locs cells slots) (hx : p.tables.exec = Jvm.exec) {pc : Nat} {Ls : Array Slot} {z : Int64} {rest : List Value} (hret : meth.sig.returnType = some .long) (hd : decode c.code pc = .ok (.lreturn, 1)) {fs : List Frame}
    (hl : ∀ (f : JFrame) (acts : List Action), f.method = m → f.locked = none → f.entered = [] → (doReturn e (T.setTop f) acts (some (.long z))).1 = T.setFrames fs) : Steps p.tables e below (T.setTop (mkF m pc Ls (.long z :: rest))) (T.setFrames fs) :=
  retOut X hx hret rfl (Or.inr (Or.inl ⟨rfl, rfl, z, rfl⟩)) hd hl
theorem own_retA (X : Stand p l e R s m args below meth c T locs cells slots) (hx : p.tables.exec = Jvm.exec) {pc : Nat} {Ls : Array Slot} {w : Value} {t : FieldType} {rest : List Value} (hret : meth.sig.returnType = some t) (hn : narrow t w = w) (ht : t.isReference = true) (hw : w.isRef = true) (hd : decode c.code pc = .ok (.areturn, 1)) {fs : List Frame}
    (hl : ∀ (f : JFrame) (acts : List Action), f.method = m → f.locked = none → f.entered = [] → (doReturn e (T.setTop f) acts (some w)).1 = T.setFrames fs) : Steps p.tables e below (T.setTop (mkF m pc Ls (w :: rest))) (T.setFrames fs) :=
  retOut X hx hret hn (Or.inr (Or.inr (Or.inr (Or.inr ⟨rfl, ht, hw⟩)))) hd hl
end New
abbrev OwnGo (tb : Tables) (e : Env) (below : List Frame) (K : State → Outcome → Prop) (st : State) : Prop := ∃ s₂ o, Steps tb e below st s₂ ∧ s₂.status = .running ∧ Ended s₂ below o ∧ K s₂ o
theorem OwnGo.back {tb : Tables} {e : Env} {below : List Frame} {K : State → Outcome → Prop} {st : State} (st' : State) (h : ∀ t, Steps tb e below st' t → Steps tb e below st t) (g : OwnGo tb e below K st') : OwnGo tb e below K st := by
  obtain ⟨s₂, o, h1, h2⟩ := g
  exact ⟨s₂, o, h _ h1, h2⟩
abbrev OwnMg (tb : Tables) (e : Env) (below : List Frame) (D : State → Prop) (st : State) : Prop := ∃ st', D st' ∧ ∀ t, Steps tb e below st' t → Steps tb e below st t
theorem OwnMg.back {tb : Tables} {e : Env} {below : List Frame} {D : State → Prop} {st : State} (st' : State) (h : ∀ t, Steps tb e below st' t → Steps tb e below st t) (g : OwnMg tb e below D st') : OwnMg tb e below D st := by
  obtain ⟨s₂, h1, h2⟩ := g
  exact ⟨s₂, h1, fun t k => h t (h2 t k)⟩
theorem own_not {P Q : Prop} (h : P ↔ Q) (n : ¬ Q) : ¬ P := fun q => n (h.mp q)
theorem own_ne {a b n : Nat} (h : a < n) (q : b = n) : a ≠ b := Nat.ne_of_lt (q ▸ h)
theorem own_ne' {a b n : Nat} (h : a < n) (q : n ≤ b) : a ≠ b := Nat.ne_of_lt (Nat.lt_of_lt_of_le h q)
end Jvm.RoadKit
namespace Jvm.Pilot.@@N@@
open Jvm Jvm.ClassFile Sem Op Lib Jvm.Free Jvm.Stand Jvm.LawKit Jvm.RoadKit Bundle Jvm.Pilot.@@N@@.Jvm.D
theorem own_pn0 : plainName "plainsight/grammar/IntList" = true := by first | (simp [plainName, overriddenIn]; done) | decide +kernel
theorem own_d1_0 : decode prog_86_method_1_code 0 = .ok (.aload_n 0, 1) := by decide +kernel
theorem own_d1_1 : decode prog_86_method_1_code 1 = .ok (.invokespecial 1, 3) := by decide +kernel
theorem own_d1_4 : decode prog_86_method_1_code 4 = .ok (.aload_n 0, 1) := by decide +kernel
theorem own_d1_5 : decode prog_86_method_1_code 5 = .ok (.bipush 16, 2) := by decide +kernel
theorem own_d1_7 : decode prog_86_method_1_code 7 = .ok (.newarray .int, 2) := by decide +kernel
theorem own_d1_9 : decode prog_86_method_1_code 9 = .ok (.putfield 7, 3) := by decide +kernel
theorem own_d1_12 : decode prog_86_method_1_code 12 = .ok (.return_, 1) := by decide +kernel
theorem own_d3_0 : decode prog_86_method_5_code 0 = .ok (.aload_n 0, 1) := by decide +kernel
theorem own_d3_1 : decode prog_86_method_5_code 1 = .ok (.getfield 13, 3) := by decide +kernel
theorem own_d3_4 : decode prog_86_method_5_code 4 = .ok (.aload_n 0, 1) := by decide +kernel
theorem own_d3_5 : decode prog_86_method_5_code 5 = .ok (.getfield 7, 3) := by decide +kernel
theorem own_d3_8 : decode prog_86_method_5_code 8 = .ok (.arraylength, 1) := by decide +kernel
theorem own_d3_9 : decode prog_86_method_5_code 9 = .ok (.if_icmp .ne 20, 3) := by decide +kernel
theorem own_d3_29 : decode prog_86_method_5_code 29 = .ok (.aload_n 0, 1) := by decide +kernel
theorem own_d3_30 : decode prog_86_method_5_code 30 = .ok (.getfield 7, 3) := by decide +kernel
theorem own_d3_33 : decode prog_86_method_5_code 33 = .ok (.aload_n 0, 1) := by decide +kernel
theorem own_d3_34 : decode prog_86_method_5_code 34 = .ok (.dup, 1) := by decide +kernel
theorem own_d3_35 : decode prog_86_method_5_code 35 = .ok (.getfield 13, 3) := by decide +kernel
theorem own_d3_38 : decode prog_86_method_5_code 38 = .ok (.dup_x1, 1) := by decide +kernel
theorem own_d3_39 : decode prog_86_method_5_code 39 = .ok (.iconst 1, 1) := by decide +kernel
theorem own_d3_40 : decode prog_86_method_5_code 40 = .ok (.iadd, 1) := by decide +kernel
theorem own_d3_41 : decode prog_86_method_5_code 41 = .ok (.putfield 13, 3) := by decide +kernel
theorem own_d3_44 : decode prog_86_method_5_code 44 = .ok (.iload_n 1, 1) := by decide +kernel
theorem own_d3_45 : decode prog_86_method_5_code 45 = .ok (.iastore, 1) := by decide +kernel
theorem own_d3_46 : decode prog_86_method_5_code 46 = .ok (.return_, 1) := by decide +kernel
theorem own_d4_0 : decode prog_86_method_6_code 0 = .ok (.aload_n 0, 1) := by decide +kernel
theorem own_d4_1 : decode prog_86_method_6_code 1 = .ok (.getfield 7, 3) := by decide +kernel
theorem own_d4_4 : decode prog_86_method_6_code 4 = .ok (.aload_n 0, 1) := by decide +kernel
theorem own_d4_5 : decode prog_86_method_6_code 5 = .ok (.dup, 1) := by decide +kernel
theorem own_d4_6 : decode prog_86_method_6_code 6 = .ok (.getfield 13, 3) := by decide +kernel
theorem own_d4_9 : decode prog_86_method_6_code 9 = .ok (.iconst 1, 1) := by decide +kernel
theorem own_d4_10 : decode prog_86_method_6_code 10 = .ok (.isub, 1) := by decide +kernel
theorem own_d4_11 : decode prog_86_method_6_code 11 = .ok (.dup_x1, 1) := by decide +kernel
theorem own_d4_12 : decode prog_86_method_6_code 12 = .ok (.putfield 13, 3) := by decide +kernel
theorem own_d4_15 : decode prog_86_method_6_code 15 = .ok (.iaload, 1) := by decide +kernel
theorem own_d4_16 : decode prog_86_method_6_code 16 = .ok (.ireturn, 1) := by decide +kernel
theorem own_d5_0 : decode prog_86_method_2_code 0 = .ok (.aload_n 0, 1) := by decide +kernel
theorem own_d5_1 : decode prog_86_method_2_code 1 = .ok (.getfield 13, 3) := by decide +kernel
theorem own_d5_4 : decode prog_86_method_2_code 4 = .ok (.ireturn, 1) := by decide +kernel
theorem own_d6_0 : decode prog_86_method_3_code 0 = .ok (.iload_n 1, 1) := by decide +kernel
theorem own_d6_1 : decode prog_86_method_3_code 1 = .ok (.aload_n 0, 1) := by decide +kernel
theorem own_d6_2 : decode prog_86_method_3_code 2 = .ok (.getfield 13, 3) := by decide +kernel
theorem own_d6_5 : decode prog_86_method_3_code 5 = .ok (.if_icmp .lt 12, 3) := by decide +kernel
theorem own_d6_17 : decode prog_86_method_3_code 17 = .ok (.aload_n 0, 1) := by decide +kernel
theorem own_d6_18 : decode prog_86_method_3_code 18 = .ok (.getfield 7, 3) := by decide +kernel
theorem own_d6_21 : decode prog_86_method_3_code 21 = .ok (.iload_n 1, 1) := by decide +kernel
theorem own_d6_22 : decode prog_86_method_3_code 22 = .ok (.iaload, 1) := by decide +kernel
theorem own_d6_23 : decode prog_86_method_3_code 23 = .ok (.ireturn, 1) := by decide +kernel
theorem own_pn1 : plainName "plainsight/grammar/IntListPopPinLaw" = true := by first | (simp [plainName, overriddenIn]; done) | decide +kernel
theorem own_pd0 : parseMethodDescriptor "()V" = some ⟨[], none⟩ := by decide +kernel
theorem own_pd1 : parseMethodDescriptor "(I)V" = some ⟨[.int], none⟩ := by decide +kernel
theorem own_pd2 : parseMethodDescriptor "()I" = some ⟨[], some .int⟩ := by decide +kernel
theorem own_pd3 : parseMethodDescriptor "(I)I" = some ⟨[.int], some .int⟩ := by decide +kernel
theorem own_init_ef (m : MethodId) (x0 : Addr) : entryFrame m #[(.ref x0)] 1 = mkF m 0 #[.val (.ref x0)] [] := by first | (simp [entryFrame, mkF, argsToLocals, Value.category]; done) | rfl
def own_init_Q (Z : State) (a : Addr) (h0 : Heap) (n0 : Nat) (rv : Option Value) (hN : Heap) (LL : List Loc) : Prop := ∃ (b : Addr), ∃ (kb : ClassId), rv = none ∧ Fr n0 LL ∧ Keep h0 hN [a] ∧ h0.size ≤ b ∧ Exa Z hN a "plainsight/grammar/IntList" ∧ Fld Z hN a "plainsight/grammar/IntList" "values" "[I" (.ref b) ∧ Fld Z hN a "plainsight/grammar/IntList" "size" "I" (.int (0 : Int32)) ∧ Arv Z hN b kb .int (16 : Int32) [(.int (0 : Int32)), (.int (0 : Int32)), (.int (0 : Int32))] (.int (0 : Int32))
set_option maxRecDepth 65536 in
set_option maxHeartbeats 40000000 in
theorem own_init (l : Launch) (Z : State) (a0 : Array Value) (hw : ∀ d ∈ tables_1, d.before a0 Z = true) (ws : List Jvm.Cond) (a : Addr) (h0 : Heap) (n0 : Nat) (Z0 : n0 ≤ h0.size) (E : Exa Z h0 a "plainsight/grammar/IntList") (F : Fld Z h0 a "plainsight/grammar/IntList" "values" "[I" .null) (S : Fld Z h0 a "plainsight/grammar/IntList" "size" "I" (.int (0 : Int32))) (g : n0 ≤ a) :
    MetFree l (⟨"plainsight/grammar/IntList", "<init>", "()V"⟩ : MethodName) (head1 (Jvm.Cond.code (⟨"plainsight/grammar/IntList", "<init>", "()V"⟩ : MethodName) prog_86_method_1_code 1 none :: ws) ({ frames := 1, cells := 1, slots := 16, locals := 12 } : Room)) (fun aa UU => aa = #[(.ref a)] ∧ Z.Warmed39 UU.vm ∧ UU.heap = h0) (fun _ _ _ _ _ => True) (fun _ UU oo UU' => ∃ rv LL, oo = .returned rv ∧ own_init_Q Z a h0 n0 rv UU'.heap LL ∧ FrameEnd UU oo UU' LL ({ frames := 1, cells := 1, slots := 16, locals := 12 } : Room).cells ({ frames := 1, cells := 1, slots := 16, locals := 12 } : Room).slots) := by
  refine MetFree.of_bodySF (plainFor_of_name own_pn0) hisR ?_
  intro p e s m args below meth c s₁ Bd hml0 hP hK
  obtain ⟨rfl, hZ, hh⟩ := hP
  have hx := Bd.exec
  have hby := Bd.bytes
  have hml : c.maxLocals = 1 := hml0
  have hown : s.vm.findClass "plainsight/grammar/IntList" = some m.cls := findClass_of_methodNamed Bd.named
  have hnm := (name_of_methodNamed Bd.named Bd.method).1
  have X0 : Stand p l e ({ frames := 1, cells := 1, slots := 16, locals := 12 } : Room) s m #[(.ref a)] below meth c s₁ [] 0 0 := Stand.of_body Bd
  have e0 : s₁.heap = h0 := by rw [← hh, Bd.state]; rfl
  have N0 := Fr.nil n0
  have K0 : Keep h0 h0 [a] := Keep.refl h0 _
  refine (?_ : OwnGo p.tables e below (fun UU' oo => ∃ rv LL, oo = .returned rv ∧ own_init_Q Z a h0 n0 rv UU'.heap LL ∧ FrameEnd s oo UU' LL ({ frames := 1, cells := 1, slots := 16, locals := 12 } : Room).cells ({ frames := 1, cells := 1, slots := 16, locals := 12 } : Room).slots) _)
  refine OwnGo.back (s₁.setTop (mkF m 0 #[.val (.ref a)] [])) (fun tg kk => castTop (own_init_ef m a) kk) ?_
  refine OwnGo.back (s₁.setTop (mkF m 1 #[.val (.ref a)] [(.ref a)])) (fun tg kk => XS.aloadN X0.here hx rfl (hb hby own_d1_0) rfl rfl kk) ?_
  obtain ⟨T1, X1, e1, st1⟩ := initO X0 hx hZ hown (hw _ (List.mem_of_getElem? (i := 7) rfl)) (hw _ (List.mem_of_getElem? (i := 8) rfl)) (hw _ (List.mem_of_getElem? (i := 9) rfl)) e0 (g := (mkF m 1 #[.val (.ref a)] [(.ref a)])) rfl (by rw [hml]; rfl) rfl (hb hby own_d1_1) (by decide) (W := 0) (by show 2 * 0 + _ ≤ _; exact Nat.le_of_eq rfl) (by decide)
  refine OwnGo.back (T1.setTop (mkF m 4 #[.val (.ref a)] [])) (fun tg kk => st1 _ kk) ?_
  refine OwnGo.back (T1.setTop (mkF m 5 #[.val (.ref a)] [(.ref a)])) (fun tg kk => XS.aloadN X1.here hx rfl (hb hby own_d1_4) rfl rfl kk) ?_
  refine OwnGo.back (T1.setTop (mkF m 7 #[.val (.ref a)] [(.int (16 : Int32)), (.ref a)])) (fun tg kk => XS.bipush X1.here hx rfl (hb hby own_d1_5) kk) ?_
  obtain ⟨T2, h2, k2, X2, e2, E2, A2, st2⟩ := newP X1 hx hZ (hw _ (List.mem_of_getElem? (i := 10) rfl)) e1 (g := (mkF m 7 #[.val (.ref a)] [(.int (16 : Int32)), (.ref a)])) rfl (hb hby own_d1_7) rfl (by decide) (cap := 16) (by decide) (by decide) (by decide) (by decide)
  obtain ⟨b2, q2⟩ : ∃ z, z = h0.size := ⟨_, rfl⟩
  rw [← q2] at A2 st2
  have n3 : a ≠ b2 := own_ne E.lt q2
  have g4 : n0 ≤ b2 := Nat.le_trans Z0 (Nat.le_of_eq q2.symm)
  have s5 : h0.size ≤ b2 := Nat.le_trans K0.1 (Nat.le_of_eq q2.symm)
  have f6 : Exa Z h2 a "plainsight/grammar/IntList" := E.ext E2
  have f7 : Fld Z h2 a "plainsight/grammar/IntList" "values" "[I" .null := F.ext E2
  have f8 : Fld Z h2 a "plainsight/grammar/IntList" "size" "I" (.int (0 : Int32)) := S.ext E2
  have K9 : Keep h0 h2 [a] := K0.ext E2
  have Z10 : n0 ≤ h2.size := Nat.le_trans Z0 E2.1
  have f11 : Arv Z h2 b2 k2 .int (16 : Int32) [(.int (0 : Int32)), (.int (0 : Int32)), (.int (0 : Int32))] (.int (0 : Int32)) := (Arv.new A2 (by decide)).pad (pad_rep [] (.int (0 : Int32)) 3)
  refine OwnGo.back (T2.setTop (mkF m 9 #[.val (.ref a)] [(.ref b2), (.ref a)])) (fun tg kk => st2 _ kk) ?_
  obtain ⟨T12, h12, X12, e12, W12, st12⟩ := putF X2 hx hZ hown (host := "") (Or.inl (hw _ (List.mem_of_getElem? (i := 11) rfl))) Via.refl e2 f7 f6 (Or.inl (hw _ (List.mem_of_getElem? (i := 12) rfl))) (hw _ (List.mem_of_getElem? (i := 2) rfl)) (ty := (.array .int)) (by decide) rfl rfl (g := (mkF m 9 #[.val (.ref a)] [(.ref b2), (.ref a)])) rfl rfl (hb hby own_d1_9)
  have f13 : Fld Z h12 a "plainsight/grammar/IntList" "values" "[I" (.ref b2) := f7.same W12
  have f14 : Exa Z h12 a "plainsight/grammar/IntList" := f6.wr W12
  have f15 : Fld Z h12 a "plainsight/grammar/IntList" "size" "I" (.int (0 : Int32)) := f8.other W12 (Or.inr (slot_ne (Or.inl (hw _ (List.mem_of_getElem? (i := 19) rfl))) (Or.inl (hw _ (List.mem_of_getElem? (i := 12) rfl))) (by decide) (t := .int) (t' := (.array .int)) (by decide) (by decide)))
  have f16 : Arv Z h12 b2 k2 .int (16 : Int32) [(.int (0 : Int32)), (.int (0 : Int32)), (.int (0 : Int32))] (.int (0 : Int32)) := f11.other W12 (Ne.symm n3)
  have K17 : Keep h0 h12 [a] := K9.wr W12 (Or.inl (List.mem_of_getElem? (i := 0) rfl))
  have Z18 : n0 ≤ h12.size := Nat.le_trans Z10 (Keep.of_wr W12).1
  have N19 := Fr.snoc X12 N0 g
  refine OwnGo.back (T12.setTop (mkF m 12 #[.val (.ref a)] [])) (fun tg kk => st12 _ kk) ?_
  obtain ⟨fs, hr, hrun, hended, hW, hsame⟩ := X12.leave (v := none) (fun _ => rfl)
  refine ⟨_, _, ?_, hrun, hended, _, _, rfl, ?_, ⟨_, rfl⟩, hW, hsame.mono (by decide) (by decide)⟩
  · exact X12.returnOut hx Bd.returns (hb hby own_d1_12) hr
  · show own_init_Q Z a h0 n0 _ T12.heap _
    rw [e12]
    exact ⟨b2, k2, rfl, N19, K17, s5, f14, f13, f15, f16⟩
theorem own_add0_ef (m : MethodId) (x0 : Addr) (x1 : Int32) : entryFrame m #[(.ref x0), (.int x1)] 2 = mkF m 0 #[.val (.ref x0), .val (.int x1)] [] := by first | (simp [entryFrame, mkF, argsToLocals, Value.category]; done) | rfl
def own_add0_Q (Z : State) (a : Addr) (pv : Int32) (b : Addr) (kb : ClassId) (v0 : Value) (v1 : Value) (v2 : Value) (h0 : Heap) (n0 : Nat) (rv : Option Value) (hN : Heap) (LL : List Loc) : Prop := rv = none ∧ Fr n0 LL ∧ Keep h0 hN [a, b] ∧ Exa Z hN a "plainsight/grammar/IntList" ∧ Fld Z hN a "plainsight/grammar/IntList" "values" "[I" (.ref b) ∧ Fld Z hN a "plainsight/grammar/IntList" "size" "I" (.int (1 : Int32)) ∧ Arv Z hN b kb .int (16 : Int32) [(.int pv), v1, v2] (.int (0 : Int32))
set_option maxRecDepth 65536 in
set_option maxHeartbeats 40000000 in
theorem own_add0 (l : Launch) (Z : State) (a0 : Array Value) (hw : ∀ d ∈ tables_1, d.before a0 Z = true) (ws : List Jvm.Cond) (a : Addr) (pv : Int32) (b : Addr) (kb : ClassId) (v0 : Value) (v1 : Value) (v2 : Value) (h0 : Heap) (n0 : Nat) (Z0 : n0 ≤ h0.size) (E : Exa Z h0 a "plainsight/grammar/IntList") (F : Fld Z h0 a "plainsight/grammar/IntList" "values" "[I" (.ref b)) (S : Fld Z h0 a "plainsight/grammar/IntList" "size" "I" (.int (0 : Int32))) (V : Arv Z h0 b kb .int (16 : Int32) [v0, v1, v2] (.int (0 : Int32))) (g : n0 ≤ a) (g' : n0 ≤ b) (n : a ≠ b) :
    MetFree l (⟨"plainsight/grammar/IntList", "add", "(I)V"⟩ : MethodName) (head1 (Jvm.Cond.code (⟨"plainsight/grammar/IntList", "add", "(I)V"⟩ : MethodName) prog_86_method_5_code 2 none :: ws) ({ frames := 0, cells := 0, slots := 0, locals := 0 } : Room)) (fun aa UU => aa = #[(.ref a), (.int pv)] ∧ Z.Warmed39 UU.vm ∧ UU.heap = h0) (fun _ _ _ _ _ => True) (fun _ UU oo UU' => ∃ rv LL, oo = .returned rv ∧ own_add0_Q Z a pv b kb v0 v1 v2 h0 n0 rv UU'.heap LL ∧ FrameEnd UU oo UU' LL ({ frames := 0, cells := 0, slots := 0, locals := 0 } : Room).cells ({ frames := 0, cells := 0, slots := 0, locals := 0 } : Room).slots) := by
  refine MetFree.of_bodySF (plainFor_of_name own_pn0) hisR ?_
  intro p e s m args below meth c s₁ Bd hml0 hP hK
  obtain ⟨rfl, hZ, hh⟩ := hP
  have hx := Bd.exec
  have hby := Bd.bytes
  have hml : c.maxLocals = 2 := hml0
  have hown : s.vm.findClass "plainsight/grammar/IntList" = some m.cls := findClass_of_methodNamed Bd.named
  have hnm := (name_of_methodNamed Bd.named Bd.method).1
  have X0 : Stand p l e ({ frames := 0, cells := 0, slots := 0, locals := 0 } : Room) s m #[(.ref a), (.int pv)] below meth c s₁ [] 0 0 := Stand.of_body Bd
  have e0 : s₁.heap = h0 := by rw [← hh, Bd.state]; rfl
  have N0 := Fr.nil n0
  have K0 : Keep h0 h0 [a, b] := Keep.refl h0 _
  refine (?_ : OwnGo p.tables e below (fun UU' oo => ∃ rv LL, oo = .returned rv ∧ own_add0_Q Z a pv b kb v0 v1 v2 h0 n0 rv UU'.heap LL ∧ FrameEnd s oo UU' LL ({ frames := 0, cells := 0, slots := 0, locals := 0 } : Room).cells ({ frames := 0, cells := 0, slots := 0, locals := 0 } : Room).slots) _)
  refine OwnGo.back (s₁.setTop (mkF m 0 #[.val (.ref a), .val (.int pv)] [])) (fun tg kk => castTop (own_add0_ef m a pv) kk) ?_
  refine OwnGo.back (s₁.setTop (mkF m 1 #[.val (.ref a), .val (.int pv)] [(.ref a)])) (fun tg kk => XS.aloadN X0.here hx rfl (hb hby own_d3_0) rfl rfl kk) ?_
  obtain ⟨T1, X1, e1, st1⟩ := getF X0 hx hZ hown (host := "") (Or.inl (hw _ (List.mem_of_getElem? (i := 18) rfl))) Via.refl e0 S (g := (mkF m 1 #[.val (.ref a), .val (.int pv)] [(.ref a)])) rfl rfl (hb hby own_d3_1)
  refine OwnGo.back (T1.setTop (mkF m 4 #[.val (.ref a), .val (.int pv)] [(.int (0 : Int32))])) (fun tg kk => st1 _ kk) ?_
  refine OwnGo.back (T1.setTop (mkF m 5 #[.val (.ref a), .val (.int pv)] [(.ref a), (.int (0 : Int32))])) (fun tg kk => XS.aloadN X1.here hx rfl (hb hby own_d3_4) rfl rfl kk) ?_
  obtain ⟨T2, X2, e2, st2⟩ := getF X1 hx hZ hown (host := "") (Or.inl (hw _ (List.mem_of_getElem? (i := 11) rfl))) Via.refl e1 F (g := (mkF m 5 #[.val (.ref a), .val (.int pv)] [(.ref a), (.int (0 : Int32))])) rfl rfl (hb hby own_d3_5)
  refine OwnGo.back (T2.setTop (mkF m 8 #[.val (.ref a), .val (.int pv)] [(.ref b), (.int (0 : Int32))])) (fun tg kk => st2 _ kk) ?_
  obtain ⟨cl3, Ar3, -, S3, N3, -, -⟩ := id V
  refine OwnGo.back (T2.setTop (mkF m 9 #[.val (.ref a), .val (.int pv)] [(.int (16 : Int32)), (.int (0 : Int32))])) (fun tg kk => X2.arraylength hx (by rw [e2]; exact Ar3.1) (State.isArrayOf_alike hZ.alike Ar3.2.1) (g := (mkF m 8 #[.val (.ref a), .val (.int pv)] [(.ref b), (.int (0 : Int32))])) rfl rfl (hb hby own_d3_8) _ (by rw [len_of S3 N3]; exact kk)) ?_
  refine OwnGo.back (T2.setTop (mkF m 29 #[.val (.ref a), .val (.int pv)] [])) (fun tg kk => XS.icmpYes X2.here hx rfl (pc0 := 9) (pc' := 29) rfl (hb hby own_d3_9) rfl (feq (by decide : ¬ ((0 : Int32) = (16 : Int32)))).2 (by decide) (by decide) kk) ?_
  refine OwnGo.back (T2.setTop (mkF m 30 #[.val (.ref a), .val (.int pv)] [(.ref a)])) (fun tg kk => XS.aloadN X2.here hx rfl (hb hby own_d3_29) rfl rfl kk) ?_
  obtain ⟨T4, X4, e4, st4⟩ := getF X2 hx hZ hown (host := "") (Or.inl (hw _ (List.mem_of_getElem? (i := 11) rfl))) Via.refl e2 F (g := (mkF m 30 #[.val (.ref a), .val (.int pv)] [(.ref a)])) rfl rfl (hb hby own_d3_30)
  refine OwnGo.back (T4.setTop (mkF m 33 #[.val (.ref a), .val (.int pv)] [(.ref b)])) (fun tg kk => st4 _ kk) ?_
  refine OwnGo.back (T4.setTop (mkF m 34 #[.val (.ref a), .val (.int pv)] [(.ref a), (.ref b)])) (fun tg kk => XS.aloadN X4.here hx rfl (hb hby own_d3_33) rfl rfl kk) ?_
  refine OwnGo.back (T4.setTop (mkF m 35 #[.val (.ref a), .val (.int pv)] [(.ref a), (.ref a), (.ref b)])) (fun tg kk => XS.dup X4.here hx rfl (hb hby own_d3_34) rfl rfl kk) ?_
  obtain ⟨T5, X5, e5, st5⟩ := getF X4 hx hZ hown (host := "") (Or.inl (hw _ (List.mem_of_getElem? (i := 18) rfl))) Via.refl e4 S (g := (mkF m 35 #[.val (.ref a), .val (.int pv)] [(.ref a), (.ref a), (.ref b)])) rfl rfl (hb hby own_d3_35)
  refine OwnGo.back (T5.setTop (mkF m 38 #[.val (.ref a), .val (.int pv)] [(.int (0 : Int32)), (.ref a), (.ref b)])) (fun tg kk => st5 _ kk) ?_
  refine OwnGo.back (T5.setTop (mkF m 39 #[.val (.ref a), .val (.int pv)] [(.int (0 : Int32)), (.ref a), (.int (0 : Int32)), (.ref b)])) (fun tg kk => XS.dupX1 X5.here hx rfl (hb hby own_d3_38) rfl rfl rfl kk) ?_
  refine OwnGo.back (T5.setTop (mkF m 40 #[.val (.ref a), .val (.int pv)] [(.int (1 : Int32)), (.int (0 : Int32)), (.ref a), (.int (0 : Int32)), (.ref b)])) (fun tg kk => XS.iconst X5.here hx rfl (hb hby own_d3_39) kk) ?_
  refine OwnGo.back (T5.setTop (mkF m 41 #[.val (.ref a), .val (.int pv)] [(.int (1 : Int32)), (.ref a), (.int (0 : Int32)), (.ref b)])) (fun tg kk => XS.iadd X5.here hx rfl (hb hby own_d3_40) rfl kk) ?_
  obtain ⟨T6, h6, X6, e6, W6, st6⟩ := putF X5 hx hZ hown (host := "") (Or.inl (hw _ (List.mem_of_getElem? (i := 18) rfl))) Via.refl e5 S E (Or.inl (hw _ (List.mem_of_getElem? (i := 19) rfl))) (hw _ (List.mem_of_getElem? (i := 2) rfl)) (ty := .int) (by decide) rfl rfl (g := (mkF m 41 #[.val (.ref a), .val (.int pv)] [(.int (1 : Int32)), (.ref a), (.int (0 : Int32)), (.ref b)])) rfl rfl (hb hby own_d3_41)
  have f7 : Fld Z h6 a "plainsight/grammar/IntList" "size" "I" (.int (1 : Int32)) := S.same W6
  have f8 : Exa Z h6 a "plainsight/grammar/IntList" := E.wr W6
  have f9 : Fld Z h6 a "plainsight/grammar/IntList" "values" "[I" (.ref b) := F.other W6 (Or.inr (slot_ne (Or.inl (hw _ (List.mem_of_getElem? (i := 12) rfl))) (Or.inl (hw _ (List.mem_of_getElem? (i := 19) rfl))) (by decide) (t := (.array .int)) (t' := .int) (by decide) (by decide)))
  have f10 : Arv Z h6 b kb .int (16 : Int32) [v0, v1, v2] (.int (0 : Int32)) := V.other W6 (Ne.symm n)
  have K11 : Keep h0 h6 [a, b] := K0.wr W6 (Or.inl (List.mem_of_getElem? (i := 0) rfl))
  have Z12 : n0 ≤ h6.size := Nat.le_trans Z0 (Keep.of_wr W6).1
  have N13 := Fr.snoc X6 N0 g
  refine OwnGo.back (T6.setTop (mkF m 44 #[.val (.ref a), .val (.int pv)] [(.int (0 : Int32)), (.ref b)])) (fun tg kk => st6 _ kk) ?_
  refine OwnGo.back (T6.setTop (mkF m 45 #[.val (.ref a), .val (.int pv)] [(.int pv), (.int (0 : Int32)), (.ref b)])) (fun tg kk => XS.iloadN X6.here hx rfl (hb hby own_d3_44) rfl kk) ?_
  obtain ⟨cl14, Ar14, q14, S14, N14, H14, G14⟩ := id f10
  have hin14 : ¬ ((0 : Int32) < 0 ∨ cl14.slots.size ≤ ((0 : Int32)).toNatClampNeg) := inb_of S14 ⟨by decide, by decide⟩
  obtain ⟨T15, h15, X15, e15, W15, st15⟩ := stI X6 hx hZ e6 Ar14 (j := (0 : Int32)) hin14 (g := (mkF m 45 #[.val (.ref a), .val (.int pv)] [(.int pv), (.int (0 : Int32)), (.ref b)])) rfl rfl (hb hby own_d3_45)
  have f16 : Arv Z h15 b kb .int (16 : Int32) [(.int pv), v1, v2] (.int (0 : Int32)) := Arv.set Ar14 q14 S14 N14 H14 G14 rfl W15 0 rfl (Nat.le_of_ble_eq_true rfl)
  have f17 : Exa Z h15 a "plainsight/grammar/IntList" := f8.wr W15
  have f18 : Fld Z h15 a "plainsight/grammar/IntList" "values" "[I" (.ref b) := f9.other W15 (Or.inl n)
  have f19 : Fld Z h15 a "plainsight/grammar/IntList" "size" "I" (.int (1 : Int32)) := f7.other W15 (Or.inl n)
  have K20 : Keep h0 h15 [a, b] := K11.wr W15 (Or.inl (List.mem_of_getElem? (i := 1) rfl))
  have Z21 : n0 ≤ h15.size := Nat.le_trans Z12 (Keep.of_wr W15).1
  have N22 := Fr.snoc X15 N13 g'
  refine OwnGo.back (T15.setTop (mkF m 46 #[.val (.ref a), .val (.int pv)] [])) (fun tg kk => st15 _ kk) ?_
  obtain ⟨fs, hr, hrun, hended, hW, hsame⟩ := X15.leave (v := none) (fun _ => rfl)
  refine ⟨_, _, ?_, hrun, hended, _, _, rfl, ?_, ⟨_, rfl⟩, hW, hsame.mono (by decide) (by decide)⟩
  · exact X15.returnOut hx Bd.returns (hb hby own_d3_46) hr
  · show own_add0_Q Z a pv b kb v0 v1 v2 h0 n0 _ T15.heap _
    rw [e15]
    exact ⟨rfl, N22, K20, f17, f18, f19, f16⟩
theorem own_pop1_ef (m : MethodId) (x0 : Addr) : entryFrame m #[(.ref x0)] 1 = mkF m 0 #[.val (.ref x0)] [] := by first | (simp [entryFrame, mkF, argsToLocals, Value.category]; done) | rfl
def own_pop1_Q (Z : State) (a : Addr) (b : Addr) (kb : ClassId) (u : Int32) (v1 : Value) (v2 : Value) (h0 : Heap) (n0 : Nat) (rv : Option Value) (hN : Heap) (LL : List Loc) : Prop := rv = some (.int u) ∧ Fr n0 LL ∧ Keep h0 hN [a] ∧ Exa Z hN a "plainsight/grammar/IntList" ∧ Fld Z hN a "plainsight/grammar/IntList" "values" "[I" (.ref b) ∧ Fld Z hN a "plainsight/grammar/IntList" "size" "I" (.int (0 : Int32)) ∧ Arv Z hN b kb .int (16 : Int32) [(.int u), v1, v2] (.int (0 : Int32))
set_option maxRecDepth 65536 in
set_option maxHeartbeats 40000000 in
theorem own_pop1 (l : Launch) (Z : State) (a0 : Array Value) (hw : ∀ d ∈ tables_1, d.before a0 Z = true) (ws : List Jvm.Cond) (a : Addr) (b : Addr) (kb : ClassId) (u : Int32) (v1 : Value) (v2 : Value) (h0 : Heap) (n0 : Nat) (Z0 : n0 ≤ h0.size) (E : Exa Z h0 a "plainsight/grammar/IntList") (F : Fld Z h0 a "plainsight/grammar/IntList" "values" "[I" (.ref b)) (S : Fld Z h0 a "plainsight/grammar/IntList" "size" "I" (.int (1 : Int32))) (V : Arv Z h0 b kb .int (16 : Int32) [(.int u), v1, v2] (.int (0 : Int32))) (g : n0 ≤ a) (g' : n0 ≤ b) (n : a ≠ b) :
    MetFree l (⟨"plainsight/grammar/IntList", "pop", "()I"⟩ : MethodName) (head1 (Jvm.Cond.code (⟨"plainsight/grammar/IntList", "pop", "()I"⟩ : MethodName) prog_86_method_6_code 1 (some .int) :: ws) ({ frames := 0, cells := 0, slots := 0, locals := 0 } : Room)) (fun aa UU => aa = #[(.ref a)] ∧ Z.Warmed39 UU.vm ∧ UU.heap = h0) (fun _ _ _ _ _ => True) (fun _ UU oo UU' => ∃ rv LL, oo = .returned rv ∧ own_pop1_Q Z a b kb u v1 v2 h0 n0 rv UU'.heap LL ∧ FrameEnd UU oo UU' LL ({ frames := 0, cells := 0, slots := 0, locals := 0 } : Room).cells ({ frames := 0, cells := 0, slots := 0, locals := 0 } : Room).slots) := by
  refine MetFree.of_bodySF (plainFor_of_name own_pn0) hisR ?_
  intro p e s m args below meth c s₁ Bd hml0 hP hK
  obtain ⟨rfl, hZ, hh⟩ := hP
  have hx := Bd.exec
  have hby := Bd.bytes
  have hml : c.maxLocals = 1 := hml0
  have hown : s.vm.findClass "plainsight/grammar/IntList" = some m.cls := findClass_of_methodNamed Bd.named
  have hnm := (name_of_methodNamed Bd.named Bd.method).1
  have X0 : Stand p l e ({ frames := 0, cells := 0, slots := 0, locals := 0 } : Room) s m #[(.ref a)] below meth c s₁ [] 0 0 := Stand.of_body Bd
  have e0 : s₁.heap = h0 := by rw [← hh, Bd.state]; rfl
  have N0 := Fr.nil n0
  have K0 : Keep h0 h0 [a] := Keep.refl h0 _
  refine (?_ : OwnGo p.tables e below (fun UU' oo => ∃ rv LL, oo = .returned rv ∧ own_pop1_Q Z a b kb u v1 v2 h0 n0 rv UU'.heap LL ∧ FrameEnd s oo UU' LL ({ frames := 0, cells := 0, slots := 0, locals := 0 } : Room).cells ({ frames := 0, cells := 0, slots := 0, locals := 0 } : Room).slots) _)
  refine OwnGo.back (s₁.setTop (mkF m 0 #[.val (.ref a)] [])) (fun tg kk => castTop (own_pop1_ef m a) kk) ?_
  refine OwnGo.back (s₁.setTop (mkF m 1 #[.val (.ref a)] [(.ref a)])) (fun tg kk => XS.aloadN X0.here hx rfl (hb hby own_d4_0) rfl rfl kk) ?_
  obtain ⟨T1, X1, e1, st1⟩ := getF X0 hx hZ hown (host := "") (Or.inl (hw _ (List.mem_of_getElem? (i := 11) rfl))) Via.refl e0 F (g := (mkF m 1 #[.val (.ref a)] [(.ref a)])) rfl rfl (hb hby own_d4_1)
  refine OwnGo.back (T1.setTop (mkF m 4 #[.val (.ref a)] [(.ref b)])) (fun tg kk => st1 _ kk) ?_
  refine OwnGo.back (T1.setTop (mkF m 5 #[.val (.ref a)] [(.ref a), (.ref b)])) (fun tg kk => XS.aloadN X1.here hx rfl (hb hby own_d4_4) rfl rfl kk) ?_
  refine OwnGo.back (T1.setTop (mkF m 6 #[.val (.ref a)] [(.ref a), (.ref a), (.ref b)])) (fun tg kk => XS.dup X1.here hx rfl (hb hby own_d4_5) rfl rfl kk) ?_
  obtain ⟨T2, X2, e2, st2⟩ := getF X1 hx hZ hown (host := "") (Or.inl (hw _ (List.mem_of_getElem? (i := 18) rfl))) Via.refl e1 S (g := (mkF m 6 #[.val (.ref a)] [(.ref a), (.ref a), (.ref b)])) rfl rfl (hb hby own_d4_6)
  refine OwnGo.back (T2.setTop (mkF m 9 #[.val (.ref a)] [(.int (1 : Int32)), (.ref a), (.ref b)])) (fun tg kk => st2 _ kk) ?_
  refine OwnGo.back (T2.setTop (mkF m 10 #[.val (.ref a)] [(.int (1 : Int32)), (.int (1 : Int32)), (.ref a), (.ref b)])) (fun tg kk => XS.iconst X2.here hx rfl (hb hby own_d4_9) kk) ?_
  refine OwnGo.back (T2.setTop (mkF m 11 #[.val (.ref a)] [(.int (0 : Int32)), (.ref a), (.ref b)])) (fun tg kk => XS.isub X2.here hx rfl (hb hby own_d4_10) rfl kk) ?_
  refine OwnGo.back (T2.setTop (mkF m 12 #[.val (.ref a)] [(.int (0 : Int32)), (.ref a), (.int (0 : Int32)), (.ref b)])) (fun tg kk => XS.dupX1 X2.here hx rfl (hb hby own_d4_11) rfl rfl rfl kk) ?_
  obtain ⟨T3, h3, X3, e3, W3, st3⟩ := putF X2 hx hZ hown (host := "") (Or.inl (hw _ (List.mem_of_getElem? (i := 18) rfl))) Via.refl e2 S E (Or.inl (hw _ (List.mem_of_getElem? (i := 19) rfl))) (hw _ (List.mem_of_getElem? (i := 2) rfl)) (ty := .int) (by decide) rfl rfl (g := (mkF m 12 #[.val (.ref a)] [(.int (0 : Int32)), (.ref a), (.int (0 : Int32)), (.ref b)])) rfl rfl (hb hby own_d4_12)
  have f4 : Fld Z h3 a "plainsight/grammar/IntList" "size" "I" (.int (0 : Int32)) := S.same W3
  have f5 : Exa Z h3 a "plainsight/grammar/IntList" := E.wr W3
  have f6 : Fld Z h3 a "plainsight/grammar/IntList" "values" "[I" (.ref b) := F.other W3 (Or.inr (slot_ne (Or.inl (hw _ (List.mem_of_getElem? (i := 12) rfl))) (Or.inl (hw _ (List.mem_of_getElem? (i := 19) rfl))) (by decide) (t := (.array .int)) (t' := .int) (by decide) (by decide)))
  have f7 : Arv Z h3 b kb .int (16 : Int32) [(.int u), v1, v2] (.int (0 : Int32)) := V.other W3 (Ne.symm n)
  have K8 : Keep h0 h3 [a] := K0.wr W3 (Or.inl (List.mem_of_getElem? (i := 0) rfl))
  have Z9 : n0 ≤ h3.size := Nat.le_trans Z0 (Keep.of_wr W3).1
  have N10 := Fr.snoc X3 N0 g
  refine OwnGo.back (T3.setTop (mkF m 15 #[.val (.ref a)] [(.int (0 : Int32)), (.ref b)])) (fun tg kk => st3 _ kk) ?_
  obtain ⟨cl11, Ar11, q11, S11, N11, H11, G11⟩ := id f7
  have hin11 : ¬ ((0 : Int32) < 0 ∨ cl11.slots.size ≤ ((0 : Int32)).toNatClampNeg) := inb_of S11 ⟨by decide, by decide⟩
  have hat11 : cl11.slots[((0 : Int32)).toNatClampNeg]? = some (.int u) := Has.at H11 hin11 rfl
  refine OwnGo.back (T3.setTop (mkF m 16 #[.val (.ref a)] [(.int u)])) (fun tg kk => X3.iaload hx (j := (0 : Int32)) (v := (.int u)) (by rw [e3]; exact Ar11.1) (State.isArrayOf_alike hZ.alike Ar11.2.1) Ar11.2.2 hin11 hat11 (g := (mkF m 15 #[.val (.ref a)] [(.int (0 : Int32)), (.ref b)])) rfl rfl (hb hby own_d4_15) _ kk) ?_
  obtain ⟨fs, hr, hrun, hended, hW, hsame⟩ := X3.leave (v := some (.int u)) (fun h => by rw [Bd.returns] at h; cases h)
  refine ⟨_, _, ?_, hrun, hended, _, _, rfl, ?_, ⟨_, rfl⟩, hW, hsame.mono (by decide) (by decide)⟩
  · exact own_retI X3 hx Bd.returns (hb hby own_d4_16) hr
  · show own_pop1_Q Z a b kb u v1 v2 h0 n0 _ T3.heap _
    rw [e3]
    exact ⟨rfl, N10, K8, f5, f6, f4, f7⟩
theorem own_add1_ef (m : MethodId) (x0 : Addr) (x1 : Int32) : entryFrame m #[(.ref x0), (.int x1)] 2 = mkF m 0 #[.val (.ref x0), .val (.int x1)] [] := by first | (simp [entryFrame, mkF, argsToLocals, Value.category]; done) | rfl
def own_add1_Q (Z : State) (a : Addr) (pv : Int32) (b : Addr) (kb : ClassId) (v0 : Value) (v1 : Value) (v2 : Value) (h0 : Heap) (n0 : Nat) (rv : Option Value) (hN : Heap) (LL : List Loc) : Prop := rv = none ∧ Fr n0 LL ∧ Keep h0 hN [a, b] ∧ Exa Z hN a "plainsight/grammar/IntList" ∧ Fld Z hN a "plainsight/grammar/IntList" "values" "[I" (.ref b) ∧ Fld Z hN a "plainsight/grammar/IntList" "size" "I" (.int (2 : Int32)) ∧ Arv Z hN b kb .int (16 : Int32) [v0, (.int pv), v2] (.int (0 : Int32))
set_option maxRecDepth 65536 in
set_option maxHeartbeats 40000000 in
theorem own_add1 (l : Launch) (Z : State) (a0 : Array Value) (hw : ∀ d ∈ tables_1, d.before a0 Z = true) (ws : List Jvm.Cond) (a : Addr) (pv : Int32) (b : Addr) (kb : ClassId) (v0 : Value) (v1 : Value) (v2 : Value) (h0 : Heap) (n0 : Nat) (Z0 : n0 ≤ h0.size) (E : Exa Z h0 a "plainsight/grammar/IntList") (F : Fld Z h0 a "plainsight/grammar/IntList" "values" "[I" (.ref b)) (S : Fld Z h0 a "plainsight/grammar/IntList" "size" "I" (.int (1 : Int32))) (V : Arv Z h0 b kb .int (16 : Int32) [v0, v1, v2] (.int (0 : Int32))) (g : n0 ≤ a) (g' : n0 ≤ b) (n : a ≠ b) :
    MetFree l (⟨"plainsight/grammar/IntList", "add", "(I)V"⟩ : MethodName) (head1 (Jvm.Cond.code (⟨"plainsight/grammar/IntList", "add", "(I)V"⟩ : MethodName) prog_86_method_5_code 2 none :: ws) ({ frames := 0, cells := 0, slots := 0, locals := 0 } : Room)) (fun aa UU => aa = #[(.ref a), (.int pv)] ∧ Z.Warmed39 UU.vm ∧ UU.heap = h0) (fun _ _ _ _ _ => True) (fun _ UU oo UU' => ∃ rv LL, oo = .returned rv ∧ own_add1_Q Z a pv b kb v0 v1 v2 h0 n0 rv UU'.heap LL ∧ FrameEnd UU oo UU' LL ({ frames := 0, cells := 0, slots := 0, locals := 0 } : Room).cells ({ frames := 0, cells := 0, slots := 0, locals := 0 } : Room).slots) := by
  refine MetFree.of_bodySF (plainFor_of_name own_pn0) hisR ?_
  intro p e s m args below meth c s₁ Bd hml0 hP hK
  obtain ⟨rfl, hZ, hh⟩ := hP
  have hx := Bd.exec
  have hby := Bd.bytes
  have hml : c.maxLocals = 2 := hml0
  have hown : s.vm.findClass "plainsight/grammar/IntList" = some m.cls := findClass_of_methodNamed Bd.named
  have hnm := (name_of_methodNamed Bd.named Bd.method).1
  have X0 : Stand p l e ({ frames := 0, cells := 0, slots := 0, locals := 0 } : Room) s m #[(.ref a), (.int pv)] below meth c s₁ [] 0 0 := Stand.of_body Bd
  have e0 : s₁.heap = h0 := by rw [← hh, Bd.state]; rfl
  have N0 := Fr.nil n0
  have K0 : Keep h0 h0 [a, b] := Keep.refl h0 _
  refine (?_ : OwnGo p.tables e below (fun UU' oo => ∃ rv LL, oo = .returned rv ∧ own_add1_Q Z a pv b kb v0 v1 v2 h0 n0 rv UU'.heap LL ∧ FrameEnd s oo UU' LL ({ frames := 0, cells := 0, slots := 0, locals := 0 } : Room).cells ({ frames := 0, cells := 0, slots := 0, locals := 0 } : Room).slots) _)
  refine OwnGo.back (s₁.setTop (mkF m 0 #[.val (.ref a), .val (.int pv)] [])) (fun tg kk => castTop (own_add1_ef m a pv) kk) ?_
  refine OwnGo.back (s₁.setTop (mkF m 1 #[.val (.ref a), .val (.int pv)] [(.ref a)])) (fun tg kk => XS.aloadN X0.here hx rfl (hb hby own_d3_0) rfl rfl kk) ?_
  obtain ⟨T1, X1, e1, st1⟩ := getF X0 hx hZ hown (host := "") (Or.inl (hw _ (List.mem_of_getElem? (i := 18) rfl))) Via.refl e0 S (g := (mkF m 1 #[.val (.ref a), .val (.int pv)] [(.ref a)])) rfl rfl (hb hby own_d3_1)
  refine OwnGo.back (T1.setTop (mkF m 4 #[.val (.ref a), .val (.int pv)] [(.int (1 : Int32))])) (fun tg kk => st1 _ kk) ?_
  refine OwnGo.back (T1.setTop (mkF m 5 #[.val (.ref a), .val (.int pv)] [(.ref a), (.int (1 : Int32))])) (fun tg kk => XS.aloadN X1.here hx rfl (hb hby own_d3_4) rfl rfl kk) ?_
  obtain ⟨T2, X2, e2, st2⟩ := getF X1 hx hZ hown (host := "") (Or.inl (hw _ (List.mem_of_getElem? (i := 11) rfl))) Via.refl e1 F (g := (mkF m 5 #[.val (.ref a), .val (.int pv)] [(.ref a), (.int (1 : Int32))])) rfl rfl (hb hby own_d3_5)
  refine OwnGo.back (T2.setTop (mkF m 8 #[.val (.ref a), .val (.int pv)] [(.ref b), (.int (1 : Int32))])) (fun tg kk => st2 _ kk) ?_
  obtain ⟨cl3, Ar3, -, S3, N3, -, -⟩ := id V
  refine OwnGo.back (T2.setTop (mkF m 9 #[.val (.ref a), .val (.int pv)] [(.int (16 : Int32)), (.int (1 : Int32))])) (fun tg kk => X2.arraylength hx (by rw [e2]; exact Ar3.1) (State.isArrayOf_alike hZ.alike Ar3.2.1) (g := (mkF m 8 #[.val (.ref a), .val (.int pv)] [(.ref b), (.int (1 : Int32))])) rfl rfl (hb hby own_d3_8) _ (by rw [len_of S3 N3]; exact kk)) ?_
  refine OwnGo.back (T2.setTop (mkF m 29 #[.val (.ref a), .val (.int pv)] [])) (fun tg kk => XS.icmpYes X2.here hx rfl (pc0 := 9) (pc' := 29) rfl (hb hby own_d3_9) rfl (feq (by decide : ¬ ((1 : Int32) = (16 : Int32)))).2 (by decide) (by decide) kk) ?_
  refine OwnGo.back (T2.setTop (mkF m 30 #[.val (.ref a), .val (.int pv)] [(.ref a)])) (fun tg kk => XS.aloadN X2.here hx rfl (hb hby own_d3_29) rfl rfl kk) ?_
  obtain ⟨T4, X4, e4, st4⟩ := getF X2 hx hZ hown (host := "") (Or.inl (hw _ (List.mem_of_getElem? (i := 11) rfl))) Via.refl e2 F (g := (mkF m 30 #[.val (.ref a), .val (.int pv)] [(.ref a)])) rfl rfl (hb hby own_d3_30)
  refine OwnGo.back (T4.setTop (mkF m 33 #[.val (.ref a), .val (.int pv)] [(.ref b)])) (fun tg kk => st4 _ kk) ?_
  refine OwnGo.back (T4.setTop (mkF m 34 #[.val (.ref a), .val (.int pv)] [(.ref a), (.ref b)])) (fun tg kk => XS.aloadN X4.here hx rfl (hb hby own_d3_33) rfl rfl kk) ?_
  refine OwnGo.back (T4.setTop (mkF m 35 #[.val (.ref a), .val (.int pv)] [(.ref a), (.ref a), (.ref b)])) (fun tg kk => XS.dup X4.here hx rfl (hb hby own_d3_34) rfl rfl kk) ?_
  obtain ⟨T5, X5, e5, st5⟩ := getF X4 hx hZ hown (host := "") (Or.inl (hw _ (List.mem_of_getElem? (i := 18) rfl))) Via.refl e4 S (g := (mkF m 35 #[.val (.ref a), .val (.int pv)] [(.ref a), (.ref a), (.ref b)])) rfl rfl (hb hby own_d3_35)
  refine OwnGo.back (T5.setTop (mkF m 38 #[.val (.ref a), .val (.int pv)] [(.int (1 : Int32)), (.ref a), (.ref b)])) (fun tg kk => st5 _ kk) ?_
  refine OwnGo.back (T5.setTop (mkF m 39 #[.val (.ref a), .val (.int pv)] [(.int (1 : Int32)), (.ref a), (.int (1 : Int32)), (.ref b)])) (fun tg kk => XS.dupX1 X5.here hx rfl (hb hby own_d3_38) rfl rfl rfl kk) ?_
  refine OwnGo.back (T5.setTop (mkF m 40 #[.val (.ref a), .val (.int pv)] [(.int (1 : Int32)), (.int (1 : Int32)), (.ref a), (.int (1 : Int32)), (.ref b)])) (fun tg kk => XS.iconst X5.here hx rfl (hb hby own_d3_39) kk) ?_
  refine OwnGo.back (T5.setTop (mkF m 41 #[.val (.ref a), .val (.int pv)] [(.int (2 : Int32)), (.ref a), (.int (1 : Int32)), (.ref b)])) (fun tg kk => XS.iadd X5.here hx rfl (hb hby own_d3_40) rfl kk) ?_
  obtain ⟨T6, h6, X6, e6, W6, st6⟩ := putF X5 hx hZ hown (host := "") (Or.inl (hw _ (List.mem_of_getElem? (i := 18) rfl))) Via.refl e5 S E (Or.inl (hw _ (List.mem_of_getElem? (i := 19) rfl))) (hw _ (List.mem_of_getElem? (i := 2) rfl)) (ty := .int) (by decide) rfl rfl (g := (mkF m 41 #[.val (.ref a), .val (.int pv)] [(.int (2 : Int32)), (.ref a), (.int (1 : Int32)), (.ref b)])) rfl rfl (hb hby own_d3_41)
  have f7 : Fld Z h6 a "plainsight/grammar/IntList" "size" "I" (.int (2 : Int32)) := S.same W6
  have f8 : Exa Z h6 a "plainsight/grammar/IntList" := E.wr W6
  have f9 : Fld Z h6 a "plainsight/grammar/IntList" "values" "[I" (.ref b) := F.other W6 (Or.inr (slot_ne (Or.inl (hw _ (List.mem_of_getElem? (i := 12) rfl))) (Or.inl (hw _ (List.mem_of_getElem? (i := 19) rfl))) (by decide) (t := (.array .int)) (t' := .int) (by decide) (by decide)))
  have f10 : Arv Z h6 b kb .int (16 : Int32) [v0, v1, v2] (.int (0 : Int32)) := V.other W6 (Ne.symm n)
  have K11 : Keep h0 h6 [a, b] := K0.wr W6 (Or.inl (List.mem_of_getElem? (i := 0) rfl))
  have Z12 : n0 ≤ h6.size := Nat.le_trans Z0 (Keep.of_wr W6).1
  have N13 := Fr.snoc X6 N0 g
  refine OwnGo.back (T6.setTop (mkF m 44 #[.val (.ref a), .val (.int pv)] [(.int (1 : Int32)), (.ref b)])) (fun tg kk => st6 _ kk) ?_
  refine OwnGo.back (T6.setTop (mkF m 45 #[.val (.ref a), .val (.int pv)] [(.int pv), (.int (1 : Int32)), (.ref b)])) (fun tg kk => XS.iloadN X6.here hx rfl (hb hby own_d3_44) rfl kk) ?_
  obtain ⟨cl14, Ar14, q14, S14, N14, H14, G14⟩ := id f10
  have hin14 : ¬ ((1 : Int32) < 0 ∨ cl14.slots.size ≤ ((1 : Int32)).toNatClampNeg) := inb_of S14 ⟨by decide, by decide⟩
  obtain ⟨T15, h15, X15, e15, W15, st15⟩ := stI X6 hx hZ e6 Ar14 (j := (1 : Int32)) hin14 (g := (mkF m 45 #[.val (.ref a), .val (.int pv)] [(.int pv), (.int (1 : Int32)), (.ref b)])) rfl rfl (hb hby own_d3_45)
  have f16 : Arv Z h15 b kb .int (16 : Int32) [v0, (.int pv), v2] (.int (0 : Int32)) := Arv.set Ar14 q14 S14 N14 H14 G14 rfl W15 1 rfl (Nat.le_of_ble_eq_true rfl)
  have f17 : Exa Z h15 a "plainsight/grammar/IntList" := f8.wr W15
  have f18 : Fld Z h15 a "plainsight/grammar/IntList" "values" "[I" (.ref b) := f9.other W15 (Or.inl n)
  have f19 : Fld Z h15 a "plainsight/grammar/IntList" "size" "I" (.int (2 : Int32)) := f7.other W15 (Or.inl n)
  have K20 : Keep h0 h15 [a, b] := K11.wr W15 (Or.inl (List.mem_of_getElem? (i := 1) rfl))
  have Z21 : n0 ≤ h15.size := Nat.le_trans Z12 (Keep.of_wr W15).1
  have N22 := Fr.snoc X15 N13 g'
  refine OwnGo.back (T15.setTop (mkF m 46 #[.val (.ref a), .val (.int pv)] [])) (fun tg kk => st15 _ kk) ?_
  obtain ⟨fs, hr, hrun, hended, hW, hsame⟩ := X15.leave (v := none) (fun _ => rfl)
  refine ⟨_, _, ?_, hrun, hended, _, _, rfl, ?_, ⟨_, rfl⟩, hW, hsame.mono (by decide) (by decide)⟩
  · exact X15.returnOut hx Bd.returns (hb hby own_d3_46) hr
  · show own_add1_Q Z a pv b kb v0 v1 v2 h0 n0 _ T15.heap _
    rw [e15]
    exact ⟨rfl, N22, K20, f17, f18, f19, f16⟩
theorem own_pop2_ef (m : MethodId) (x0 : Addr) : entryFrame m #[(.ref x0)] 1 = mkF m 0 #[.val (.ref x0)] [] := by first | (simp [entryFrame, mkF, argsToLocals, Value.category]; done) | rfl
def own_pop2_Q (Z : State) (a : Addr) (b : Addr) (kb : ClassId) (u : Int32) (v0 : Value) (v2 : Value) (h0 : Heap) (n0 : Nat) (rv : Option Value) (hN : Heap) (LL : List Loc) : Prop := rv = some (.int u) ∧ Fr n0 LL ∧ Keep h0 hN [a] ∧ Exa Z hN a "plainsight/grammar/IntList" ∧ Fld Z hN a "plainsight/grammar/IntList" "values" "[I" (.ref b) ∧ Fld Z hN a "plainsight/grammar/IntList" "size" "I" (.int (1 : Int32)) ∧ Arv Z hN b kb .int (16 : Int32) [v0, (.int u), v2] (.int (0 : Int32))
set_option maxRecDepth 65536 in
set_option maxHeartbeats 40000000 in
theorem own_pop2 (l : Launch) (Z : State) (a0 : Array Value) (hw : ∀ d ∈ tables_1, d.before a0 Z = true) (ws : List Jvm.Cond) (a : Addr) (b : Addr) (kb : ClassId) (u : Int32) (v0 : Value) (v2 : Value) (h0 : Heap) (n0 : Nat) (Z0 : n0 ≤ h0.size) (E : Exa Z h0 a "plainsight/grammar/IntList") (F : Fld Z h0 a "plainsight/grammar/IntList" "values" "[I" (.ref b)) (S : Fld Z h0 a "plainsight/grammar/IntList" "size" "I" (.int (2 : Int32))) (V : Arv Z h0 b kb .int (16 : Int32) [v0, (.int u), v2] (.int (0 : Int32))) (g : n0 ≤ a) (g' : n0 ≤ b) (n : a ≠ b) :
    MetFree l (⟨"plainsight/grammar/IntList", "pop", "()I"⟩ : MethodName) (head1 (Jvm.Cond.code (⟨"plainsight/grammar/IntList", "pop", "()I"⟩ : MethodName) prog_86_method_6_code 1 (some .int) :: ws) ({ frames := 0, cells := 0, slots := 0, locals := 0 } : Room)) (fun aa UU => aa = #[(.ref a)] ∧ Z.Warmed39 UU.vm ∧ UU.heap = h0) (fun _ _ _ _ _ => True) (fun _ UU oo UU' => ∃ rv LL, oo = .returned rv ∧ own_pop2_Q Z a b kb u v0 v2 h0 n0 rv UU'.heap LL ∧ FrameEnd UU oo UU' LL ({ frames := 0, cells := 0, slots := 0, locals := 0 } : Room).cells ({ frames := 0, cells := 0, slots := 0, locals := 0 } : Room).slots) := by
  refine MetFree.of_bodySF (plainFor_of_name own_pn0) hisR ?_
  intro p e s m args below meth c s₁ Bd hml0 hP hK
  obtain ⟨rfl, hZ, hh⟩ := hP
  have hx := Bd.exec
  have hby := Bd.bytes
  have hml : c.maxLocals = 1 := hml0
  have hown : s.vm.findClass "plainsight/grammar/IntList" = some m.cls := findClass_of_methodNamed Bd.named
  have hnm := (name_of_methodNamed Bd.named Bd.method).1
  have X0 : Stand p l e ({ frames := 0, cells := 0, slots := 0, locals := 0 } : Room) s m #[(.ref a)] below meth c s₁ [] 0 0 := Stand.of_body Bd
  have e0 : s₁.heap = h0 := by rw [← hh, Bd.state]; rfl
  have N0 := Fr.nil n0
  have K0 : Keep h0 h0 [a] := Keep.refl h0 _
  refine (?_ : OwnGo p.tables e below (fun UU' oo => ∃ rv LL, oo = .returned rv ∧ own_pop2_Q Z a b kb u v0 v2 h0 n0 rv UU'.heap LL ∧ FrameEnd s oo UU' LL ({ frames := 0, cells := 0, slots := 0, locals := 0 } : Room).cells ({ frames := 0, cells := 0, slots := 0, locals := 0 } : Room).slots) _)
  refine OwnGo.back (s₁.setTop (mkF m 0 #[.val (.ref a)] [])) (fun tg kk => castTop (own_pop2_ef m a) kk) ?_
  refine OwnGo.back (s₁.setTop (mkF m 1 #[.val (.ref a)] [(.ref a)])) (fun tg kk => XS.aloadN X0.here hx rfl (hb hby own_d4_0) rfl rfl kk) ?_
  obtain ⟨T1, X1, e1, st1⟩ := getF X0 hx hZ hown (host := "") (Or.inl (hw _ (List.mem_of_getElem? (i := 11) rfl))) Via.refl e0 F (g := (mkF m 1 #[.val (.ref a)] [(.ref a)])) rfl rfl (hb hby own_d4_1)
  refine OwnGo.back (T1.setTop (mkF m 4 #[.val (.ref a)] [(.ref b)])) (fun tg kk => st1 _ kk) ?_
  refine OwnGo.back (T1.setTop (mkF m 5 #[.val (.ref a)] [(.ref a), (.ref b)])) (fun tg kk => XS.aloadN X1.here hx rfl (hb hby own_d4_4) rfl rfl kk) ?_
  refine OwnGo.back (T1.setTop (mkF m 6 #[.val (.ref a)] [(.ref a), (.ref a), (.ref b)])) (fun tg kk => XS.dup X1.here hx rfl (hb hby own_d4_5) rfl rfl kk) ?_
  obtain ⟨T2, X2, e2, st2⟩ := getF X1 hx hZ hown (host := "") (Or.inl (hw _ (List.mem_of_getElem? (i := 18) rfl))) Via.refl e1 S (g := (mkF m 6 #[.val (.ref a)] [(.ref a), (.ref a), (.ref b)])) rfl rfl (hb hby own_d4_6)
  refine OwnGo.back (T2.setTop (mkF m 9 #[.val (.ref a)] [(.int (2 : Int32)), (.ref a), (.ref b)])) (fun tg kk => st2 _ kk) ?_
  refine OwnGo.back (T2.setTop (mkF m 10 #[.val (.ref a)] [(.int (1 : Int32)), (.int (2 : Int32)), (.ref a), (.ref b)])) (fun tg kk => XS.iconst X2.here hx rfl (hb hby own_d4_9) kk) ?_
  refine OwnGo.back (T2.setTop (mkF m 11 #[.val (.ref a)] [(.int (1 : Int32)), (.ref a), (.ref b)])) (fun tg kk => XS.isub X2.here hx rfl (hb hby own_d4_10) rfl kk) ?_
  refine OwnGo.back (T2.setTop (mkF m 12 #[.val (.ref a)] [(.int (1 : Int32)), (.ref a), (.int (1 : Int32)), (.ref b)])) (fun tg kk => XS.dupX1 X2.here hx rfl (hb hby own_d4_11) rfl rfl rfl kk) ?_
  obtain ⟨T3, h3, X3, e3, W3, st3⟩ := putF X2 hx hZ hown (host := "") (Or.inl (hw _ (List.mem_of_getElem? (i := 18) rfl))) Via.refl e2 S E (Or.inl (hw _ (List.mem_of_getElem? (i := 19) rfl))) (hw _ (List.mem_of_getElem? (i := 2) rfl)) (ty := .int) (by decide) rfl rfl (g := (mkF m 12 #[.val (.ref a)] [(.int (1 : Int32)), (.ref a), (.int (1 : Int32)), (.ref b)])) rfl rfl (hb hby own_d4_12)
  have f4 : Fld Z h3 a "plainsight/grammar/IntList" "size" "I" (.int (1 : Int32)) := S.same W3
  have f5 : Exa Z h3 a "plainsight/grammar/IntList" := E.wr W3
  have f6 : Fld Z h3 a "plainsight/grammar/IntList" "values" "[I" (.ref b) := F.other W3 (Or.inr (slot_ne (Or.inl (hw _ (List.mem_of_getElem? (i := 12) rfl))) (Or.inl (hw _ (List.mem_of_getElem? (i := 19) rfl))) (by decide) (t := (.array .int)) (t' := .int) (by decide) (by decide)))
  have f7 : Arv Z h3 b kb .int (16 : Int32) [v0, (.int u), v2] (.int (0 : Int32)) := V.other W3 (Ne.symm n)
  have K8 : Keep h0 h3 [a] := K0.wr W3 (Or.inl (List.mem_of_getElem? (i := 0) rfl))
  have Z9 : n0 ≤ h3.size := Nat.le_trans Z0 (Keep.of_wr W3).1
  have N10 := Fr.snoc X3 N0 g
  refine OwnGo.back (T3.setTop (mkF m 15 #[.val (.ref a)] [(.int (1 : Int32)), (.ref b)])) (fun tg kk => st3 _ kk) ?_
  obtain ⟨cl11, Ar11, q11, S11, N11, H11, G11⟩ := id f7
  have hin11 : ¬ ((1 : Int32) < 0 ∨ cl11.slots.size ≤ ((1 : Int32)).toNatClampNeg) := inb_of S11 ⟨by decide, by decide⟩
  have hat11 : cl11.slots[((1 : Int32)).toNatClampNeg]? = some (.int u) := Has.at H11 hin11 rfl
  refine OwnGo.back (T3.setTop (mkF m 16 #[.val (.ref a)] [(.int u)])) (fun tg kk => X3.iaload hx (j := (1 : Int32)) (v := (.int u)) (by rw [e3]; exact Ar11.1) (State.isArrayOf_alike hZ.alike Ar11.2.1) Ar11.2.2 hin11 hat11 (g := (mkF m 15 #[.val (.ref a)] [(.int (1 : Int32)), (.ref b)])) rfl rfl (hb hby own_d4_15) _ kk) ?_
  obtain ⟨fs, hr, hrun, hended, hW, hsame⟩ := X3.leave (v := some (.int u)) (fun h => by rw [Bd.returns] at h; cases h)
  refine ⟨_, _, ?_, hrun, hended, _, _, rfl, ?_, ⟨_, rfl⟩, hW, hsame.mono (by decide) (by decide)⟩
  · exact own_retI X3 hx Bd.returns (hb hby own_d4_16) hr
  · show own_pop2_Q Z a b kb u v0 v2 h0 n0 _ T3.heap _
    rw [e3]
    exact ⟨rfl, N10, K8, f5, f6, f4, f7⟩
theorem own_add2_ef (m : MethodId) (x0 : Addr) (x1 : Int32) : entryFrame m #[(.ref x0), (.int x1)] 2 = mkF m 0 #[.val (.ref x0), .val (.int x1)] [] := by first | (simp [entryFrame, mkF, argsToLocals, Value.category]; done) | rfl
def own_add2_Q (Z : State) (a : Addr) (pv : Int32) (b : Addr) (kb : ClassId) (v0 : Value) (v1 : Value) (v2 : Value) (h0 : Heap) (n0 : Nat) (rv : Option Value) (hN : Heap) (LL : List Loc) : Prop := rv = none ∧ Fr n0 LL ∧ Keep h0 hN [a, b] ∧ Exa Z hN a "plainsight/grammar/IntList" ∧ Fld Z hN a "plainsight/grammar/IntList" "values" "[I" (.ref b) ∧ Fld Z hN a "plainsight/grammar/IntList" "size" "I" (.int (3 : Int32)) ∧ Arv Z hN b kb .int (16 : Int32) [v0, v1, (.int pv)] (.int (0 : Int32))
set_option maxRecDepth 65536 in
set_option maxHeartbeats 40000000 in
theorem own_add2 (l : Launch) (Z : State) (a0 : Array Value) (hw : ∀ d ∈ tables_1, d.before a0 Z = true) (ws : List Jvm.Cond) (a : Addr) (pv : Int32) (b : Addr) (kb : ClassId) (v0 : Value) (v1 : Value) (v2 : Value) (h0 : Heap) (n0 : Nat) (Z0 : n0 ≤ h0.size) (E : Exa Z h0 a "plainsight/grammar/IntList") (F : Fld Z h0 a "plainsight/grammar/IntList" "values" "[I" (.ref b)) (S : Fld Z h0 a "plainsight/grammar/IntList" "size" "I" (.int (2 : Int32))) (V : Arv Z h0 b kb .int (16 : Int32) [v0, v1, v2] (.int (0 : Int32))) (g : n0 ≤ a) (g' : n0 ≤ b) (n : a ≠ b) :
    MetFree l (⟨"plainsight/grammar/IntList", "add", "(I)V"⟩ : MethodName) (head1 (Jvm.Cond.code (⟨"plainsight/grammar/IntList", "add", "(I)V"⟩ : MethodName) prog_86_method_5_code 2 none :: ws) ({ frames := 0, cells := 0, slots := 0, locals := 0 } : Room)) (fun aa UU => aa = #[(.ref a), (.int pv)] ∧ Z.Warmed39 UU.vm ∧ UU.heap = h0) (fun _ _ _ _ _ => True) (fun _ UU oo UU' => ∃ rv LL, oo = .returned rv ∧ own_add2_Q Z a pv b kb v0 v1 v2 h0 n0 rv UU'.heap LL ∧ FrameEnd UU oo UU' LL ({ frames := 0, cells := 0, slots := 0, locals := 0 } : Room).cells ({ frames := 0, cells := 0, slots := 0, locals := 0 } : Room).slots) := by
  refine MetFree.of_bodySF (plainFor_of_name own_pn0) hisR ?_
  intro p e s m args below meth c s₁ Bd hml0 hP hK
  obtain ⟨rfl, hZ, hh⟩ := hP
  have hx := Bd.exec
  have hby := Bd.bytes
  have hml : c.maxLocals = 2 := hml0
  have hown : s.vm.findClass "plainsight/grammar/IntList" = some m.cls := findClass_of_methodNamed Bd.named
  have hnm := (name_of_methodNamed Bd.named Bd.method).1
  have X0 : Stand p l e ({ frames := 0, cells := 0, slots := 0, locals := 0 } : Room) s m #[(.ref a), (.int pv)] below meth c s₁ [] 0 0 := Stand.of_body Bd
  have e0 : s₁.heap = h0 := by rw [← hh, Bd.state]; rfl
  have N0 := Fr.nil n0
  have K0 : Keep h0 h0 [a, b] := Keep.refl h0 _
  refine (?_ : OwnGo p.tables e below (fun UU' oo => ∃ rv LL, oo = .returned rv ∧ own_add2_Q Z a pv b kb v0 v1 v2 h0 n0 rv UU'.heap LL ∧ FrameEnd s oo UU' LL ({ frames := 0, cells := 0, slots := 0, locals := 0 } : Room).cells ({ frames := 0, cells := 0, slots := 0, locals := 0 } : Room).slots) _)
  refine OwnGo.back (s₁.setTop (mkF m 0 #[.val (.ref a), .val (.int pv)] [])) (fun tg kk => castTop (own_add2_ef m a pv) kk) ?_
  refine OwnGo.back (s₁.setTop (mkF m 1 #[.val (.ref a), .val (.int pv)] [(.ref a)])) (fun tg kk => XS.aloadN X0.here hx rfl (hb hby own_d3_0) rfl rfl kk) ?_
  obtain ⟨T1, X1, e1, st1⟩ := getF X0 hx hZ hown (host := "") (Or.inl (hw _ (List.mem_of_getElem? (i := 18) rfl))) Via.refl e0 S (g := (mkF m 1 #[.val (.ref a), .val (.int pv)] [(.ref a)])) rfl rfl (hb hby own_d3_1)
  refine OwnGo.back (T1.setTop (mkF m 4 #[.val (.ref a), .val (.int pv)] [(.int (2 : Int32))])) (fun tg kk => st1 _ kk) ?_
  refine OwnGo.back (T1.setTop (mkF m 5 #[.val (.ref a), .val (.int pv)] [(.ref a), (.int (2 : Int32))])) (fun tg kk => XS.aloadN X1.here hx rfl (hb hby own_d3_4) rfl rfl kk) ?_
  obtain ⟨T2, X2, e2, st2⟩ := getF X1 hx hZ hown (host := "") (Or.inl (hw _ (List.mem_of_getElem? (i := 11) rfl))) Via.refl e1 F (g := (mkF m 5 #[.val (.ref a), .val (.int pv)] [(.ref a), (.int (2 : Int32))])) rfl rfl (hb hby own_d3_5)
  refine OwnGo.back (T2.setTop (mkF m 8 #[.val (.ref a), .val (.int pv)] [(.ref b), (.int (2 : Int32))])) (fun tg kk => st2 _ kk) ?_
  obtain ⟨cl3, Ar3, -, S3, N3, -, -⟩ := id V
  refine OwnGo.back (T2.setTop (mkF m 9 #[.val (.ref a), .val (.int pv)] [(.int (16 : Int32)), (.int (2 : Int32))])) (fun tg kk => X2.arraylength hx (by rw [e2]; exact Ar3.1) (State.isArrayOf_alike hZ.alike Ar3.2.1) (g := (mkF m 8 #[.val (.ref a), .val (.int pv)] [(.ref b), (.int (2 : Int32))])) rfl rfl (hb hby own_d3_8) _ (by rw [len_of S3 N3]; exact kk)) ?_
  refine OwnGo.back (T2.setTop (mkF m 29 #[.val (.ref a), .val (.int pv)] [])) (fun tg kk => XS.icmpYes X2.here hx rfl (pc0 := 9) (pc' := 29) rfl (hb hby own_d3_9) rfl (feq (by decide : ¬ ((2 : Int32) = (16 : Int32)))).2 (by decide) (by decide) kk) ?_
  refine OwnGo.back (T2.setTop (mkF m 30 #[.val (.ref a), .val (.int pv)] [(.ref a)])) (fun tg kk => XS.aloadN X2.here hx rfl (hb hby own_d3_29) rfl rfl kk) ?_
  obtain ⟨T4, X4, e4, st4⟩ := getF X2 hx hZ hown (host := "") (Or.inl (hw _ (List.mem_of_getElem? (i := 11) rfl))) Via.refl e2 F (g := (mkF m 30 #[.val (.ref a), .val (.int pv)] [(.ref a)])) rfl rfl (hb hby own_d3_30)
  refine OwnGo.back (T4.setTop (mkF m 33 #[.val (.ref a), .val (.int pv)] [(.ref b)])) (fun tg kk => st4 _ kk) ?_
  refine OwnGo.back (T4.setTop (mkF m 34 #[.val (.ref a), .val (.int pv)] [(.ref a), (.ref b)])) (fun tg kk => XS.aloadN X4.here hx rfl (hb hby own_d3_33) rfl rfl kk) ?_
  refine OwnGo.back (T4.setTop (mkF m 35 #[.val (.ref a), .val (.int pv)] [(.ref a), (.ref a), (.ref b)])) (fun tg kk => XS.dup X4.here hx rfl (hb hby own_d3_34) rfl rfl kk) ?_
  obtain ⟨T5, X5, e5, st5⟩ := getF X4 hx hZ hown (host := "") (Or.inl (hw _ (List.mem_of_getElem? (i := 18) rfl))) Via.refl e4 S (g := (mkF m 35 #[.val (.ref a), .val (.int pv)] [(.ref a), (.ref a), (.ref b)])) rfl rfl (hb hby own_d3_35)
  refine OwnGo.back (T5.setTop (mkF m 38 #[.val (.ref a), .val (.int pv)] [(.int (2 : Int32)), (.ref a), (.ref b)])) (fun tg kk => st5 _ kk) ?_
  refine OwnGo.back (T5.setTop (mkF m 39 #[.val (.ref a), .val (.int pv)] [(.int (2 : Int32)), (.ref a), (.int (2 : Int32)), (.ref b)])) (fun tg kk => XS.dupX1 X5.here hx rfl (hb hby own_d3_38) rfl rfl rfl kk) ?_
  refine OwnGo.back (T5.setTop (mkF m 40 #[.val (.ref a), .val (.int pv)] [(.int (1 : Int32)), (.int (2 : Int32)), (.ref a), (.int (2 : Int32)), (.ref b)])) (fun tg kk => XS.iconst X5.here hx rfl (hb hby own_d3_39) kk) ?_
  refine OwnGo.back (T5.setTop (mkF m 41 #[.val (.ref a), .val (.int pv)] [(.int (3 : Int32)), (.ref a), (.int (2 : Int32)), (.ref b)])) (fun tg kk => XS.iadd X5.here hx rfl (hb hby own_d3_40) rfl kk) ?_
  obtain ⟨T6, h6, X6, e6, W6, st6⟩ := putF X5 hx hZ hown (host := "") (Or.inl (hw _ (List.mem_of_getElem? (i := 18) rfl))) Via.refl e5 S E (Or.inl (hw _ (List.mem_of_getElem? (i := 19) rfl))) (hw _ (List.mem_of_getElem? (i := 2) rfl)) (ty := .int) (by decide) rfl rfl (g := (mkF m 41 #[.val (.ref a), .val (.int pv)] [(.int (3 : Int32)), (.ref a), (.int (2 : Int32)), (.ref b)])) rfl rfl (hb hby own_d3_41)
  have f7 : Fld Z h6 a "plainsight/grammar/IntList" "size" "I" (.int (3 : Int32)) := S.same W6
  have f8 : Exa Z h6 a "plainsight/grammar/IntList" := E.wr W6
  have f9 : Fld Z h6 a "plainsight/grammar/IntList" "values" "[I" (.ref b) := F.other W6 (Or.inr (slot_ne (Or.inl (hw _ (List.mem_of_getElem? (i := 12) rfl))) (Or.inl (hw _ (List.mem_of_getElem? (i := 19) rfl))) (by decide) (t := (.array .int)) (t' := .int) (by decide) (by decide)))
  have f10 : Arv Z h6 b kb .int (16 : Int32) [v0, v1, v2] (.int (0 : Int32)) := V.other W6 (Ne.symm n)
  have K11 : Keep h0 h6 [a, b] := K0.wr W6 (Or.inl (List.mem_of_getElem? (i := 0) rfl))
  have Z12 : n0 ≤ h6.size := Nat.le_trans Z0 (Keep.of_wr W6).1
  have N13 := Fr.snoc X6 N0 g
  refine OwnGo.back (T6.setTop (mkF m 44 #[.val (.ref a), .val (.int pv)] [(.int (2 : Int32)), (.ref b)])) (fun tg kk => st6 _ kk) ?_
  refine OwnGo.back (T6.setTop (mkF m 45 #[.val (.ref a), .val (.int pv)] [(.int pv), (.int (2 : Int32)), (.ref b)])) (fun tg kk => XS.iloadN X6.here hx rfl (hb hby own_d3_44) rfl kk) ?_
  obtain ⟨cl14, Ar14, q14, S14, N14, H14, G14⟩ := id f10
  have hin14 : ¬ ((2 : Int32) < 0 ∨ cl14.slots.size ≤ ((2 : Int32)).toNatClampNeg) := inb_of S14 ⟨by decide, by decide⟩
  obtain ⟨T15, h15, X15, e15, W15, st15⟩ := stI X6 hx hZ e6 Ar14 (j := (2 : Int32)) hin14 (g := (mkF m 45 #[.val (.ref a), .val (.int pv)] [(.int pv), (.int (2 : Int32)), (.ref b)])) rfl rfl (hb hby own_d3_45)
  have f16 : Arv Z h15 b kb .int (16 : Int32) [v0, v1, (.int pv)] (.int (0 : Int32)) := Arv.set Ar14 q14 S14 N14 H14 G14 rfl W15 2 rfl (Nat.le_of_ble_eq_true rfl)
  have f17 : Exa Z h15 a "plainsight/grammar/IntList" := f8.wr W15
  have f18 : Fld Z h15 a "plainsight/grammar/IntList" "values" "[I" (.ref b) := f9.other W15 (Or.inl n)
  have f19 : Fld Z h15 a "plainsight/grammar/IntList" "size" "I" (.int (3 : Int32)) := f7.other W15 (Or.inl n)
  have K20 : Keep h0 h15 [a, b] := K11.wr W15 (Or.inl (List.mem_of_getElem? (i := 1) rfl))
  have Z21 : n0 ≤ h15.size := Nat.le_trans Z12 (Keep.of_wr W15).1
  have N22 := Fr.snoc X15 N13 g'
  refine OwnGo.back (T15.setTop (mkF m 46 #[.val (.ref a), .val (.int pv)] [])) (fun tg kk => st15 _ kk) ?_
  obtain ⟨fs, hr, hrun, hended, hW, hsame⟩ := X15.leave (v := none) (fun _ => rfl)
  refine ⟨_, _, ?_, hrun, hended, _, _, rfl, ?_, ⟨_, rfl⟩, hW, hsame.mono (by decide) (by decide)⟩
  · exact X15.returnOut hx Bd.returns (hb hby own_d3_46) hr
  · show own_add2_Q Z a pv b kb v0 v1 v2 h0 n0 _ T15.heap _
    rw [e15]
    exact ⟨rfl, N22, K20, f17, f18, f19, f16⟩
theorem own_pop3_ef (m : MethodId) (x0 : Addr) : entryFrame m #[(.ref x0)] 1 = mkF m 0 #[.val (.ref x0)] [] := by first | (simp [entryFrame, mkF, argsToLocals, Value.category]; done) | rfl
def own_pop3_Q (Z : State) (a : Addr) (b : Addr) (kb : ClassId) (u : Int32) (v0 : Value) (v1 : Value) (h0 : Heap) (n0 : Nat) (rv : Option Value) (hN : Heap) (LL : List Loc) : Prop := rv = some (.int u) ∧ Fr n0 LL ∧ Keep h0 hN [a] ∧ Exa Z hN a "plainsight/grammar/IntList" ∧ Fld Z hN a "plainsight/grammar/IntList" "values" "[I" (.ref b) ∧ Fld Z hN a "plainsight/grammar/IntList" "size" "I" (.int (2 : Int32)) ∧ Arv Z hN b kb .int (16 : Int32) [v0, v1, (.int u)] (.int (0 : Int32))
set_option maxRecDepth 65536 in
set_option maxHeartbeats 40000000 in
theorem own_pop3 (l : Launch) (Z : State) (a0 : Array Value) (hw : ∀ d ∈ tables_1, d.before a0 Z = true) (ws : List Jvm.Cond) (a : Addr) (b : Addr) (kb : ClassId) (u : Int32) (v0 : Value) (v1 : Value) (h0 : Heap) (n0 : Nat) (Z0 : n0 ≤ h0.size) (E : Exa Z h0 a "plainsight/grammar/IntList") (F : Fld Z h0 a "plainsight/grammar/IntList" "values" "[I" (.ref b)) (S : Fld Z h0 a "plainsight/grammar/IntList" "size" "I" (.int (3 : Int32))) (V : Arv Z h0 b kb .int (16 : Int32) [v0, v1, (.int u)] (.int (0 : Int32))) (g : n0 ≤ a) (g' : n0 ≤ b) (n : a ≠ b) :
    MetFree l (⟨"plainsight/grammar/IntList", "pop", "()I"⟩ : MethodName) (head1 (Jvm.Cond.code (⟨"plainsight/grammar/IntList", "pop", "()I"⟩ : MethodName) prog_86_method_6_code 1 (some .int) :: ws) ({ frames := 0, cells := 0, slots := 0, locals := 0 } : Room)) (fun aa UU => aa = #[(.ref a)] ∧ Z.Warmed39 UU.vm ∧ UU.heap = h0) (fun _ _ _ _ _ => True) (fun _ UU oo UU' => ∃ rv LL, oo = .returned rv ∧ own_pop3_Q Z a b kb u v0 v1 h0 n0 rv UU'.heap LL ∧ FrameEnd UU oo UU' LL ({ frames := 0, cells := 0, slots := 0, locals := 0 } : Room).cells ({ frames := 0, cells := 0, slots := 0, locals := 0 } : Room).slots) := by
  refine MetFree.of_bodySF (plainFor_of_name own_pn0) hisR ?_
  intro p e s m args below meth c s₁ Bd hml0 hP hK
  obtain ⟨rfl, hZ, hh⟩ := hP
  have hx := Bd.exec
  have hby := Bd.bytes
  have hml : c.maxLocals = 1 := hml0
  have hown : s.vm.findClass "plainsight/grammar/IntList" = some m.cls := findClass_of_methodNamed Bd.named
  have hnm := (name_of_methodNamed Bd.named Bd.method).1
  have X0 : Stand p l e ({ frames := 0, cells := 0, slots := 0, locals := 0 } : Room) s m #[(.ref a)] below meth c s₁ [] 0 0 := Stand.of_body Bd
  have e0 : s₁.heap = h0 := by rw [← hh, Bd.state]; rfl
  have N0 := Fr.nil n0
  have K0 : Keep h0 h0 [a] := Keep.refl h0 _
  refine (?_ : OwnGo p.tables e below (fun UU' oo => ∃ rv LL, oo = .returned rv ∧ own_pop3_Q Z a b kb u v0 v1 h0 n0 rv UU'.heap LL ∧ FrameEnd s oo UU' LL ({ frames := 0, cells := 0, slots := 0, locals := 0 } : Room).cells ({ frames := 0, cells := 0, slots := 0, locals := 0 } : Room).slots) _)
  refine OwnGo.back (s₁.setTop (mkF m 0 #[.val (.ref a)] [])) (fun tg kk => castTop (own_pop3_ef m a) kk) ?_
  refine OwnGo.back (s₁.setTop (mkF m 1 #[.val (.ref a)] [(.ref a)])) (fun tg kk => XS.aloadN X0.here hx rfl (hb hby own_d4_0) rfl rfl kk) ?_
  obtain ⟨T1, X1, e1, st1⟩ := getF X0 hx hZ hown (host := "") (Or.inl (hw _ (List.mem_of_getElem? (i := 11) rfl))) Via.refl e0 F (g := (mkF m 1 #[.val (.ref a)] [(.ref a)])) rfl rfl (hb hby own_d4_1)
  refine OwnGo.back (T1.setTop (mkF m 4 #[.val (.ref a)] [(.ref b)])) (fun tg kk => st1 _ kk) ?_
  refine OwnGo.back (T1.setTop (mkF m 5 #[.val (.ref a)] [(.ref a), (.ref b)])) (fun tg kk => XS.aloadN X1.here hx rfl (hb hby own_d4_4) rfl rfl kk) ?_
  refine OwnGo.back (T1.setTop (mkF m 6 #[.val (.ref a)] [(.ref a), (.ref a), (.ref b)])) (fun tg kk => XS.dup X1.here hx rfl (hb hby own_d4_5) rfl rfl kk) ?_
  obtain ⟨T2, X2, e2, st2⟩ := getF X1 hx hZ hown (host := "") (Or.inl (hw _ (List.mem_of_getElem? (i := 18) rfl))) Via.refl e1 S (g := (mkF m 6 #[.val (.ref a)] [(.ref a), (.ref a), (.ref b)])) rfl rfl (hb hby own_d4_6)
  refine OwnGo.back (T2.setTop (mkF m 9 #[.val (.ref a)] [(.int (3 : Int32)), (.ref a), (.ref b)])) (fun tg kk => st2 _ kk) ?_
  refine OwnGo.back (T2.setTop (mkF m 10 #[.val (.ref a)] [(.int (1 : Int32)), (.int (3 : Int32)), (.ref a), (.ref b)])) (fun tg kk => XS.iconst X2.here hx rfl (hb hby own_d4_9) kk) ?_
  refine OwnGo.back (T2.setTop (mkF m 11 #[.val (.ref a)] [(.int (2 : Int32)), (.ref a), (.ref b)])) (fun tg kk => XS.isub X2.here hx rfl (hb hby own_d4_10) rfl kk) ?_
  refine OwnGo.back (T2.setTop (mkF m 12 #[.val (.ref a)] [(.int (2 : Int32)), (.ref a), (.int (2 : Int32)), (.ref b)])) (fun tg kk => XS.dupX1 X2.here hx rfl (hb hby own_d4_11) rfl rfl rfl kk) ?_
  obtain ⟨T3, h3, X3, e3, W3, st3⟩ := putF X2 hx hZ hown (host := "") (Or.inl (hw _ (List.mem_of_getElem? (i := 18) rfl))) Via.refl e2 S E (Or.inl (hw _ (List.mem_of_getElem? (i := 19) rfl))) (hw _ (List.mem_of_getElem? (i := 2) rfl)) (ty := .int) (by decide) rfl rfl (g := (mkF m 12 #[.val (.ref a)] [(.int (2 : Int32)), (.ref a), (.int (2 : Int32)), (.ref b)])) rfl rfl (hb hby own_d4_12)
  have f4 : Fld Z h3 a "plainsight/grammar/IntList" "size" "I" (.int (2 : Int32)) := S.same W3
  have f5 : Exa Z h3 a "plainsight/grammar/IntList" := E.wr W3
  have f6 : Fld Z h3 a "plainsight/grammar/IntList" "values" "[I" (.ref b) := F.other W3 (Or.inr (slot_ne (Or.inl (hw _ (List.mem_of_getElem? (i := 12) rfl))) (Or.inl (hw _ (List.mem_of_getElem? (i := 19) rfl))) (by decide) (t := (.array .int)) (t' := .int) (by decide) (by decide)))
  have f7 : Arv Z h3 b kb .int (16 : Int32) [v0, v1, (.int u)] (.int (0 : Int32)) := V.other W3 (Ne.symm n)
  have K8 : Keep h0 h3 [a] := K0.wr W3 (Or.inl (List.mem_of_getElem? (i := 0) rfl))
  have Z9 : n0 ≤ h3.size := Nat.le_trans Z0 (Keep.of_wr W3).1
  have N10 := Fr.snoc X3 N0 g
  refine OwnGo.back (T3.setTop (mkF m 15 #[.val (.ref a)] [(.int (2 : Int32)), (.ref b)])) (fun tg kk => st3 _ kk) ?_
  obtain ⟨cl11, Ar11, q11, S11, N11, H11, G11⟩ := id f7
  have hin11 : ¬ ((2 : Int32) < 0 ∨ cl11.slots.size ≤ ((2 : Int32)).toNatClampNeg) := inb_of S11 ⟨by decide, by decide⟩
  have hat11 : cl11.slots[((2 : Int32)).toNatClampNeg]? = some (.int u) := Has.at H11 hin11 rfl
  refine OwnGo.back (T3.setTop (mkF m 16 #[.val (.ref a)] [(.int u)])) (fun tg kk => X3.iaload hx (j := (2 : Int32)) (v := (.int u)) (by rw [e3]; exact Ar11.1) (State.isArrayOf_alike hZ.alike Ar11.2.1) Ar11.2.2 hin11 hat11 (g := (mkF m 15 #[.val (.ref a)] [(.int (2 : Int32)), (.ref b)])) rfl rfl (hb hby own_d4_15) _ kk) ?_
  obtain ⟨fs, hr, hrun, hended, hW, hsame⟩ := X3.leave (v := some (.int u)) (fun h => by rw [Bd.returns] at h; cases h)
  refine ⟨_, _, ?_, hrun, hended, _, _, rfl, ?_, ⟨_, rfl⟩, hW, hsame.mono (by decide) (by decide)⟩
  · exact own_retI X3 hx Bd.returns (hb hby own_d4_16) hr
  · show own_pop3_Q Z a b kb u v0 v1 h0 n0 _ T3.heap _
    rw [e3]
    exact ⟨rfl, N10, K8, f5, f6, f4, f7⟩
theorem own_size_ef (m : MethodId) (x0 : Addr) : entryFrame m #[(.ref x0)] 1 = mkF m 0 #[.val (.ref x0)] [] := by first | (simp [entryFrame, mkF, argsToLocals, Value.category]; done) | rfl
def own_size_Q (Z : State) (a : Addr) (z : Int32) (h0 : Heap) (n0 : Nat) (rv : Option Value) (hN : Heap) (LL : List Loc) : Prop := rv = some (.int z) ∧ Fr n0 LL ∧ hN = h0
set_option maxRecDepth 65536 in
set_option maxHeartbeats 40000000 in
theorem own_size (l : Launch) (Z : State) (a0 : Array Value) (hw : ∀ d ∈ tables_1, d.before a0 Z = true) (ws : List Jvm.Cond) (a : Addr) (z : Int32) (h0 : Heap) (n0 : Nat) (Z0 : n0 ≤ h0.size) (S : Fld Z h0 a "plainsight/grammar/IntList" "size" "I" (.int z)) :
    MetFree l (⟨"plainsight/grammar/IntList", "size", "()I"⟩ : MethodName) (head1 (Jvm.Cond.code (⟨"plainsight/grammar/IntList", "size", "()I"⟩ : MethodName) prog_86_method_2_code 1 (some .int) :: ws) ({ frames := 0, cells := 0, slots := 0, locals := 0 } : Room)) (fun aa UU => aa = #[(.ref a)] ∧ Z.Warmed39 UU.vm ∧ UU.heap = h0) (fun _ _ _ _ _ => True) (fun _ UU oo UU' => ∃ rv LL, oo = .returned rv ∧ own_size_Q Z a z h0 n0 rv UU'.heap LL ∧ FrameEnd UU oo UU' LL ({ frames := 0, cells := 0, slots := 0, locals := 0 } : Room).cells ({ frames := 0, cells := 0, slots := 0, locals := 0 } : Room).slots) := by
  refine MetFree.of_bodySF (plainFor_of_name own_pn0) hisR ?_
  intro p e s m args below meth c s₁ Bd hml0 hP hK
  obtain ⟨rfl, hZ, hh⟩ := hP
  have hx := Bd.exec
  have hby := Bd.bytes
  have hml : c.maxLocals = 1 := hml0
  have hown : s.vm.findClass "plainsight/grammar/IntList" = some m.cls := findClass_of_methodNamed Bd.named
  have hnm := (name_of_methodNamed Bd.named Bd.method).1
  have X0 : Stand p l e ({ frames := 0, cells := 0, slots := 0, locals := 0 } : Room) s m #[(.ref a)] below meth c s₁ [] 0 0 := Stand.of_body Bd
  have e0 : s₁.heap = h0 := by rw [← hh, Bd.state]; rfl
  have N0 := Fr.nil n0
  have K0 : Keep h0 h0 [] := Keep.refl h0 _
  refine (?_ : OwnGo p.tables e below (fun UU' oo => ∃ rv LL, oo = .returned rv ∧ own_size_Q Z a z h0 n0 rv UU'.heap LL ∧ FrameEnd s oo UU' LL ({ frames := 0, cells := 0, slots := 0, locals := 0 } : Room).cells ({ frames := 0, cells := 0, slots := 0, locals := 0 } : Room).slots) _)
  refine OwnGo.back (s₁.setTop (mkF m 0 #[.val (.ref a)] [])) (fun tg kk => castTop (own_size_ef m a) kk) ?_
  refine OwnGo.back (s₁.setTop (mkF m 1 #[.val (.ref a)] [(.ref a)])) (fun tg kk => XS.aloadN X0.here hx rfl (hb hby own_d5_0) rfl rfl kk) ?_
  obtain ⟨T1, X1, e1, st1⟩ := getF X0 hx hZ hown (host := "") (Or.inl (hw _ (List.mem_of_getElem? (i := 18) rfl))) Via.refl e0 S (g := (mkF m 1 #[.val (.ref a)] [(.ref a)])) rfl rfl (hb hby own_d5_1)
  refine OwnGo.back (T1.setTop (mkF m 4 #[.val (.ref a)] [(.int z)])) (fun tg kk => st1 _ kk) ?_
  obtain ⟨fs, hr, hrun, hended, hW, hsame⟩ := X1.leave (v := some (.int z)) (fun h => by rw [Bd.returns] at h; cases h)
  refine ⟨_, _, ?_, hrun, hended, _, _, rfl, ?_, ⟨_, rfl⟩, hW, hsame.mono (by decide) (by decide)⟩
  · exact own_retI X1 hx Bd.returns (hb hby own_d5_4) hr
  · show own_size_Q Z a z h0 n0 _ T1.heap _
    rw [e1]
    exact ⟨rfl, N0, rfl⟩
theorem own_get0_ef (m : MethodId) (x0 : Addr) (x1 : Int32) : entryFrame m #[(.ref x0), (.int x1)] 2 = mkF m 0 #[.val (.ref x0), .val (.int x1)] [] := by first | (simp [entryFrame, mkF, argsToLocals, Value.category]; done) | rfl
def own_get0_Q (Z : State) (a : Addr) (b : Addr) (kb : ClassId) (u : Int32) (z : Int32) (v1 : Value) (v2 : Value) (h0 : Heap) (n0 : Nat) (rv : Option Value) (hN : Heap) (LL : List Loc) : Prop := rv = some (.int u) ∧ Fr n0 LL ∧ hN = h0
set_option maxRecDepth 65536 in
set_option maxHeartbeats 40000000 in
theorem own_get0 (l : Launch) (Z : State) (a0 : Array Value) (hw : ∀ d ∈ tables_1, d.before a0 Z = true) (ws : List Jvm.Cond) (a : Addr) (b : Addr) (kb : ClassId) (u : Int32) (z : Int32) (v1 : Value) (v2 : Value) (h0 : Heap) (n0 : Nat) (Z0 : n0 ≤ h0.size) (F : Fld Z h0 a "plainsight/grammar/IntList" "values" "[I" (.ref b)) (S : Fld Z h0 a "plainsight/grammar/IntList" "size" "I" (.int z)) (V : Arv Z h0 b kb .int (16 : Int32) [(.int u), v1, v2] (.int (0 : Int32))) (hz : (0 : Int32) < z) :
    MetFree l (⟨"plainsight/grammar/IntList", "get", "(I)I"⟩ : MethodName) (head1 (Jvm.Cond.code (⟨"plainsight/grammar/IntList", "get", "(I)I"⟩ : MethodName) prog_86_method_3_code 2 (some .int) :: ws) ({ frames := 0, cells := 0, slots := 0, locals := 0 } : Room)) (fun aa UU => aa = #[(.ref a), (.int (0 : Int32))] ∧ Z.Warmed39 UU.vm ∧ UU.heap = h0) (fun _ _ _ _ _ => True) (fun _ UU oo UU' => ∃ rv LL, oo = .returned rv ∧ own_get0_Q Z a b kb u z v1 v2 h0 n0 rv UU'.heap LL ∧ FrameEnd UU oo UU' LL ({ frames := 0, cells := 0, slots := 0, locals := 0 } : Room).cells ({ frames := 0, cells := 0, slots := 0, locals := 0 } : Room).slots) := by
  refine MetFree.of_bodySF (plainFor_of_name own_pn0) hisR ?_
  intro p e s m args below meth c s₁ Bd hml0 hP hK
  obtain ⟨rfl, hZ, hh⟩ := hP
  have hx := Bd.exec
  have hby := Bd.bytes
  have hml : c.maxLocals = 2 := hml0
  have hown : s.vm.findClass "plainsight/grammar/IntList" = some m.cls := findClass_of_methodNamed Bd.named
  have hnm := (name_of_methodNamed Bd.named Bd.method).1
  have X0 : Stand p l e ({ frames := 0, cells := 0, slots := 0, locals := 0 } : Room) s m #[(.ref a), (.int (0 : Int32))] below meth c s₁ [] 0 0 := Stand.of_body Bd
  have e0 : s₁.heap = h0 := by rw [← hh, Bd.state]; rfl
  have N0 := Fr.nil n0
  have K0 : Keep h0 h0 [] := Keep.refl h0 _
  refine (?_ : OwnGo p.tables e below (fun UU' oo => ∃ rv LL, oo = .returned rv ∧ own_get0_Q Z a b kb u z v1 v2 h0 n0 rv UU'.heap LL ∧ FrameEnd s oo UU' LL ({ frames := 0, cells := 0, slots := 0, locals := 0 } : Room).cells ({ frames := 0, cells := 0, slots := 0, locals := 0 } : Room).slots) _)
  refine OwnGo.back (s₁.setTop (mkF m 0 #[.val (.ref a), .val (.int (0 : Int32))] [])) (fun tg kk => castTop (own_get0_ef m a (0 : Int32)) kk) ?_
  refine OwnGo.back (s₁.setTop (mkF m 1 #[.val (.ref a), .val (.int (0 : Int32))] [(.int (0 : Int32))])) (fun tg kk => XS.iloadN X0.here hx rfl (hb hby own_d6_0) rfl kk) ?_
  refine OwnGo.back (s₁.setTop (mkF m 2 #[.val (.ref a), .val (.int (0 : Int32))] [(.ref a), (.int (0 : Int32))])) (fun tg kk => XS.aloadN X0.here hx rfl (hb hby own_d6_1) rfl rfl kk) ?_
  obtain ⟨T1, X1, e1, st1⟩ := getF X0 hx hZ hown (host := "") (Or.inl (hw _ (List.mem_of_getElem? (i := 18) rfl))) Via.refl e0 S (g := (mkF m 2 #[.val (.ref a), .val (.int (0 : Int32))] [(.ref a), (.int (0 : Int32))])) rfl rfl (hb hby own_d6_2)
  refine OwnGo.back (T1.setTop (mkF m 5 #[.val (.ref a), .val (.int (0 : Int32))] [(.int z), (.int (0 : Int32))])) (fun tg kk => st1 _ kk) ?_
  refine OwnGo.back (T1.setTop (mkF m 17 #[.val (.ref a), .val (.int (0 : Int32))] [])) (fun tg kk => XS.icmpYes X1.here hx rfl (pc0 := 5) (pc' := 17) rfl (hb hby own_d6_5) rfl (tlt (hz : (0 : Int32) < z)).1 (by decide) (by decide) kk) ?_
  refine OwnGo.back (T1.setTop (mkF m 18 #[.val (.ref a), .val (.int (0 : Int32))] [(.ref a)])) (fun tg kk => XS.aloadN X1.here hx rfl (hb hby own_d6_17) rfl rfl kk) ?_
  obtain ⟨T2, X2, e2, st2⟩ := getF X1 hx hZ hown (host := "") (Or.inl (hw _ (List.mem_of_getElem? (i := 11) rfl))) Via.refl e1 F (g := (mkF m 18 #[.val (.ref a), .val (.int (0 : Int32))] [(.ref a)])) rfl rfl (hb hby own_d6_18)
  refine OwnGo.back (T2.setTop (mkF m 21 #[.val (.ref a), .val (.int (0 : Int32))] [(.ref b)])) (fun tg kk => st2 _ kk) ?_
  refine OwnGo.back (T2.setTop (mkF m 22 #[.val (.ref a), .val (.int (0 : Int32))] [(.int (0 : Int32)), (.ref b)])) (fun tg kk => XS.iloadN X2.here hx rfl (hb hby own_d6_21) rfl kk) ?_
  obtain ⟨cl3, Ar3, q3, S3, N3, H3, G3⟩ := id V
  have hin3 : ¬ ((0 : Int32) < 0 ∨ cl3.slots.size ≤ ((0 : Int32)).toNatClampNeg) := inb_of S3 ⟨by decide, by decide⟩
  have hat3 : cl3.slots[((0 : Int32)).toNatClampNeg]? = some (.int u) := Has.at H3 hin3 rfl
  refine OwnGo.back (T2.setTop (mkF m 23 #[.val (.ref a), .val (.int (0 : Int32))] [(.int u)])) (fun tg kk => X2.iaload hx (j := (0 : Int32)) (v := (.int u)) (by rw [e2]; exact Ar3.1) (State.isArrayOf_alike hZ.alike Ar3.2.1) Ar3.2.2 hin3 hat3 (g := (mkF m 22 #[.val (.ref a), .val (.int (0 : Int32))] [(.int (0 : Int32)), (.ref b)])) rfl rfl (hb hby own_d6_22) _ kk) ?_
  obtain ⟨fs, hr, hrun, hended, hW, hsame⟩ := X2.leave (v := some (.int u)) (fun h => by rw [Bd.returns] at h; cases h)
  refine ⟨_, _, ?_, hrun, hended, _, _, rfl, ?_, ⟨_, rfl⟩, hW, hsame.mono (by decide) (by decide)⟩
  · exact own_retI X2 hx Bd.returns (hb hby own_d6_23) hr
  · show own_get0_Q Z a b kb u z v1 v2 h0 n0 _ T2.heap _
    rw [e2]
    exact ⟨rfl, N0, rfl⟩
theorem own_get1_ef (m : MethodId) (x0 : Addr) (x1 : Int32) : entryFrame m #[(.ref x0), (.int x1)] 2 = mkF m 0 #[.val (.ref x0), .val (.int x1)] [] := by first | (simp [entryFrame, mkF, argsToLocals, Value.category]; done) | rfl
def own_get1_Q (Z : State) (a : Addr) (b : Addr) (kb : ClassId) (u : Int32) (z : Int32) (v0 : Value) (v2 : Value) (h0 : Heap) (n0 : Nat) (rv : Option Value) (hN : Heap) (LL : List Loc) : Prop := rv = some (.int u) ∧ Fr n0 LL ∧ hN = h0
set_option maxRecDepth 65536 in
set_option maxHeartbeats 40000000 in
theorem own_get1 (l : Launch) (Z : State) (a0 : Array Value) (hw : ∀ d ∈ tables_1, d.before a0 Z = true) (ws : List Jvm.Cond) (a : Addr) (b : Addr) (kb : ClassId) (u : Int32) (z : Int32) (v0 : Value) (v2 : Value) (h0 : Heap) (n0 : Nat) (Z0 : n0 ≤ h0.size) (F : Fld Z h0 a "plainsight/grammar/IntList" "values" "[I" (.ref b)) (S : Fld Z h0 a "plainsight/grammar/IntList" "size" "I" (.int z)) (V : Arv Z h0 b kb .int (16 : Int32) [v0, (.int u), v2] (.int (0 : Int32))) (hz : (1 : Int32) < z) :
    MetFree l (⟨"plainsight/grammar/IntList", "get", "(I)I"⟩ : MethodName) (head1 (Jvm.Cond.code (⟨"plainsight/grammar/IntList", "get", "(I)I"⟩ : MethodName) prog_86_method_3_code 2 (some .int) :: ws) ({ frames := 0, cells := 0, slots := 0, locals := 0 } : Room)) (fun aa UU => aa = #[(.ref a), (.int (1 : Int32))] ∧ Z.Warmed39 UU.vm ∧ UU.heap = h0) (fun _ _ _ _ _ => True) (fun _ UU oo UU' => ∃ rv LL, oo = .returned rv ∧ own_get1_Q Z a b kb u z v0 v2 h0 n0 rv UU'.heap LL ∧ FrameEnd UU oo UU' LL ({ frames := 0, cells := 0, slots := 0, locals := 0 } : Room).cells ({ frames := 0, cells := 0, slots := 0, locals := 0 } : Room).slots) := by
  refine MetFree.of_bodySF (plainFor_of_name own_pn0) hisR ?_
  intro p e s m args below meth c s₁ Bd hml0 hP hK
  obtain ⟨rfl, hZ, hh⟩ := hP
  have hx := Bd.exec
  have hby := Bd.bytes
  have hml : c.maxLocals = 2 := hml0
  have hown : s.vm.findClass "plainsight/grammar/IntList" = some m.cls := findClass_of_methodNamed Bd.named
  have hnm := (name_of_methodNamed Bd.named Bd.method).1
  have X0 : Stand p l e ({ frames := 0, cells := 0, slots := 0, locals := 0 } : Room) s m #[(.ref a), (.int (1 : Int32))] below meth c s₁ [] 0 0 := Stand.of_body Bd
  have e0 : s₁.heap = h0 := by rw [← hh, Bd.state]; rfl
  have N0 := Fr.nil n0
  have K0 : Keep h0 h0 [] := Keep.refl h0 _
  refine (?_ : OwnGo p.tables e below (fun UU' oo => ∃ rv LL, oo = .returned rv ∧ own_get1_Q Z a b kb u z v0 v2 h0 n0 rv UU'.heap LL ∧ FrameEnd s oo UU' LL ({ frames := 0, cells := 0, slots := 0, locals := 0 } : Room).cells ({ frames := 0, cells := 0, slots := 0, locals := 0 } : Room).slots) _)
  refine OwnGo.back (s₁.setTop (mkF m 0 #[.val (.ref a), .val (.int (1 : Int32))] [])) (fun tg kk => castTop (own_get1_ef m a (1 : Int32)) kk) ?_
  refine OwnGo.back (s₁.setTop (mkF m 1 #[.val (.ref a), .val (.int (1 : Int32))] [(.int (1 : Int32))])) (fun tg kk => XS.iloadN X0.here hx rfl (hb hby own_d6_0) rfl kk) ?_
  refine OwnGo.back (s₁.setTop (mkF m 2 #[.val (.ref a), .val (.int (1 : Int32))] [(.ref a), (.int (1 : Int32))])) (fun tg kk => XS.aloadN X0.here hx rfl (hb hby own_d6_1) rfl rfl kk) ?_
  obtain ⟨T1, X1, e1, st1⟩ := getF X0 hx hZ hown (host := "") (Or.inl (hw _ (List.mem_of_getElem? (i := 18) rfl))) Via.refl e0 S (g := (mkF m 2 #[.val (.ref a), .val (.int (1 : Int32))] [(.ref a), (.int (1 : Int32))])) rfl rfl (hb hby own_d6_2)
  refine OwnGo.back (T1.setTop (mkF m 5 #[.val (.ref a), .val (.int (1 : Int32))] [(.int z), (.int (1 : Int32))])) (fun tg kk => st1 _ kk) ?_
  refine OwnGo.back (T1.setTop (mkF m 17 #[.val (.ref a), .val (.int (1 : Int32))] [])) (fun tg kk => XS.icmpYes X1.here hx rfl (pc0 := 5) (pc' := 17) rfl (hb hby own_d6_5) rfl (tlt (hz : (1 : Int32) < z)).1 (by decide) (by decide) kk) ?_
  refine OwnGo.back (T1.setTop (mkF m 18 #[.val (.ref a), .val (.int (1 : Int32))] [(.ref a)])) (fun tg kk => XS.aloadN X1.here hx rfl (hb hby own_d6_17) rfl rfl kk) ?_
  obtain ⟨T2, X2, e2, st2⟩ := getF X1 hx hZ hown (host := "") (Or.inl (hw _ (List.mem_of_getElem? (i := 11) rfl))) Via.refl e1 F (g := (mkF m 18 #[.val (.ref a), .val (.int (1 : Int32))] [(.ref a)])) rfl rfl (hb hby own_d6_18)
  refine OwnGo.back (T2.setTop (mkF m 21 #[.val (.ref a), .val (.int (1 : Int32))] [(.ref b)])) (fun tg kk => st2 _ kk) ?_
  refine OwnGo.back (T2.setTop (mkF m 22 #[.val (.ref a), .val (.int (1 : Int32))] [(.int (1 : Int32)), (.ref b)])) (fun tg kk => XS.iloadN X2.here hx rfl (hb hby own_d6_21) rfl kk) ?_
  obtain ⟨cl3, Ar3, q3, S3, N3, H3, G3⟩ := id V
  have hin3 : ¬ ((1 : Int32) < 0 ∨ cl3.slots.size ≤ ((1 : Int32)).toNatClampNeg) := inb_of S3 ⟨by decide, by decide⟩
  have hat3 : cl3.slots[((1 : Int32)).toNatClampNeg]? = some (.int u) := Has.at H3 hin3 rfl
  refine OwnGo.back (T2.setTop (mkF m 23 #[.val (.ref a), .val (.int (1 : Int32))] [(.int u)])) (fun tg kk => X2.iaload hx (j := (1 : Int32)) (v := (.int u)) (by rw [e2]; exact Ar3.1) (State.isArrayOf_alike hZ.alike Ar3.2.1) Ar3.2.2 hin3 hat3 (g := (mkF m 22 #[.val (.ref a), .val (.int (1 : Int32))] [(.int (1 : Int32)), (.ref b)])) rfl rfl (hb hby own_d6_22) _ kk) ?_
  obtain ⟨fs, hr, hrun, hended, hW, hsame⟩ := X2.leave (v := some (.int u)) (fun h => by rw [Bd.returns] at h; cases h)
  refine ⟨_, _, ?_, hrun, hended, _, _, rfl, ?_, ⟨_, rfl⟩, hW, hsame.mono (by decide) (by decide)⟩
  · exact own_retI X2 hx Bd.returns (hb hby own_d6_23) hr
  · show own_get1_Q Z a b kb u z v0 v2 h0 n0 _ T2.heap _
    rw [e2]
    exact ⟨rfl, N0, rfl⟩
theorem own_cnt (x : Int32) : (x &&& 2147483647) % 3 + 1 = 1 ∨ (x &&& 2147483647) % 3 + 1 = 2 ∨ (x &&& 2147483647) % 3 + 1 = 3 := by
  have h := c_mask x 2147483647 31 (by decide) (by decide)
  have h2 := (c_irem (x &&& 2147483647) 3 3 (by decide)).1 (by omega)
  have h3 := c_iadd ((x &&& 2147483647) % 3) 1
  have r := rng32 ((x &&& 2147483647) % 3 + 1)
  simp only [← Int32.toInt_inj, Int32.reduceToInt] at *
  omega
theorem own_law_ef (m : MethodId) (x0 : Int32) (x1 : Int32) (x2 : Int32) (x3 : Int32) (x4 : Int32) : entryFrame m #[(.int x0), (.int x1), (.int x2), (.int x3), (.int x4)] maxLocals = mkF m 0 #[.val (.int x0), .val (.int x1), .val (.int x2), .val (.int x3), .val (.int x4), .unset, .unset, .unset, .unset, .unset, .unset] [] := by first | (simp [entryFrame, mkF, argsToLocals, Value.category, maxLocals]; done) | rfl
def own_law_Q (Z : State) (p1 : Int32) (p2 : Int32) (p3 : Int32) (p4 : Int32) (p5 : Int32) (h0 : Heap) (n0 : Nat) (rv : Option Value) (hN : Heap) (LL : List Loc) : Prop := rv = some (.int (1 : Int32)) ∧ Fr n0 LL ∧ Keep h0 hN []
set_option maxRecDepth 65536 in
set_option maxHeartbeats 40000000 in
theorem own_law (l : Launch) (Z : State) (a0 : Array Value) (hw : ∀ d ∈ tables_1, d.before a0 Z = true) (ws : List Jvm.Cond) (p1 : Int32) (p2 : Int32) (p3 : Int32) (p4 : Int32) (p5 : Int32) (h0 : Heap) (n0 : Nat) (Z0 : n0 ≤ h0.size) :
    MetFree l x (head1 (Jvm.Cond.code x code maxLocals ret :: ws) room_1) (fun aa UU => aa = #[(.int p1), (.int p2), (.int p3), (.int p4), (.int p5)] ∧ Z.Warmed39 UU.vm ∧ UU.heap = h0) (fun _ _ _ _ _ => True) (fun _ UU oo UU' => ∃ rv LL, oo = .returned rv ∧ own_law_Q Z p1 p2 p3 p4 p5 h0 n0 rv UU'.heap LL ∧ FrameEnd UU oo UU' LL room_1.cells room_1.slots) := by
  refine MetFree.of_bodySF (plainFor_of_name own_pn1) hisR ?_
  intro p e s m args below meth c s₁ Bd hml0 hP hK
  obtain ⟨rfl, hZ, hh⟩ := hP
  have hx := Bd.exec
  have hby := Bd.bytes
  have hml : c.maxLocals = 11 := hml0
  have hown : s.vm.findClass "plainsight/grammar/IntListPopPinLaw" = some m.cls := findClass_of_methodNamed Bd.named
  have hnm := (name_of_methodNamed Bd.named Bd.method).1
  have X0 : Stand p l e room_1 s m #[(.int p1), (.int p2), (.int p3), (.int p4), (.int p5)] below meth c s₁ [] 0 0 := Stand.of_body Bd
  have e0 : s₁.heap = h0 := by rw [← hh, Bd.state]; rfl
  have N0 := Fr.nil n0
  have K0 : Keep h0 h0 [] := Keep.refl h0 _
  refine (?_ : OwnGo p.tables e below (fun UU' oo => ∃ rv LL, oo = .returned rv ∧ own_law_Q Z p1 p2 p3 p4 p5 h0 n0 rv UU'.heap LL ∧ FrameEnd s oo UU' LL room_1.cells room_1.slots) _)
  refine OwnGo.back (s₁.setTop (mkF m 0 #[.val (.int p1), .val (.int p2), .val (.int p3), .val (.int p4), .val (.int p5), .unset, .unset, .unset, .unset, .unset, .unset] [])) (fun tg kk => castTop (own_law_ef m p1 p2 p3 p4 p5) kk) ?_
  refine OwnGo.back (s₁.setTop (mkF m 2 #[.val (.int p1), .val (.int p2), .val (.int p3), .val (.int p4), .val (.int p5), .unset, .unset, .unset, .unset, .unset, .unset] [(.int p5)])) (fun tg kk => XS.iload X0.here hx rfl (hb hby at_0) rfl kk) ?_
  refine OwnGo.back (s₁.setTop (mkF m 4 #[.val (.int p1), .val (.int p2), .val (.int p3), .val (.int p4), .val (.int p5), .unset, .unset, .unset, .unset, .unset, .unset] [(.int (2147483647 : Int32)), (.int p5)])) (fun tg kk => Jvm.Stand.ldcI X0 hx hown (mvT hZ (hw _ (List.mem_of_getElem? (i := 0) rfl))) rfl (hb hby at_2) kk) ?_
  refine OwnGo.back (s₁.setTop (mkF m 5 #[.val (.int p1), .val (.int p2), .val (.int p3), .val (.int p4), .val (.int p5), .unset, .unset, .unset, .unset, .unset, .unset] [(.int (p5 &&& (2147483647 : Int32)))])) (fun tg kk => XS.iand X0.here hx rfl (hb hby at_4) rfl kk) ?_
  refine OwnGo.back (s₁.setTop (mkF m 6 #[.val (.int p1), .val (.int p2), .val (.int p3), .val (.int p4), .val (.int p5), .unset, .unset, .unset, .unset, .unset, .unset] [(.int (3 : Int32)), (.int (p5 &&& (2147483647 : Int32)))])) (fun tg kk => XS.iconst X0.here hx rfl (hb hby at_5) kk) ?_
  refine OwnGo.back (s₁.setTop (mkF m 7 #[.val (.int p1), .val (.int p2), .val (.int p3), .val (.int p4), .val (.int p5), .unset, .unset, .unset, .unset, .unset, .unset] [(.int ((p5 &&& (2147483647 : Int32)) % (3 : Int32)))])) (fun tg kk => iremM X0 hx rfl (hb hby at_6) rfl (by decide) kk) ?_
  refine OwnGo.back (s₁.setTop (mkF m 8 #[.val (.int p1), .val (.int p2), .val (.int p3), .val (.int p4), .val (.int p5), .unset, .unset, .unset, .unset, .unset, .unset] [(.int (1 : Int32)), (.int ((p5 &&& (2147483647 : Int32)) % (3 : Int32)))])) (fun tg kk => XS.iconst X0.here hx rfl (hb hby at_7) kk) ?_
  refine OwnGo.back (s₁.setTop (mkF m 9 #[.val (.int p1), .val (.int p2), .val (.int p3), .val (.int p4), .val (.int p5), .unset, .unset, .unset, .unset, .unset, .unset] [(.int (((p5 &&& (2147483647 : Int32)) % (3 : Int32)) + (1 : Int32)))])) (fun tg kk => XS.iadd X0.here hx rfl (hb hby at_8) rfl kk) ?_
  rcases own_cnt p5 with hq | hq | hq
  ·
    rw [hq]
    refine OwnGo.back (s₁.setTop (mkF m 11 #[.val (.int p1), .val (.int p2), .val (.int p3), .val (.int p4), .val (.int p5), .val (.int (1 : Int32)), .unset, .unset, .unset, .unset, .unset] [])) (fun tg kk => XS.istore X0.here hx rfl (hb hby at_9) rfl (l' := #[.val (.int p1), .val (.int p2), .val (.int p3), .val (.int p4), .val (.int p5), .val (.int (1 : Int32)), .unset, .unset, .unset, .unset, .unset]) rfl kk) ?_
    obtain ⟨T1, h1, X1, e1, E1, A1, D1, -, st1⟩ := newO X0 hx hZ hown (hw _ (List.mem_of_getElem? (i := 1) rfl)) (hw _ (List.mem_of_getElem? (i := 2) rfl)) (hw _ (List.mem_of_getElem? (i := 3) rfl)) e0 (g := (mkF m 11 #[.val (.int p1), .val (.int p2), .val (.int p3), .val (.int p4), .val (.int p5), .val (.int (1 : Int32)), .unset, .unset, .unset, .unset, .unset] [])) rfl (hb hby at_11) (by decide) (by decide)
    obtain ⟨b1, q1⟩ : ∃ z, z = h0.size := ⟨_, rfl⟩
    rw [← q1] at A1 D1 st1
    have g2 : n0 ≤ b1 := Nat.le_trans Z0 (Nat.le_of_eq q1.symm)
    have s3 : h0.size ≤ b1 := Nat.le_trans K0.1 (Nat.le_of_eq q1.symm)
    have K4 : Keep h0 h1 [] := K0.ext E1
    have Z5 : n0 ≤ h1.size := Nat.le_trans Z0 E1.1
    have f6 : Fld Z h1 b1 "plainsight/grammar/IntList" "values" "[I" .null := D1 (Or.inl (hw _ (List.mem_of_getElem? (i := 12) rfl))) (ty := (.array .int)) (by decide)
    have f7 : Fld Z h1 b1 "plainsight/grammar/IntList" "size" "I" (.int (0 : Int32)) := D1 (Or.inl (hw _ (List.mem_of_getElem? (i := 19) rfl))) (ty := .int) (by decide)
    refine OwnGo.back (T1.setTop (mkF m 14 #[.val (.int p1), .val (.int p2), .val (.int p3), .val (.int p4), .val (.int p5), .val (.int (1 : Int32)), .unset, .unset, .unset, .unset, .unset] [(.ref b1)])) (fun tg kk => st1 _ kk) ?_
    refine OwnGo.back (T1.setTop (mkF m 15 #[.val (.int p1), .val (.int p2), .val (.int p3), .val (.int p4), .val (.int p5), .val (.int (1 : Int32)), .unset, .unset, .unset, .unset, .unset] [(.ref b1), (.ref b1)])) (fun tg kk => XS.dup X1.here hx rfl (hb hby at_14) rfl rfl kk) ?_
    obtain ⟨_, _, ⟨T8, L8, k8, n8⟩, -, X8, ⟨Lc8, hQ8, l8, y8, z8⟩, st8⟩ := X1.specialBack hx (y := (⟨"plainsight/grammar/IntList", "<init>", "()V"⟩ : MethodName)) rfl hown (mvT hZ (hw _ (List.mem_of_getElem? (i := 4) rfl))) (mvT hZ (hw _ (List.mem_of_getElem? (i := 5) rfl))) (mvT hZ (hw _ (List.mem_of_getElem? (i := 6) rfl))) (by decide) (backOf (W := 1) (own_init l Z a0 hw [] b1 h1 n0 Z5 A1 f6 f7 g2) hZ (hw _ (List.mem_of_getElem? (i := 6) rfl)) (hw _ (List.mem_of_getElem? (i := 3) rfl)) (by decide) (by decide)) (g := (mkF m 15 #[.val (.int p1), .val (.int p2), .val (.int p3), .val (.int p4), .val (.int p5), .val (.int (1 : Int32)), .unset, .unset, .unset, .unset, .unset] [(.ref b1), (.ref b1)])) rfl (by rw [hml]; rfl) (Steps.refl _) (a := b1) (argsL := []) (rest := [(.ref b1)]) (lenOf own_pd0 rfl) rfl (by show 2 * 0 + _ ≤ _; exact Nat.le_of_eq rfl) (hb hby at_15) (fun _ _ => ⟨rfl, e1, (by decide : 1 + 1 ≤ _), (by decide : 2 + 16 ≤ _)⟩)
    dsimp only [Pt.U, Pt.locs, Pt.cells, Pt.slots] at X8 l8 y8 z8 st8 hQ8
    subst l8 y8 z8
    obtain ⟨b_9, kb_10, rfl, N8q, Kc8, po11, po12, po13, po14, po15⟩ := hQ8
    have N8 := Fr.app N0 N8q
    have f16 : Exa Z T8.heap b1 "plainsight/grammar/IntList" := A1.keep Kc8
    have K17 : Keep h0 T8.heap [] := K4.trans Kc8 (allS (Or.inr s3) all0)
    have Z18 : n0 ≤ T8.heap.size := Nat.le_trans Z5 Kc8.1
    have n19 : b1 ≠ b_9 := own_ne' A1.lt po11
    have g20 : n0 ≤ b_9 := Nat.le_trans Z5 po11
    have s21 : h0.size ≤ b_9 := Nat.le_trans K4.1 po11
    refine OwnGo.back (T8.setTop (mkF m 18 #[.val (.int p1), .val (.int p2), .val (.int p3), .val (.int p4), .val (.int p5), .val (.int (1 : Int32)), .unset, .unset, .unset, .unset, .unset] [(.ref b1)])) (fun tg kk => st8.trans kk) ?_
    refine OwnGo.back (T8.setTop (mkF m 20 #[.val (.int p1), .val (.int p2), .val (.int p3), .val (.int p4), .val (.int p5), .val (.int (1 : Int32)), .val (.ref b1), .unset, .unset, .unset, .unset] [])) (fun tg kk => XS.astore X8.here hx rfl (hb hby at_18) rfl rfl (l' := #[.val (.int p1), .val (.int p2), .val (.int p3), .val (.int p4), .val (.int p5), .val (.int (1 : Int32)), .val (.ref b1), .unset, .unset, .unset, .unset]) rfl kk) ?_
    refine OwnGo.back (T8.setTop (mkF m 22 #[.val (.int p1), .val (.int p2), .val (.int p3), .val (.int p4), .val (.int p5), .val (.int (1 : Int32)), .val (.ref b1), .unset, .unset, .unset, .unset] [(.ref b1)])) (fun tg kk => XS.aload X8.here hx rfl (hb hby at_20) rfl rfl kk) ?_
    refine OwnGo.back (T8.setTop (mkF m 23 #[.val (.int p1), .val (.int p2), .val (.int p3), .val (.int p4), .val (.int p5), .val (.int (1 : Int32)), .val (.ref b1), .unset, .unset, .unset, .unset] [(.int p1), (.ref b1)])) (fun tg kk => XS.iloadN X8.here hx rfl (hb hby at_22) rfl kk) ?_
    obtain ⟨cq22, kq22, q22a, q22b, q22c⟩ := isOf hZ rfl po12
    obtain ⟨_, _, ⟨T22, L22, k22, n22⟩, -, X22, ⟨Lc22, hQ22, l22, y22, z22⟩, st22⟩ := X8.virtualBack hx (y := (⟨"plainsight/grammar/IntList", "add", "(I)V"⟩ : MethodName)) (z := (⟨"plainsight/grammar/IntList", "add", "(I)V"⟩ : MethodName)) hown (mvT hZ (hw _ (List.mem_of_getElem? (i := 13) rfl))) (mvT hZ (hw _ (List.mem_of_getElem? (i := 14) rfl))) (notFace_of_selects (args := #[]) (mvT hZ (hw _ (List.mem_of_getElem? (i := 16) rfl)))) (mvT hZ (hw _ (List.mem_of_getElem? (i := 16) rfl))) (mvT hZ (hw _ (List.mem_of_getElem? (i := 15) rfl))) (by decide) (backOf (W := 0) (own_add0 l Z a0 hw [] b1 p1 b_9 kb_10 (.int (0 : Int32)) (.int (0 : Int32)) (.int (0 : Int32)) T8.heap n0 Z18 po12 po13 po14 po15 g2 g20 n19) hZ (hw _ (List.mem_of_getElem? (i := 17) rfl)) (hw _ (List.mem_of_getElem? (i := 3) rfl)) (by decide) (by decide)) q22a q22c (g := (mkF m 23 #[.val (.int p1), .val (.int p2), .val (.int p3), .val (.int p4), .val (.int p5), .val (.int (1 : Int32)), .val (.ref b1), .unset, .unset, .unset, .unset] [(.int p1), (.ref b1)])) rfl (by rw [hml]; rfl) (Steps.refl _) (argsL := [(.int p1)]) (rest := []) (lenOf own_pd1 rfl) rfl (by show 2 * 0 + _ ≤ _; exact Nat.le_of_eq rfl) (hb hby at_23) (fun _ _ => ⟨rfl, rfl, (by decide : 2 + 0 ≤ _), (by decide : 18 + 0 ≤ _)⟩)
    dsimp only [Pt.U, Pt.locs, Pt.cells, Pt.slots] at X22 l22 y22 z22 st22 hQ22
    subst l22 y22 z22
    obtain ⟨rfl, N22q, Kc22, po23, po24, po25, po26⟩ := hQ22
    have N22 := Fr.app N8 N22q
    have f27 : Exa Z T22.heap b1 "plainsight/grammar/IntList" := po12.keep Kc22
    have K28 : Keep h0 T22.heap [] := K17.trans Kc22 (allS (Or.inr s3) (allS (Or.inr s21) all0))
    have Z29 : n0 ≤ T22.heap.size := Nat.le_trans Z18 Kc22.1
    refine OwnGo.back (T22.setTop (mkF m 26 #[.val (.int p1), .val (.int p2), .val (.int p3), .val (.int p4), .val (.int p5), .val (.int (1 : Int32)), .val (.ref b1), .unset, .unset, .unset, .unset] [])) (fun tg kk => st22.trans kk) ?_
    refine OwnGo.back (T22.setTop (mkF m 28 #[.val (.int p1), .val (.int p2), .val (.int p3), .val (.int p4), .val (.int p5), .val (.int (1 : Int32)), .val (.ref b1), .unset, .unset, .unset, .unset] [(.int (1 : Int32))])) (fun tg kk => XS.iload X22.here hx rfl (hb hby at_26) rfl kk) ?_
    refine OwnGo.back (T22.setTop (mkF m 29 #[.val (.int p1), .val (.int p2), .val (.int p3), .val (.int p4), .val (.int p5), .val (.int (1 : Int32)), .val (.ref b1), .unset, .unset, .unset, .unset] [(.int (2 : Int32)), (.int (1 : Int32))])) (fun tg kk => XS.iconst X22.here hx rfl (hb hby at_28) kk) ?_
    refine OwnGo.back (T22.setTop (mkF m 38 #[.val (.int p1), .val (.int p2), .val (.int p3), .val (.int p4), .val (.int p5), .val (.int (1 : Int32)), .val (.ref b1), .unset, .unset, .unset, .unset] [])) (fun tg kk => XS.icmpYes X22.here hx rfl (pc0 := 29) (pc' := 38) rfl (hb hby at_29) rfl (tlt (by decide : (1 : Int32) < (2 : Int32))).1 (by decide) (by decide) kk) ?_
    refine OwnGo.back (T22.setTop (mkF m 40 #[.val (.int p1), .val (.int p2), .val (.int p3), .val (.int p4), .val (.int p5), .val (.int (1 : Int32)), .val (.ref b1), .unset, .unset, .unset, .unset] [(.int (1 : Int32))])) (fun tg kk => XS.iload X22.here hx rfl (hb hby at_38) rfl kk) ?_
    refine OwnGo.back (T22.setTop (mkF m 41 #[.val (.int p1), .val (.int p2), .val (.int p3), .val (.int p4), .val (.int p5), .val (.int (1 : Int32)), .val (.ref b1), .unset, .unset, .unset, .unset] [(.int (3 : Int32)), (.int (1 : Int32))])) (fun tg kk => XS.iconst X22.here hx rfl (hb hby at_40) kk) ?_
    refine OwnGo.back (T22.setTop (mkF m 50 #[.val (.int p1), .val (.int p2), .val (.int p3), .val (.int p4), .val (.int p5), .val (.int (1 : Int32)), .val (.ref b1), .unset, .unset, .unset, .unset] [])) (fun tg kk => XS.icmpYes X22.here hx rfl (pc0 := 41) (pc' := 50) rfl (hb hby at_41) rfl (tlt (by decide : (1 : Int32) < (3 : Int32))).1 (by decide) (by decide) kk) ?_
    refine OwnGo.back (T22.setTop (mkF m 52 #[.val (.int p1), .val (.int p2), .val (.int p3), .val (.int p4), .val (.int p5), .val (.int (1 : Int32)), .val (.ref b1), .unset, .unset, .unset, .unset] [(.int (1 : Int32))])) (fun tg kk => XS.iload X22.here hx rfl (hb hby at_50) rfl kk) ?_
    refine OwnGo.back (T22.setTop (mkF m 53 #[.val (.int p1), .val (.int p2), .val (.int p3), .val (.int p4), .val (.int p5), .val (.int (1 : Int32)), .val (.ref b1), .unset, .unset, .unset, .unset] [(.int (1 : Int32)), (.int (1 : Int32))])) (fun tg kk => XS.iconst X22.here hx rfl (hb hby at_52) kk) ?_
    refine OwnGo.back (T22.setTop (mkF m 56 #[.val (.int p1), .val (.int p2), .val (.int p3), .val (.int p4), .val (.int p5), .val (.int (1 : Int32)), .val (.ref b1), .unset, .unset, .unset, .unset] [])) (fun tg kk => XS.icmpNo X22.here hx rfl (hb hby at_53) rfl (teq (by decide : (1 : Int32) = (1 : Int32))).2 kk) ?_
    refine OwnGo.back (T22.setTop (mkF m 57 #[.val (.int p1), .val (.int p2), .val (.int p3), .val (.int p4), .val (.int p5), .val (.int (1 : Int32)), .val (.ref b1), .unset, .unset, .unset, .unset] [(.int p1)])) (fun tg kk => XS.iloadN X22.here hx rfl (hb hby at_56) rfl kk) ?_
    refine OwnGo.back (T22.setTop (mkF m 71 #[.val (.int p1), .val (.int p2), .val (.int p3), .val (.int p4), .val (.int p5), .val (.int (1 : Int32)), .val (.ref b1), .unset, .unset, .unset, .unset] [(.int p1)])) (fun tg kk => XS.goto X22.here hx rfl (pc0 := 57) (pc' := 71) rfl (hb hby at_57) (by decide) (by decide) kk) ?_
    refine OwnGo.back (T22.setTop (mkF m 73 #[.val (.int p1), .val (.int p2), .val (.int p3), .val (.int p4), .val (.int p5), .val (.int (1 : Int32)), .val (.ref b1), .val (.int p1), .unset, .unset, .unset] [])) (fun tg kk => XS.istore X22.here hx rfl (hb hby at_71) rfl (l' := #[.val (.int p1), .val (.int p2), .val (.int p3), .val (.int p4), .val (.int p5), .val (.int (1 : Int32)), .val (.ref b1), .val (.int p1), .unset, .unset, .unset]) rfl kk) ?_
    refine OwnGo.back (T22.setTop (mkF m 75 #[.val (.int p1), .val (.int p2), .val (.int p3), .val (.int p4), .val (.int p5), .val (.int (1 : Int32)), .val (.ref b1), .val (.int p1), .unset, .unset, .unset] [(.ref b1)])) (fun tg kk => XS.aload X22.here hx rfl (hb hby at_73) rfl rfl kk) ?_
    obtain ⟨cq30, kq30, q30a, q30b, q30c⟩ := isOf hZ rfl po23
    obtain ⟨_, _, ⟨T30, L30, k30, n30⟩, -, X30, ⟨Lc30, hQ30, l30, y30, z30⟩, st30⟩ := X22.virtualBack hx (y := (⟨"plainsight/grammar/IntList", "pop", "()I"⟩ : MethodName)) (z := (⟨"plainsight/grammar/IntList", "pop", "()I"⟩ : MethodName)) hown (mvT hZ (hw _ (List.mem_of_getElem? (i := 20) rfl))) (mvT hZ (hw _ (List.mem_of_getElem? (i := 21) rfl))) (notFace_of_selects (args := #[]) (mvT hZ (hw _ (List.mem_of_getElem? (i := 23) rfl)))) (mvT hZ (hw _ (List.mem_of_getElem? (i := 23) rfl))) (mvT hZ (hw _ (List.mem_of_getElem? (i := 22) rfl))) (by decide) (backOf (W := 0) (own_pop1 l Z a0 hw [] b1 b_9 kb_10 p1 (.int (0 : Int32)) (.int (0 : Int32)) T22.heap n0 Z29 po23 po24 po25 po26 g2 g20 n19) hZ (hw _ (List.mem_of_getElem? (i := 24) rfl)) (hw _ (List.mem_of_getElem? (i := 3) rfl)) (by decide) (by decide)) q30a q30c (g := (mkF m 75 #[.val (.int p1), .val (.int p2), .val (.int p3), .val (.int p4), .val (.int p5), .val (.int (1 : Int32)), .val (.ref b1), .val (.int p1), .unset, .unset, .unset] [(.ref b1)])) rfl (by rw [hml]; rfl) (Steps.refl _) (argsL := []) (rest := []) (lenOf own_pd2 rfl) rfl (by show 2 * 0 + _ ≤ _; exact Nat.le_of_eq rfl) (hb hby at_75) (fun _ _ => ⟨rfl, rfl, (by decide : 2 + 0 ≤ _), (by decide : 18 + 0 ≤ _)⟩)
    dsimp only [Pt.U, Pt.locs, Pt.cells, Pt.slots] at X30 l30 y30 z30 st30 hQ30
    subst l30 y30 z30
    obtain ⟨rfl, N30q, Kc30, po31, po32, po33, po34⟩ := hQ30
    have N30 := Fr.app N22 N30q
    have f35 : Exa Z T30.heap b1 "plainsight/grammar/IntList" := po23.keep Kc30
    have f36 : Arv Z T30.heap b_9 kb_10 .int (16 : Int32) [(.int p1), (.int (0 : Int32)), (.int (0 : Int32))] (.int (0 : Int32)) := po26.keep Kc30 (ninS (Ne.symm n19) nin0)
    have K37 : Keep h0 T30.heap [] := K28.trans Kc30 (allS (Or.inr s3) all0)
    have Z38 : n0 ≤ T30.heap.size := Nat.le_trans Z29 Kc30.1
    refine OwnGo.back (T30.setTop (mkF m 78 #[.val (.int p1), .val (.int p2), .val (.int p3), .val (.int p4), .val (.int p5), .val (.int (1 : Int32)), .val (.ref b1), .val (.int p1), .unset, .unset, .unset] [(.int p1)])) (fun tg kk => st30.trans kk) ?_
    refine OwnGo.back (T30.setTop (mkF m 80 #[.val (.int p1), .val (.int p2), .val (.int p3), .val (.int p4), .val (.int p5), .val (.int (1 : Int32)), .val (.ref b1), .val (.int p1), .val (.int p1), .unset, .unset] [])) (fun tg kk => XS.istore X30.here hx rfl (hb hby at_78) rfl (l' := #[.val (.int p1), .val (.int p2), .val (.int p3), .val (.int p4), .val (.int p5), .val (.int (1 : Int32)), .val (.ref b1), .val (.int p1), .val (.int p1), .unset, .unset]) rfl kk) ?_
    refine OwnGo.back (T30.setTop (mkF m 82 #[.val (.int p1), .val (.int p2), .val (.int p3), .val (.int p4), .val (.int p5), .val (.int (1 : Int32)), .val (.ref b1), .val (.int p1), .val (.int p1), .unset, .unset] [(.int p1)])) (fun tg kk => XS.iload X30.here hx rfl (hb hby at_80) rfl kk) ?_
    refine OwnGo.back (T30.setTop (mkF m 84 #[.val (.int p1), .val (.int p2), .val (.int p3), .val (.int p4), .val (.int p5), .val (.int (1 : Int32)), .val (.ref b1), .val (.int p1), .val (.int p1), .unset, .unset] [(.int p1), (.int p1)])) (fun tg kk => XS.iload X30.here hx rfl (hb hby at_82) rfl kk) ?_
    refine OwnGo.back (T30.setTop (mkF m 87 #[.val (.int p1), .val (.int p2), .val (.int p3), .val (.int p4), .val (.int p5), .val (.int (1 : Int32)), .val (.ref b1), .val (.int p1), .val (.int p1), .unset, .unset] [])) (fun tg kk => XS.icmpNo X30.here hx rfl (hb hby at_84) rfl (teq (rfl : p1 = p1)).2 kk) ?_
    refine OwnGo.back (T30.setTop (mkF m 88 #[.val (.int p1), .val (.int p2), .val (.int p3), .val (.int p4), .val (.int p5), .val (.int (1 : Int32)), .val (.ref b1), .val (.int p1), .val (.int p1), .unset, .unset] [(.int (1 : Int32))])) (fun tg kk => XS.iconst X30.here hx rfl (hb hby at_87) kk) ?_
    refine OwnGo.back (T30.setTop (mkF m 92 #[.val (.int p1), .val (.int p2), .val (.int p3), .val (.int p4), .val (.int p5), .val (.int (1 : Int32)), .val (.ref b1), .val (.int p1), .val (.int p1), .unset, .unset] [(.int (1 : Int32))])) (fun tg kk => XS.goto X30.here hx rfl (pc0 := 88) (pc' := 92) rfl (hb hby at_88) (by decide) (by decide) kk) ?_
    refine OwnGo.back (T30.setTop (mkF m 94 #[.val (.int p1), .val (.int p2), .val (.int p3), .val (.int p4), .val (.int p5), .val (.int (1 : Int32)), .val (.ref b1), .val (.int p1), .val (.int p1), .val (.int (1 : Int32)), .unset] [])) (fun tg kk => XS.istore X30.here hx rfl (hb hby at_92) rfl (l' := #[.val (.int p1), .val (.int p2), .val (.int p3), .val (.int p4), .val (.int p5), .val (.int (1 : Int32)), .val (.ref b1), .val (.int p1), .val (.int p1), .val (.int (1 : Int32)), .unset]) rfl kk) ?_
    refine OwnGo.back (T30.setTop (mkF m 96 #[.val (.int p1), .val (.int p2), .val (.int p3), .val (.int p4), .val (.int p5), .val (.int (1 : Int32)), .val (.ref b1), .val (.int p1), .val (.int p1), .val (.int (1 : Int32)), .unset] [(.int (1 : Int32))])) (fun tg kk => XS.iload X30.here hx rfl (hb hby at_94) rfl kk) ?_
    refine OwnGo.back (T30.setTop (mkF m 99 #[.val (.int p1), .val (.int p2), .val (.int p3), .val (.int p4), .val (.int p5), .val (.int (1 : Int32)), .val (.ref b1), .val (.int p1), .val (.int p1), .val (.int (1 : Int32)), .unset] [])) (fun tg kk => XS.ifNo X30.here hx rfl (hb hby at_96) rfl ((if0 _ _).trans (feq (by decide : ¬ ((1 : Int32) = (0 : Int32)))).1) kk) ?_
    refine OwnGo.back (T30.setTop (mkF m 101 #[.val (.int p1), .val (.int p2), .val (.int p3), .val (.int p4), .val (.int p5), .val (.int (1 : Int32)), .val (.ref b1), .val (.int p1), .val (.int p1), .val (.int (1 : Int32)), .unset] [(.ref b1)])) (fun tg kk => XS.aload X30.here hx rfl (hb hby at_99) rfl rfl kk) ?_
    obtain ⟨cq39, kq39, q39a, q39b, q39c⟩ := isOf hZ rfl po31
    obtain ⟨_, _, ⟨T39, L39, k39, n39⟩, -, X39, ⟨Lc39, hQ39, l39, y39, z39⟩, st39⟩ := X30.virtualBack hx (y := (⟨"plainsight/grammar/IntList", "size", "()I"⟩ : MethodName)) (z := (⟨"plainsight/grammar/IntList", "size", "()I"⟩ : MethodName)) hown (mvT hZ (hw _ (List.mem_of_getElem? (i := 25) rfl))) (mvT hZ (hw _ (List.mem_of_getElem? (i := 26) rfl))) (notFace_of_selects (args := #[]) (mvT hZ (hw _ (List.mem_of_getElem? (i := 28) rfl)))) (mvT hZ (hw _ (List.mem_of_getElem? (i := 28) rfl))) (mvT hZ (hw _ (List.mem_of_getElem? (i := 27) rfl))) (by decide) (backOf (W := 0) (own_size l Z a0 hw [] b1 (0 : Int32) T30.heap n0 Z38 po33) hZ (hw _ (List.mem_of_getElem? (i := 29) rfl)) (hw _ (List.mem_of_getElem? (i := 3) rfl)) (by decide) (by decide)) q39a q39c (g := (mkF m 101 #[.val (.int p1), .val (.int p2), .val (.int p3), .val (.int p4), .val (.int p5), .val (.int (1 : Int32)), .val (.ref b1), .val (.int p1), .val (.int p1), .val (.int (1 : Int32)), .unset] [(.ref b1)])) rfl (by rw [hml]; rfl) (Steps.refl _) (argsL := []) (rest := []) (lenOf own_pd2 rfl) rfl (by show 2 * 0 + _ ≤ _; exact Nat.le_of_eq rfl) (hb hby at_101) (fun _ _ => ⟨rfl, rfl, (by decide : 2 + 0 ≤ _), (by decide : 18 + 0 ≤ _)⟩)
    dsimp only [Pt.U, Pt.locs, Pt.cells, Pt.slots] at X39 l39 y39 z39 st39 hQ39
    subst l39 y39 z39
    obtain ⟨rfl, N39q, e39⟩ := hQ39
    have N39 := Fr.app N30 N39q
    refine OwnGo.back (T39.setTop (mkF m 104 #[.val (.int p1), .val (.int p2), .val (.int p3), .val (.int p4), .val (.int p5), .val (.int (1 : Int32)), .val (.ref b1), .val (.int p1), .val (.int p1), .val (.int (1 : Int32)), .unset] [(.int (0 : Int32))])) (fun tg kk => st39.trans kk) ?_
    refine OwnGo.back (T39.setTop (mkF m 106 #[.val (.int p1), .val (.int p2), .val (.int p3), .val (.int p4), .val (.int p5), .val (.int (1 : Int32)), .val (.ref b1), .val (.int p1), .val (.int p1), .val (.int (1 : Int32)), .unset] [(.int (1 : Int32)), (.int (0 : Int32))])) (fun tg kk => XS.iload X39.here hx rfl (hb hby at_104) rfl kk) ?_
    refine OwnGo.back (T39.setTop (mkF m 107 #[.val (.int p1), .val (.int p2), .val (.int p3), .val (.int p4), .val (.int p5), .val (.int (1 : Int32)), .val (.ref b1), .val (.int p1), .val (.int p1), .val (.int (1 : Int32)), .unset] [(.int (1 : Int32)), (.int (1 : Int32)), (.int (0 : Int32))])) (fun tg kk => XS.iconst X39.here hx rfl (hb hby at_106) kk) ?_
    refine OwnGo.back (T39.setTop (mkF m 108 #[.val (.int p1), .val (.int p2), .val (.int p3), .val (.int p4), .val (.int p5), .val (.int (1 : Int32)), .val (.ref b1), .val (.int p1), .val (.int p1), .val (.int (1 : Int32)), .unset] [(.int (0 : Int32)), (.int (0 : Int32))])) (fun tg kk => XS.isub X39.here hx rfl (hb hby at_107) rfl kk) ?_
    refine OwnGo.back (T39.setTop (mkF m 111 #[.val (.int p1), .val (.int p2), .val (.int p3), .val (.int p4), .val (.int p5), .val (.int (1 : Int32)), .val (.ref b1), .val (.int p1), .val (.int p1), .val (.int (1 : Int32)), .unset] [])) (fun tg kk => XS.icmpNo X39.here hx rfl (hb hby at_108) rfl (teq (by decide : (0 : Int32) = (0 : Int32))).2 kk) ?_
    refine OwnGo.back (T39.setTop (mkF m 112 #[.val (.int p1), .val (.int p2), .val (.int p3), .val (.int p4), .val (.int p5), .val (.int (1 : Int32)), .val (.ref b1), .val (.int p1), .val (.int p1), .val (.int (1 : Int32)), .unset] [(.int (1 : Int32))])) (fun tg kk => XS.iconst X39.here hx rfl (hb hby at_111) kk) ?_
    refine OwnGo.back (T39.setTop (mkF m 116 #[.val (.int p1), .val (.int p2), .val (.int p3), .val (.int p4), .val (.int p5), .val (.int (1 : Int32)), .val (.ref b1), .val (.int p1), .val (.int p1), .val (.int (1 : Int32)), .unset] [(.int (1 : Int32))])) (fun tg kk => XS.goto X39.here hx rfl (pc0 := 112) (pc' := 116) rfl (hb hby at_112) (by decide) (by decide) kk) ?_
    refine OwnGo.back (T39.setTop (mkF m 118 #[.val (.int p1), .val (.int p2), .val (.int p3), .val (.int p4), .val (.int p5), .val (.int (1 : Int32)), .val (.ref b1), .val (.int p1), .val (.int p1), .val (.int (1 : Int32)), .unset] [])) (fun tg kk => XS.istore X39.here hx rfl (hb hby at_116) rfl (l' := #[.val (.int p1), .val (.int p2), .val (.int p3), .val (.int p4), .val (.int p5), .val (.int (1 : Int32)), .val (.ref b1), .val (.int p1), .val (.int p1), .val (.int (1 : Int32)), .unset]) rfl kk) ?_
    refine OwnGo.back (T39.setTop (mkF m 120 #[.val (.int p1), .val (.int p2), .val (.int p3), .val (.int p4), .val (.int p5), .val (.int (1 : Int32)), .val (.ref b1), .val (.int p1), .val (.int p1), .val (.int (1 : Int32)), .unset] [(.int (1 : Int32))])) (fun tg kk => XS.iload X39.here hx rfl (hb hby at_118) rfl kk) ?_
    refine OwnGo.back (T39.setTop (mkF m 121 #[.val (.int p1), .val (.int p2), .val (.int p3), .val (.int p4), .val (.int p5), .val (.int (1 : Int32)), .val (.ref b1), .val (.int p1), .val (.int p1), .val (.int (1 : Int32)), .unset] [(.int (2 : Int32)), (.int (1 : Int32))])) (fun tg kk => XS.iconst X39.here hx rfl (hb hby at_120) kk) ?_
    refine OwnGo.back (T39.setTop (mkF m 146 #[.val (.int p1), .val (.int p2), .val (.int p3), .val (.int p4), .val (.int p5), .val (.int (1 : Int32)), .val (.ref b1), .val (.int p1), .val (.int p1), .val (.int (1 : Int32)), .unset] [])) (fun tg kk => XS.icmpYes X39.here hx rfl (pc0 := 121) (pc' := 146) rfl (hb hby at_121) rfl (tlt (by decide : (1 : Int32) < (2 : Int32))).1 (by decide) (by decide) kk) ?_
    refine OwnGo.back (T39.setTop (mkF m 148 #[.val (.int p1), .val (.int p2), .val (.int p3), .val (.int p4), .val (.int p5), .val (.int (1 : Int32)), .val (.ref b1), .val (.int p1), .val (.int p1), .val (.int (1 : Int32)), .unset] [(.int (1 : Int32))])) (fun tg kk => XS.iload X39.here hx rfl (hb hby at_146) rfl kk) ?_
    refine OwnGo.back (T39.setTop (mkF m 149 #[.val (.int p1), .val (.int p2), .val (.int p3), .val (.int p4), .val (.int p5), .val (.int (1 : Int32)), .val (.ref b1), .val (.int p1), .val (.int p1), .val (.int (1 : Int32)), .unset] [(.int (3 : Int32)), (.int (1 : Int32))])) (fun tg kk => XS.iconst X39.here hx rfl (hb hby at_148) kk) ?_
    refine OwnGo.back (T39.setTop (mkF m 174 #[.val (.int p1), .val (.int p2), .val (.int p3), .val (.int p4), .val (.int p5), .val (.int (1 : Int32)), .val (.ref b1), .val (.int p1), .val (.int p1), .val (.int (1 : Int32)), .unset] [])) (fun tg kk => XS.icmpYes X39.here hx rfl (pc0 := 149) (pc' := 174) rfl (hb hby at_149) rfl (tlt (by decide : (1 : Int32) < (3 : Int32))).1 (by decide) (by decide) kk) ?_
    refine OwnGo.back (T39.setTop (mkF m 176 #[.val (.int p1), .val (.int p2), .val (.int p3), .val (.int p4), .val (.int p5), .val (.int (1 : Int32)), .val (.ref b1), .val (.int p1), .val (.int p1), .val (.int (1 : Int32)), .unset] [(.ref b1)])) (fun tg kk => XS.aload X39.here hx rfl (hb hby at_174) rfl rfl kk) ?_
    refine OwnGo.back (T39.setTop (mkF m 177 #[.val (.int p1), .val (.int p2), .val (.int p3), .val (.int p4), .val (.int p5), .val (.int (1 : Int32)), .val (.ref b1), .val (.int p1), .val (.int p1), .val (.int (1 : Int32)), .unset] [(.int p4), (.ref b1)])) (fun tg kk => XS.iloadN X39.here hx rfl (hb hby at_176) rfl kk) ?_
    obtain ⟨cq40, kq40, q40a, q40b, q40c⟩ := isOf hZ e39 po31
    obtain ⟨_, _, ⟨T40, L40, k40, n40⟩, -, X40, ⟨Lc40, hQ40, l40, y40, z40⟩, st40⟩ := X39.virtualBack hx (y := (⟨"plainsight/grammar/IntList", "add", "(I)V"⟩ : MethodName)) (z := (⟨"plainsight/grammar/IntList", "add", "(I)V"⟩ : MethodName)) hown (mvT hZ (hw _ (List.mem_of_getElem? (i := 13) rfl))) (mvT hZ (hw _ (List.mem_of_getElem? (i := 14) rfl))) (notFace_of_selects (args := #[]) (mvT hZ (hw _ (List.mem_of_getElem? (i := 16) rfl)))) (mvT hZ (hw _ (List.mem_of_getElem? (i := 16) rfl))) (mvT hZ (hw _ (List.mem_of_getElem? (i := 15) rfl))) (by decide) (backOf (W := 0) (own_add0 l Z a0 hw [] b1 p4 b_9 kb_10 (.int p1) (.int (0 : Int32)) (.int (0 : Int32)) T30.heap n0 Z38 po31 po32 po33 po34 g2 g20 n19) hZ (hw _ (List.mem_of_getElem? (i := 17) rfl)) (hw _ (List.mem_of_getElem? (i := 3) rfl)) (by decide) (by decide)) q40a q40c (g := (mkF m 177 #[.val (.int p1), .val (.int p2), .val (.int p3), .val (.int p4), .val (.int p5), .val (.int (1 : Int32)), .val (.ref b1), .val (.int p1), .val (.int p1), .val (.int (1 : Int32)), .unset] [(.int p4), (.ref b1)])) rfl (by rw [hml]; rfl) (Steps.refl _) (argsL := [(.int p4)]) (rest := []) (lenOf own_pd1 rfl) rfl (by show 2 * 0 + _ ≤ _; exact Nat.le_of_eq rfl) (hb hby at_177) (fun _ _ => ⟨rfl, e39, (by decide : 2 + 0 ≤ _), (by decide : 18 + 0 ≤ _)⟩)
    dsimp only [Pt.U, Pt.locs, Pt.cells, Pt.slots] at X40 l40 y40 z40 st40 hQ40
    subst l40 y40 z40
    obtain ⟨rfl, N40q, Kc40, po41, po42, po43, po44⟩ := hQ40
    have N40 := Fr.app N39 N40q
    have f45 : Exa Z T40.heap b1 "plainsight/grammar/IntList" := po31.keep Kc40
    have K46 : Keep h0 T40.heap [] := K37.trans Kc40 (allS (Or.inr s3) (allS (Or.inr s21) all0))
    have Z47 : n0 ≤ T40.heap.size := Nat.le_trans Z38 Kc40.1
    refine OwnGo.back (T40.setTop (mkF m 180 #[.val (.int p1), .val (.int p2), .val (.int p3), .val (.int p4), .val (.int p5), .val (.int (1 : Int32)), .val (.ref b1), .val (.int p1), .val (.int p1), .val (.int (1 : Int32)), .unset] [])) (fun tg kk => st40.trans kk) ?_
    refine OwnGo.back (T40.setTop (mkF m 182 #[.val (.int p1), .val (.int p2), .val (.int p3), .val (.int p4), .val (.int p5), .val (.int (1 : Int32)), .val (.ref b1), .val (.int p1), .val (.int p1), .val (.int (1 : Int32)), .unset] [(.ref b1)])) (fun tg kk => XS.aload X40.here hx rfl (hb hby at_180) rfl rfl kk) ?_
    obtain ⟨cq48, kq48, q48a, q48b, q48c⟩ := isOf hZ rfl po41
    obtain ⟨_, _, ⟨T48, L48, k48, n48⟩, -, X48, ⟨Lc48, hQ48, l48, y48, z48⟩, st48⟩ := X40.virtualBack hx (y := (⟨"plainsight/grammar/IntList", "pop", "()I"⟩ : MethodName)) (z := (⟨"plainsight/grammar/IntList", "pop", "()I"⟩ : MethodName)) hown (mvT hZ (hw _ (List.mem_of_getElem? (i := 20) rfl))) (mvT hZ (hw _ (List.mem_of_getElem? (i := 21) rfl))) (notFace_of_selects (args := #[]) (mvT hZ (hw _ (List.mem_of_getElem? (i := 23) rfl)))) (mvT hZ (hw _ (List.mem_of_getElem? (i := 23) rfl))) (mvT hZ (hw _ (List.mem_of_getElem? (i := 22) rfl))) (by decide) (backOf (W := 0) (own_pop1 l Z a0 hw [] b1 b_9 kb_10 p4 (.int (0 : Int32)) (.int (0 : Int32)) T40.heap n0 Z47 po41 po42 po43 po44 g2 g20 n19) hZ (hw _ (List.mem_of_getElem? (i := 24) rfl)) (hw _ (List.mem_of_getElem? (i := 3) rfl)) (by decide) (by decide)) q48a q48c (g := (mkF m 182 #[.val (.int p1), .val (.int p2), .val (.int p3), .val (.int p4), .val (.int p5), .val (.int (1 : Int32)), .val (.ref b1), .val (.int p1), .val (.int p1), .val (.int (1 : Int32)), .unset] [(.ref b1)])) rfl (by rw [hml]; rfl) (Steps.refl _) (argsL := []) (rest := []) (lenOf own_pd2 rfl) rfl (by show 2 * 0 + _ ≤ _; exact Nat.le_of_eq rfl) (hb hby at_182) (fun _ _ => ⟨rfl, rfl, (by decide : 2 + 0 ≤ _), (by decide : 18 + 0 ≤ _)⟩)
    dsimp only [Pt.U, Pt.locs, Pt.cells, Pt.slots] at X48 l48 y48 z48 st48 hQ48
    subst l48 y48 z48
    obtain ⟨rfl, N48q, Kc48, po49, po50, po51, po52⟩ := hQ48
    have N48 := Fr.app N40 N48q
    have f53 : Exa Z T48.heap b1 "plainsight/grammar/IntList" := po41.keep Kc48
    have f54 : Arv Z T48.heap b_9 kb_10 .int (16 : Int32) [(.int p4), (.int (0 : Int32)), (.int (0 : Int32))] (.int (0 : Int32)) := po44.keep Kc48 (ninS (Ne.symm n19) nin0)
    have K55 : Keep h0 T48.heap [] := K46.trans Kc48 (allS (Or.inr s3) all0)
    have Z56 : n0 ≤ T48.heap.size := Nat.le_trans Z47 Kc48.1
    refine OwnGo.back (T48.setTop (mkF m 185 #[.val (.int p1), .val (.int p2), .val (.int p3), .val (.int p4), .val (.int p5), .val (.int (1 : Int32)), .val (.ref b1), .val (.int p1), .val (.int p1), .val (.int (1 : Int32)), .unset] [(.int p4)])) (fun tg kk => st48.trans kk) ?_
    refine OwnGo.back (T48.setTop (mkF m 187 #[.val (.int p1), .val (.int p2), .val (.int p3), .val (.int p4), .val (.int p5), .val (.int (1 : Int32)), .val (.ref b1), .val (.int p1), .val (.int p1), .val (.int (1 : Int32)), .val (.int p4)] [])) (fun tg kk => XS.istore X48.here hx rfl (hb hby at_185) rfl (l' := #[.val (.int p1), .val (.int p2), .val (.int p3), .val (.int p4), .val (.int p5), .val (.int (1 : Int32)), .val (.ref b1), .val (.int p1), .val (.int p1), .val (.int (1 : Int32)), .val (.int p4)]) rfl kk) ?_
    refine OwnGo.back (T48.setTop (mkF m 189 #[.val (.int p1), .val (.int p2), .val (.int p3), .val (.int p4), .val (.int p5), .val (.int (1 : Int32)), .val (.ref b1), .val (.int p1), .val (.int p1), .val (.int (1 : Int32)), .val (.int p4)] [(.int (1 : Int32))])) (fun tg kk => XS.iload X48.here hx rfl (hb hby at_187) rfl kk) ?_
    refine OwnGo.back (T48.setTop (mkF m 192 #[.val (.int p1), .val (.int p2), .val (.int p3), .val (.int p4), .val (.int p5), .val (.int (1 : Int32)), .val (.ref b1), .val (.int p1), .val (.int p1), .val (.int (1 : Int32)), .val (.int p4)] [])) (fun tg kk => XS.ifNo X48.here hx rfl (hb hby at_189) rfl ((if0 _ _).trans (feq (by decide : ¬ ((1 : Int32) = (0 : Int32)))).1) kk) ?_
    refine OwnGo.back (T48.setTop (mkF m 194 #[.val (.int p1), .val (.int p2), .val (.int p3), .val (.int p4), .val (.int p5), .val (.int (1 : Int32)), .val (.ref b1), .val (.int p1), .val (.int p1), .val (.int (1 : Int32)), .val (.int p4)] [(.int p4)])) (fun tg kk => XS.iload X48.here hx rfl (hb hby at_192) rfl kk) ?_
    refine OwnGo.back (T48.setTop (mkF m 195 #[.val (.int p1), .val (.int p2), .val (.int p3), .val (.int p4), .val (.int p5), .val (.int (1 : Int32)), .val (.ref b1), .val (.int p1), .val (.int p1), .val (.int (1 : Int32)), .val (.int p4)] [(.int p4), (.int p4)])) (fun tg kk => XS.iloadN X48.here hx rfl (hb hby at_194) rfl kk) ?_
    refine OwnGo.back (T48.setTop (mkF m 198 #[.val (.int p1), .val (.int p2), .val (.int p3), .val (.int p4), .val (.int p5), .val (.int (1 : Int32)), .val (.ref b1), .val (.int p1), .val (.int p1), .val (.int (1 : Int32)), .val (.int p4)] [])) (fun tg kk => XS.icmpNo X48.here hx rfl (hb hby at_195) rfl (teq (rfl : p4 = p4)).2 kk) ?_
    refine OwnGo.back (T48.setTop (mkF m 199 #[.val (.int p1), .val (.int p2), .val (.int p3), .val (.int p4), .val (.int p5), .val (.int (1 : Int32)), .val (.ref b1), .val (.int p1), .val (.int p1), .val (.int (1 : Int32)), .val (.int p4)] [(.int (1 : Int32))])) (fun tg kk => XS.iconst X48.here hx rfl (hb hby at_198) kk) ?_
    refine OwnGo.back (T48.setTop (mkF m 203 #[.val (.int p1), .val (.int p2), .val (.int p3), .val (.int p4), .val (.int p5), .val (.int (1 : Int32)), .val (.ref b1), .val (.int p1), .val (.int p1), .val (.int (1 : Int32)), .val (.int p4)] [(.int (1 : Int32))])) (fun tg kk => XS.goto X48.here hx rfl (pc0 := 199) (pc' := 203) rfl (hb hby at_199) (by decide) (by decide) kk) ?_
    refine OwnGo.back (T48.setTop (mkF m 205 #[.val (.int p1), .val (.int p2), .val (.int p3), .val (.int p4), .val (.int p5), .val (.int (1 : Int32)), .val (.ref b1), .val (.int p1), .val (.int p1), .val (.int (1 : Int32)), .val (.int p4)] [])) (fun tg kk => XS.istore X48.here hx rfl (hb hby at_203) rfl (l' := #[.val (.int p1), .val (.int p2), .val (.int p3), .val (.int p4), .val (.int p5), .val (.int (1 : Int32)), .val (.ref b1), .val (.int p1), .val (.int p1), .val (.int (1 : Int32)), .val (.int p4)]) rfl kk) ?_
    refine OwnGo.back (T48.setTop (mkF m 207 #[.val (.int p1), .val (.int p2), .val (.int p3), .val (.int p4), .val (.int p5), .val (.int (1 : Int32)), .val (.ref b1), .val (.int p1), .val (.int p1), .val (.int (1 : Int32)), .val (.int p4)] [(.int (1 : Int32))])) (fun tg kk => XS.iload X48.here hx rfl (hb hby at_205) rfl kk) ?_
    obtain ⟨fs, hr, hrun, hended, hW, hsame⟩ := X48.leave (v := some (.int (1 : Int32))) (fun h => by rw [Bd.returns] at h; cases h)
    refine ⟨_, _, ?_, hrun, hended, _, _, rfl, ?_, ⟨_, rfl⟩, hW, hsame.mono (by decide) (by decide)⟩
    · exact retN X48 hx (t := .boolean) Bd.returns (by simp) (hb hby at_207) hr
    · show own_law_Q Z p1 p2 p3 p4 p5 h0 n0 _ T48.heap _
      exact ⟨rfl, N48, K55⟩
  ·
    rw [hq]
    refine OwnGo.back (s₁.setTop (mkF m 11 #[.val (.int p1), .val (.int p2), .val (.int p3), .val (.int p4), .val (.int p5), .val (.int (2 : Int32)), .unset, .unset, .unset, .unset, .unset] [])) (fun tg kk => XS.istore X0.here hx rfl (hb hby at_9) rfl (l' := #[.val (.int p1), .val (.int p2), .val (.int p3), .val (.int p4), .val (.int p5), .val (.int (2 : Int32)), .unset, .unset, .unset, .unset, .unset]) rfl kk) ?_
    obtain ⟨T57, h57, X57, e57, E57, A57, D57, -, st57⟩ := newO X0 hx hZ hown (hw _ (List.mem_of_getElem? (i := 1) rfl)) (hw _ (List.mem_of_getElem? (i := 2) rfl)) (hw _ (List.mem_of_getElem? (i := 3) rfl)) e0 (g := (mkF m 11 #[.val (.int p1), .val (.int p2), .val (.int p3), .val (.int p4), .val (.int p5), .val (.int (2 : Int32)), .unset, .unset, .unset, .unset, .unset] [])) rfl (hb hby at_11) (by decide) (by decide)
    obtain ⟨b57, q57⟩ : ∃ z, z = h0.size := ⟨_, rfl⟩
    rw [← q57] at A57 D57 st57
    have g58 : n0 ≤ b57 := Nat.le_trans Z0 (Nat.le_of_eq q57.symm)
    have s59 : h0.size ≤ b57 := Nat.le_trans K0.1 (Nat.le_of_eq q57.symm)
    have K60 : Keep h0 h57 [] := K0.ext E57
    have Z61 : n0 ≤ h57.size := Nat.le_trans Z0 E57.1
    have f62 : Fld Z h57 b57 "plainsight/grammar/IntList" "values" "[I" .null := D57 (Or.inl (hw _ (List.mem_of_getElem? (i := 12) rfl))) (ty := (.array .int)) (by decide)
    have f63 : Fld Z h57 b57 "plainsight/grammar/IntList" "size" "I" (.int (0 : Int32)) := D57 (Or.inl (hw _ (List.mem_of_getElem? (i := 19) rfl))) (ty := .int) (by decide)
    refine OwnGo.back (T57.setTop (mkF m 14 #[.val (.int p1), .val (.int p2), .val (.int p3), .val (.int p4), .val (.int p5), .val (.int (2 : Int32)), .unset, .unset, .unset, .unset, .unset] [(.ref b57)])) (fun tg kk => st57 _ kk) ?_
    refine OwnGo.back (T57.setTop (mkF m 15 #[.val (.int p1), .val (.int p2), .val (.int p3), .val (.int p4), .val (.int p5), .val (.int (2 : Int32)), .unset, .unset, .unset, .unset, .unset] [(.ref b57), (.ref b57)])) (fun tg kk => XS.dup X57.here hx rfl (hb hby at_14) rfl rfl kk) ?_
    obtain ⟨_, _, ⟨T64, L64, k64, n64⟩, -, X64, ⟨Lc64, hQ64, l64, y64, z64⟩, st64⟩ := X57.specialBack hx (y := (⟨"plainsight/grammar/IntList", "<init>", "()V"⟩ : MethodName)) rfl hown (mvT hZ (hw _ (List.mem_of_getElem? (i := 4) rfl))) (mvT hZ (hw _ (List.mem_of_getElem? (i := 5) rfl))) (mvT hZ (hw _ (List.mem_of_getElem? (i := 6) rfl))) (by decide) (backOf (W := 1) (own_init l Z a0 hw [] b57 h57 n0 Z61 A57 f62 f63 g58) hZ (hw _ (List.mem_of_getElem? (i := 6) rfl)) (hw _ (List.mem_of_getElem? (i := 3) rfl)) (by decide) (by decide)) (g := (mkF m 15 #[.val (.int p1), .val (.int p2), .val (.int p3), .val (.int p4), .val (.int p5), .val (.int (2 : Int32)), .unset, .unset, .unset, .unset, .unset] [(.ref b57), (.ref b57)])) rfl (by rw [hml]; rfl) (Steps.refl _) (a := b57) (argsL := []) (rest := [(.ref b57)]) (lenOf own_pd0 rfl) rfl (by show 2 * 0 + _ ≤ _; exact Nat.le_of_eq rfl) (hb hby at_15) (fun _ _ => ⟨rfl, e57, (by decide : 1 + 1 ≤ _), (by decide : 2 + 16 ≤ _)⟩)
    dsimp only [Pt.U, Pt.locs, Pt.cells, Pt.slots] at X64 l64 y64 z64 st64 hQ64
    subst l64 y64 z64
    obtain ⟨b_65, kb_66, rfl, N64q, Kc64, po67, po68, po69, po70, po71⟩ := hQ64
    have N64 := Fr.app N0 N64q
    have f72 : Exa Z T64.heap b57 "plainsight/grammar/IntList" := A57.keep Kc64
    have K73 : Keep h0 T64.heap [] := K60.trans Kc64 (allS (Or.inr s59) all0)
    have Z74 : n0 ≤ T64.heap.size := Nat.le_trans Z61 Kc64.1
    have n75 : b57 ≠ b_65 := own_ne' A57.lt po67
    have g76 : n0 ≤ b_65 := Nat.le_trans Z61 po67
    have s77 : h0.size ≤ b_65 := Nat.le_trans K60.1 po67
    refine OwnGo.back (T64.setTop (mkF m 18 #[.val (.int p1), .val (.int p2), .val (.int p3), .val (.int p4), .val (.int p5), .val (.int (2 : Int32)), .unset, .unset, .unset, .unset, .unset] [(.ref b57)])) (fun tg kk => st64.trans kk) ?_
    refine OwnGo.back (T64.setTop (mkF m 20 #[.val (.int p1), .val (.int p2), .val (.int p3), .val (.int p4), .val (.int p5), .val (.int (2 : Int32)), .val (.ref b57), .unset, .unset, .unset, .unset] [])) (fun tg kk => XS.astore X64.here hx rfl (hb hby at_18) rfl rfl (l' := #[.val (.int p1), .val (.int p2), .val (.int p3), .val (.int p4), .val (.int p5), .val (.int (2 : Int32)), .val (.ref b57), .unset, .unset, .unset, .unset]) rfl kk) ?_
    refine OwnGo.back (T64.setTop (mkF m 22 #[.val (.int p1), .val (.int p2), .val (.int p3), .val (.int p4), .val (.int p5), .val (.int (2 : Int32)), .val (.ref b57), .unset, .unset, .unset, .unset] [(.ref b57)])) (fun tg kk => XS.aload X64.here hx rfl (hb hby at_20) rfl rfl kk) ?_
    refine OwnGo.back (T64.setTop (mkF m 23 #[.val (.int p1), .val (.int p2), .val (.int p3), .val (.int p4), .val (.int p5), .val (.int (2 : Int32)), .val (.ref b57), .unset, .unset, .unset, .unset] [(.int p1), (.ref b57)])) (fun tg kk => XS.iloadN X64.here hx rfl (hb hby at_22) rfl kk) ?_
    obtain ⟨cq78, kq78, q78a, q78b, q78c⟩ := isOf hZ rfl po68
    obtain ⟨_, _, ⟨T78, L78, k78, n78⟩, -, X78, ⟨Lc78, hQ78, l78, y78, z78⟩, st78⟩ := X64.virtualBack hx (y := (⟨"plainsight/grammar/IntList", "add", "(I)V"⟩ : MethodName)) (z := (⟨"plainsight/grammar/IntList", "add", "(I)V"⟩ : MethodName)) hown (mvT hZ (hw _ (List.mem_of_getElem? (i := 13) rfl))) (mvT hZ (hw _ (List.mem_of_getElem? (i := 14) rfl))) (notFace_of_selects (args := #[]) (mvT hZ (hw _ (List.mem_of_getElem? (i := 16) rfl)))) (mvT hZ (hw _ (List.mem_of_getElem? (i := 16) rfl))) (mvT hZ (hw _ (List.mem_of_getElem? (i := 15) rfl))) (by decide) (backOf (W := 0) (own_add0 l Z a0 hw [] b57 p1 b_65 kb_66 (.int (0 : Int32)) (.int (0 : Int32)) (.int (0 : Int32)) T64.heap n0 Z74 po68 po69 po70 po71 g58 g76 n75) hZ (hw _ (List.mem_of_getElem? (i := 17) rfl)) (hw _ (List.mem_of_getElem? (i := 3) rfl)) (by decide) (by decide)) q78a q78c (g := (mkF m 23 #[.val (.int p1), .val (.int p2), .val (.int p3), .val (.int p4), .val (.int p5), .val (.int (2 : Int32)), .val (.ref b57), .unset, .unset, .unset, .unset] [(.int p1), (.ref b57)])) rfl (by rw [hml]; rfl) (Steps.refl _) (argsL := [(.int p1)]) (rest := []) (lenOf own_pd1 rfl) rfl (by show 2 * 0 + _ ≤ _; exact Nat.le_of_eq rfl) (hb hby at_23) (fun _ _ => ⟨rfl, rfl, (by decide : 2 + 0 ≤ _), (by decide : 18 + 0 ≤ _)⟩)
    dsimp only [Pt.U, Pt.locs, Pt.cells, Pt.slots] at X78 l78 y78 z78 st78 hQ78
    subst l78 y78 z78
    obtain ⟨rfl, N78q, Kc78, po79, po80, po81, po82⟩ := hQ78
    have N78 := Fr.app N64 N78q
    have f83 : Exa Z T78.heap b57 "plainsight/grammar/IntList" := po68.keep Kc78
    have K84 : Keep h0 T78.heap [] := K73.trans Kc78 (allS (Or.inr s59) (allS (Or.inr s77) all0))
    have Z85 : n0 ≤ T78.heap.size := Nat.le_trans Z74 Kc78.1
    refine OwnGo.back (T78.setTop (mkF m 26 #[.val (.int p1), .val (.int p2), .val (.int p3), .val (.int p4), .val (.int p5), .val (.int (2 : Int32)), .val (.ref b57), .unset, .unset, .unset, .unset] [])) (fun tg kk => st78.trans kk) ?_
    refine OwnGo.back (T78.setTop (mkF m 28 #[.val (.int p1), .val (.int p2), .val (.int p3), .val (.int p4), .val (.int p5), .val (.int (2 : Int32)), .val (.ref b57), .unset, .unset, .unset, .unset] [(.int (2 : Int32))])) (fun tg kk => XS.iload X78.here hx rfl (hb hby at_26) rfl kk) ?_
    refine OwnGo.back (T78.setTop (mkF m 29 #[.val (.int p1), .val (.int p2), .val (.int p3), .val (.int p4), .val (.int p5), .val (.int (2 : Int32)), .val (.ref b57), .unset, .unset, .unset, .unset] [(.int (2 : Int32)), (.int (2 : Int32))])) (fun tg kk => XS.iconst X78.here hx rfl (hb hby at_28) kk) ?_
    refine OwnGo.back (T78.setTop (mkF m 32 #[.val (.int p1), .val (.int p2), .val (.int p3), .val (.int p4), .val (.int p5), .val (.int (2 : Int32)), .val (.ref b57), .unset, .unset, .unset, .unset] [])) (fun tg kk => XS.icmpNo X78.here hx rfl (hb hby at_29) rfl (flt (by decide : ¬ ((2 : Int32) < (2 : Int32)))).1 kk) ?_
    refine OwnGo.back (T78.setTop (mkF m 34 #[.val (.int p1), .val (.int p2), .val (.int p3), .val (.int p4), .val (.int p5), .val (.int (2 : Int32)), .val (.ref b57), .unset, .unset, .unset, .unset] [(.ref b57)])) (fun tg kk => XS.aload X78.here hx rfl (hb hby at_32) rfl rfl kk) ?_
    refine OwnGo.back (T78.setTop (mkF m 35 #[.val (.int p1), .val (.int p2), .val (.int p3), .val (.int p4), .val (.int p5), .val (.int (2 : Int32)), .val (.ref b57), .unset, .unset, .unset, .unset] [(.int p2), (.ref b57)])) (fun tg kk => XS.iloadN X78.here hx rfl (hb hby at_34) rfl kk) ?_
    obtain ⟨cq86, kq86, q86a, q86b, q86c⟩ := isOf hZ rfl po79
    obtain ⟨_, _, ⟨T86, L86, k86, n86⟩, -, X86, ⟨Lc86, hQ86, l86, y86, z86⟩, st86⟩ := X78.virtualBack hx (y := (⟨"plainsight/grammar/IntList", "add", "(I)V"⟩ : MethodName)) (z := (⟨"plainsight/grammar/IntList", "add", "(I)V"⟩ : MethodName)) hown (mvT hZ (hw _ (List.mem_of_getElem? (i := 13) rfl))) (mvT hZ (hw _ (List.mem_of_getElem? (i := 14) rfl))) (notFace_of_selects (args := #[]) (mvT hZ (hw _ (List.mem_of_getElem? (i := 16) rfl)))) (mvT hZ (hw _ (List.mem_of_getElem? (i := 16) rfl))) (mvT hZ (hw _ (List.mem_of_getElem? (i := 15) rfl))) (by decide) (backOf (W := 0) (own_add1 l Z a0 hw [] b57 p2 b_65 kb_66 (.int p1) (.int (0 : Int32)) (.int (0 : Int32)) T78.heap n0 Z85 po79 po80 po81 po82 g58 g76 n75) hZ (hw _ (List.mem_of_getElem? (i := 17) rfl)) (hw _ (List.mem_of_getElem? (i := 3) rfl)) (by decide) (by decide)) q86a q86c (g := (mkF m 35 #[.val (.int p1), .val (.int p2), .val (.int p3), .val (.int p4), .val (.int p5), .val (.int (2 : Int32)), .val (.ref b57), .unset, .unset, .unset, .unset] [(.int p2), (.ref b57)])) rfl (by rw [hml]; rfl) (Steps.refl _) (argsL := [(.int p2)]) (rest := []) (lenOf own_pd1 rfl) rfl (by show 2 * 0 + _ ≤ _; exact Nat.le_of_eq rfl) (hb hby at_35) (fun _ _ => ⟨rfl, rfl, (by decide : 2 + 0 ≤ _), (by decide : 18 + 0 ≤ _)⟩)
    dsimp only [Pt.U, Pt.locs, Pt.cells, Pt.slots] at X86 l86 y86 z86 st86 hQ86
    subst l86 y86 z86
    obtain ⟨rfl, N86q, Kc86, po87, po88, po89, po90⟩ := hQ86
    have N86 := Fr.app N78 N86q
    have f91 : Exa Z T86.heap b57 "plainsight/grammar/IntList" := po79.keep Kc86
    have K92 : Keep h0 T86.heap [] := K84.trans Kc86 (allS (Or.inr s59) (allS (Or.inr s77) all0))
    have Z93 : n0 ≤ T86.heap.size := Nat.le_trans Z85 Kc86.1
    refine OwnGo.back (T86.setTop (mkF m 38 #[.val (.int p1), .val (.int p2), .val (.int p3), .val (.int p4), .val (.int p5), .val (.int (2 : Int32)), .val (.ref b57), .unset, .unset, .unset, .unset] [])) (fun tg kk => st86.trans kk) ?_
    refine OwnGo.back (T86.setTop (mkF m 40 #[.val (.int p1), .val (.int p2), .val (.int p3), .val (.int p4), .val (.int p5), .val (.int (2 : Int32)), .val (.ref b57), .unset, .unset, .unset, .unset] [(.int (2 : Int32))])) (fun tg kk => XS.iload X86.here hx rfl (hb hby at_38) rfl kk) ?_
    refine OwnGo.back (T86.setTop (mkF m 41 #[.val (.int p1), .val (.int p2), .val (.int p3), .val (.int p4), .val (.int p5), .val (.int (2 : Int32)), .val (.ref b57), .unset, .unset, .unset, .unset] [(.int (3 : Int32)), (.int (2 : Int32))])) (fun tg kk => XS.iconst X86.here hx rfl (hb hby at_40) kk) ?_
    refine OwnGo.back (T86.setTop (mkF m 50 #[.val (.int p1), .val (.int p2), .val (.int p3), .val (.int p4), .val (.int p5), .val (.int (2 : Int32)), .val (.ref b57), .unset, .unset, .unset, .unset] [])) (fun tg kk => XS.icmpYes X86.here hx rfl (pc0 := 41) (pc' := 50) rfl (hb hby at_41) rfl (tlt (by decide : (2 : Int32) < (3 : Int32))).1 (by decide) (by decide) kk) ?_
    refine OwnGo.back (T86.setTop (mkF m 52 #[.val (.int p1), .val (.int p2), .val (.int p3), .val (.int p4), .val (.int p5), .val (.int (2 : Int32)), .val (.ref b57), .unset, .unset, .unset, .unset] [(.int (2 : Int32))])) (fun tg kk => XS.iload X86.here hx rfl (hb hby at_50) rfl kk) ?_
    refine OwnGo.back (T86.setTop (mkF m 53 #[.val (.int p1), .val (.int p2), .val (.int p3), .val (.int p4), .val (.int p5), .val (.int (2 : Int32)), .val (.ref b57), .unset, .unset, .unset, .unset] [(.int (1 : Int32)), (.int (2 : Int32))])) (fun tg kk => XS.iconst X86.here hx rfl (hb hby at_52) kk) ?_
    refine OwnGo.back (T86.setTop (mkF m 60 #[.val (.int p1), .val (.int p2), .val (.int p3), .val (.int p4), .val (.int p5), .val (.int (2 : Int32)), .val (.ref b57), .unset, .unset, .unset, .unset] [])) (fun tg kk => XS.icmpYes X86.here hx rfl (pc0 := 53) (pc' := 60) rfl (hb hby at_53) rfl (feq (by decide : ¬ ((2 : Int32) = (1 : Int32)))).2 (by decide) (by decide) kk) ?_
    refine OwnGo.back (T86.setTop (mkF m 62 #[.val (.int p1), .val (.int p2), .val (.int p3), .val (.int p4), .val (.int p5), .val (.int (2 : Int32)), .val (.ref b57), .unset, .unset, .unset, .unset] [(.int (2 : Int32))])) (fun tg kk => XS.iload X86.here hx rfl (hb hby at_60) rfl kk) ?_
    refine OwnGo.back (T86.setTop (mkF m 63 #[.val (.int p1), .val (.int p2), .val (.int p3), .val (.int p4), .val (.int p5), .val (.int (2 : Int32)), .val (.ref b57), .unset, .unset, .unset, .unset] [(.int (2 : Int32)), (.int (2 : Int32))])) (fun tg kk => XS.iconst X86.here hx rfl (hb hby at_62) kk) ?_
    refine OwnGo.back (T86.setTop (mkF m 66 #[.val (.int p1), .val (.int p2), .val (.int p3), .val (.int p4), .val (.int p5), .val (.int (2 : Int32)), .val (.ref b57), .unset, .unset, .unset, .unset] [])) (fun tg kk => XS.icmpNo X86.here hx rfl (hb hby at_63) rfl (teq (by decide : (2 : Int32) = (2 : Int32))).2 kk) ?_
    refine OwnGo.back (T86.setTop (mkF m 67 #[.val (.int p1), .val (.int p2), .val (.int p3), .val (.int p4), .val (.int p5), .val (.int (2 : Int32)), .val (.ref b57), .unset, .unset, .unset, .unset] [(.int p2)])) (fun tg kk => XS.iloadN X86.here hx rfl (hb hby at_66) rfl kk) ?_
    refine OwnGo.back (T86.setTop (mkF m 71 #[.val (.int p1), .val (.int p2), .val (.int p3), .val (.int p4), .val (.int p5), .val (.int (2 : Int32)), .val (.ref b57), .unset, .unset, .unset, .unset] [(.int p2)])) (fun tg kk => XS.goto X86.here hx rfl (pc0 := 67) (pc' := 71) rfl (hb hby at_67) (by decide) (by decide) kk) ?_
    refine OwnGo.back (T86.setTop (mkF m 73 #[.val (.int p1), .val (.int p2), .val (.int p3), .val (.int p4), .val (.int p5), .val (.int (2 : Int32)), .val (.ref b57), .val (.int p2), .unset, .unset, .unset] [])) (fun tg kk => XS.istore X86.here hx rfl (hb hby at_71) rfl (l' := #[.val (.int p1), .val (.int p2), .val (.int p3), .val (.int p4), .val (.int p5), .val (.int (2 : Int32)), .val (.ref b57), .val (.int p2), .unset, .unset, .unset]) rfl kk) ?_
    refine OwnGo.back (T86.setTop (mkF m 75 #[.val (.int p1), .val (.int p2), .val (.int p3), .val (.int p4), .val (.int p5), .val (.int (2 : Int32)), .val (.ref b57), .val (.int p2), .unset, .unset, .unset] [(.ref b57)])) (fun tg kk => XS.aload X86.here hx rfl (hb hby at_73) rfl rfl kk) ?_
    obtain ⟨cq94, kq94, q94a, q94b, q94c⟩ := isOf hZ rfl po87
    obtain ⟨_, _, ⟨T94, L94, k94, n94⟩, -, X94, ⟨Lc94, hQ94, l94, y94, z94⟩, st94⟩ := X86.virtualBack hx (y := (⟨"plainsight/grammar/IntList", "pop", "()I"⟩ : MethodName)) (z := (⟨"plainsight/grammar/IntList", "pop", "()I"⟩ : MethodName)) hown (mvT hZ (hw _ (List.mem_of_getElem? (i := 20) rfl))) (mvT hZ (hw _ (List.mem_of_getElem? (i := 21) rfl))) (notFace_of_selects (args := #[]) (mvT hZ (hw _ (List.mem_of_getElem? (i := 23) rfl)))) (mvT hZ (hw _ (List.mem_of_getElem? (i := 23) rfl))) (mvT hZ (hw _ (List.mem_of_getElem? (i := 22) rfl))) (by decide) (backOf (W := 0) (own_pop2 l Z a0 hw [] b57 b_65 kb_66 p2 (.int p1) (.int (0 : Int32)) T86.heap n0 Z93 po87 po88 po89 po90 g58 g76 n75) hZ (hw _ (List.mem_of_getElem? (i := 24) rfl)) (hw _ (List.mem_of_getElem? (i := 3) rfl)) (by decide) (by decide)) q94a q94c (g := (mkF m 75 #[.val (.int p1), .val (.int p2), .val (.int p3), .val (.int p4), .val (.int p5), .val (.int (2 : Int32)), .val (.ref b57), .val (.int p2), .unset, .unset, .unset] [(.ref b57)])) rfl (by rw [hml]; rfl) (Steps.refl _) (argsL := []) (rest := []) (lenOf own_pd2 rfl) rfl (by show 2 * 0 + _ ≤ _; exact Nat.le_of_eq rfl) (hb hby at_75) (fun _ _ => ⟨rfl, rfl, (by decide : 2 + 0 ≤ _), (by decide : 18 + 0 ≤ _)⟩)
    dsimp only [Pt.U, Pt.locs, Pt.cells, Pt.slots] at X94 l94 y94 z94 st94 hQ94
    subst l94 y94 z94
    obtain ⟨rfl, N94q, Kc94, po95, po96, po97, po98⟩ := hQ94
    have N94 := Fr.app N86 N94q
    have f99 : Exa Z T94.heap b57 "plainsight/grammar/IntList" := po87.keep Kc94
    have f100 : Arv Z T94.heap b_65 kb_66 .int (16 : Int32) [(.int p1), (.int p2), (.int (0 : Int32))] (.int (0 : Int32)) := po90.keep Kc94 (ninS (Ne.symm n75) nin0)
    have K101 : Keep h0 T94.heap [] := K92.trans Kc94 (allS (Or.inr s59) all0)
    have Z102 : n0 ≤ T94.heap.size := Nat.le_trans Z93 Kc94.1
    refine OwnGo.back (T94.setTop (mkF m 78 #[.val (.int p1), .val (.int p2), .val (.int p3), .val (.int p4), .val (.int p5), .val (.int (2 : Int32)), .val (.ref b57), .val (.int p2), .unset, .unset, .unset] [(.int p2)])) (fun tg kk => st94.trans kk) ?_
    refine OwnGo.back (T94.setTop (mkF m 80 #[.val (.int p1), .val (.int p2), .val (.int p3), .val (.int p4), .val (.int p5), .val (.int (2 : Int32)), .val (.ref b57), .val (.int p2), .val (.int p2), .unset, .unset] [])) (fun tg kk => XS.istore X94.here hx rfl (hb hby at_78) rfl (l' := #[.val (.int p1), .val (.int p2), .val (.int p3), .val (.int p4), .val (.int p5), .val (.int (2 : Int32)), .val (.ref b57), .val (.int p2), .val (.int p2), .unset, .unset]) rfl kk) ?_
    refine OwnGo.back (T94.setTop (mkF m 82 #[.val (.int p1), .val (.int p2), .val (.int p3), .val (.int p4), .val (.int p5), .val (.int (2 : Int32)), .val (.ref b57), .val (.int p2), .val (.int p2), .unset, .unset] [(.int p2)])) (fun tg kk => XS.iload X94.here hx rfl (hb hby at_80) rfl kk) ?_
    refine OwnGo.back (T94.setTop (mkF m 84 #[.val (.int p1), .val (.int p2), .val (.int p3), .val (.int p4), .val (.int p5), .val (.int (2 : Int32)), .val (.ref b57), .val (.int p2), .val (.int p2), .unset, .unset] [(.int p2), (.int p2)])) (fun tg kk => XS.iload X94.here hx rfl (hb hby at_82) rfl kk) ?_
    refine OwnGo.back (T94.setTop (mkF m 87 #[.val (.int p1), .val (.int p2), .val (.int p3), .val (.int p4), .val (.int p5), .val (.int (2 : Int32)), .val (.ref b57), .val (.int p2), .val (.int p2), .unset, .unset] [])) (fun tg kk => XS.icmpNo X94.here hx rfl (hb hby at_84) rfl (teq (rfl : p2 = p2)).2 kk) ?_
    refine OwnGo.back (T94.setTop (mkF m 88 #[.val (.int p1), .val (.int p2), .val (.int p3), .val (.int p4), .val (.int p5), .val (.int (2 : Int32)), .val (.ref b57), .val (.int p2), .val (.int p2), .unset, .unset] [(.int (1 : Int32))])) (fun tg kk => XS.iconst X94.here hx rfl (hb hby at_87) kk) ?_
    refine OwnGo.back (T94.setTop (mkF m 92 #[.val (.int p1), .val (.int p2), .val (.int p3), .val (.int p4), .val (.int p5), .val (.int (2 : Int32)), .val (.ref b57), .val (.int p2), .val (.int p2), .unset, .unset] [(.int (1 : Int32))])) (fun tg kk => XS.goto X94.here hx rfl (pc0 := 88) (pc' := 92) rfl (hb hby at_88) (by decide) (by decide) kk) ?_
    refine OwnGo.back (T94.setTop (mkF m 94 #[.val (.int p1), .val (.int p2), .val (.int p3), .val (.int p4), .val (.int p5), .val (.int (2 : Int32)), .val (.ref b57), .val (.int p2), .val (.int p2), .val (.int (1 : Int32)), .unset] [])) (fun tg kk => XS.istore X94.here hx rfl (hb hby at_92) rfl (l' := #[.val (.int p1), .val (.int p2), .val (.int p3), .val (.int p4), .val (.int p5), .val (.int (2 : Int32)), .val (.ref b57), .val (.int p2), .val (.int p2), .val (.int (1 : Int32)), .unset]) rfl kk) ?_
    refine OwnGo.back (T94.setTop (mkF m 96 #[.val (.int p1), .val (.int p2), .val (.int p3), .val (.int p4), .val (.int p5), .val (.int (2 : Int32)), .val (.ref b57), .val (.int p2), .val (.int p2), .val (.int (1 : Int32)), .unset] [(.int (1 : Int32))])) (fun tg kk => XS.iload X94.here hx rfl (hb hby at_94) rfl kk) ?_
    refine OwnGo.back (T94.setTop (mkF m 99 #[.val (.int p1), .val (.int p2), .val (.int p3), .val (.int p4), .val (.int p5), .val (.int (2 : Int32)), .val (.ref b57), .val (.int p2), .val (.int p2), .val (.int (1 : Int32)), .unset] [])) (fun tg kk => XS.ifNo X94.here hx rfl (hb hby at_96) rfl ((if0 _ _).trans (feq (by decide : ¬ ((1 : Int32) = (0 : Int32)))).1) kk) ?_
    refine OwnGo.back (T94.setTop (mkF m 101 #[.val (.int p1), .val (.int p2), .val (.int p3), .val (.int p4), .val (.int p5), .val (.int (2 : Int32)), .val (.ref b57), .val (.int p2), .val (.int p2), .val (.int (1 : Int32)), .unset] [(.ref b57)])) (fun tg kk => XS.aload X94.here hx rfl (hb hby at_99) rfl rfl kk) ?_
    obtain ⟨cq103, kq103, q103a, q103b, q103c⟩ := isOf hZ rfl po95
    obtain ⟨_, _, ⟨T103, L103, k103, n103⟩, -, X103, ⟨Lc103, hQ103, l103, y103, z103⟩, st103⟩ := X94.virtualBack hx (y := (⟨"plainsight/grammar/IntList", "size", "()I"⟩ : MethodName)) (z := (⟨"plainsight/grammar/IntList", "size", "()I"⟩ : MethodName)) hown (mvT hZ (hw _ (List.mem_of_getElem? (i := 25) rfl))) (mvT hZ (hw _ (List.mem_of_getElem? (i := 26) rfl))) (notFace_of_selects (args := #[]) (mvT hZ (hw _ (List.mem_of_getElem? (i := 28) rfl)))) (mvT hZ (hw _ (List.mem_of_getElem? (i := 28) rfl))) (mvT hZ (hw _ (List.mem_of_getElem? (i := 27) rfl))) (by decide) (backOf (W := 0) (own_size l Z a0 hw [] b57 (1 : Int32) T94.heap n0 Z102 po97) hZ (hw _ (List.mem_of_getElem? (i := 29) rfl)) (hw _ (List.mem_of_getElem? (i := 3) rfl)) (by decide) (by decide)) q103a q103c (g := (mkF m 101 #[.val (.int p1), .val (.int p2), .val (.int p3), .val (.int p4), .val (.int p5), .val (.int (2 : Int32)), .val (.ref b57), .val (.int p2), .val (.int p2), .val (.int (1 : Int32)), .unset] [(.ref b57)])) rfl (by rw [hml]; rfl) (Steps.refl _) (argsL := []) (rest := []) (lenOf own_pd2 rfl) rfl (by show 2 * 0 + _ ≤ _; exact Nat.le_of_eq rfl) (hb hby at_101) (fun _ _ => ⟨rfl, rfl, (by decide : 2 + 0 ≤ _), (by decide : 18 + 0 ≤ _)⟩)
    dsimp only [Pt.U, Pt.locs, Pt.cells, Pt.slots] at X103 l103 y103 z103 st103 hQ103
    subst l103 y103 z103
    obtain ⟨rfl, N103q, e103⟩ := hQ103
    have N103 := Fr.app N94 N103q
    refine OwnGo.back (T103.setTop (mkF m 104 #[.val (.int p1), .val (.int p2), .val (.int p3), .val (.int p4), .val (.int p5), .val (.int (2 : Int32)), .val (.ref b57), .val (.int p2), .val (.int p2), .val (.int (1 : Int32)), .unset] [(.int (1 : Int32))])) (fun tg kk => st103.trans kk) ?_
    refine OwnGo.back (T103.setTop (mkF m 106 #[.val (.int p1), .val (.int p2), .val (.int p3), .val (.int p4), .val (.int p5), .val (.int (2 : Int32)), .val (.ref b57), .val (.int p2), .val (.int p2), .val (.int (1 : Int32)), .unset] [(.int (2 : Int32)), (.int (1 : Int32))])) (fun tg kk => XS.iload X103.here hx rfl (hb hby at_104) rfl kk) ?_
    refine OwnGo.back (T103.setTop (mkF m 107 #[.val (.int p1), .val (.int p2), .val (.int p3), .val (.int p4), .val (.int p5), .val (.int (2 : Int32)), .val (.ref b57), .val (.int p2), .val (.int p2), .val (.int (1 : Int32)), .unset] [(.int (1 : Int32)), (.int (2 : Int32)), (.int (1 : Int32))])) (fun tg kk => XS.iconst X103.here hx rfl (hb hby at_106) kk) ?_
    refine OwnGo.back (T103.setTop (mkF m 108 #[.val (.int p1), .val (.int p2), .val (.int p3), .val (.int p4), .val (.int p5), .val (.int (2 : Int32)), .val (.ref b57), .val (.int p2), .val (.int p2), .val (.int (1 : Int32)), .unset] [(.int (1 : Int32)), (.int (1 : Int32))])) (fun tg kk => XS.isub X103.here hx rfl (hb hby at_107) rfl kk) ?_
    refine OwnGo.back (T103.setTop (mkF m 111 #[.val (.int p1), .val (.int p2), .val (.int p3), .val (.int p4), .val (.int p5), .val (.int (2 : Int32)), .val (.ref b57), .val (.int p2), .val (.int p2), .val (.int (1 : Int32)), .unset] [])) (fun tg kk => XS.icmpNo X103.here hx rfl (hb hby at_108) rfl (teq (by decide : (1 : Int32) = (1 : Int32))).2 kk) ?_
    refine OwnGo.back (T103.setTop (mkF m 112 #[.val (.int p1), .val (.int p2), .val (.int p3), .val (.int p4), .val (.int p5), .val (.int (2 : Int32)), .val (.ref b57), .val (.int p2), .val (.int p2), .val (.int (1 : Int32)), .unset] [(.int (1 : Int32))])) (fun tg kk => XS.iconst X103.here hx rfl (hb hby at_111) kk) ?_
    refine OwnGo.back (T103.setTop (mkF m 116 #[.val (.int p1), .val (.int p2), .val (.int p3), .val (.int p4), .val (.int p5), .val (.int (2 : Int32)), .val (.ref b57), .val (.int p2), .val (.int p2), .val (.int (1 : Int32)), .unset] [(.int (1 : Int32))])) (fun tg kk => XS.goto X103.here hx rfl (pc0 := 112) (pc' := 116) rfl (hb hby at_112) (by decide) (by decide) kk) ?_
    refine OwnGo.back (T103.setTop (mkF m 118 #[.val (.int p1), .val (.int p2), .val (.int p3), .val (.int p4), .val (.int p5), .val (.int (2 : Int32)), .val (.ref b57), .val (.int p2), .val (.int p2), .val (.int (1 : Int32)), .unset] [])) (fun tg kk => XS.istore X103.here hx rfl (hb hby at_116) rfl (l' := #[.val (.int p1), .val (.int p2), .val (.int p3), .val (.int p4), .val (.int p5), .val (.int (2 : Int32)), .val (.ref b57), .val (.int p2), .val (.int p2), .val (.int (1 : Int32)), .unset]) rfl kk) ?_
    refine OwnGo.back (T103.setTop (mkF m 120 #[.val (.int p1), .val (.int p2), .val (.int p3), .val (.int p4), .val (.int p5), .val (.int (2 : Int32)), .val (.ref b57), .val (.int p2), .val (.int p2), .val (.int (1 : Int32)), .unset] [(.int (2 : Int32))])) (fun tg kk => XS.iload X103.here hx rfl (hb hby at_118) rfl kk) ?_
    refine OwnGo.back (T103.setTop (mkF m 121 #[.val (.int p1), .val (.int p2), .val (.int p3), .val (.int p4), .val (.int p5), .val (.int (2 : Int32)), .val (.ref b57), .val (.int p2), .val (.int p2), .val (.int (1 : Int32)), .unset] [(.int (2 : Int32)), (.int (2 : Int32))])) (fun tg kk => XS.iconst X103.here hx rfl (hb hby at_120) kk) ?_
    refine OwnGo.back (T103.setTop (mkF m 124 #[.val (.int p1), .val (.int p2), .val (.int p3), .val (.int p4), .val (.int p5), .val (.int (2 : Int32)), .val (.ref b57), .val (.int p2), .val (.int p2), .val (.int (1 : Int32)), .unset] [])) (fun tg kk => XS.icmpNo X103.here hx rfl (hb hby at_121) rfl (flt (by decide : ¬ ((2 : Int32) < (2 : Int32)))).1 kk) ?_
    refine OwnGo.back (T103.setTop (mkF m 126 #[.val (.int p1), .val (.int p2), .val (.int p3), .val (.int p4), .val (.int p5), .val (.int (2 : Int32)), .val (.ref b57), .val (.int p2), .val (.int p2), .val (.int (1 : Int32)), .unset] [(.int (1 : Int32))])) (fun tg kk => XS.iload X103.here hx rfl (hb hby at_124) rfl kk) ?_
    refine OwnGo.back (T103.setTop (mkF m 129 #[.val (.int p1), .val (.int p2), .val (.int p3), .val (.int p4), .val (.int p5), .val (.int (2 : Int32)), .val (.ref b57), .val (.int p2), .val (.int p2), .val (.int (1 : Int32)), .unset] [])) (fun tg kk => XS.ifNo X103.here hx rfl (hb hby at_126) rfl ((if0 _ _).trans (feq (by decide : ¬ ((1 : Int32) = (0 : Int32)))).1) kk) ?_
    refine OwnGo.back (T103.setTop (mkF m 131 #[.val (.int p1), .val (.int p2), .val (.int p3), .val (.int p4), .val (.int p5), .val (.int (2 : Int32)), .val (.ref b57), .val (.int p2), .val (.int p2), .val (.int (1 : Int32)), .unset] [(.ref b57)])) (fun tg kk => XS.aload X103.here hx rfl (hb hby at_129) rfl rfl kk) ?_
    refine OwnGo.back (T103.setTop (mkF m 132 #[.val (.int p1), .val (.int p2), .val (.int p3), .val (.int p4), .val (.int p5), .val (.int (2 : Int32)), .val (.ref b57), .val (.int p2), .val (.int p2), .val (.int (1 : Int32)), .unset] [(.int (0 : Int32)), (.ref b57)])) (fun tg kk => XS.iconst X103.here hx rfl (hb hby at_131) kk) ?_
    obtain ⟨cq104, kq104, q104a, q104b, q104c⟩ := isOf hZ e103 po95
    obtain ⟨_, _, ⟨T104, L104, k104, n104⟩, -, X104, ⟨Lc104, hQ104, l104, y104, z104⟩, st104⟩ := X103.virtualBack hx (y := (⟨"plainsight/grammar/IntList", "get", "(I)I"⟩ : MethodName)) (z := (⟨"plainsight/grammar/IntList", "get", "(I)I"⟩ : MethodName)) hown (mvT hZ (hw _ (List.mem_of_getElem? (i := 30) rfl))) (mvT hZ (hw _ (List.mem_of_getElem? (i := 31) rfl))) (notFace_of_selects (args := #[]) (mvT hZ (hw _ (List.mem_of_getElem? (i := 33) rfl)))) (mvT hZ (hw _ (List.mem_of_getElem? (i := 33) rfl))) (mvT hZ (hw _ (List.mem_of_getElem? (i := 32) rfl))) (by decide) (backOf (W := 0) (own_get0 l Z a0 hw [] b57 b_65 kb_66 p1 (1 : Int32) (.int p2) (.int (0 : Int32)) T94.heap n0 Z102 po96 po97 po98 (by decide)) hZ (hw _ (List.mem_of_getElem? (i := 34) rfl)) (hw _ (List.mem_of_getElem? (i := 3) rfl)) (by decide) (by decide)) q104a q104c (g := (mkF m 132 #[.val (.int p1), .val (.int p2), .val (.int p3), .val (.int p4), .val (.int p5), .val (.int (2 : Int32)), .val (.ref b57), .val (.int p2), .val (.int p2), .val (.int (1 : Int32)), .unset] [(.int (0 : Int32)), (.ref b57)])) rfl (by rw [hml]; rfl) (Steps.refl _) (argsL := [(.int (0 : Int32))]) (rest := []) (lenOf own_pd3 rfl) rfl (by show 2 * 0 + _ ≤ _; exact Nat.le_of_eq rfl) (hb hby at_132) (fun _ _ => ⟨rfl, e103, (by decide : 2 + 0 ≤ _), (by decide : 18 + 0 ≤ _)⟩)
    dsimp only [Pt.U, Pt.locs, Pt.cells, Pt.slots] at X104 l104 y104 z104 st104 hQ104
    subst l104 y104 z104
    obtain ⟨rfl, N104q, e104⟩ := hQ104
    have N104 := Fr.app N103 N104q
    refine OwnGo.back (T104.setTop (mkF m 135 #[.val (.int p1), .val (.int p2), .val (.int p3), .val (.int p4), .val (.int p5), .val (.int (2 : Int32)), .val (.ref b57), .val (.int p2), .val (.int p2), .val (.int (1 : Int32)), .unset] [(.int p1)])) (fun tg kk => st104.trans kk) ?_
    refine OwnGo.back (T104.setTop (mkF m 136 #[.val (.int p1), .val (.int p2), .val (.int p3), .val (.int p4), .val (.int p5), .val (.int (2 : Int32)), .val (.ref b57), .val (.int p2), .val (.int p2), .val (.int (1 : Int32)), .unset] [(.int p1), (.int p1)])) (fun tg kk => XS.iloadN X104.here hx rfl (hb hby at_135) rfl kk) ?_
    refine OwnGo.back (T104.setTop (mkF m 139 #[.val (.int p1), .val (.int p2), .val (.int p3), .val (.int p4), .val (.int p5), .val (.int (2 : Int32)), .val (.ref b57), .val (.int p2), .val (.int p2), .val (.int (1 : Int32)), .unset] [])) (fun tg kk => XS.icmpNo X104.here hx rfl (hb hby at_136) rfl (teq (rfl : p1 = p1)).2 kk) ?_
    refine OwnGo.back (T104.setTop (mkF m 140 #[.val (.int p1), .val (.int p2), .val (.int p3), .val (.int p4), .val (.int p5), .val (.int (2 : Int32)), .val (.ref b57), .val (.int p2), .val (.int p2), .val (.int (1 : Int32)), .unset] [(.int (1 : Int32))])) (fun tg kk => XS.iconst X104.here hx rfl (hb hby at_139) kk) ?_
    refine OwnGo.back (T104.setTop (mkF m 144 #[.val (.int p1), .val (.int p2), .val (.int p3), .val (.int p4), .val (.int p5), .val (.int (2 : Int32)), .val (.ref b57), .val (.int p2), .val (.int p2), .val (.int (1 : Int32)), .unset] [(.int (1 : Int32))])) (fun tg kk => XS.goto X104.here hx rfl (pc0 := 140) (pc' := 144) rfl (hb hby at_140) (by decide) (by decide) kk) ?_
    refine OwnGo.back (T104.setTop (mkF m 146 #[.val (.int p1), .val (.int p2), .val (.int p3), .val (.int p4), .val (.int p5), .val (.int (2 : Int32)), .val (.ref b57), .val (.int p2), .val (.int p2), .val (.int (1 : Int32)), .unset] [])) (fun tg kk => XS.istore X104.here hx rfl (hb hby at_144) rfl (l' := #[.val (.int p1), .val (.int p2), .val (.int p3), .val (.int p4), .val (.int p5), .val (.int (2 : Int32)), .val (.ref b57), .val (.int p2), .val (.int p2), .val (.int (1 : Int32)), .unset]) rfl kk) ?_
    refine OwnGo.back (T104.setTop (mkF m 148 #[.val (.int p1), .val (.int p2), .val (.int p3), .val (.int p4), .val (.int p5), .val (.int (2 : Int32)), .val (.ref b57), .val (.int p2), .val (.int p2), .val (.int (1 : Int32)), .unset] [(.int (2 : Int32))])) (fun tg kk => XS.iload X104.here hx rfl (hb hby at_146) rfl kk) ?_
    refine OwnGo.back (T104.setTop (mkF m 149 #[.val (.int p1), .val (.int p2), .val (.int p3), .val (.int p4), .val (.int p5), .val (.int (2 : Int32)), .val (.ref b57), .val (.int p2), .val (.int p2), .val (.int (1 : Int32)), .unset] [(.int (3 : Int32)), (.int (2 : Int32))])) (fun tg kk => XS.iconst X104.here hx rfl (hb hby at_148) kk) ?_
    refine OwnGo.back (T104.setTop (mkF m 174 #[.val (.int p1), .val (.int p2), .val (.int p3), .val (.int p4), .val (.int p5), .val (.int (2 : Int32)), .val (.ref b57), .val (.int p2), .val (.int p2), .val (.int (1 : Int32)), .unset] [])) (fun tg kk => XS.icmpYes X104.here hx rfl (pc0 := 149) (pc' := 174) rfl (hb hby at_149) rfl (tlt (by decide : (2 : Int32) < (3 : Int32))).1 (by decide) (by decide) kk) ?_
    refine OwnGo.back (T104.setTop (mkF m 176 #[.val (.int p1), .val (.int p2), .val (.int p3), .val (.int p4), .val (.int p5), .val (.int (2 : Int32)), .val (.ref b57), .val (.int p2), .val (.int p2), .val (.int (1 : Int32)), .unset] [(.ref b57)])) (fun tg kk => XS.aload X104.here hx rfl (hb hby at_174) rfl rfl kk) ?_
    refine OwnGo.back (T104.setTop (mkF m 177 #[.val (.int p1), .val (.int p2), .val (.int p3), .val (.int p4), .val (.int p5), .val (.int (2 : Int32)), .val (.ref b57), .val (.int p2), .val (.int p2), .val (.int (1 : Int32)), .unset] [(.int p4), (.ref b57)])) (fun tg kk => XS.iloadN X104.here hx rfl (hb hby at_176) rfl kk) ?_
    obtain ⟨cq105, kq105, q105a, q105b, q105c⟩ := isOf hZ e104 po95
    obtain ⟨_, _, ⟨T105, L105, k105, n105⟩, -, X105, ⟨Lc105, hQ105, l105, y105, z105⟩, st105⟩ := X104.virtualBack hx (y := (⟨"plainsight/grammar/IntList", "add", "(I)V"⟩ : MethodName)) (z := (⟨"plainsight/grammar/IntList", "add", "(I)V"⟩ : MethodName)) hown (mvT hZ (hw _ (List.mem_of_getElem? (i := 13) rfl))) (mvT hZ (hw _ (List.mem_of_getElem? (i := 14) rfl))) (notFace_of_selects (args := #[]) (mvT hZ (hw _ (List.mem_of_getElem? (i := 16) rfl)))) (mvT hZ (hw _ (List.mem_of_getElem? (i := 16) rfl))) (mvT hZ (hw _ (List.mem_of_getElem? (i := 15) rfl))) (by decide) (backOf (W := 0) (own_add1 l Z a0 hw [] b57 p4 b_65 kb_66 (.int p1) (.int p2) (.int (0 : Int32)) T94.heap n0 Z102 po95 po96 po97 po98 g58 g76 n75) hZ (hw _ (List.mem_of_getElem? (i := 17) rfl)) (hw _ (List.mem_of_getElem? (i := 3) rfl)) (by decide) (by decide)) q105a q105c (g := (mkF m 177 #[.val (.int p1), .val (.int p2), .val (.int p3), .val (.int p4), .val (.int p5), .val (.int (2 : Int32)), .val (.ref b57), .val (.int p2), .val (.int p2), .val (.int (1 : Int32)), .unset] [(.int p4), (.ref b57)])) rfl (by rw [hml]; rfl) (Steps.refl _) (argsL := [(.int p4)]) (rest := []) (lenOf own_pd1 rfl) rfl (by show 2 * 0 + _ ≤ _; exact Nat.le_of_eq rfl) (hb hby at_177) (fun _ _ => ⟨rfl, e104, (by decide : 2 + 0 ≤ _), (by decide : 18 + 0 ≤ _)⟩)
    dsimp only [Pt.U, Pt.locs, Pt.cells, Pt.slots] at X105 l105 y105 z105 st105 hQ105
    subst l105 y105 z105
    obtain ⟨rfl, N105q, Kc105, po106, po107, po108, po109⟩ := hQ105
    have N105 := Fr.app N104 N105q
    have f110 : Exa Z T105.heap b57 "plainsight/grammar/IntList" := po95.keep Kc105
    have K111 : Keep h0 T105.heap [] := K101.trans Kc105 (allS (Or.inr s59) (allS (Or.inr s77) all0))
    have Z112 : n0 ≤ T105.heap.size := Nat.le_trans Z102 Kc105.1
    refine OwnGo.back (T105.setTop (mkF m 180 #[.val (.int p1), .val (.int p2), .val (.int p3), .val (.int p4), .val (.int p5), .val (.int (2 : Int32)), .val (.ref b57), .val (.int p2), .val (.int p2), .val (.int (1 : Int32)), .unset] [])) (fun tg kk => st105.trans kk) ?_
    refine OwnGo.back (T105.setTop (mkF m 182 #[.val (.int p1), .val (.int p2), .val (.int p3), .val (.int p4), .val (.int p5), .val (.int (2 : Int32)), .val (.ref b57), .val (.int p2), .val (.int p2), .val (.int (1 : Int32)), .unset] [(.ref b57)])) (fun tg kk => XS.aload X105.here hx rfl (hb hby at_180) rfl rfl kk) ?_
    obtain ⟨cq113, kq113, q113a, q113b, q113c⟩ := isOf hZ rfl po106
    obtain ⟨_, _, ⟨T113, L113, k113, n113⟩, -, X113, ⟨Lc113, hQ113, l113, y113, z113⟩, st113⟩ := X105.virtualBack hx (y := (⟨"plainsight/grammar/IntList", "pop", "()I"⟩ : MethodName)) (z := (⟨"plainsight/grammar/IntList", "pop", "()I"⟩ : MethodName)) hown (mvT hZ (hw _ (List.mem_of_getElem? (i := 20) rfl))) (mvT hZ (hw _ (List.mem_of_getElem? (i := 21) rfl))) (notFace_of_selects (args := #[]) (mvT hZ (hw _ (List.mem_of_getElem? (i := 23) rfl)))) (mvT hZ (hw _ (List.mem_of_getElem? (i := 23) rfl))) (mvT hZ (hw _ (List.mem_of_getElem? (i := 22) rfl))) (by decide) (backOf (W := 0) (own_pop2 l Z a0 hw [] b57 b_65 kb_66 p4 (.int p1) (.int (0 : Int32)) T105.heap n0 Z112 po106 po107 po108 po109 g58 g76 n75) hZ (hw _ (List.mem_of_getElem? (i := 24) rfl)) (hw _ (List.mem_of_getElem? (i := 3) rfl)) (by decide) (by decide)) q113a q113c (g := (mkF m 182 #[.val (.int p1), .val (.int p2), .val (.int p3), .val (.int p4), .val (.int p5), .val (.int (2 : Int32)), .val (.ref b57), .val (.int p2), .val (.int p2), .val (.int (1 : Int32)), .unset] [(.ref b57)])) rfl (by rw [hml]; rfl) (Steps.refl _) (argsL := []) (rest := []) (lenOf own_pd2 rfl) rfl (by show 2 * 0 + _ ≤ _; exact Nat.le_of_eq rfl) (hb hby at_182) (fun _ _ => ⟨rfl, rfl, (by decide : 2 + 0 ≤ _), (by decide : 18 + 0 ≤ _)⟩)
    dsimp only [Pt.U, Pt.locs, Pt.cells, Pt.slots] at X113 l113 y113 z113 st113 hQ113
    subst l113 y113 z113
    obtain ⟨rfl, N113q, Kc113, po114, po115, po116, po117⟩ := hQ113
    have N113 := Fr.app N105 N113q
    have f118 : Exa Z T113.heap b57 "plainsight/grammar/IntList" := po106.keep Kc113
    have f119 : Arv Z T113.heap b_65 kb_66 .int (16 : Int32) [(.int p1), (.int p4), (.int (0 : Int32))] (.int (0 : Int32)) := po109.keep Kc113 (ninS (Ne.symm n75) nin0)
    have K120 : Keep h0 T113.heap [] := K111.trans Kc113 (allS (Or.inr s59) all0)
    have Z121 : n0 ≤ T113.heap.size := Nat.le_trans Z112 Kc113.1
    refine OwnGo.back (T113.setTop (mkF m 185 #[.val (.int p1), .val (.int p2), .val (.int p3), .val (.int p4), .val (.int p5), .val (.int (2 : Int32)), .val (.ref b57), .val (.int p2), .val (.int p2), .val (.int (1 : Int32)), .unset] [(.int p4)])) (fun tg kk => st113.trans kk) ?_
    refine OwnGo.back (T113.setTop (mkF m 187 #[.val (.int p1), .val (.int p2), .val (.int p3), .val (.int p4), .val (.int p5), .val (.int (2 : Int32)), .val (.ref b57), .val (.int p2), .val (.int p2), .val (.int (1 : Int32)), .val (.int p4)] [])) (fun tg kk => XS.istore X113.here hx rfl (hb hby at_185) rfl (l' := #[.val (.int p1), .val (.int p2), .val (.int p3), .val (.int p4), .val (.int p5), .val (.int (2 : Int32)), .val (.ref b57), .val (.int p2), .val (.int p2), .val (.int (1 : Int32)), .val (.int p4)]) rfl kk) ?_
    refine OwnGo.back (T113.setTop (mkF m 189 #[.val (.int p1), .val (.int p2), .val (.int p3), .val (.int p4), .val (.int p5), .val (.int (2 : Int32)), .val (.ref b57), .val (.int p2), .val (.int p2), .val (.int (1 : Int32)), .val (.int p4)] [(.int (1 : Int32))])) (fun tg kk => XS.iload X113.here hx rfl (hb hby at_187) rfl kk) ?_
    refine OwnGo.back (T113.setTop (mkF m 192 #[.val (.int p1), .val (.int p2), .val (.int p3), .val (.int p4), .val (.int p5), .val (.int (2 : Int32)), .val (.ref b57), .val (.int p2), .val (.int p2), .val (.int (1 : Int32)), .val (.int p4)] [])) (fun tg kk => XS.ifNo X113.here hx rfl (hb hby at_189) rfl ((if0 _ _).trans (feq (by decide : ¬ ((1 : Int32) = (0 : Int32)))).1) kk) ?_
    refine OwnGo.back (T113.setTop (mkF m 194 #[.val (.int p1), .val (.int p2), .val (.int p3), .val (.int p4), .val (.int p5), .val (.int (2 : Int32)), .val (.ref b57), .val (.int p2), .val (.int p2), .val (.int (1 : Int32)), .val (.int p4)] [(.int p4)])) (fun tg kk => XS.iload X113.here hx rfl (hb hby at_192) rfl kk) ?_
    refine OwnGo.back (T113.setTop (mkF m 195 #[.val (.int p1), .val (.int p2), .val (.int p3), .val (.int p4), .val (.int p5), .val (.int (2 : Int32)), .val (.ref b57), .val (.int p2), .val (.int p2), .val (.int (1 : Int32)), .val (.int p4)] [(.int p4), (.int p4)])) (fun tg kk => XS.iloadN X113.here hx rfl (hb hby at_194) rfl kk) ?_
    refine OwnGo.back (T113.setTop (mkF m 198 #[.val (.int p1), .val (.int p2), .val (.int p3), .val (.int p4), .val (.int p5), .val (.int (2 : Int32)), .val (.ref b57), .val (.int p2), .val (.int p2), .val (.int (1 : Int32)), .val (.int p4)] [])) (fun tg kk => XS.icmpNo X113.here hx rfl (hb hby at_195) rfl (teq (rfl : p4 = p4)).2 kk) ?_
    refine OwnGo.back (T113.setTop (mkF m 199 #[.val (.int p1), .val (.int p2), .val (.int p3), .val (.int p4), .val (.int p5), .val (.int (2 : Int32)), .val (.ref b57), .val (.int p2), .val (.int p2), .val (.int (1 : Int32)), .val (.int p4)] [(.int (1 : Int32))])) (fun tg kk => XS.iconst X113.here hx rfl (hb hby at_198) kk) ?_
    refine OwnGo.back (T113.setTop (mkF m 203 #[.val (.int p1), .val (.int p2), .val (.int p3), .val (.int p4), .val (.int p5), .val (.int (2 : Int32)), .val (.ref b57), .val (.int p2), .val (.int p2), .val (.int (1 : Int32)), .val (.int p4)] [(.int (1 : Int32))])) (fun tg kk => XS.goto X113.here hx rfl (pc0 := 199) (pc' := 203) rfl (hb hby at_199) (by decide) (by decide) kk) ?_
    refine OwnGo.back (T113.setTop (mkF m 205 #[.val (.int p1), .val (.int p2), .val (.int p3), .val (.int p4), .val (.int p5), .val (.int (2 : Int32)), .val (.ref b57), .val (.int p2), .val (.int p2), .val (.int (1 : Int32)), .val (.int p4)] [])) (fun tg kk => XS.istore X113.here hx rfl (hb hby at_203) rfl (l' := #[.val (.int p1), .val (.int p2), .val (.int p3), .val (.int p4), .val (.int p5), .val (.int (2 : Int32)), .val (.ref b57), .val (.int p2), .val (.int p2), .val (.int (1 : Int32)), .val (.int p4)]) rfl kk) ?_
    refine OwnGo.back (T113.setTop (mkF m 207 #[.val (.int p1), .val (.int p2), .val (.int p3), .val (.int p4), .val (.int p5), .val (.int (2 : Int32)), .val (.ref b57), .val (.int p2), .val (.int p2), .val (.int (1 : Int32)), .val (.int p4)] [(.int (1 : Int32))])) (fun tg kk => XS.iload X113.here hx rfl (hb hby at_205) rfl kk) ?_
    obtain ⟨fs, hr, hrun, hended, hW, hsame⟩ := X113.leave (v := some (.int (1 : Int32))) (fun h => by rw [Bd.returns] at h; cases h)
    refine ⟨_, _, ?_, hrun, hended, _, _, rfl, ?_, ⟨_, rfl⟩, hW, hsame.mono (by decide) (by decide)⟩
    · exact retN X113 hx (t := .boolean) Bd.returns (by simp) (hb hby at_207) hr
    · show own_law_Q Z p1 p2 p3 p4 p5 h0 n0 _ T113.heap _
      exact ⟨rfl, N113, K120⟩
  ·
    rw [hq]
    refine OwnGo.back (s₁.setTop (mkF m 11 #[.val (.int p1), .val (.int p2), .val (.int p3), .val (.int p4), .val (.int p5), .val (.int (3 : Int32)), .unset, .unset, .unset, .unset, .unset] [])) (fun tg kk => XS.istore X0.here hx rfl (hb hby at_9) rfl (l' := #[.val (.int p1), .val (.int p2), .val (.int p3), .val (.int p4), .val (.int p5), .val (.int (3 : Int32)), .unset, .unset, .unset, .unset, .unset]) rfl kk) ?_
    obtain ⟨T122, h122, X122, e122, E122, A122, D122, -, st122⟩ := newO X0 hx hZ hown (hw _ (List.mem_of_getElem? (i := 1) rfl)) (hw _ (List.mem_of_getElem? (i := 2) rfl)) (hw _ (List.mem_of_getElem? (i := 3) rfl)) e0 (g := (mkF m 11 #[.val (.int p1), .val (.int p2), .val (.int p3), .val (.int p4), .val (.int p5), .val (.int (3 : Int32)), .unset, .unset, .unset, .unset, .unset] [])) rfl (hb hby at_11) (by decide) (by decide)
    obtain ⟨b122, q122⟩ : ∃ z, z = h0.size := ⟨_, rfl⟩
    rw [← q122] at A122 D122 st122
    have g123 : n0 ≤ b122 := Nat.le_trans Z0 (Nat.le_of_eq q122.symm)
    have s124 : h0.size ≤ b122 := Nat.le_trans K0.1 (Nat.le_of_eq q122.symm)
    have K125 : Keep h0 h122 [] := K0.ext E122
    have Z126 : n0 ≤ h122.size := Nat.le_trans Z0 E122.1
    have f127 : Fld Z h122 b122 "plainsight/grammar/IntList" "values" "[I" .null := D122 (Or.inl (hw _ (List.mem_of_getElem? (i := 12) rfl))) (ty := (.array .int)) (by decide)
    have f128 : Fld Z h122 b122 "plainsight/grammar/IntList" "size" "I" (.int (0 : Int32)) := D122 (Or.inl (hw _ (List.mem_of_getElem? (i := 19) rfl))) (ty := .int) (by decide)
    refine OwnGo.back (T122.setTop (mkF m 14 #[.val (.int p1), .val (.int p2), .val (.int p3), .val (.int p4), .val (.int p5), .val (.int (3 : Int32)), .unset, .unset, .unset, .unset, .unset] [(.ref b122)])) (fun tg kk => st122 _ kk) ?_
    refine OwnGo.back (T122.setTop (mkF m 15 #[.val (.int p1), .val (.int p2), .val (.int p3), .val (.int p4), .val (.int p5), .val (.int (3 : Int32)), .unset, .unset, .unset, .unset, .unset] [(.ref b122), (.ref b122)])) (fun tg kk => XS.dup X122.here hx rfl (hb hby at_14) rfl rfl kk) ?_
    obtain ⟨_, _, ⟨T129, L129, k129, n129⟩, -, X129, ⟨Lc129, hQ129, l129, y129, z129⟩, st129⟩ := X122.specialBack hx (y := (⟨"plainsight/grammar/IntList", "<init>", "()V"⟩ : MethodName)) rfl hown (mvT hZ (hw _ (List.mem_of_getElem? (i := 4) rfl))) (mvT hZ (hw _ (List.mem_of_getElem? (i := 5) rfl))) (mvT hZ (hw _ (List.mem_of_getElem? (i := 6) rfl))) (by decide) (backOf (W := 1) (own_init l Z a0 hw [] b122 h122 n0 Z126 A122 f127 f128 g123) hZ (hw _ (List.mem_of_getElem? (i := 6) rfl)) (hw _ (List.mem_of_getElem? (i := 3) rfl)) (by decide) (by decide)) (g := (mkF m 15 #[.val (.int p1), .val (.int p2), .val (.int p3), .val (.int p4), .val (.int p5), .val (.int (3 : Int32)), .unset, .unset, .unset, .unset, .unset] [(.ref b122), (.ref b122)])) rfl (by rw [hml]; rfl) (Steps.refl _) (a := b122) (argsL := []) (rest := [(.ref b122)]) (lenOf own_pd0 rfl) rfl (by show 2 * 0 + _ ≤ _; exact Nat.le_of_eq rfl) (hb hby at_15) (fun _ _ => ⟨rfl, e122, (by decide : 1 + 1 ≤ _), (by decide : 2 + 16 ≤ _)⟩)
    dsimp only [Pt.U, Pt.locs, Pt.cells, Pt.slots] at X129 l129 y129 z129 st129 hQ129
    subst l129 y129 z129
    obtain ⟨b_130, kb_131, rfl, N129q, Kc129, po132, po133, po134, po135, po136⟩ := hQ129
    have N129 := Fr.app N0 N129q
    have f137 : Exa Z T129.heap b122 "plainsight/grammar/IntList" := A122.keep Kc129
    have K138 : Keep h0 T129.heap [] := K125.trans Kc129 (allS (Or.inr s124) all0)
    have Z139 : n0 ≤ T129.heap.size := Nat.le_trans Z126 Kc129.1
    have n140 : b122 ≠ b_130 := own_ne' A122.lt po132
    have g141 : n0 ≤ b_130 := Nat.le_trans Z126 po132
    have s142 : h0.size ≤ b_130 := Nat.le_trans K125.1 po132
    refine OwnGo.back (T129.setTop (mkF m 18 #[.val (.int p1), .val (.int p2), .val (.int p3), .val (.int p4), .val (.int p5), .val (.int (3 : Int32)), .unset, .unset, .unset, .unset, .unset] [(.ref b122)])) (fun tg kk => st129.trans kk) ?_
    refine OwnGo.back (T129.setTop (mkF m 20 #[.val (.int p1), .val (.int p2), .val (.int p3), .val (.int p4), .val (.int p5), .val (.int (3 : Int32)), .val (.ref b122), .unset, .unset, .unset, .unset] [])) (fun tg kk => XS.astore X129.here hx rfl (hb hby at_18) rfl rfl (l' := #[.val (.int p1), .val (.int p2), .val (.int p3), .val (.int p4), .val (.int p5), .val (.int (3 : Int32)), .val (.ref b122), .unset, .unset, .unset, .unset]) rfl kk) ?_
    refine OwnGo.back (T129.setTop (mkF m 22 #[.val (.int p1), .val (.int p2), .val (.int p3), .val (.int p4), .val (.int p5), .val (.int (3 : Int32)), .val (.ref b122), .unset, .unset, .unset, .unset] [(.ref b122)])) (fun tg kk => XS.aload X129.here hx rfl (hb hby at_20) rfl rfl kk) ?_
    refine OwnGo.back (T129.setTop (mkF m 23 #[.val (.int p1), .val (.int p2), .val (.int p3), .val (.int p4), .val (.int p5), .val (.int (3 : Int32)), .val (.ref b122), .unset, .unset, .unset, .unset] [(.int p1), (.ref b122)])) (fun tg kk => XS.iloadN X129.here hx rfl (hb hby at_22) rfl kk) ?_
    obtain ⟨cq143, kq143, q143a, q143b, q143c⟩ := isOf hZ rfl po133
    obtain ⟨_, _, ⟨T143, L143, k143, n143⟩, -, X143, ⟨Lc143, hQ143, l143, y143, z143⟩, st143⟩ := X129.virtualBack hx (y := (⟨"plainsight/grammar/IntList", "add", "(I)V"⟩ : MethodName)) (z := (⟨"plainsight/grammar/IntList", "add", "(I)V"⟩ : MethodName)) hown (mvT hZ (hw _ (List.mem_of_getElem? (i := 13) rfl))) (mvT hZ (hw _ (List.mem_of_getElem? (i := 14) rfl))) (notFace_of_selects (args := #[]) (mvT hZ (hw _ (List.mem_of_getElem? (i := 16) rfl)))) (mvT hZ (hw _ (List.mem_of_getElem? (i := 16) rfl))) (mvT hZ (hw _ (List.mem_of_getElem? (i := 15) rfl))) (by decide) (backOf (W := 0) (own_add0 l Z a0 hw [] b122 p1 b_130 kb_131 (.int (0 : Int32)) (.int (0 : Int32)) (.int (0 : Int32)) T129.heap n0 Z139 po133 po134 po135 po136 g123 g141 n140) hZ (hw _ (List.mem_of_getElem? (i := 17) rfl)) (hw _ (List.mem_of_getElem? (i := 3) rfl)) (by decide) (by decide)) q143a q143c (g := (mkF m 23 #[.val (.int p1), .val (.int p2), .val (.int p3), .val (.int p4), .val (.int p5), .val (.int (3 : Int32)), .val (.ref b122), .unset, .unset, .unset, .unset] [(.int p1), (.ref b122)])) rfl (by rw [hml]; rfl) (Steps.refl _) (argsL := [(.int p1)]) (rest := []) (lenOf own_pd1 rfl) rfl (by show 2 * 0 + _ ≤ _; exact Nat.le_of_eq rfl) (hb hby at_23) (fun _ _ => ⟨rfl, rfl, (by decide : 2 + 0 ≤ _), (by decide : 18 + 0 ≤ _)⟩)
    dsimp only [Pt.U, Pt.locs, Pt.cells, Pt.slots] at X143 l143 y143 z143 st143 hQ143
    subst l143 y143 z143
    obtain ⟨rfl, N143q, Kc143, po144, po145, po146, po147⟩ := hQ143
    have N143 := Fr.app N129 N143q
    have f148 : Exa Z T143.heap b122 "plainsight/grammar/IntList" := po133.keep Kc143
    have K149 : Keep h0 T143.heap [] := K138.trans Kc143 (allS (Or.inr s124) (allS (Or.inr s142) all0))
    have Z150 : n0 ≤ T143.heap.size := Nat.le_trans Z139 Kc143.1
    refine OwnGo.back (T143.setTop (mkF m 26 #[.val (.int p1), .val (.int p2), .val (.int p3), .val (.int p4), .val (.int p5), .val (.int (3 : Int32)), .val (.ref b122), .unset, .unset, .unset, .unset] [])) (fun tg kk => st143.trans kk) ?_
    refine OwnGo.back (T143.setTop (mkF m 28 #[.val (.int p1), .val (.int p2), .val (.int p3), .val (.int p4), .val (.int p5), .val (.int (3 : Int32)), .val (.ref b122), .unset, .unset, .unset, .unset] [(.int (3 : Int32))])) (fun tg kk => XS.iload X143.here hx rfl (hb hby at_26) rfl kk) ?_
    refine OwnGo.back (T143.setTop (mkF m 29 #[.val (.int p1), .val (.int p2), .val (.int p3), .val (.int p4), .val (.int p5), .val (.int (3 : Int32)), .val (.ref b122), .unset, .unset, .unset, .unset] [(.int (2 : Int32)), (.int (3 : Int32))])) (fun tg kk => XS.iconst X143.here hx rfl (hb hby at_28) kk) ?_
    refine OwnGo.back (T143.setTop (mkF m 32 #[.val (.int p1), .val (.int p2), .val (.int p3), .val (.int p4), .val (.int p5), .val (.int (3 : Int32)), .val (.ref b122), .unset, .unset, .unset, .unset] [])) (fun tg kk => XS.icmpNo X143.here hx rfl (hb hby at_29) rfl (flt (by decide : ¬ ((3 : Int32) < (2 : Int32)))).1 kk) ?_
    refine OwnGo.back (T143.setTop (mkF m 34 #[.val (.int p1), .val (.int p2), .val (.int p3), .val (.int p4), .val (.int p5), .val (.int (3 : Int32)), .val (.ref b122), .unset, .unset, .unset, .unset] [(.ref b122)])) (fun tg kk => XS.aload X143.here hx rfl (hb hby at_32) rfl rfl kk) ?_
    refine OwnGo.back (T143.setTop (mkF m 35 #[.val (.int p1), .val (.int p2), .val (.int p3), .val (.int p4), .val (.int p5), .val (.int (3 : Int32)), .val (.ref b122), .unset, .unset, .unset, .unset] [(.int p2), (.ref b122)])) (fun tg kk => XS.iloadN X143.here hx rfl (hb hby at_34) rfl kk) ?_
    obtain ⟨cq151, kq151, q151a, q151b, q151c⟩ := isOf hZ rfl po144
    obtain ⟨_, _, ⟨T151, L151, k151, n151⟩, -, X151, ⟨Lc151, hQ151, l151, y151, z151⟩, st151⟩ := X143.virtualBack hx (y := (⟨"plainsight/grammar/IntList", "add", "(I)V"⟩ : MethodName)) (z := (⟨"plainsight/grammar/IntList", "add", "(I)V"⟩ : MethodName)) hown (mvT hZ (hw _ (List.mem_of_getElem? (i := 13) rfl))) (mvT hZ (hw _ (List.mem_of_getElem? (i := 14) rfl))) (notFace_of_selects (args := #[]) (mvT hZ (hw _ (List.mem_of_getElem? (i := 16) rfl)))) (mvT hZ (hw _ (List.mem_of_getElem? (i := 16) rfl))) (mvT hZ (hw _ (List.mem_of_getElem? (i := 15) rfl))) (by decide) (backOf (W := 0) (own_add1 l Z a0 hw [] b122 p2 b_130 kb_131 (.int p1) (.int (0 : Int32)) (.int (0 : Int32)) T143.heap n0 Z150 po144 po145 po146 po147 g123 g141 n140) hZ (hw _ (List.mem_of_getElem? (i := 17) rfl)) (hw _ (List.mem_of_getElem? (i := 3) rfl)) (by decide) (by decide)) q151a q151c (g := (mkF m 35 #[.val (.int p1), .val (.int p2), .val (.int p3), .val (.int p4), .val (.int p5), .val (.int (3 : Int32)), .val (.ref b122), .unset, .unset, .unset, .unset] [(.int p2), (.ref b122)])) rfl (by rw [hml]; rfl) (Steps.refl _) (argsL := [(.int p2)]) (rest := []) (lenOf own_pd1 rfl) rfl (by show 2 * 0 + _ ≤ _; exact Nat.le_of_eq rfl) (hb hby at_35) (fun _ _ => ⟨rfl, rfl, (by decide : 2 + 0 ≤ _), (by decide : 18 + 0 ≤ _)⟩)
    dsimp only [Pt.U, Pt.locs, Pt.cells, Pt.slots] at X151 l151 y151 z151 st151 hQ151
    subst l151 y151 z151
    obtain ⟨rfl, N151q, Kc151, po152, po153, po154, po155⟩ := hQ151
    have N151 := Fr.app N143 N151q
    have f156 : Exa Z T151.heap b122 "plainsight/grammar/IntList" := po144.keep Kc151
    have K157 : Keep h0 T151.heap [] := K149.trans Kc151 (allS (Or.inr s124) (allS (Or.inr s142) all0))
    have Z158 : n0 ≤ T151.heap.size := Nat.le_trans Z150 Kc151.1
    refine OwnGo.back (T151.setTop (mkF m 38 #[.val (.int p1), .val (.int p2), .val (.int p3), .val (.int p4), .val (.int p5), .val (.int (3 : Int32)), .val (.ref b122), .unset, .unset, .unset, .unset] [])) (fun tg kk => st151.trans kk) ?_
    refine OwnGo.back (T151.setTop (mkF m 40 #[.val (.int p1), .val (.int p2), .val (.int p3), .val (.int p4), .val (.int p5), .val (.int (3 : Int32)), .val (.ref b122), .unset, .unset, .unset, .unset] [(.int (3 : Int32))])) (fun tg kk => XS.iload X151.here hx rfl (hb hby at_38) rfl kk) ?_
    refine OwnGo.back (T151.setTop (mkF m 41 #[.val (.int p1), .val (.int p2), .val (.int p3), .val (.int p4), .val (.int p5), .val (.int (3 : Int32)), .val (.ref b122), .unset, .unset, .unset, .unset] [(.int (3 : Int32)), (.int (3 : Int32))])) (fun tg kk => XS.iconst X151.here hx rfl (hb hby at_40) kk) ?_
    refine OwnGo.back (T151.setTop (mkF m 44 #[.val (.int p1), .val (.int p2), .val (.int p3), .val (.int p4), .val (.int p5), .val (.int (3 : Int32)), .val (.ref b122), .unset, .unset, .unset, .unset] [])) (fun tg kk => XS.icmpNo X151.here hx rfl (hb hby at_41) rfl (flt (by decide : ¬ ((3 : Int32) < (3 : Int32)))).1 kk) ?_
    refine OwnGo.back (T151.setTop (mkF m 46 #[.val (.int p1), .val (.int p2), .val (.int p3), .val (.int p4), .val (.int p5), .val (.int (3 : Int32)), .val (.ref b122), .unset, .unset, .unset, .unset] [(.ref b122)])) (fun tg kk => XS.aload X151.here hx rfl (hb hby at_44) rfl rfl kk) ?_
    refine OwnGo.back (T151.setTop (mkF m 47 #[.val (.int p1), .val (.int p2), .val (.int p3), .val (.int p4), .val (.int p5), .val (.int (3 : Int32)), .val (.ref b122), .unset, .unset, .unset, .unset] [(.int p3), (.ref b122)])) (fun tg kk => XS.iloadN X151.here hx rfl (hb hby at_46) rfl kk) ?_
    obtain ⟨cq159, kq159, q159a, q159b, q159c⟩ := isOf hZ rfl po152
    obtain ⟨_, _, ⟨T159, L159, k159, n159⟩, -, X159, ⟨Lc159, hQ159, l159, y159, z159⟩, st159⟩ := X151.virtualBack hx (y := (⟨"plainsight/grammar/IntList", "add", "(I)V"⟩ : MethodName)) (z := (⟨"plainsight/grammar/IntList", "add", "(I)V"⟩ : MethodName)) hown (mvT hZ (hw _ (List.mem_of_getElem? (i := 13) rfl))) (mvT hZ (hw _ (List.mem_of_getElem? (i := 14) rfl))) (notFace_of_selects (args := #[]) (mvT hZ (hw _ (List.mem_of_getElem? (i := 16) rfl)))) (mvT hZ (hw _ (List.mem_of_getElem? (i := 16) rfl))) (mvT hZ (hw _ (List.mem_of_getElem? (i := 15) rfl))) (by decide) (backOf (W := 0) (own_add2 l Z a0 hw [] b122 p3 b_130 kb_131 (.int p1) (.int p2) (.int (0 : Int32)) T151.heap n0 Z158 po152 po153 po154 po155 g123 g141 n140) hZ (hw _ (List.mem_of_getElem? (i := 17) rfl)) (hw _ (List.mem_of_getElem? (i := 3) rfl)) (by decide) (by decide)) q159a q159c (g := (mkF m 47 #[.val (.int p1), .val (.int p2), .val (.int p3), .val (.int p4), .val (.int p5), .val (.int (3 : Int32)), .val (.ref b122), .unset, .unset, .unset, .unset] [(.int p3), (.ref b122)])) rfl (by rw [hml]; rfl) (Steps.refl _) (argsL := [(.int p3)]) (rest := []) (lenOf own_pd1 rfl) rfl (by show 2 * 0 + _ ≤ _; exact Nat.le_of_eq rfl) (hb hby at_47) (fun _ _ => ⟨rfl, rfl, (by decide : 2 + 0 ≤ _), (by decide : 18 + 0 ≤ _)⟩)
    dsimp only [Pt.U, Pt.locs, Pt.cells, Pt.slots] at X159 l159 y159 z159 st159 hQ159
    subst l159 y159 z159
    obtain ⟨rfl, N159q, Kc159, po160, po161, po162, po163⟩ := hQ159
    have N159 := Fr.app N151 N159q
    have f164 : Exa Z T159.heap b122 "plainsight/grammar/IntList" := po152.keep Kc159
    have K165 : Keep h0 T159.heap [] := K157.trans Kc159 (allS (Or.inr s124) (allS (Or.inr s142) all0))
    have Z166 : n0 ≤ T159.heap.size := Nat.le_trans Z158 Kc159.1
    refine OwnGo.back (T159.setTop (mkF m 50 #[.val (.int p1), .val (.int p2), .val (.int p3), .val (.int p4), .val (.int p5), .val (.int (3 : Int32)), .val (.ref b122), .unset, .unset, .unset, .unset] [])) (fun tg kk => st159.trans kk) ?_
    refine OwnGo.back (T159.setTop (mkF m 52 #[.val (.int p1), .val (.int p2), .val (.int p3), .val (.int p4), .val (.int p5), .val (.int (3 : Int32)), .val (.ref b122), .unset, .unset, .unset, .unset] [(.int (3 : Int32))])) (fun tg kk => XS.iload X159.here hx rfl (hb hby at_50) rfl kk) ?_
    refine OwnGo.back (T159.setTop (mkF m 53 #[.val (.int p1), .val (.int p2), .val (.int p3), .val (.int p4), .val (.int p5), .val (.int (3 : Int32)), .val (.ref b122), .unset, .unset, .unset, .unset] [(.int (1 : Int32)), (.int (3 : Int32))])) (fun tg kk => XS.iconst X159.here hx rfl (hb hby at_52) kk) ?_
    refine OwnGo.back (T159.setTop (mkF m 60 #[.val (.int p1), .val (.int p2), .val (.int p3), .val (.int p4), .val (.int p5), .val (.int (3 : Int32)), .val (.ref b122), .unset, .unset, .unset, .unset] [])) (fun tg kk => XS.icmpYes X159.here hx rfl (pc0 := 53) (pc' := 60) rfl (hb hby at_53) rfl (feq (by decide : ¬ ((3 : Int32) = (1 : Int32)))).2 (by decide) (by decide) kk) ?_
    refine OwnGo.back (T159.setTop (mkF m 62 #[.val (.int p1), .val (.int p2), .val (.int p3), .val (.int p4), .val (.int p5), .val (.int (3 : Int32)), .val (.ref b122), .unset, .unset, .unset, .unset] [(.int (3 : Int32))])) (fun tg kk => XS.iload X159.here hx rfl (hb hby at_60) rfl kk) ?_
    refine OwnGo.back (T159.setTop (mkF m 63 #[.val (.int p1), .val (.int p2), .val (.int p3), .val (.int p4), .val (.int p5), .val (.int (3 : Int32)), .val (.ref b122), .unset, .unset, .unset, .unset] [(.int (2 : Int32)), (.int (3 : Int32))])) (fun tg kk => XS.iconst X159.here hx rfl (hb hby at_62) kk) ?_
    refine OwnGo.back (T159.setTop (mkF m 70 #[.val (.int p1), .val (.int p2), .val (.int p3), .val (.int p4), .val (.int p5), .val (.int (3 : Int32)), .val (.ref b122), .unset, .unset, .unset, .unset] [])) (fun tg kk => XS.icmpYes X159.here hx rfl (pc0 := 63) (pc' := 70) rfl (hb hby at_63) rfl (feq (by decide : ¬ ((3 : Int32) = (2 : Int32)))).2 (by decide) (by decide) kk) ?_
    refine OwnGo.back (T159.setTop (mkF m 71 #[.val (.int p1), .val (.int p2), .val (.int p3), .val (.int p4), .val (.int p5), .val (.int (3 : Int32)), .val (.ref b122), .unset, .unset, .unset, .unset] [(.int p3)])) (fun tg kk => XS.iloadN X159.here hx rfl (hb hby at_70) rfl kk) ?_
    refine OwnGo.back (T159.setTop (mkF m 73 #[.val (.int p1), .val (.int p2), .val (.int p3), .val (.int p4), .val (.int p5), .val (.int (3 : Int32)), .val (.ref b122), .val (.int p3), .unset, .unset, .unset] [])) (fun tg kk => XS.istore X159.here hx rfl (hb hby at_71) rfl (l' := #[.val (.int p1), .val (.int p2), .val (.int p3), .val (.int p4), .val (.int p5), .val (.int (3 : Int32)), .val (.ref b122), .val (.int p3), .unset, .unset, .unset]) rfl kk) ?_
    refine OwnGo.back (T159.setTop (mkF m 75 #[.val (.int p1), .val (.int p2), .val (.int p3), .val (.int p4), .val (.int p5), .val (.int (3 : Int32)), .val (.ref b122), .val (.int p3), .unset, .unset, .unset] [(.ref b122)])) (fun tg kk => XS.aload X159.here hx rfl (hb hby at_73) rfl rfl kk) ?_
    obtain ⟨cq167, kq167, q167a, q167b, q167c⟩ := isOf hZ rfl po160
    obtain ⟨_, _, ⟨T167, L167, k167, n167⟩, -, X167, ⟨Lc167, hQ167, l167, y167, z167⟩, st167⟩ := X159.virtualBack hx (y := (⟨"plainsight/grammar/IntList", "pop", "()I"⟩ : MethodName)) (z := (⟨"plainsight/grammar/IntList", "pop", "()I"⟩ : MethodName)) hown (mvT hZ (hw _ (List.mem_of_getElem? (i := 20) rfl))) (mvT hZ (hw _ (List.mem_of_getElem? (i := 21) rfl))) (notFace_of_selects (args := #[]) (mvT hZ (hw _ (List.mem_of_getElem? (i := 23) rfl)))) (mvT hZ (hw _ (List.mem_of_getElem? (i := 23) rfl))) (mvT hZ (hw _ (List.mem_of_getElem? (i := 22) rfl))) (by decide) (backOf (W := 0) (own_pop3 l Z a0 hw [] b122 b_130 kb_131 p3 (.int p1) (.int p2) T159.heap n0 Z166 po160 po161 po162 po163 g123 g141 n140) hZ (hw _ (List.mem_of_getElem? (i := 24) rfl)) (hw _ (List.mem_of_getElem? (i := 3) rfl)) (by decide) (by decide)) q167a q167c (g := (mkF m 75 #[.val (.int p1), .val (.int p2), .val (.int p3), .val (.int p4), .val (.int p5), .val (.int (3 : Int32)), .val (.ref b122), .val (.int p3), .unset, .unset, .unset] [(.ref b122)])) rfl (by rw [hml]; rfl) (Steps.refl _) (argsL := []) (rest := []) (lenOf own_pd2 rfl) rfl (by show 2 * 0 + _ ≤ _; exact Nat.le_of_eq rfl) (hb hby at_75) (fun _ _ => ⟨rfl, rfl, (by decide : 2 + 0 ≤ _), (by decide : 18 + 0 ≤ _)⟩)
    dsimp only [Pt.U, Pt.locs, Pt.cells, Pt.slots] at X167 l167 y167 z167 st167 hQ167
    subst l167 y167 z167
    obtain ⟨rfl, N167q, Kc167, po168, po169, po170, po171⟩ := hQ167
    have N167 := Fr.app N159 N167q
    have f172 : Exa Z T167.heap b122 "plainsight/grammar/IntList" := po160.keep Kc167
    have f173 : Arv Z T167.heap b_130 kb_131 .int (16 : Int32) [(.int p1), (.int p2), (.int p3)] (.int (0 : Int32)) := po163.keep Kc167 (ninS (Ne.symm n140) nin0)
    have K174 : Keep h0 T167.heap [] := K165.trans Kc167 (allS (Or.inr s124) all0)
    have Z175 : n0 ≤ T167.heap.size := Nat.le_trans Z166 Kc167.1
    refine OwnGo.back (T167.setTop (mkF m 78 #[.val (.int p1), .val (.int p2), .val (.int p3), .val (.int p4), .val (.int p5), .val (.int (3 : Int32)), .val (.ref b122), .val (.int p3), .unset, .unset, .unset] [(.int p3)])) (fun tg kk => st167.trans kk) ?_
    refine OwnGo.back (T167.setTop (mkF m 80 #[.val (.int p1), .val (.int p2), .val (.int p3), .val (.int p4), .val (.int p5), .val (.int (3 : Int32)), .val (.ref b122), .val (.int p3), .val (.int p3), .unset, .unset] [])) (fun tg kk => XS.istore X167.here hx rfl (hb hby at_78) rfl (l' := #[.val (.int p1), .val (.int p2), .val (.int p3), .val (.int p4), .val (.int p5), .val (.int (3 : Int32)), .val (.ref b122), .val (.int p3), .val (.int p3), .unset, .unset]) rfl kk) ?_
    refine OwnGo.back (T167.setTop (mkF m 82 #[.val (.int p1), .val (.int p2), .val (.int p3), .val (.int p4), .val (.int p5), .val (.int (3 : Int32)), .val (.ref b122), .val (.int p3), .val (.int p3), .unset, .unset] [(.int p3)])) (fun tg kk => XS.iload X167.here hx rfl (hb hby at_80) rfl kk) ?_
    refine OwnGo.back (T167.setTop (mkF m 84 #[.val (.int p1), .val (.int p2), .val (.int p3), .val (.int p4), .val (.int p5), .val (.int (3 : Int32)), .val (.ref b122), .val (.int p3), .val (.int p3), .unset, .unset] [(.int p3), (.int p3)])) (fun tg kk => XS.iload X167.here hx rfl (hb hby at_82) rfl kk) ?_
    refine OwnGo.back (T167.setTop (mkF m 87 #[.val (.int p1), .val (.int p2), .val (.int p3), .val (.int p4), .val (.int p5), .val (.int (3 : Int32)), .val (.ref b122), .val (.int p3), .val (.int p3), .unset, .unset] [])) (fun tg kk => XS.icmpNo X167.here hx rfl (hb hby at_84) rfl (teq (rfl : p3 = p3)).2 kk) ?_
    refine OwnGo.back (T167.setTop (mkF m 88 #[.val (.int p1), .val (.int p2), .val (.int p3), .val (.int p4), .val (.int p5), .val (.int (3 : Int32)), .val (.ref b122), .val (.int p3), .val (.int p3), .unset, .unset] [(.int (1 : Int32))])) (fun tg kk => XS.iconst X167.here hx rfl (hb hby at_87) kk) ?_
    refine OwnGo.back (T167.setTop (mkF m 92 #[.val (.int p1), .val (.int p2), .val (.int p3), .val (.int p4), .val (.int p5), .val (.int (3 : Int32)), .val (.ref b122), .val (.int p3), .val (.int p3), .unset, .unset] [(.int (1 : Int32))])) (fun tg kk => XS.goto X167.here hx rfl (pc0 := 88) (pc' := 92) rfl (hb hby at_88) (by decide) (by decide) kk) ?_
    refine OwnGo.back (T167.setTop (mkF m 94 #[.val (.int p1), .val (.int p2), .val (.int p3), .val (.int p4), .val (.int p5), .val (.int (3 : Int32)), .val (.ref b122), .val (.int p3), .val (.int p3), .val (.int (1 : Int32)), .unset] [])) (fun tg kk => XS.istore X167.here hx rfl (hb hby at_92) rfl (l' := #[.val (.int p1), .val (.int p2), .val (.int p3), .val (.int p4), .val (.int p5), .val (.int (3 : Int32)), .val (.ref b122), .val (.int p3), .val (.int p3), .val (.int (1 : Int32)), .unset]) rfl kk) ?_
    refine OwnGo.back (T167.setTop (mkF m 96 #[.val (.int p1), .val (.int p2), .val (.int p3), .val (.int p4), .val (.int p5), .val (.int (3 : Int32)), .val (.ref b122), .val (.int p3), .val (.int p3), .val (.int (1 : Int32)), .unset] [(.int (1 : Int32))])) (fun tg kk => XS.iload X167.here hx rfl (hb hby at_94) rfl kk) ?_
    refine OwnGo.back (T167.setTop (mkF m 99 #[.val (.int p1), .val (.int p2), .val (.int p3), .val (.int p4), .val (.int p5), .val (.int (3 : Int32)), .val (.ref b122), .val (.int p3), .val (.int p3), .val (.int (1 : Int32)), .unset] [])) (fun tg kk => XS.ifNo X167.here hx rfl (hb hby at_96) rfl ((if0 _ _).trans (feq (by decide : ¬ ((1 : Int32) = (0 : Int32)))).1) kk) ?_
    refine OwnGo.back (T167.setTop (mkF m 101 #[.val (.int p1), .val (.int p2), .val (.int p3), .val (.int p4), .val (.int p5), .val (.int (3 : Int32)), .val (.ref b122), .val (.int p3), .val (.int p3), .val (.int (1 : Int32)), .unset] [(.ref b122)])) (fun tg kk => XS.aload X167.here hx rfl (hb hby at_99) rfl rfl kk) ?_
    obtain ⟨cq176, kq176, q176a, q176b, q176c⟩ := isOf hZ rfl po168
    obtain ⟨_, _, ⟨T176, L176, k176, n176⟩, -, X176, ⟨Lc176, hQ176, l176, y176, z176⟩, st176⟩ := X167.virtualBack hx (y := (⟨"plainsight/grammar/IntList", "size", "()I"⟩ : MethodName)) (z := (⟨"plainsight/grammar/IntList", "size", "()I"⟩ : MethodName)) hown (mvT hZ (hw _ (List.mem_of_getElem? (i := 25) rfl))) (mvT hZ (hw _ (List.mem_of_getElem? (i := 26) rfl))) (notFace_of_selects (args := #[]) (mvT hZ (hw _ (List.mem_of_getElem? (i := 28) rfl)))) (mvT hZ (hw _ (List.mem_of_getElem? (i := 28) rfl))) (mvT hZ (hw _ (List.mem_of_getElem? (i := 27) rfl))) (by decide) (backOf (W := 0) (own_size l Z a0 hw [] b122 (2 : Int32) T167.heap n0 Z175 po170) hZ (hw _ (List.mem_of_getElem? (i := 29) rfl)) (hw _ (List.mem_of_getElem? (i := 3) rfl)) (by decide) (by decide)) q176a q176c (g := (mkF m 101 #[.val (.int p1), .val (.int p2), .val (.int p3), .val (.int p4), .val (.int p5), .val (.int (3 : Int32)), .val (.ref b122), .val (.int p3), .val (.int p3), .val (.int (1 : Int32)), .unset] [(.ref b122)])) rfl (by rw [hml]; rfl) (Steps.refl _) (argsL := []) (rest := []) (lenOf own_pd2 rfl) rfl (by show 2 * 0 + _ ≤ _; exact Nat.le_of_eq rfl) (hb hby at_101) (fun _ _ => ⟨rfl, rfl, (by decide : 2 + 0 ≤ _), (by decide : 18 + 0 ≤ _)⟩)
    dsimp only [Pt.U, Pt.locs, Pt.cells, Pt.slots] at X176 l176 y176 z176 st176 hQ176
    subst l176 y176 z176
    obtain ⟨rfl, N176q, e176⟩ := hQ176
    have N176 := Fr.app N167 N176q
    refine OwnGo.back (T176.setTop (mkF m 104 #[.val (.int p1), .val (.int p2), .val (.int p3), .val (.int p4), .val (.int p5), .val (.int (3 : Int32)), .val (.ref b122), .val (.int p3), .val (.int p3), .val (.int (1 : Int32)), .unset] [(.int (2 : Int32))])) (fun tg kk => st176.trans kk) ?_
    refine OwnGo.back (T176.setTop (mkF m 106 #[.val (.int p1), .val (.int p2), .val (.int p3), .val (.int p4), .val (.int p5), .val (.int (3 : Int32)), .val (.ref b122), .val (.int p3), .val (.int p3), .val (.int (1 : Int32)), .unset] [(.int (3 : Int32)), (.int (2 : Int32))])) (fun tg kk => XS.iload X176.here hx rfl (hb hby at_104) rfl kk) ?_
    refine OwnGo.back (T176.setTop (mkF m 107 #[.val (.int p1), .val (.int p2), .val (.int p3), .val (.int p4), .val (.int p5), .val (.int (3 : Int32)), .val (.ref b122), .val (.int p3), .val (.int p3), .val (.int (1 : Int32)), .unset] [(.int (1 : Int32)), (.int (3 : Int32)), (.int (2 : Int32))])) (fun tg kk => XS.iconst X176.here hx rfl (hb hby at_106) kk) ?_
    refine OwnGo.back (T176.setTop (mkF m 108 #[.val (.int p1), .val (.int p2), .val (.int p3), .val (.int p4), .val (.int p5), .val (.int (3 : Int32)), .val (.ref b122), .val (.int p3), .val (.int p3), .val (.int (1 : Int32)), .unset] [(.int (2 : Int32)), (.int (2 : Int32))])) (fun tg kk => XS.isub X176.here hx rfl (hb hby at_107) rfl kk) ?_
    refine OwnGo.back (T176.setTop (mkF m 111 #[.val (.int p1), .val (.int p2), .val (.int p3), .val (.int p4), .val (.int p5), .val (.int (3 : Int32)), .val (.ref b122), .val (.int p3), .val (.int p3), .val (.int (1 : Int32)), .unset] [])) (fun tg kk => XS.icmpNo X176.here hx rfl (hb hby at_108) rfl (teq (by decide : (2 : Int32) = (2 : Int32))).2 kk) ?_
    refine OwnGo.back (T176.setTop (mkF m 112 #[.val (.int p1), .val (.int p2), .val (.int p3), .val (.int p4), .val (.int p5), .val (.int (3 : Int32)), .val (.ref b122), .val (.int p3), .val (.int p3), .val (.int (1 : Int32)), .unset] [(.int (1 : Int32))])) (fun tg kk => XS.iconst X176.here hx rfl (hb hby at_111) kk) ?_
    refine OwnGo.back (T176.setTop (mkF m 116 #[.val (.int p1), .val (.int p2), .val (.int p3), .val (.int p4), .val (.int p5), .val (.int (3 : Int32)), .val (.ref b122), .val (.int p3), .val (.int p3), .val (.int (1 : Int32)), .unset] [(.int (1 : Int32))])) (fun tg kk => XS.goto X176.here hx rfl (pc0 := 112) (pc' := 116) rfl (hb hby at_112) (by decide) (by decide) kk) ?_
    refine OwnGo.back (T176.setTop (mkF m 118 #[.val (.int p1), .val (.int p2), .val (.int p3), .val (.int p4), .val (.int p5), .val (.int (3 : Int32)), .val (.ref b122), .val (.int p3), .val (.int p3), .val (.int (1 : Int32)), .unset] [])) (fun tg kk => XS.istore X176.here hx rfl (hb hby at_116) rfl (l' := #[.val (.int p1), .val (.int p2), .val (.int p3), .val (.int p4), .val (.int p5), .val (.int (3 : Int32)), .val (.ref b122), .val (.int p3), .val (.int p3), .val (.int (1 : Int32)), .unset]) rfl kk) ?_
    refine OwnGo.back (T176.setTop (mkF m 120 #[.val (.int p1), .val (.int p2), .val (.int p3), .val (.int p4), .val (.int p5), .val (.int (3 : Int32)), .val (.ref b122), .val (.int p3), .val (.int p3), .val (.int (1 : Int32)), .unset] [(.int (3 : Int32))])) (fun tg kk => XS.iload X176.here hx rfl (hb hby at_118) rfl kk) ?_
    refine OwnGo.back (T176.setTop (mkF m 121 #[.val (.int p1), .val (.int p2), .val (.int p3), .val (.int p4), .val (.int p5), .val (.int (3 : Int32)), .val (.ref b122), .val (.int p3), .val (.int p3), .val (.int (1 : Int32)), .unset] [(.int (2 : Int32)), (.int (3 : Int32))])) (fun tg kk => XS.iconst X176.here hx rfl (hb hby at_120) kk) ?_
    refine OwnGo.back (T176.setTop (mkF m 124 #[.val (.int p1), .val (.int p2), .val (.int p3), .val (.int p4), .val (.int p5), .val (.int (3 : Int32)), .val (.ref b122), .val (.int p3), .val (.int p3), .val (.int (1 : Int32)), .unset] [])) (fun tg kk => XS.icmpNo X176.here hx rfl (hb hby at_121) rfl (flt (by decide : ¬ ((3 : Int32) < (2 : Int32)))).1 kk) ?_
    refine OwnGo.back (T176.setTop (mkF m 126 #[.val (.int p1), .val (.int p2), .val (.int p3), .val (.int p4), .val (.int p5), .val (.int (3 : Int32)), .val (.ref b122), .val (.int p3), .val (.int p3), .val (.int (1 : Int32)), .unset] [(.int (1 : Int32))])) (fun tg kk => XS.iload X176.here hx rfl (hb hby at_124) rfl kk) ?_
    refine OwnGo.back (T176.setTop (mkF m 129 #[.val (.int p1), .val (.int p2), .val (.int p3), .val (.int p4), .val (.int p5), .val (.int (3 : Int32)), .val (.ref b122), .val (.int p3), .val (.int p3), .val (.int (1 : Int32)), .unset] [])) (fun tg kk => XS.ifNo X176.here hx rfl (hb hby at_126) rfl ((if0 _ _).trans (feq (by decide : ¬ ((1 : Int32) = (0 : Int32)))).1) kk) ?_
    refine OwnGo.back (T176.setTop (mkF m 131 #[.val (.int p1), .val (.int p2), .val (.int p3), .val (.int p4), .val (.int p5), .val (.int (3 : Int32)), .val (.ref b122), .val (.int p3), .val (.int p3), .val (.int (1 : Int32)), .unset] [(.ref b122)])) (fun tg kk => XS.aload X176.here hx rfl (hb hby at_129) rfl rfl kk) ?_
    refine OwnGo.back (T176.setTop (mkF m 132 #[.val (.int p1), .val (.int p2), .val (.int p3), .val (.int p4), .val (.int p5), .val (.int (3 : Int32)), .val (.ref b122), .val (.int p3), .val (.int p3), .val (.int (1 : Int32)), .unset] [(.int (0 : Int32)), (.ref b122)])) (fun tg kk => XS.iconst X176.here hx rfl (hb hby at_131) kk) ?_
    obtain ⟨cq177, kq177, q177a, q177b, q177c⟩ := isOf hZ e176 po168
    obtain ⟨_, _, ⟨T177, L177, k177, n177⟩, -, X177, ⟨Lc177, hQ177, l177, y177, z177⟩, st177⟩ := X176.virtualBack hx (y := (⟨"plainsight/grammar/IntList", "get", "(I)I"⟩ : MethodName)) (z := (⟨"plainsight/grammar/IntList", "get", "(I)I"⟩ : MethodName)) hown (mvT hZ (hw _ (List.mem_of_getElem? (i := 30) rfl))) (mvT hZ (hw _ (List.mem_of_getElem? (i := 31) rfl))) (notFace_of_selects (args := #[]) (mvT hZ (hw _ (List.mem_of_getElem? (i := 33) rfl)))) (mvT hZ (hw _ (List.mem_of_getElem? (i := 33) rfl))) (mvT hZ (hw _ (List.mem_of_getElem? (i := 32) rfl))) (by decide) (backOf (W := 0) (own_get0 l Z a0 hw [] b122 b_130 kb_131 p1 (2 : Int32) (.int p2) (.int p3) T167.heap n0 Z175 po169 po170 po171 (by decide)) hZ (hw _ (List.mem_of_getElem? (i := 34) rfl)) (hw _ (List.mem_of_getElem? (i := 3) rfl)) (by decide) (by decide)) q177a q177c (g := (mkF m 132 #[.val (.int p1), .val (.int p2), .val (.int p3), .val (.int p4), .val (.int p5), .val (.int (3 : Int32)), .val (.ref b122), .val (.int p3), .val (.int p3), .val (.int (1 : Int32)), .unset] [(.int (0 : Int32)), (.ref b122)])) rfl (by rw [hml]; rfl) (Steps.refl _) (argsL := [(.int (0 : Int32))]) (rest := []) (lenOf own_pd3 rfl) rfl (by show 2 * 0 + _ ≤ _; exact Nat.le_of_eq rfl) (hb hby at_132) (fun _ _ => ⟨rfl, e176, (by decide : 2 + 0 ≤ _), (by decide : 18 + 0 ≤ _)⟩)
    dsimp only [Pt.U, Pt.locs, Pt.cells, Pt.slots] at X177 l177 y177 z177 st177 hQ177
    subst l177 y177 z177
    obtain ⟨rfl, N177q, e177⟩ := hQ177
    have N177 := Fr.app N176 N177q
    refine OwnGo.back (T177.setTop (mkF m 135 #[.val (.int p1), .val (.int p2), .val (.int p3), .val (.int p4), .val (.int p5), .val (.int (3 : Int32)), .val (.ref b122), .val (.int p3), .val (.int p3), .val (.int (1 : Int32)), .unset] [(.int p1)])) (fun tg kk => st177.trans kk) ?_
    refine OwnGo.back (T177.setTop (mkF m 136 #[.val (.int p1), .val (.int p2), .val (.int p3), .val (.int p4), .val (.int p5), .val (.int (3 : Int32)), .val (.ref b122), .val (.int p3), .val (.int p3), .val (.int (1 : Int32)), .unset] [(.int p1), (.int p1)])) (fun tg kk => XS.iloadN X177.here hx rfl (hb hby at_135) rfl kk) ?_
    refine OwnGo.back (T177.setTop (mkF m 139 #[.val (.int p1), .val (.int p2), .val (.int p3), .val (.int p4), .val (.int p5), .val (.int (3 : Int32)), .val (.ref b122), .val (.int p3), .val (.int p3), .val (.int (1 : Int32)), .unset] [])) (fun tg kk => XS.icmpNo X177.here hx rfl (hb hby at_136) rfl (teq (rfl : p1 = p1)).2 kk) ?_
    refine OwnGo.back (T177.setTop (mkF m 140 #[.val (.int p1), .val (.int p2), .val (.int p3), .val (.int p4), .val (.int p5), .val (.int (3 : Int32)), .val (.ref b122), .val (.int p3), .val (.int p3), .val (.int (1 : Int32)), .unset] [(.int (1 : Int32))])) (fun tg kk => XS.iconst X177.here hx rfl (hb hby at_139) kk) ?_
    refine OwnGo.back (T177.setTop (mkF m 144 #[.val (.int p1), .val (.int p2), .val (.int p3), .val (.int p4), .val (.int p5), .val (.int (3 : Int32)), .val (.ref b122), .val (.int p3), .val (.int p3), .val (.int (1 : Int32)), .unset] [(.int (1 : Int32))])) (fun tg kk => XS.goto X177.here hx rfl (pc0 := 140) (pc' := 144) rfl (hb hby at_140) (by decide) (by decide) kk) ?_
    refine OwnGo.back (T177.setTop (mkF m 146 #[.val (.int p1), .val (.int p2), .val (.int p3), .val (.int p4), .val (.int p5), .val (.int (3 : Int32)), .val (.ref b122), .val (.int p3), .val (.int p3), .val (.int (1 : Int32)), .unset] [])) (fun tg kk => XS.istore X177.here hx rfl (hb hby at_144) rfl (l' := #[.val (.int p1), .val (.int p2), .val (.int p3), .val (.int p4), .val (.int p5), .val (.int (3 : Int32)), .val (.ref b122), .val (.int p3), .val (.int p3), .val (.int (1 : Int32)), .unset]) rfl kk) ?_
    refine OwnGo.back (T177.setTop (mkF m 148 #[.val (.int p1), .val (.int p2), .val (.int p3), .val (.int p4), .val (.int p5), .val (.int (3 : Int32)), .val (.ref b122), .val (.int p3), .val (.int p3), .val (.int (1 : Int32)), .unset] [(.int (3 : Int32))])) (fun tg kk => XS.iload X177.here hx rfl (hb hby at_146) rfl kk) ?_
    refine OwnGo.back (T177.setTop (mkF m 149 #[.val (.int p1), .val (.int p2), .val (.int p3), .val (.int p4), .val (.int p5), .val (.int (3 : Int32)), .val (.ref b122), .val (.int p3), .val (.int p3), .val (.int (1 : Int32)), .unset] [(.int (3 : Int32)), (.int (3 : Int32))])) (fun tg kk => XS.iconst X177.here hx rfl (hb hby at_148) kk) ?_
    refine OwnGo.back (T177.setTop (mkF m 152 #[.val (.int p1), .val (.int p2), .val (.int p3), .val (.int p4), .val (.int p5), .val (.int (3 : Int32)), .val (.ref b122), .val (.int p3), .val (.int p3), .val (.int (1 : Int32)), .unset] [])) (fun tg kk => XS.icmpNo X177.here hx rfl (hb hby at_149) rfl (flt (by decide : ¬ ((3 : Int32) < (3 : Int32)))).1 kk) ?_
    refine OwnGo.back (T177.setTop (mkF m 154 #[.val (.int p1), .val (.int p2), .val (.int p3), .val (.int p4), .val (.int p5), .val (.int (3 : Int32)), .val (.ref b122), .val (.int p3), .val (.int p3), .val (.int (1 : Int32)), .unset] [(.int (1 : Int32))])) (fun tg kk => XS.iload X177.here hx rfl (hb hby at_152) rfl kk) ?_
    refine OwnGo.back (T177.setTop (mkF m 157 #[.val (.int p1), .val (.int p2), .val (.int p3), .val (.int p4), .val (.int p5), .val (.int (3 : Int32)), .val (.ref b122), .val (.int p3), .val (.int p3), .val (.int (1 : Int32)), .unset] [])) (fun tg kk => XS.ifNo X177.here hx rfl (hb hby at_154) rfl ((if0 _ _).trans (feq (by decide : ¬ ((1 : Int32) = (0 : Int32)))).1) kk) ?_
    refine OwnGo.back (T177.setTop (mkF m 159 #[.val (.int p1), .val (.int p2), .val (.int p3), .val (.int p4), .val (.int p5), .val (.int (3 : Int32)), .val (.ref b122), .val (.int p3), .val (.int p3), .val (.int (1 : Int32)), .unset] [(.ref b122)])) (fun tg kk => XS.aload X177.here hx rfl (hb hby at_157) rfl rfl kk) ?_
    refine OwnGo.back (T177.setTop (mkF m 160 #[.val (.int p1), .val (.int p2), .val (.int p3), .val (.int p4), .val (.int p5), .val (.int (3 : Int32)), .val (.ref b122), .val (.int p3), .val (.int p3), .val (.int (1 : Int32)), .unset] [(.int (1 : Int32)), (.ref b122)])) (fun tg kk => XS.iconst X177.here hx rfl (hb hby at_159) kk) ?_
    obtain ⟨cq178, kq178, q178a, q178b, q178c⟩ := isOf hZ e177 po168
    obtain ⟨_, _, ⟨T178, L178, k178, n178⟩, -, X178, ⟨Lc178, hQ178, l178, y178, z178⟩, st178⟩ := X177.virtualBack hx (y := (⟨"plainsight/grammar/IntList", "get", "(I)I"⟩ : MethodName)) (z := (⟨"plainsight/grammar/IntList", "get", "(I)I"⟩ : MethodName)) hown (mvT hZ (hw _ (List.mem_of_getElem? (i := 30) rfl))) (mvT hZ (hw _ (List.mem_of_getElem? (i := 31) rfl))) (notFace_of_selects (args := #[]) (mvT hZ (hw _ (List.mem_of_getElem? (i := 33) rfl)))) (mvT hZ (hw _ (List.mem_of_getElem? (i := 33) rfl))) (mvT hZ (hw _ (List.mem_of_getElem? (i := 32) rfl))) (by decide) (backOf (W := 0) (own_get1 l Z a0 hw [] b122 b_130 kb_131 p2 (2 : Int32) (.int p1) (.int p3) T167.heap n0 Z175 po169 po170 po171 (by decide)) hZ (hw _ (List.mem_of_getElem? (i := 34) rfl)) (hw _ (List.mem_of_getElem? (i := 3) rfl)) (by decide) (by decide)) q178a q178c (g := (mkF m 160 #[.val (.int p1), .val (.int p2), .val (.int p3), .val (.int p4), .val (.int p5), .val (.int (3 : Int32)), .val (.ref b122), .val (.int p3), .val (.int p3), .val (.int (1 : Int32)), .unset] [(.int (1 : Int32)), (.ref b122)])) rfl (by rw [hml]; rfl) (Steps.refl _) (argsL := [(.int (1 : Int32))]) (rest := []) (lenOf own_pd3 rfl) rfl (by show 2 * 0 + _ ≤ _; exact Nat.le_of_eq rfl) (hb hby at_160) (fun _ _ => ⟨rfl, e177, (by decide : 2 + 0 ≤ _), (by decide : 18 + 0 ≤ _)⟩)
    dsimp only [Pt.U, Pt.locs, Pt.cells, Pt.slots] at X178 l178 y178 z178 st178 hQ178
    subst l178 y178 z178
    obtain ⟨rfl, N178q, e178⟩ := hQ178
    have N178 := Fr.app N177 N178q
    refine OwnGo.back (T178.setTop (mkF m 163 #[.val (.int p1), .val (.int p2), .val (.int p3), .val (.int p4), .val (.int p5), .val (.int (3 : Int32)), .val (.ref b122), .val (.int p3), .val (.int p3), .val (.int (1 : Int32)), .unset] [(.int p2)])) (fun tg kk => st178.trans kk) ?_
    refine OwnGo.back (T178.setTop (mkF m 164 #[.val (.int p1), .val (.int p2), .val (.int p3), .val (.int p4), .val (.int p5), .val (.int (3 : Int32)), .val (.ref b122), .val (.int p3), .val (.int p3), .val (.int (1 : Int32)), .unset] [(.int p2), (.int p2)])) (fun tg kk => XS.iloadN X178.here hx rfl (hb hby at_163) rfl kk) ?_
    refine OwnGo.back (T178.setTop (mkF m 167 #[.val (.int p1), .val (.int p2), .val (.int p3), .val (.int p4), .val (.int p5), .val (.int (3 : Int32)), .val (.ref b122), .val (.int p3), .val (.int p3), .val (.int (1 : Int32)), .unset] [])) (fun tg kk => XS.icmpNo X178.here hx rfl (hb hby at_164) rfl (teq (rfl : p2 = p2)).2 kk) ?_
    refine OwnGo.back (T178.setTop (mkF m 168 #[.val (.int p1), .val (.int p2), .val (.int p3), .val (.int p4), .val (.int p5), .val (.int (3 : Int32)), .val (.ref b122), .val (.int p3), .val (.int p3), .val (.int (1 : Int32)), .unset] [(.int (1 : Int32))])) (fun tg kk => XS.iconst X178.here hx rfl (hb hby at_167) kk) ?_
    refine OwnGo.back (T178.setTop (mkF m 172 #[.val (.int p1), .val (.int p2), .val (.int p3), .val (.int p4), .val (.int p5), .val (.int (3 : Int32)), .val (.ref b122), .val (.int p3), .val (.int p3), .val (.int (1 : Int32)), .unset] [(.int (1 : Int32))])) (fun tg kk => XS.goto X178.here hx rfl (pc0 := 168) (pc' := 172) rfl (hb hby at_168) (by decide) (by decide) kk) ?_
    refine OwnGo.back (T178.setTop (mkF m 174 #[.val (.int p1), .val (.int p2), .val (.int p3), .val (.int p4), .val (.int p5), .val (.int (3 : Int32)), .val (.ref b122), .val (.int p3), .val (.int p3), .val (.int (1 : Int32)), .unset] [])) (fun tg kk => XS.istore X178.here hx rfl (hb hby at_172) rfl (l' := #[.val (.int p1), .val (.int p2), .val (.int p3), .val (.int p4), .val (.int p5), .val (.int (3 : Int32)), .val (.ref b122), .val (.int p3), .val (.int p3), .val (.int (1 : Int32)), .unset]) rfl kk) ?_
    refine OwnGo.back (T178.setTop (mkF m 176 #[.val (.int p1), .val (.int p2), .val (.int p3), .val (.int p4), .val (.int p5), .val (.int (3 : Int32)), .val (.ref b122), .val (.int p3), .val (.int p3), .val (.int (1 : Int32)), .unset] [(.ref b122)])) (fun tg kk => XS.aload X178.here hx rfl (hb hby at_174) rfl rfl kk) ?_
    refine OwnGo.back (T178.setTop (mkF m 177 #[.val (.int p1), .val (.int p2), .val (.int p3), .val (.int p4), .val (.int p5), .val (.int (3 : Int32)), .val (.ref b122), .val (.int p3), .val (.int p3), .val (.int (1 : Int32)), .unset] [(.int p4), (.ref b122)])) (fun tg kk => XS.iloadN X178.here hx rfl (hb hby at_176) rfl kk) ?_
    obtain ⟨cq179, kq179, q179a, q179b, q179c⟩ := isOf hZ e178 po168
    obtain ⟨_, _, ⟨T179, L179, k179, n179⟩, -, X179, ⟨Lc179, hQ179, l179, y179, z179⟩, st179⟩ := X178.virtualBack hx (y := (⟨"plainsight/grammar/IntList", "add", "(I)V"⟩ : MethodName)) (z := (⟨"plainsight/grammar/IntList", "add", "(I)V"⟩ : MethodName)) hown (mvT hZ (hw _ (List.mem_of_getElem? (i := 13) rfl))) (mvT hZ (hw _ (List.mem_of_getElem? (i := 14) rfl))) (notFace_of_selects (args := #[]) (mvT hZ (hw _ (List.mem_of_getElem? (i := 16) rfl)))) (mvT hZ (hw _ (List.mem_of_getElem? (i := 16) rfl))) (mvT hZ (hw _ (List.mem_of_getElem? (i := 15) rfl))) (by decide) (backOf (W := 0) (own_add2 l Z a0 hw [] b122 p4 b_130 kb_131 (.int p1) (.int p2) (.int p3) T167.heap n0 Z175 po168 po169 po170 po171 g123 g141 n140) hZ (hw _ (List.mem_of_getElem? (i := 17) rfl)) (hw _ (List.mem_of_getElem? (i := 3) rfl)) (by decide) (by decide)) q179a q179c (g := (mkF m 177 #[.val (.int p1), .val (.int p2), .val (.int p3), .val (.int p4), .val (.int p5), .val (.int (3 : Int32)), .val (.ref b122), .val (.int p3), .val (.int p3), .val (.int (1 : Int32)), .unset] [(.int p4), (.ref b122)])) rfl (by rw [hml]; rfl) (Steps.refl _) (argsL := [(.int p4)]) (rest := []) (lenOf own_pd1 rfl) rfl (by show 2 * 0 + _ ≤ _; exact Nat.le_of_eq rfl) (hb hby at_177) (fun _ _ => ⟨rfl, e178, (by decide : 2 + 0 ≤ _), (by decide : 18 + 0 ≤ _)⟩)
    dsimp only [Pt.U, Pt.locs, Pt.cells, Pt.slots] at X179 l179 y179 z179 st179 hQ179
    subst l179 y179 z179
    obtain ⟨rfl, N179q, Kc179, po180, po181, po182, po183⟩ := hQ179
    have N179 := Fr.app N178 N179q
    have f184 : Exa Z T179.heap b122 "plainsight/grammar/IntList" := po168.keep Kc179
    have K185 : Keep h0 T179.heap [] := K174.trans Kc179 (allS (Or.inr s124) (allS (Or.inr s142) all0))
    have Z186 : n0 ≤ T179.heap.size := Nat.le_trans Z175 Kc179.1
    refine OwnGo.back (T179.setTop (mkF m 180 #[.val (.int p1), .val (.int p2), .val (.int p3), .val (.int p4), .val (.int p5), .val (.int (3 : Int32)), .val (.ref b122), .val (.int p3), .val (.int p3), .val (.int (1 : Int32)), .unset] [])) (fun tg kk => st179.trans kk) ?_
    refine OwnGo.back (T179.setTop (mkF m 182 #[.val (.int p1), .val (.int p2), .val (.int p3), .val (.int p4), .val (.int p5), .val (.int (3 : Int32)), .val (.ref b122), .val (.int p3), .val (.int p3), .val (.int (1 : Int32)), .unset] [(.ref b122)])) (fun tg kk => XS.aload X179.here hx rfl (hb hby at_180) rfl rfl kk) ?_
    obtain ⟨cq187, kq187, q187a, q187b, q187c⟩ := isOf hZ rfl po180
    obtain ⟨_, _, ⟨T187, L187, k187, n187⟩, -, X187, ⟨Lc187, hQ187, l187, y187, z187⟩, st187⟩ := X179.virtualBack hx (y := (⟨"plainsight/grammar/IntList", "pop", "()I"⟩ : MethodName)) (z := (⟨"plainsight/grammar/IntList", "pop", "()I"⟩ : MethodName)) hown (mvT hZ (hw _ (List.mem_of_getElem? (i := 20) rfl))) (mvT hZ (hw _ (List.mem_of_getElem? (i := 21) rfl))) (notFace_of_selects (args := #[]) (mvT hZ (hw _ (List.mem_of_getElem? (i := 23) rfl)))) (mvT hZ (hw _ (List.mem_of_getElem? (i := 23) rfl))) (mvT hZ (hw _ (List.mem_of_getElem? (i := 22) rfl))) (by decide) (backOf (W := 0) (own_pop3 l Z a0 hw [] b122 b_130 kb_131 p4 (.int p1) (.int p2) T179.heap n0 Z186 po180 po181 po182 po183 g123 g141 n140) hZ (hw _ (List.mem_of_getElem? (i := 24) rfl)) (hw _ (List.mem_of_getElem? (i := 3) rfl)) (by decide) (by decide)) q187a q187c (g := (mkF m 182 #[.val (.int p1), .val (.int p2), .val (.int p3), .val (.int p4), .val (.int p5), .val (.int (3 : Int32)), .val (.ref b122), .val (.int p3), .val (.int p3), .val (.int (1 : Int32)), .unset] [(.ref b122)])) rfl (by rw [hml]; rfl) (Steps.refl _) (argsL := []) (rest := []) (lenOf own_pd2 rfl) rfl (by show 2 * 0 + _ ≤ _; exact Nat.le_of_eq rfl) (hb hby at_182) (fun _ _ => ⟨rfl, rfl, (by decide : 2 + 0 ≤ _), (by decide : 18 + 0 ≤ _)⟩)
    dsimp only [Pt.U, Pt.locs, Pt.cells, Pt.slots] at X187 l187 y187 z187 st187 hQ187
    subst l187 y187 z187
    obtain ⟨rfl, N187q, Kc187, po188, po189, po190, po191⟩ := hQ187
    have N187 := Fr.app N179 N187q
    have f192 : Exa Z T187.heap b122 "plainsight/grammar/IntList" := po180.keep Kc187
    have f193 : Arv Z T187.heap b_130 kb_131 .int (16 : Int32) [(.int p1), (.int p2), (.int p4)] (.int (0 : Int32)) := po183.keep Kc187 (ninS (Ne.symm n140) nin0)
    have K194 : Keep h0 T187.heap [] := K185.trans Kc187 (allS (Or.inr s124) all0)
    have Z195 : n0 ≤ T187.heap.size := Nat.le_trans Z186 Kc187.1
    refine OwnGo.back (T187.setTop (mkF m 185 #[.val (.int p1), .val (.int p2), .val (.int p3), .val (.int p4), .val (.int p5), .val (.int (3 : Int32)), .val (.ref b122), .val (.int p3), .val (.int p3), .val (.int (1 : Int32)), .unset] [(.int p4)])) (fun tg kk => st187.trans kk) ?_
    refine OwnGo.back (T187.setTop (mkF m 187 #[.val (.int p1), .val (.int p2), .val (.int p3), .val (.int p4), .val (.int p5), .val (.int (3 : Int32)), .val (.ref b122), .val (.int p3), .val (.int p3), .val (.int (1 : Int32)), .val (.int p4)] [])) (fun tg kk => XS.istore X187.here hx rfl (hb hby at_185) rfl (l' := #[.val (.int p1), .val (.int p2), .val (.int p3), .val (.int p4), .val (.int p5), .val (.int (3 : Int32)), .val (.ref b122), .val (.int p3), .val (.int p3), .val (.int (1 : Int32)), .val (.int p4)]) rfl kk) ?_
    refine OwnGo.back (T187.setTop (mkF m 189 #[.val (.int p1), .val (.int p2), .val (.int p3), .val (.int p4), .val (.int p5), .val (.int (3 : Int32)), .val (.ref b122), .val (.int p3), .val (.int p3), .val (.int (1 : Int32)), .val (.int p4)] [(.int (1 : Int32))])) (fun tg kk => XS.iload X187.here hx rfl (hb hby at_187) rfl kk) ?_
    refine OwnGo.back (T187.setTop (mkF m 192 #[.val (.int p1), .val (.int p2), .val (.int p3), .val (.int p4), .val (.int p5), .val (.int (3 : Int32)), .val (.ref b122), .val (.int p3), .val (.int p3), .val (.int (1 : Int32)), .val (.int p4)] [])) (fun tg kk => XS.ifNo X187.here hx rfl (hb hby at_189) rfl ((if0 _ _).trans (feq (by decide : ¬ ((1 : Int32) = (0 : Int32)))).1) kk) ?_
    refine OwnGo.back (T187.setTop (mkF m 194 #[.val (.int p1), .val (.int p2), .val (.int p3), .val (.int p4), .val (.int p5), .val (.int (3 : Int32)), .val (.ref b122), .val (.int p3), .val (.int p3), .val (.int (1 : Int32)), .val (.int p4)] [(.int p4)])) (fun tg kk => XS.iload X187.here hx rfl (hb hby at_192) rfl kk) ?_
    refine OwnGo.back (T187.setTop (mkF m 195 #[.val (.int p1), .val (.int p2), .val (.int p3), .val (.int p4), .val (.int p5), .val (.int (3 : Int32)), .val (.ref b122), .val (.int p3), .val (.int p3), .val (.int (1 : Int32)), .val (.int p4)] [(.int p4), (.int p4)])) (fun tg kk => XS.iloadN X187.here hx rfl (hb hby at_194) rfl kk) ?_
    refine OwnGo.back (T187.setTop (mkF m 198 #[.val (.int p1), .val (.int p2), .val (.int p3), .val (.int p4), .val (.int p5), .val (.int (3 : Int32)), .val (.ref b122), .val (.int p3), .val (.int p3), .val (.int (1 : Int32)), .val (.int p4)] [])) (fun tg kk => XS.icmpNo X187.here hx rfl (hb hby at_195) rfl (teq (rfl : p4 = p4)).2 kk) ?_
    refine OwnGo.back (T187.setTop (mkF m 199 #[.val (.int p1), .val (.int p2), .val (.int p3), .val (.int p4), .val (.int p5), .val (.int (3 : Int32)), .val (.ref b122), .val (.int p3), .val (.int p3), .val (.int (1 : Int32)), .val (.int p4)] [(.int (1 : Int32))])) (fun tg kk => XS.iconst X187.here hx rfl (hb hby at_198) kk) ?_
    refine OwnGo.back (T187.setTop (mkF m 203 #[.val (.int p1), .val (.int p2), .val (.int p3), .val (.int p4), .val (.int p5), .val (.int (3 : Int32)), .val (.ref b122), .val (.int p3), .val (.int p3), .val (.int (1 : Int32)), .val (.int p4)] [(.int (1 : Int32))])) (fun tg kk => XS.goto X187.here hx rfl (pc0 := 199) (pc' := 203) rfl (hb hby at_199) (by decide) (by decide) kk) ?_
    refine OwnGo.back (T187.setTop (mkF m 205 #[.val (.int p1), .val (.int p2), .val (.int p3), .val (.int p4), .val (.int p5), .val (.int (3 : Int32)), .val (.ref b122), .val (.int p3), .val (.int p3), .val (.int (1 : Int32)), .val (.int p4)] [])) (fun tg kk => XS.istore X187.here hx rfl (hb hby at_203) rfl (l' := #[.val (.int p1), .val (.int p2), .val (.int p3), .val (.int p4), .val (.int p5), .val (.int (3 : Int32)), .val (.ref b122), .val (.int p3), .val (.int p3), .val (.int (1 : Int32)), .val (.int p4)]) rfl kk) ?_
    refine OwnGo.back (T187.setTop (mkF m 207 #[.val (.int p1), .val (.int p2), .val (.int p3), .val (.int p4), .val (.int p5), .val (.int (3 : Int32)), .val (.ref b122), .val (.int p3), .val (.int p3), .val (.int (1 : Int32)), .val (.int p4)] [(.int (1 : Int32))])) (fun tg kk => XS.iload X187.here hx rfl (hb hby at_205) rfl kk) ?_
    obtain ⟨fs, hr, hrun, hended, hW, hsame⟩ := X187.leave (v := some (.int (1 : Int32))) (fun h => by rw [Bd.returns] at h; cases h)
    refine ⟨_, _, ?_, hrun, hended, _, _, rfl, ?_, ⟨_, rfl⟩, hW, hsame.mono (by decide) (by decide)⟩
    · exact retN X187 hx (t := .boolean) Bd.returns (by simp) (hb hby at_207) hr
    · show own_law_Q Z p1 p2 p3 p4 p5 h0 n0 _ T187.heap _
      exact ⟨rfl, N187, K194⟩
set_option maxRecDepth 65536 in
set_option maxHeartbeats 40000000 in
theorem comes_1 {Post : Tables → Env → Array Value → State → Outcome → State → Prop} (hpost : ∀ tb e args s v u, (limb_1_1.after args s (.returned v) u = true ∧ limb_1_2.after args s (.returned v) u = true ∧ True) → FrameEnd s (.returned v) u (Jvm.fieldLocs frame_1_writes args s ++ Jvm.arrayLocs frame_1_arrays args s ++ Jvm.staticLocs frame_1_statics s) 16 128 → Post tb e args s (.returned v) u) :
    ArmFor flags0 classFile x code maxLocals ret World_1 tables_1 room_1 Calls_1 rest_1 Pre_1 Post := by
  intro l hfl _ _ p e ha hc hk s m args below hf hA hF happ hP
  obtain ⟨hcalls, hrest, hpre⟩ := hP
  obtain ⟨-, -, -, hnamed, -, -, -, hat⟩ := (Spec.applies_iff hf).mp happ
  obtain ⟨hg, hn⟩ := and_e (Cond.before_iff.mp (show (Jvm.Cond.and given_1 narrow_1).before args s = true from hpre))
  obtain ⟨hg0, hg⟩ := and_e hg
  obtain ⟨hg1, hg⟩ := and_e hg
  obtain ⟨hg2, hg⟩ := and_e hg
  obtain ⟨hg3, hg⟩ := and_e hg
  obtain ⟨hg4, hg⟩ := and_e hg
  obtain ⟨w0, w1, w2, w3, w4, rfl⟩ : ∃ w0 w1 w2 w3 w4 : Value, args = #[w0, w1, w2, w3, w4] := by
    have hs : args.size = 5 := by simpa [Cond.value, given_1] using hg0
    obtain ⟨L⟩ := args
    match L, hs with
    | [w0, w1, w2, w3, w4], _ => exact ⟨w0, w1, w2, w3, w4, rfl⟩
  have hw := fun d (hd : d ∈ tables_1) => atoms_spec (ws := Jvm.Cond.code x code maxLocals ret :: tables_1) hat d (List.mem_cons_of_mem _ hd)
  have hfit : Fit s := fun {y c} hc i hi => by
    obtain ⟨ha, rfl⟩ := Array.getElem?_eq_some_iff.mp hc
    have q := List.all_eq_true.mp ((Array.all_eq_true_iff_forall_mem.mp hF) _ (Array.getElem_mem ha)) i (List.mem_range.mpr hi)
    simpa [Array.getElem?_eq_getElem hi] using q
  obtain ⟨i0, ei0⟩ := is_v hg1
  obtain rfl : w0 = (.int i0) := Option.some.inj ei0
  obtain ⟨i1, ei1⟩ := is_v hg2
  obtain rfl : w1 = (.int i1) := Option.some.inj ei1
  obtain ⟨i2, ei2⟩ := is_v hg3
  obtain rfl : w2 = (.int i2) := Option.some.inj ei2
  obtain ⟨i3, ei3⟩ := is_v hg4
  obtain rfl : w3 = (.int i3) := Option.some.inj ei3
  obtain ⟨i4, ei4⟩ := is_v hg
  obtain rfl : w4 = (.int i4) := Option.some.inj ei4
  obtain ⟨n, o, h1, h2, h3, _, L, rfl, ⟨rfl, N, -⟩, hq⟩ := own_law l s _ hw tables_1 i0 i1 i2 i3 i4 s.heap s.heap.size (Nat.le_refl _)  p e ha hc hk s m _ below hf ((Spec.applies_iff_loose hf).mp happ).1 ⟨rfl, State.Warmed39.refl s, rfl⟩ trivial
  refine ⟨n, _, h1, h2, h3, hpost _ _ _ _ _ _ ⟨Cond.after_iff.mpr rfl, Cond.after_iff.mpr (eq_i res_at (Term.int_eval (1)) rfl), trivial⟩ ⟨hq.1, hq.2.1, (hq.2.2.sift fun y hy => Or.inr (N y hy)).mono (by decide) (by decide)⟩⟩
theorem main_1_1 : Claimed_1_1 := comes_1 fun _ _ _ _ _ _ h hF => ⟨h.1, hF⟩
theorem main_1_2 : Claimed_1_2 := comes_1 fun _ _ _ _ _ _ h hF => ⟨h.2.1, hF⟩
end Jvm.Pilot.@@N@@
namespace Jvm.Pilot.@@N@@
open Jvm Jvm.ClassFile Sem Op Lib Jvm.Free Jvm.Stand Jvm.Pilot.@@N@@.Jvm.D
/-! MADE BY PROGRAM (witnessworld.py) out of the Statement's table words and the real class files: 9 classes; the members and pool entries that the words name. The judged class is class 1, her method 1. -/
namespace start1
open Jvm.ClassFile
def u (s : String) : CpInfo := .utf8 (stringToUtf16 s)
/-- a pool by its gaps: so many unusable entries, then the entry; so many at the end -/
def gap : Nat → List CpInfo → List CpInfo
  | 0, r => r
  | n + 1, r => .unusable :: gap n r
def poolList (es : List (Nat × CpInfo)) (last : Nat) : List CpInfo := es.foldr (fun e r => gap e.1 (e.2 :: r)) (gap last [])
def pool (es : List (Nat × CpInfo)) (last : Nat) : Array CpInfo := ⟨poolList es last⟩
def fileOf (pool : Array CpInfo) (this : Nat) (attrs : Array Attribute := #[]) (ms : Array MethodInfo := #[]) (fl : Nat := 33) (sup : Nat := 0) (ifs : Array Nat := #[]) (fds : Array FieldInfo := #[]) : ClassFile where
  minorVersion := 0
  majorVersion := 65
  constantPool := pool
  accessFlags := fl
  thisClass := this
  superClass := sup
  interfaces := ifs
  fields := fds
  methods := ms
  attributes := attrs
def plain (name : String) (sup : Option ClassId) : Class where
  name := name
  kind := .ordinary
  loader := none
  accessFlags := 33
  super := sup
  interfaces := #[]
  cf := none
  fields := #[]
  methods := #[]
  instanceTypes := #[]
  staticTypes := #[]
  resolved := #[]
  callSites := []
  init := .initialized
  statics := none
  mirror := none

def pool0 : Array CpInfo := pool [(5, u "<init>"), (0, u "()V"), (1, .class_ 10), (1, u "java/lang/Object")] 113

def k0c0 : Code := { maxStack := 0, maxLocals := 1, code := object_method_1_code, exceptionTable := #[], attributes := #[] }
def k0m0 : Method := { name := "<init>", desc := "()V", sig := { parameters := [], returnType := none }, accessFlags := 1, code := some k0c0 }
/-- java/lang/Object -/
def k0 : Class := { plain "java/lang/Object" none with
  accessFlags := 33
  interfaces := #[]
  cf := some (fileOf pool0 8 #[] #[{ accessFlags := 1, nameIndex := 5, descriptorIndex := 6, attributes := #[] }] 33 0 #[] #[])
  fields := #[]
  methods := #[k0m0]
  instanceTypes := #[]
  staticTypes := #[]
  resolved := Array.replicate 124 none
  statics := none }

def pool1 : Array CpInfo := pool [(2, .class_ 4), (0, .nameAndType 5 6), (0, u "java/lang/Object"), (0, u "<init>"), (0, u "()V"), (0, .integer 2147483647), (0, .class_ 9), (0, u "plainsight/grammar/IntList"), (0, .methodref 8 3), (0, .methodref 8 12), (0, .nameAndType 13 14), (0, u "add"), (0, u "(I)V"), (0, .methodref 8 16), (0, .nameAndType 17 18), (0, u "pop"), (0, u "()I"), (0, .methodref 8 20), (0, .nameAndType 21 18), (0, u "size"), (0, .methodref 8 23), (0, .nameAndType 24 25), (0, u "get"), (0, u "(I)I"), (0, .class_ 27), (0, u "plainsight/grammar/IntListPopPinLaw"), (2, u "law"), (0, u "(IIIII)Z")] 3

def k1m0 : Method := { name := "<init>", desc := "()V", sig := { parameters := [], returnType := none }, accessFlags := 1, code := none }
def k1c1 : Code := { maxStack := 3, maxLocals := 11, code := code, exceptionTable := #[], attributes := #[] }
def k1m1 : Method := { name := "law", desc := "(IIIII)Z", sig := { parameters := [.int, .int, .int, .int, .int], returnType := some .boolean }, accessFlags := 9, code := some k1c1 }
/-- plainsight/grammar/IntListPopPinLaw -/
def k1 : Class := { plain "plainsight/grammar/IntListPopPinLaw" (some 0) with
  accessFlags := 49
  interfaces := #[]
  cf := some (fileOf pool1 26 #[] #[{ accessFlags := 1, nameIndex := 5, descriptorIndex := 6, attributes := #[] }, { accessFlags := 9, nameIndex := 30, descriptorIndex := 31, attributes := #[] }] 49 2 #[] #[])
  fields := #[]
  methods := #[k1m0, k1m1]
  instanceTypes := #[]
  staticTypes := #[]
  resolved := Array.replicate 35 none
  statics := none }

def pool2 : Array CpInfo := pool [(1, .methodref 2 3), (0, .class_ 4), (0, .nameAndType 5 6), (0, u "java/lang/Object"), (0, u "<init>"), (0, u "()V"), (0, .fieldref 8 9), (0, .class_ 10), (0, .nameAndType 11 12), (0, u "plainsight/grammar/IntList"), (0, u "values"), (0, u "[I"), (0, .fieldref 8 14), (0, .nameAndType 15 16), (0, u "size"), (0, u "I"), (4, u "(I)V"), (14, u "()I"), (0, u "get"), (0, u "(I)I"), (3, u "add"), (0, u "pop")] 3

def k2c0 : Code := { maxStack := 2, maxLocals := 1, code := prog_86_method_1_code, exceptionTable := #[], attributes := #[] }
def k2m0 : Method := { name := "<init>", desc := "()V", sig := { parameters := [], returnType := none }, accessFlags := 0, code := some k2c0 }
def k2c1 : Code := { maxStack := 1, maxLocals := 1, code := prog_86_method_2_code, exceptionTable := #[], attributes := #[] }
def k2m1 : Method := { name := "size", desc := "()I", sig := { parameters := [], returnType := some .int }, accessFlags := 0, code := some k2c1 }
def k2c2 : Code := { maxStack := 3, maxLocals := 2, code := prog_86_method_3_code, exceptionTable := #[], attributes := #[] }
def k2m2 : Method := { name := "get", desc := "(I)I", sig := { parameters := [.int], returnType := some .int }, accessFlags := 0, code := some k2c2 }
def k2c3 : Code := { maxStack := 5, maxLocals := 2, code := prog_86_method_5_code, exceptionTable := #[], attributes := #[] }
def k2m3 : Method := { name := "add", desc := "(I)V", sig := { parameters := [.int], returnType := none }, accessFlags := 0, code := some k2c3 }
def k2c4 : Code := { maxStack := 4, maxLocals := 1, code := prog_86_method_6_code, exceptionTable := #[], attributes := #[] }
def k2m4 : Method := { name := "pop", desc := "()I", sig := { parameters := [], returnType := some .int }, accessFlags := 0, code := some k2c4 }
/-- plainsight/grammar/IntList -/
def k2 : Class := { plain "plainsight/grammar/IntList" (some 0) with
  accessFlags := 48
  interfaces := #[]
  cf := some (fileOf pool2 8 #[] #[{ accessFlags := 0, nameIndex := 5, descriptorIndex := 6, attributes := #[] }, { accessFlags := 0, nameIndex := 15, descriptorIndex := 36, attributes := #[] }, { accessFlags := 0, nameIndex := 37, descriptorIndex := 38, attributes := #[] }, { accessFlags := 0, nameIndex := 42, descriptorIndex := 21, attributes := #[] }, { accessFlags := 0, nameIndex := 43, descriptorIndex := 36, attributes := #[] }] 48 2 #[] #[{ accessFlags := 2, nameIndex := 11, descriptorIndex := 12, attributes := #[] }, { accessFlags := 2, nameIndex := 15, descriptorIndex := 16, attributes := #[] }])
  fields := #[{ name := "values", type := (.array .int), accessFlags := 2, slot := 0, constantValue := 0 }, { name := "size", type := .int, accessFlags := 2, slot := 1, constantValue := 0 }]
  methods := #[k2m0, k2m1, k2m2, k2m3, k2m4]
  instanceTypes := #[(.array .int), .int]
  staticTypes := #[]
  resolved := Array.replicate 47 none
  statics := none }

def pool3 : Array CpInfo := pool [(1, u "java/lang/Cloneable"), (0, .class_ 1), (0, u "java/lang/Object"), (0, .class_ 3)] 3

/-- java/lang/Cloneable -/
def k3 : Class := { plain "java/lang/Cloneable" (some 0) with
  accessFlags := 1537
  interfaces := #[]
  cf := some (fileOf pool3 2 #[] #[] 1537 4 #[] #[])
  fields := #[]
  methods := #[]
  instanceTypes := #[]
  staticTypes := #[]
  resolved := Array.replicate 8 none
  statics := none }

def pool4 : Array CpInfo := pool [(1, u "java/io/Serializable"), (0, .class_ 1), (0, u "java/lang/Object"), (0, .class_ 3)] 3

/-- java/io/Serializable -/
def k4 : Class := { plain "java/io/Serializable" (some 0) with
  accessFlags := 1537
  interfaces := #[]
  cf := some (fileOf pool4 2 #[] #[] 1537 4 #[] #[])
  fields := #[]
  methods := #[]
  instanceTypes := #[]
  staticTypes := #[]
  resolved := Array.replicate 8 none
  statics := none }

/-- the primitive byte -/
def k5 : Class := { plain "byte" none with kind := .primitive 'B', accessFlags := 0x411 }
/-- [B -/
def k6 : Class := { plain "[B" (some 0) with kind := .array 5 .byte, interfaces := #[3, 4], accessFlags := 1041 }

/-- the primitive int -/
def k7 : Class := { plain "int" none with kind := .primitive 'I', accessFlags := 0x411 }
/-- [I -/
def k8 : Class := { plain "[I" (some 0) with kind := .array 7 .int, interfaces := #[3, 4], accessFlags := 1041 }

def heap : Heap := #[]
def classes : Array Class := #[k0, k1, k2, k3, k4, k5, k6, k7, k8]
def interned : List (Array UInt16 × Addr) := []
def slotsUsed : Nat := 0
def theMethod : MethodId := ⟨1, 1⟩
def args0 : Array Value := #[.int 5, .int 2, .int 7, .int 8, .int 1]
def aboutOver (below : List Frame) : State where
  vm := { classes := classes, interned := interned.toArray }
  heap := heap
  slotsUsed := slotsUsed
  threads := #[{ frames := .invoking theMethod args0 :: below }]
def below0 : List Frame := [.native { method := ⟨0, 0⟩, args := #[] }]
def about1 : State := aboutOver below0
def p0 : Program := .bare "" "" ""
def e0 : Env := launch0.env 0 0 0
theorem w_frames : about1.frames = Frame.invoking theMethod args0 :: below0 := rfl
set_option maxRecDepth 65536 in
theorem w_args : argsFit about1.vm theMethod args0 = true := by decide +kernel
set_option maxRecDepth 65536 in
theorem w_heap : heapFits about1 = true := by decide +kernel
set_option maxRecDepth 65536 in
theorem w_runnable : about1.curStatus? = some .runnable := by decide +kernel
set_option maxRecDepth 65536 in
theorem w_alone : about1.alone = true := by decide +kernel
set_option maxRecDepth 65536 in
theorem w_named : about1.methodNamed? x = some theMethod := by decide +kernel
set_option maxRecDepth 65536 in
theorem w_hears : about1.hears theMethod below0 = true := by decide +kernel
set_option maxRecDepth 65536 in
theorem w_ripe : about1.ripe theMethod args0 below0 = true := by decide +kernel
theorem w_running : about1.status = .running := rfl
set_option maxRecDepth 65536 in
theorem w_room : about1.hasRoom e0.platform room_1 = true :=
  launch0.hasRoom_least _ room_1 (by decide +kernel) (by decide +kernel) (by decide +kernel) (by decide +kernel) (by decide +kernel) (by decide +kernel)
theorem allAtoms_all (ts : List Jvm.Cond) (a : Array Jvm.Value) (st : Jvm.State) : (allAtoms ts).before a st = ts.all (fun c => c.before a st) := by
  induction ts with
  | nil => rfl
  | cons c t ih =>
    show (Jvm.Cond.and c (allAtoms t)).before a st = _
    rw [Jvm.Cond.before_and, ih, List.all_cons]
def words1 : List Jvm.Cond := Jvm.Cond.code x code maxLocals ret :: tables_1
/-- a 'code' word, met by the world's own term for the bytes: nothing is compared byte by byte -/
theorem code_word {y : MethodName} {bytes : ByteArray} {mx : Nat} {rt : Option FieldType} {a : Array Value} {s : State} {m : MethodId} {meth : Method} {c : Code} (h1 : s.methodNamed? y = some m) (h2 : s.vm.method? m = some meth) (h3 : meth.code = some c) (h4 : c.code = bytes)
    (h5 : (c.maxLocals == mx && c.exceptionTable.isEmpty && decide (c.maxStack ≤ mostOperands) && decide (meth.sig.returnType = rt) && !meth.locks && decide (parseMethodDescriptor y.desc = some meth.sig)) = true) : (Jvm.Cond.code y bytes mx rt).before a s = true := by
  simp only [Bool.and_eq_true, beq_iff_eq, Bool.not_eq_true', decide_eq_true_eq] at h5
  obtain ⟨⟨⟨⟨⟨g1, g2⟩, g3⟩, g4⟩, g5⟩, g6⟩ := h5
  simp [Cond.before, Cond.holds, Cond.value, h1, h2, h3, h4, g1, g2, g3, g4, g5, g6]
def isCode : Jvm.Cond → Bool
  | .code _ _ _ _ => true
  | _ => false
theorem all_split {L : List Jvm.Cond} {P : Jvm.Cond → Bool} (h1 : L.all (fun c => isCode c || P c) = true) (h2 : ∀ c ∈ L.filter isCode, P c = true) : L.all P = true := by
  refine List.all_eq_true.mpr fun c hc => ?_
  have h := List.all_eq_true.mp h1 c hc
  rcases Bool.eq_false_or_eq_true (isCode c) with hi | hi
  · exact h2 c (List.mem_filter.mpr ⟨hc, hi⟩)
  · simpa [hi] using h
set_option maxRecDepth 65536 in
theorem w_c0 : (Jvm.Cond.code x code maxLocals ret).before args0 about1 = true := code_word (m := ⟨1, 1⟩) (meth := k1m1) (c := k1c1) (by decide +kernel) rfl rfl rfl (by decide +kernel)
set_option maxRecDepth 65536 in
theorem w_c1 : (Jvm.Cond.code ({ cls := "plainsight/grammar/IntList", name := "<init>", desc := "()V" } : Jvm.MethodName) prog_86_method_1_code (1 : Nat) (Option.none : Option Jvm.ClassFile.FieldType)).before args0 about1 = true := code_word (m := ⟨2, 0⟩) (meth := k2m0) (c := k2c0) (by decide +kernel) rfl rfl rfl (by decide +kernel)
set_option maxRecDepth 65536 in
theorem w_c2 : (Jvm.Cond.code ({ cls := "java/lang/Object", name := "<init>", desc := "()V" } : Jvm.MethodName) object_method_1_code (1 : Nat) (Option.none : Option Jvm.ClassFile.FieldType)).before args0 about1 = true := code_word (m := ⟨0, 0⟩) (meth := k0m0) (c := k0c0) (by decide +kernel) rfl rfl rfl (by decide +kernel)
set_option maxRecDepth 65536 in
theorem w_c3 : (Jvm.Cond.code ({ cls := "plainsight/grammar/IntList", name := "add", desc := "(I)V" } : Jvm.MethodName) prog_86_method_5_code (2 : Nat) (Option.none : Option Jvm.ClassFile.FieldType)).before args0 about1 = true := code_word (m := ⟨2, 3⟩) (meth := k2m3) (c := k2c3) (by decide +kernel) rfl rfl rfl (by decide +kernel)
set_option maxRecDepth 65536 in
theorem w_c4 : (Jvm.Cond.code ({ cls := "plainsight/grammar/IntList", name := "pop", desc := "()I" } : Jvm.MethodName) prog_86_method_6_code (1 : Nat) (Option.some Jvm.ClassFile.FieldType.int)).before args0 about1 = true := code_word (m := ⟨2, 4⟩) (meth := k2m4) (c := k2c4) (by decide +kernel) rfl rfl rfl (by decide +kernel)
set_option maxRecDepth 65536 in
theorem w_c5 : (Jvm.Cond.code ({ cls := "plainsight/grammar/IntList", name := "size", desc := "()I" } : Jvm.MethodName) prog_86_method_2_code (1 : Nat) (Option.some Jvm.ClassFile.FieldType.int)).before args0 about1 = true := code_word (m := ⟨2, 1⟩) (meth := k2m1) (c := k2c1) (by decide +kernel) rfl rfl rfl (by decide +kernel)
set_option maxRecDepth 65536 in
theorem w_c6 : (Jvm.Cond.code ({ cls := "plainsight/grammar/IntList", name := "get", desc := "(I)I" } : Jvm.MethodName) prog_86_method_3_code (2 : Nat) (Option.some Jvm.ClassFile.FieldType.int)).before args0 about1 = true := code_word (m := ⟨2, 2⟩) (meth := k2m2) (c := k2c2) (by decide +kernel) rfl rfl rfl (by decide +kernel)
def codes1 : List Jvm.Cond := [Jvm.Cond.code x code maxLocals ret, Jvm.Cond.code ({ cls := "plainsight/grammar/IntList", name := "<init>", desc := "()V" } : Jvm.MethodName) prog_86_method_1_code (1 : Nat) (Option.none : Option Jvm.ClassFile.FieldType), Jvm.Cond.code ({ cls := "java/lang/Object", name := "<init>", desc := "()V" } : Jvm.MethodName) object_method_1_code (1 : Nat) (Option.none : Option Jvm.ClassFile.FieldType), Jvm.Cond.code ({ cls := "plainsight/grammar/IntList", name := "add", desc := "(I)V" } : Jvm.MethodName) prog_86_method_5_code (2 : Nat) (Option.none : Option Jvm.ClassFile.FieldType), Jvm.Cond.code ({ cls := "plainsight/grammar/IntList", name := "pop", desc := "()I" } : Jvm.MethodName) prog_86_method_6_code (1 : Nat) (Option.some Jvm.ClassFile.FieldType.int), Jvm.Cond.code ({ cls := "plainsight/grammar/IntList", name := "size", desc := "()I" } : Jvm.MethodName) prog_86_method_2_code (1 : Nat) (Option.some Jvm.ClassFile.FieldType.int), Jvm.Cond.code ({ cls := "plainsight/grammar/IntList", name := "get", desc := "(I)I" } : Jvm.MethodName) prog_86_method_3_code (2 : Nat) (Option.some Jvm.ClassFile.FieldType.int)]
set_option maxRecDepth 65536 in
theorem codes_eq : words1.filter isCode = codes1 := rfl
theorem w_codes : ∀ c ∈ words1.filter isCode, c.before args0 about1 = true := by
  rw [codes_eq]
  intro c hc
  simp only [codes1, List.mem_cons, List.not_mem_nil, or_false] at hc
  rcases hc with rfl | rfl | rfl | rfl | rfl | rfl | rfl
  · exact w_c0
  · exact w_c1
  · exact w_c2
  · exact w_c3
  · exact w_c4
  · exact w_c5
  · exact w_c6
set_option maxRecDepth 65536 in
theorem w_t1 : (words1.take 24).all (fun c => isCode c || c.before args0 about1) = true := by decide +kernel
set_option maxRecDepth 65536 in
theorem w_t2 : (words1.drop 24).all (fun c => isCode c || c.before args0 about1) = true := by decide +kernel
theorem w_tables : (allAtoms (Jvm.Cond.code x code maxLocals ret :: tables_1)).before args0 about1 = true := by
  rw [allAtoms_all]
  show words1.all (fun c => c.before args0 about1) = true
  refine all_split ?_ w_codes
  rw [← List.take_append_drop 24 words1, List.all_append, w_t1, w_t2]
  rfl
set_option maxRecDepth 65536 in
theorem w_case : (Jvm.Cond.and given_1 narrow_1).before args0 about1 = true := by decide +kernel
theorem w_applies : (headSpec (Jvm.Cond.code x code maxLocals ret :: tables_1) room_1).applies x e0.platform about1 = true :=
  (Spec.applies_iff w_frames).mpr ⟨w_running, w_runnable, w_alone, w_named, w_hears, w_ripe, w_room, w_tables⟩
theorem atStart : AtStart classFile x code maxLocals ret World_1 tables_1 room_1 Calls_1 rest_1 Pre_1 launch0 p0 e0 about1 theMethod args0 below0 :=
  ⟨lists_1, trivial, launch0.admits_env _ _ _, launch0.least_env, fairChoices_fair.cas, fairChoices_fair.clock, w_frames, w_args, w_heap, w_applies, trivial, trivial, w_case⟩
end start1
theorem witness_1 : WitnessClaimed_1 := ⟨start1.p0, start1.e0, start1.about1, start1.theMethod, start1.args0, start1.below0, start1.atStart⟩
end Jvm.Pilot.@@N@@
