import JvmDerived
import JvmDerived.Pilot.@@N@@Statement
import JvmDerived.Pilot.@@N@@Code
set_option linter.unusedVariables false
set_option linter.unusedSimpArgs false
namespace Jvm.RoadKit
open Sem ClassFile Op Lib Jvm.Stand Jvm.Free Jvm.LawKit
section New
variable {p : Program} {l : Launch} {e : Env} {R : Room} {s : State} {m : MethodId} {args : Array Value} {below : List Frame} {meth : Method} {c : Code} {T : State} {locs : List Loc} {cells slots : Nat}
theorem own_retI (X : Stand p l e R s m args below meth c T locs cells slots) (hx : p.tables.exec = Jvm.exec) {pc : Nat} {Ls : Array Slot} {z : Int32} {rest : List Value} (hret : meth.sig.returnType = some .int) (hd : decode c.code pc = .ok (.ireturn, 1)) {fs : List Frame}
    (hl : ∀ (f : JFrame) (acts : List Action), f.method = m → f.locked = none → f.entered = [] → (doReturn e (T.setTop f) acts (some (.int z))).1 = T.setFrames fs) : Steps p.tables e below (T.setTop (mkF m pc Ls (.int z :: rest))) (T.setFrames fs) :=
  retOut X hx hret rfl (Or.inl ⟨rfl, Or.inl rfl, z, rfl⟩) hd hl
theorem own_retJ (X : Stand p l e R s m args below meth c T locs cells slots) (hx : p.tables.exec = Jvm.exec) {pc : Nat} {Ls : Array Slot} {z : Int64} {rest : List Value} (hret : meth.sig.returnType = some .long) (hd : decode c.code pc = .ok (.lreturn, 1)) {fs : List Frame}
    (hl : ∀ (f : JFrame) (acts : List Action), f.method = m → f.locked = none → f.entered = [] → (doReturn e (T.setTop f) acts (some (.long z))).1 = T.setFrames fs) : Steps p.tables e below (T.setTop (mkF m pc Ls (.long z :: rest))) (T.setFrames fs) :=
  retOut X hx hret rfl (Or.inr (Or.inl ⟨rfl, rfl, z, rfl⟩)) hd hl
theorem own_retA (X : Stand p l e R s m args below meth c T locs cells slots) (hx : p.tables.exec = Jvm.exec) {pc : Nat} {Ls : Array Slot} {w : Value} {t : FieldType} {rest : List Value} (hret : meth.sig.returnType = some t) (hn : narrow t w = w) (ht : t.isReference = true) (hw : w.isRef = true) (hd : decode c.code pc = .ok (.areturn, 1)) {fs : List Frame}
    (hl : ∀ (f : JFrame) (acts : List Action), f.method = m → f.locked = none → f.entered = [] → (doReturn e (T.setTop f) acts (some w)).1 = T.setFrames fs) : Steps p.tables e below (T.setTop (mkF m pc Ls (w :: rest))) (T.setFrames fs) :=
  retOut X hx hret hn (Or.inr (Or.inr (Or.inr (Or.inr ⟨rfl, ht, hw⟩)))) hd hl
end New
abbrev OwnGo (tb : Tables) (e : Env) (below : List Frame) (K : State → Outcome → Prop) (st : State) : Prop := ∃ s₂ o, Steps tb e below st s₂ ∧ s₂.status = .running ∧ Ended s₂ below o ∧ K s₂ o
theorem OwnGo.back {tb : Tables} {e : Env} {below : List Frame} {K : State → Outcome → Prop} {st : State} (st' : State) (h : ∀ t, Steps tb e below st' t → Steps tb e below st t) (g : OwnGo tb e below K st') : OwnGo tb e below K st := by
  obtain ⟨s₂, o, h1, h2⟩ := g
  exact ⟨s₂, o, h _ h1, h2⟩
abbrev OwnMg (tb : Tables) (e : Env) (below : List Frame) (D : State → Prop) (st : State) : Prop := ∃ st', D st' ∧ ∀ t, Steps tb e below st' t → Steps tb e below st t
theorem OwnMg.back {tb : Tables} {e : Env} {below : List Frame} {D : State → Prop} {st : State} (st' : State) (h : ∀ t, Steps tb e below st' t → Steps tb e below st t) (g : OwnMg tb e below D st') : OwnMg tb e below D st := by
  obtain ⟨s₂, h1, h2⟩ := g
  exact ⟨s₂, h1, fun t k => h t (h2 t k)⟩
theorem own_not {P Q : Prop} (h : P ↔ Q) (n : ¬ Q) : ¬ P := fun q => n (h.mp q)
theorem own_ne {a b n : Nat} (h : a < n) (q : b = n) : a ≠ b := Nat.ne_of_lt (q ▸ h)
theorem own_ne' {a b n : Nat} (h : a < n) (q : n ≤ b) : a ≠ b := Nat.ne_of_lt (Nat.lt_of_lt_of_le h q)
end Jvm.RoadKit
namespace Jvm.Pilot.@@N@@
open Jvm Jvm.ClassFile Sem Op Lib Jvm.Free Jvm.Stand Jvm.LawKit Jvm.RoadKit Bundle Jvm.Pilot.@@N@@.Jvm.D
theorem own_pn0 : plainName "com/example/rhone/rhone/tree/Utf8" = true := by first | (simp [plainName, overriddenIn]; done) | decide +kernel
theorem own_d1_0 : decode prog_78_method_4_code 0 = .ok (.iload_n 0, 1) := by decide +kernel
theorem own_d1_1 : decode prog_78_method_4_code 1 = .ok (.bipush 32, 2) := by decide +kernel
theorem own_d1_3 : decode prog_78_method_4_code 3 = .ok (.if_icmp .lt 19, 3) := by decide +kernel
theorem own_d1_22 : decode prog_78_method_4_code 22 = .ok (.iconst 0, 1) := by decide +kernel
theorem own_d1_23 : decode prog_78_method_4_code 23 = .ok (.ireturn, 1) := by decide +kernel
theorem own_d1_6 : decode prog_78_method_4_code 6 = .ok (.iload_n 0, 1) := by decide +kernel
theorem own_d1_7 : decode prog_78_method_4_code 7 = .ok (.bipush 34, 2) := by decide +kernel
theorem own_d1_9 : decode prog_78_method_4_code 9 = .ok (.if_icmp .eq 13, 3) := by decide +kernel
theorem own_d1_12 : decode prog_78_method_4_code 12 = .ok (.iload_n 0, 1) := by decide +kernel
theorem own_d1_13 : decode prog_78_method_4_code 13 = .ok (.bipush 92, 2) := by decide +kernel
theorem own_d1_15 : decode prog_78_method_4_code 15 = .ok (.if_icmp .eq 7, 3) := by decide +kernel
theorem own_d1_18 : decode prog_78_method_4_code 18 = .ok (.iconst 1, 1) := by decide +kernel
theorem own_d1_19 : decode prog_78_method_4_code 19 = .ok (.goto 4, 3) := by decide +kernel
theorem own_pn1 : plainName "com/example/rhone/rhone/tree/Utf8IsPlainPinLaw" = true := by first | (simp [plainName, overriddenIn]; done) | decide +kernel
theorem own_d2_0 : decode method_2_code 0 = .ok (.iload_n 0, 1) := by decide +kernel
theorem own_d2_1 : decode method_2_code 1 = .ok (.bipush 32, 2) := by decide +kernel
theorem own_d2_3 : decode method_2_code 3 = .ok (.if_icmp .lt 11, 3) := by decide +kernel
theorem own_d2_14 : decode method_2_code 14 = .ok (.iload_n 0, 1) := by decide +kernel
theorem own_d2_15 : decode method_2_code 15 = .ok (.bipush 35, 2) := by decide +kernel
theorem own_d2_17 : decode method_2_code 17 = .ok (.if_icmp .lt 11, 3) := by decide +kernel
theorem own_d2_28 : decode method_2_code 28 = .ok (.iload_n 0, 1) := by decide +kernel
theorem own_d2_29 : decode method_2_code 29 = .ok (.bipush 93, 2) := by decide +kernel
theorem own_d2_31 : decode method_2_code 31 = .ok (.if_icmp .lt 7, 3) := by decide +kernel
theorem own_d2_38 : decode method_2_code 38 = .ok (.iconst 0, 1) := by decide +kernel
theorem own_d2_39 : decode method_2_code 39 = .ok (.ireturn, 1) := by decide +kernel
theorem own_d2_34 : decode method_2_code 34 = .ok (.iconst 1, 1) := by decide +kernel
theorem own_d2_35 : decode method_2_code 35 = .ok (.goto 4, 3) := by decide +kernel
theorem own_d2_20 : decode method_2_code 20 = .ok (.iload_n 0, 1) := by decide +kernel
theorem own_d2_21 : decode method_2_code 21 = .ok (.bipush 91, 2) := by decide +kernel
theorem own_d2_23 : decode method_2_code 23 = .ok (.if_icmp .gt 5, 3) := by decide +kernel
theorem own_d2_26 : decode method_2_code 26 = .ok (.iconst 1, 1) := by decide +kernel
theorem own_d2_27 : decode method_2_code 27 = .ok (.ireturn, 1) := by decide +kernel
theorem own_d2_6 : decode method_2_code 6 = .ok (.iload_n 0, 1) := by decide +kernel
theorem own_d2_7 : decode method_2_code 7 = .ok (.bipush 33, 2) := by decide +kernel
theorem own_d2_9 : decode method_2_code 9 = .ok (.if_icmp .gt 5, 3) := by decide +kernel
theorem own_d2_12 : decode method_2_code 12 = .ok (.iconst 1, 1) := by decide +kernel
theorem own_d2_13 : decode method_2_code 13 = .ok (.ireturn, 1) := by decide +kernel
theorem own_pd0 : parseMethodDescriptor "(I)Z" = some ⟨[.int], some .boolean⟩ := by decide +kernel
theorem own_pl_ef (m : MethodId) (x0 : Int32) : entryFrame m #[(.int x0)] 1 = mkF m 0 #[.val (.int x0)] [] := by first | (simp [entryFrame, mkF, argsToLocals, Value.category]; done) | rfl
def own_pl_Q (Z : State) (p1 : Int32) (h0 : Heap) (n0 : Nat) (rv : Option Value) (hN : Heap) (LL : List Loc) : Prop := ∃ (r : Int32), rv = some (.int r) ∧ Fr n0 LL ∧ hN = h0 ∧ ((r = 1 ∧ (32 ≤ p1.toInt ∧ p1.toInt ≠ 34 ∧ p1.toInt ≠ 92)) ∨ (r = 0 ∧ ¬ (32 ≤ p1.toInt ∧ p1.toInt ≠ 34 ∧ p1.toInt ≠ 92)))
set_option maxRecDepth 65536 in
set_option maxHeartbeats 40000000 in
theorem own_pl (l : Launch) (Z : State) (a0 : Array Value) (hw : ∀ d ∈ tables_1, d.before a0 Z = true) (ws : List Jvm.Cond) (p1 : Int32) (h0 : Heap) (n0 : Nat) (Z0 : n0 ≤ h0.size) :
    MetFree l (⟨"com/example/rhone/rhone/tree/Utf8", "isPlain", "(I)Z"⟩ : MethodName) (head1 (Jvm.Cond.code (⟨"com/example/rhone/rhone/tree/Utf8", "isPlain", "(I)Z"⟩ : MethodName) prog_78_method_4_code 1 (some .boolean) :: ws) ({ frames := 0, cells := 0, slots := 0, locals := 0 } : Room)) (fun aa UU => aa = #[(.int p1)] ∧ Z.Warmed39 UU.vm ∧ UU.heap = h0) (fun _ _ _ _ _ => True) (fun _ UU oo UU' => ∃ rv LL, oo = .returned rv ∧ own_pl_Q Z p1 h0 n0 rv UU'.heap LL ∧ FrameEnd UU oo UU' LL ({ frames := 0, cells := 0, slots := 0, locals := 0 } : Room).cells ({ frames := 0, cells := 0, slots := 0, locals := 0 } : Room).slots) := by
  refine MetFree.of_bodySF (plainFor_of_name own_pn0) hisR ?_
  intro p e s m args below meth c s₁ Bd hml0 hP hK
  obtain ⟨rfl, hZ, hh⟩ := hP
  have hx := Bd.exec
  have hby := Bd.bytes
  have hml : c.maxLocals = 1 := hml0
  have hown : s.vm.findClass "com/example/rhone/rhone/tree/Utf8" = some m.cls := findClass_of_methodNamed Bd.named
  have hnm := (name_of_methodNamed Bd.named Bd.method).1
  have X0 : Stand p l e ({ frames := 0, cells := 0, slots := 0, locals := 0 } : Room) s m #[(.int p1)] below meth c s₁ [] 0 0 := Stand.of_body Bd
  have e0 : s₁.heap = h0 := by rw [← hh, Bd.state]; rfl
  have N0 := Fr.nil n0
  have K0 : Keep h0 h0 [] := Keep.refl h0 _
  refine (?_ : OwnGo p.tables e below (fun UU' oo => ∃ rv LL, oo = .returned rv ∧ own_pl_Q Z p1 h0 n0 rv UU'.heap LL ∧ FrameEnd s oo UU' LL ({ frames := 0, cells := 0, slots := 0, locals := 0 } : Room).cells ({ frames := 0, cells := 0, slots := 0, locals := 0 } : Room).slots) _)
  refine OwnGo.back (s₁.setTop (mkF m 0 #[.val (.int p1)] [])) (fun tg kk => castTop (own_pl_ef m p1) kk) ?_
  refine OwnGo.back (s₁.setTop (mkF m 1 #[.val (.int p1)] [(.int p1)])) (fun tg kk => XS.iloadN X0.here hx rfl (hb hby own_d1_0) rfl kk) ?_
  refine OwnGo.back (s₁.setTop (mkF m 3 #[.val (.int p1)] [(.int (32 : Int32)), (.int p1)])) (fun tg kk => XS.bipush X0.here hx rfl (hb hby own_d1_1) kk) ?_
  by_cases hc1 : p1 < (32 : Int32)
  ·
    refine OwnGo.back (s₁.setTop (mkF m 22 #[.val (.int p1)] [])) (fun tg kk => XS.icmpYes X0.here hx rfl (pc0 := 3) (pc' := 22) rfl (hb hby own_d1_3) rfl (tlt hc1).1 (by decide) (by decide) kk) ?_
    refine OwnGo.back (s₁.setTop (mkF m 23 #[.val (.int p1)] [(.int (0 : Int32))])) (fun tg kk => XS.iconst X0.here hx rfl (hb hby own_d1_22) kk) ?_
    obtain ⟨fs, hr, hrun, hended, hW, hsame⟩ := X0.leave (v := some (.int (0 : Int32))) (fun h => by rw [Bd.returns] at h; cases h)
    refine ⟨_, _, ?_, hrun, hended, _, _, rfl, ?_, ⟨_, rfl⟩, hW, hsame.mono (by decide) (by decide)⟩
    · exact retN X0 hx (t := .boolean) Bd.returns (by simp) (hb hby own_d1_23) hr
    · show own_pl_Q Z p1 h0 n0 _ s₁.heap _
      rw [e0]
      exact ⟨(0 : Int32), rfl, N0, rfl, (by (simp only [true_and, and_true, false_and, and_false, or_false, false_or, or_true, true_or, not_true_eq_false, not_false_eq_true, eq_self, Int32.lt_iff_toInt_lt, Int32.le_iff_toInt_le, ← Int32.toInt_inj, Int32.reduceToInt, Int64.lt_iff_toInt_lt, Int64.le_iff_toInt_le, ← Int64.toInt_inj, Int64.reduceToInt] at hc1 ⊢) <;> omega)⟩
  ·
    refine OwnGo.back (s₁.setTop (mkF m 6 #[.val (.int p1)] [])) (fun tg kk => XS.icmpNo X0.here hx rfl (hb hby own_d1_3) rfl (flt hc1).1 kk) ?_
    refine OwnGo.back (s₁.setTop (mkF m 7 #[.val (.int p1)] [(.int p1)])) (fun tg kk => XS.iloadN X0.here hx rfl (hb hby own_d1_6) rfl kk) ?_
    refine OwnGo.back (s₁.setTop (mkF m 9 #[.val (.int p1)] [(.int (34 : Int32)), (.int p1)])) (fun tg kk => XS.bipush X0.here hx rfl (hb hby own_d1_7) kk) ?_
    by_cases hc2 : p1 = (34 : Int32)
    ·
      refine OwnGo.back (s₁.setTop (mkF m 22 #[.val (.int p1)] [])) (fun tg kk => XS.icmpYes X0.here hx rfl (pc0 := 9) (pc' := 22) rfl (hb hby own_d1_9) rfl (teq hc2).1 (by decide) (by decide) kk) ?_
      refine OwnGo.back (s₁.setTop (mkF m 23 #[.val (.int p1)] [(.int (0 : Int32))])) (fun tg kk => XS.iconst X0.here hx rfl (hb hby own_d1_22) kk) ?_
      obtain ⟨fs, hr, hrun, hended, hW, hsame⟩ := X0.leave (v := some (.int (0 : Int32))) (fun h => by rw [Bd.returns] at h; cases h)
      refine ⟨_, _, ?_, hrun, hended, _, _, rfl, ?_, ⟨_, rfl⟩, hW, hsame.mono (by decide) (by decide)⟩
      · exact retN X0 hx (t := .boolean) Bd.returns (by simp) (hb hby own_d1_23) hr
      · show own_pl_Q Z p1 h0 n0 _ s₁.heap _
        rw [e0]
        exact ⟨(0 : Int32), rfl, N0, rfl, (by (simp only [true_and, and_true, false_and, and_false, or_false, false_or, or_true, true_or, not_true_eq_false, not_false_eq_true, eq_self, Int32.lt_iff_toInt_lt, Int32.le_iff_toInt_le, ← Int32.toInt_inj, Int32.reduceToInt, Int64.lt_iff_toInt_lt, Int64.le_iff_toInt_le, ← Int64.toInt_inj, Int64.reduceToInt] at hc1 hc2 ⊢) <;> omega)⟩
    ·
      refine OwnGo.back (s₁.setTop (mkF m 12 #[.val (.int p1)] [])) (fun tg kk => XS.icmpNo X0.here hx rfl (hb hby own_d1_9) rfl (feq hc2).1 kk) ?_
      refine OwnGo.back (s₁.setTop (mkF m 13 #[.val (.int p1)] [(.int p1)])) (fun tg kk => XS.iloadN X0.here hx rfl (hb hby own_d1_12) rfl kk) ?_
      refine OwnGo.back (s₁.setTop (mkF m 15 #[.val (.int p1)] [(.int (92 : Int32)), (.int p1)])) (fun tg kk => XS.bipush X0.here hx rfl (hb hby own_d1_13) kk) ?_
      by_cases hc3 : p1 = (92 : Int32)
      ·
        refine OwnGo.back (s₁.setTop (mkF m 22 #[.val (.int p1)] [])) (fun tg kk => XS.icmpYes X0.here hx rfl (pc0 := 15) (pc' := 22) rfl (hb hby own_d1_15) rfl (teq hc3).1 (by decide) (by decide) kk) ?_
        refine OwnGo.back (s₁.setTop (mkF m 23 #[.val (.int p1)] [(.int (0 : Int32))])) (fun tg kk => XS.iconst X0.here hx rfl (hb hby own_d1_22) kk) ?_
        obtain ⟨fs, hr, hrun, hended, hW, hsame⟩ := X0.leave (v := some (.int (0 : Int32))) (fun h => by rw [Bd.returns] at h; cases h)
        refine ⟨_, _, ?_, hrun, hended, _, _, rfl, ?_, ⟨_, rfl⟩, hW, hsame.mono (by decide) (by decide)⟩
        · exact retN X0 hx (t := .boolean) Bd.returns (by simp) (hb hby own_d1_23) hr
        · show own_pl_Q Z p1 h0 n0 _ s₁.heap _
          rw [e0]
          exact ⟨(0 : Int32), rfl, N0, rfl, (by (simp only [true_and, and_true, false_and, and_false, or_false, false_or, or_true, true_or, not_true_eq_false, not_false_eq_true, eq_self, Int32.lt_iff_toInt_lt, Int32.le_iff_toInt_le, ← Int32.toInt_inj, Int32.reduceToInt, Int64.lt_iff_toInt_lt, Int64.le_iff_toInt_le, ← Int64.toInt_inj, Int64.reduceToInt] at hc1 hc2 hc3 ⊢) <;> omega)⟩
      ·
        refine OwnGo.back (s₁.setTop (mkF m 18 #[.val (.int p1)] [])) (fun tg kk => XS.icmpNo X0.here hx rfl (hb hby own_d1_15) rfl (feq hc3).1 kk) ?_
        refine OwnGo.back (s₁.setTop (mkF m 19 #[.val (.int p1)] [(.int (1 : Int32))])) (fun tg kk => XS.iconst X0.here hx rfl (hb hby own_d1_18) kk) ?_
        refine OwnGo.back (s₁.setTop (mkF m 23 #[.val (.int p1)] [(.int (1 : Int32))])) (fun tg kk => XS.goto X0.here hx rfl (pc0 := 19) (pc' := 23) rfl (hb hby own_d1_19) (by decide) (by decide) kk) ?_
        obtain ⟨fs, hr, hrun, hended, hW, hsame⟩ := X0.leave (v := some (.int (1 : Int32))) (fun h => by rw [Bd.returns] at h; cases h)
        refine ⟨_, _, ?_, hrun, hended, _, _, rfl, ?_, ⟨_, rfl⟩, hW, hsame.mono (by decide) (by decide)⟩
        · exact retN X0 hx (t := .boolean) Bd.returns (by simp) (hb hby own_d1_23) hr
        · show own_pl_Q Z p1 h0 n0 _ s₁.heap _
          rw [e0]
          exact ⟨(1 : Int32), rfl, N0, rfl, (by (simp only [true_and, and_true, false_and, and_false, or_false, false_or, or_true, true_or, not_true_eq_false, not_false_eq_true, eq_self, Int32.lt_iff_toInt_lt, Int32.le_iff_toInt_le, ← Int32.toInt_inj, Int32.reduceToInt, Int64.lt_iff_toInt_lt, Int64.le_iff_toInt_le, ← Int64.toInt_inj, Int64.reduceToInt] at hc1 hc2 hc3 ⊢) <;> omega)⟩
theorem own_un_ef (m : MethodId) (x0 : Int32) : entryFrame m #[(.int x0)] 1 = mkF m 0 #[.val (.int x0)] [] := by first | (simp [entryFrame, mkF, argsToLocals, Value.category]; done) | rfl
def own_un_Q (Z : State) (p1 : Int32) (h0 : Heap) (n0 : Nat) (rv : Option Value) (hN : Heap) (LL : List Loc) : Prop := ∃ (r : Int32), rv = some (.int r) ∧ Fr n0 LL ∧ hN = h0 ∧ ((r = 1 ∧ (32 ≤ p1.toInt ∧ p1.toInt ≠ 34 ∧ p1.toInt ≠ 92)) ∨ (r = 0 ∧ ¬ (32 ≤ p1.toInt ∧ p1.toInt ≠ 34 ∧ p1.toInt ≠ 92)))
set_option maxRecDepth 65536 in
set_option maxHeartbeats 40000000 in
theorem own_un (l : Launch) (Z : State) (a0 : Array Value) (hw : ∀ d ∈ tables_1, d.before a0 Z = true) (ws : List Jvm.Cond) (p1 : Int32) (h0 : Heap) (n0 : Nat) (Z0 : n0 ≤ h0.size) :
    MetFree l (⟨"com/example/rhone/rhone/tree/Utf8IsPlainPinLaw", "unescaped", "(I)Z"⟩ : MethodName) (head1 (Jvm.Cond.code (⟨"com/example/rhone/rhone/tree/Utf8IsPlainPinLaw", "unescaped", "(I)Z"⟩ : MethodName) method_2_code 1 (some .boolean) :: ws) ({ frames := 0, cells := 0, slots := 0, locals := 0 } : Room)) (fun aa UU => aa = #[(.int p1)] ∧ Z.Warmed39 UU.vm ∧ UU.heap = h0) (fun _ _ _ _ _ => True) (fun _ UU oo UU' => ∃ rv LL, oo = .returned rv ∧ own_un_Q Z p1 h0 n0 rv UU'.heap LL ∧ FrameEnd UU oo UU' LL ({ frames := 0, cells := 0, slots := 0, locals := 0 } : Room).cells ({ frames := 0, cells := 0, slots := 0, locals := 0 } : Room).slots) := by
  refine MetFree.of_bodySF (plainFor_of_name own_pn1) hisR ?_
  intro p e s m args below meth c s₁ Bd hml0 hP hK
  obtain ⟨rfl, hZ, hh⟩ := hP
  have hx := Bd.exec
  have hby := Bd.bytes
  have hml : c.maxLocals = 1 := hml0
  have hown : s.vm.findClass "com/example/rhone/rhone/tree/Utf8IsPlainPinLaw" = some m.cls := findClass_of_methodNamed Bd.named
  have hnm := (name_of_methodNamed Bd.named Bd.method).1
  have X0 : Stand p l e ({ frames := 0, cells := 0, slots := 0, locals := 0 } : Room) s m #[(.int p1)] below meth c s₁ [] 0 0 := Stand.of_body Bd
  have e0 : s₁.heap = h0 := by rw [← hh, Bd.state]; rfl
  have N0 := Fr.nil n0
  have K0 : Keep h0 h0 [] := Keep.refl h0 _
  refine (?_ : OwnGo p.tables e below (fun UU' oo => ∃ rv LL, oo = .returned rv ∧ own_un_Q Z p1 h0 n0 rv UU'.heap LL ∧ FrameEnd s oo UU' LL ({ frames := 0, cells := 0, slots := 0, locals := 0 } : Room).cells ({ frames := 0, cells := 0, slots := 0, locals := 0 } : Room).slots) _)
  refine OwnGo.back (s₁.setTop (mkF m 0 #[.val (.int p1)] [])) (fun tg kk => castTop (own_un_ef m p1) kk) ?_
  refine OwnGo.back (s₁.setTop (mkF m 1 #[.val (.int p1)] [(.int p1)])) (fun tg kk => XS.iloadN X0.here hx rfl (hb hby own_d2_0) rfl kk) ?_
  refine OwnGo.back (s₁.setTop (mkF m 3 #[.val (.int p1)] [(.int (32 : Int32)), (.int p1)])) (fun tg kk => XS.bipush X0.here hx rfl (hb hby own_d2_1) kk) ?_
  by_cases hc1 : p1 < (32 : Int32)
  ·
    refine OwnGo.back (s₁.setTop (mkF m 14 #[.val (.int p1)] [])) (fun tg kk => XS.icmpYes X0.here hx rfl (pc0 := 3) (pc' := 14) rfl (hb hby own_d2_3) rfl (tlt hc1).1 (by decide) (by decide) kk) ?_
    refine OwnGo.back (s₁.setTop (mkF m 15 #[.val (.int p1)] [(.int p1)])) (fun tg kk => XS.iloadN X0.here hx rfl (hb hby own_d2_14) rfl kk) ?_
    refine OwnGo.back (s₁.setTop (mkF m 17 #[.val (.int p1)] [(.int (35 : Int32)), (.int p1)])) (fun tg kk => XS.bipush X0.here hx rfl (hb hby own_d2_15) kk) ?_
    by_cases hc2 : p1 < (35 : Int32)
    ·
      refine OwnGo.back (s₁.setTop (mkF m 28 #[.val (.int p1)] [])) (fun tg kk => XS.icmpYes X0.here hx rfl (pc0 := 17) (pc' := 28) rfl (hb hby own_d2_17) rfl (tlt hc2).1 (by decide) (by decide) kk) ?_
      refine OwnGo.back (s₁.setTop (mkF m 29 #[.val (.int p1)] [(.int p1)])) (fun tg kk => XS.iloadN X0.here hx rfl (hb hby own_d2_28) rfl kk) ?_
      refine OwnGo.back (s₁.setTop (mkF m 31 #[.val (.int p1)] [(.int (93 : Int32)), (.int p1)])) (fun tg kk => XS.bipush X0.here hx rfl (hb hby own_d2_29) kk) ?_
      by_cases hc3 : p1 < (93 : Int32)
      ·
        refine OwnGo.back (s₁.setTop (mkF m 38 #[.val (.int p1)] [])) (fun tg kk => XS.icmpYes X0.here hx rfl (pc0 := 31) (pc' := 38) rfl (hb hby own_d2_31) rfl (tlt hc3).1 (by decide) (by decide) kk) ?_
        refine OwnGo.back (s₁.setTop (mkF m 39 #[.val (.int p1)] [(.int (0 : Int32))])) (fun tg kk => XS.iconst X0.here hx rfl (hb hby own_d2_38) kk) ?_
        obtain ⟨fs, hr, hrun, hended, hW, hsame⟩ := X0.leave (v := some (.int (0 : Int32))) (fun h => by rw [Bd.returns] at h; cases h)
        refine ⟨_, _, ?_, hrun, hended, _, _, rfl, ?_, ⟨_, rfl⟩, hW, hsame.mono (by decide) (by decide)⟩
        · exact retN X0 hx (t := .boolean) Bd.returns (by simp) (hb hby own_d2_39) hr
        · show own_un_Q Z p1 h0 n0 _ s₁.heap _
          rw [e0]
          exact ⟨(0 : Int32), rfl, N0, rfl, (by (simp only [true_and, and_true, false_and, and_false, or_false, false_or, or_true, true_or, not_true_eq_false, not_false_eq_true, eq_self, Int32.lt_iff_toInt_lt, Int32.le_iff_toInt_le, ← Int32.toInt_inj, Int32.reduceToInt, Int64.lt_iff_toInt_lt, Int64.le_iff_toInt_le, ← Int64.toInt_inj, Int64.reduceToInt] at hc1 hc2 hc3 ⊢) <;> omega)⟩
      ·
        refine OwnGo.back (s₁.setTop (mkF m 34 #[.val (.int p1)] [])) (fun tg kk => XS.icmpNo X0.here hx rfl (hb hby own_d2_31) rfl (flt hc3).1 kk) ?_
        refine OwnGo.back (s₁.setTop (mkF m 35 #[.val (.int p1)] [(.int (1 : Int32))])) (fun tg kk => XS.iconst X0.here hx rfl (hb hby own_d2_34) kk) ?_
        refine OwnGo.back (s₁.setTop (mkF m 39 #[.val (.int p1)] [(.int (1 : Int32))])) (fun tg kk => XS.goto X0.here hx rfl (pc0 := 35) (pc' := 39) rfl (hb hby own_d2_35) (by decide) (by decide) kk) ?_
        obtain ⟨fs, hr, hrun, hended, hW, hsame⟩ := X0.leave (v := some (.int (1 : Int32))) (fun h => by rw [Bd.returns] at h; cases h)
        refine ⟨_, _, ?_, hrun, hended, _, _, rfl, ?_, ⟨_, rfl⟩, hW, hsame.mono (by decide) (by decide)⟩
        · exact retN X0 hx (t := .boolean) Bd.returns (by simp) (hb hby own_d2_39) hr
        · show own_un_Q Z p1 h0 n0 _ s₁.heap _
          rw [e0]
          exact ⟨(1 : Int32), rfl, N0, rfl, (by (simp only [true_and, and_true, false_and, and_false, or_false, false_or, or_true, true_or, not_true_eq_false, not_false_eq_true, eq_self, Int32.lt_iff_toInt_lt, Int32.le_iff_toInt_le, ← Int32.toInt_inj, Int32.reduceToInt, Int64.lt_iff_toInt_lt, Int64.le_iff_toInt_le, ← Int64.toInt_inj, Int64.reduceToInt] at hc1 hc2 hc3 ⊢) <;> omega)⟩
    ·
      refine OwnGo.back (s₁.setTop (mkF m 20 #[.val (.int p1)] [])) (fun tg kk => XS.icmpNo X0.here hx rfl (hb hby own_d2_17) rfl (flt hc2).1 kk) ?_
      refine OwnGo.back (s₁.setTop (mkF m 21 #[.val (.int p1)] [(.int p1)])) (fun tg kk => XS.iloadN X0.here hx rfl (hb hby own_d2_20) rfl kk) ?_
      refine OwnGo.back (s₁.setTop (mkF m 23 #[.val (.int p1)] [(.int (91 : Int32)), (.int p1)])) (fun tg kk => XS.bipush X0.here hx rfl (hb hby own_d2_21) kk) ?_
      by_cases hc4 : (91 : Int32) < p1
      ·
        refine OwnGo.back (s₁.setTop (mkF m 28 #[.val (.int p1)] [])) (fun tg kk => XS.icmpYes X0.here hx rfl (pc0 := 23) (pc' := 28) rfl (hb hby own_d2_23) rfl (tlt hc4).2.2.1 (by decide) (by decide) kk) ?_
        refine OwnGo.back (s₁.setTop (mkF m 29 #[.val (.int p1)] [(.int p1)])) (fun tg kk => XS.iloadN X0.here hx rfl (hb hby own_d2_28) rfl kk) ?_
        refine OwnGo.back (s₁.setTop (mkF m 31 #[.val (.int p1)] [(.int (93 : Int32)), (.int p1)])) (fun tg kk => XS.bipush X0.here hx rfl (hb hby own_d2_29) kk) ?_
        by_cases hc5 : p1 < (93 : Int32)
        ·
          refine OwnGo.back (s₁.setTop (mkF m 38 #[.val (.int p1)] [])) (fun tg kk => XS.icmpYes X0.here hx rfl (pc0 := 31) (pc' := 38) rfl (hb hby own_d2_31) rfl (tlt hc5).1 (by decide) (by decide) kk) ?_
          refine OwnGo.back (s₁.setTop (mkF m 39 #[.val (.int p1)] [(.int (0 : Int32))])) (fun tg kk => XS.iconst X0.here hx rfl (hb hby own_d2_38) kk) ?_
          obtain ⟨fs, hr, hrun, hended, hW, hsame⟩ := X0.leave (v := some (.int (0 : Int32))) (fun h => by rw [Bd.returns] at h; cases h)
          refine ⟨_, _, ?_, hrun, hended, _, _, rfl, ?_, ⟨_, rfl⟩, hW, hsame.mono (by decide) (by decide)⟩
          · exact retN X0 hx (t := .boolean) Bd.returns (by simp) (hb hby own_d2_39) hr
          · show own_un_Q Z p1 h0 n0 _ s₁.heap _
            rw [e0]
            exact ⟨(0 : Int32), rfl, N0, rfl, (by (simp only [true_and, and_true, false_and, and_false, or_false, false_or, or_true, true_or, not_true_eq_false, not_false_eq_true, eq_self, Int32.lt_iff_toInt_lt, Int32.le_iff_toInt_le, ← Int32.toInt_inj, Int32.reduceToInt, Int64.lt_iff_toInt_lt, Int64.le_iff_toInt_le, ← Int64.toInt_inj, Int64.reduceToInt] at hc1 hc2 hc4 hc5 ⊢) <;> omega)⟩
        ·
          refine OwnGo.back (s₁.setTop (mkF m 34 #[.val (.int p1)] [])) (fun tg kk => XS.icmpNo X0.here hx rfl (hb hby own_d2_31) rfl (flt hc5).1 kk) ?_
          refine OwnGo.back (s₁.setTop (mkF m 35 #[.val (.int p1)] [(.int (1 : Int32))])) (fun tg kk => XS.iconst X0.here hx rfl (hb hby own_d2_34) kk) ?_
          refine OwnGo.back (s₁.setTop (mkF m 39 #[.val (.int p1)] [(.int (1 : Int32))])) (fun tg kk => XS.goto X0.here hx rfl (pc0 := 35) (pc' := 39) rfl (hb hby own_d2_35) (by decide) (by decide) kk) ?_
          obtain ⟨fs, hr, hrun, hended, hW, hsame⟩ := X0.leave (v := some (.int (1 : Int32))) (fun h => by rw [Bd.returns] at h; cases h)
          refine ⟨_, _, ?_, hrun, hended, _, _, rfl, ?_, ⟨_, rfl⟩, hW, hsame.mono (by decide) (by decide)⟩
          · exact retN X0 hx (t := .boolean) Bd.returns (by simp) (hb hby own_d2_39) hr
          · show own_un_Q Z p1 h0 n0 _ s₁.heap _
            rw [e0]
            exact ⟨(1 : Int32), rfl, N0, rfl, (by (simp only [true_and, and_true, false_and, and_false, or_false, false_or, or_true, true_or, not_true_eq_false, not_false_eq_true, eq_self, Int32.lt_iff_toInt_lt, Int32.le_iff_toInt_le, ← Int32.toInt_inj, Int32.reduceToInt, Int64.lt_iff_toInt_lt, Int64.le_iff_toInt_le, ← Int64.toInt_inj, Int64.reduceToInt] at hc1 hc2 hc4 hc5 ⊢) <;> omega)⟩
      ·
        refine OwnGo.back (s₁.setTop (mkF m 26 #[.val (.int p1)] [])) (fun tg kk => XS.icmpNo X0.here hx rfl (hb hby own_d2_23) rfl (flt hc4).2.2.1 kk) ?_
        refine OwnGo.back (s₁.setTop (mkF m 27 #[.val (.int p1)] [(.int (1 : Int32))])) (fun tg kk => XS.iconst X0.here hx rfl (hb hby own_d2_26) kk) ?_
        obtain ⟨fs, hr, hrun, hended, hW, hsame⟩ := X0.leave (v := some (.int (1 : Int32))) (fun h => by rw [Bd.returns] at h; cases h)
        refine ⟨_, _, ?_, hrun, hended, _, _, rfl, ?_, ⟨_, rfl⟩, hW, hsame.mono (by decide) (by decide)⟩
        · exact retN X0 hx (t := .boolean) Bd.returns (by simp) (hb hby own_d2_27) hr
        · show own_un_Q Z p1 h0 n0 _ s₁.heap _
          rw [e0]
          exact ⟨(1 : Int32), rfl, N0, rfl, (by (simp only [true_and, and_true, false_and, and_false, or_false, false_or, or_true, true_or, not_true_eq_false, not_false_eq_true, eq_self, Int32.lt_iff_toInt_lt, Int32.le_iff_toInt_le, ← Int32.toInt_inj, Int32.reduceToInt, Int64.lt_iff_toInt_lt, Int64.le_iff_toInt_le, ← Int64.toInt_inj, Int64.reduceToInt] at hc1 hc2 hc4 ⊢) <;> omega)⟩
  ·
    refine OwnGo.back (s₁.setTop (mkF m 6 #[.val (.int p1)] [])) (fun tg kk => XS.icmpNo X0.here hx rfl (hb hby own_d2_3) rfl (flt hc1).1 kk) ?_
    refine OwnGo.back (s₁.setTop (mkF m 7 #[.val (.int p1)] [(.int p1)])) (fun tg kk => XS.iloadN X0.here hx rfl (hb hby own_d2_6) rfl kk) ?_
    refine OwnGo.back (s₁.setTop (mkF m 9 #[.val (.int p1)] [(.int (33 : Int32)), (.int p1)])) (fun tg kk => XS.bipush X0.here hx rfl (hb hby own_d2_7) kk) ?_
    by_cases hc6 : (33 : Int32) < p1
    ·
      refine OwnGo.back (s₁.setTop (mkF m 14 #[.val (.int p1)] [])) (fun tg kk => XS.icmpYes X0.here hx rfl (pc0 := 9) (pc' := 14) rfl (hb hby own_d2_9) rfl (tlt hc6).2.2.1 (by decide) (by decide) kk) ?_
      refine OwnGo.back (s₁.setTop (mkF m 15 #[.val (.int p1)] [(.int p1)])) (fun tg kk => XS.iloadN X0.here hx rfl (hb hby own_d2_14) rfl kk) ?_
      refine OwnGo.back (s₁.setTop (mkF m 17 #[.val (.int p1)] [(.int (35 : Int32)), (.int p1)])) (fun tg kk => XS.bipush X0.here hx rfl (hb hby own_d2_15) kk) ?_
      by_cases hc7 : p1 < (35 : Int32)
      ·
        refine OwnGo.back (s₁.setTop (mkF m 28 #[.val (.int p1)] [])) (fun tg kk => XS.icmpYes X0.here hx rfl (pc0 := 17) (pc' := 28) rfl (hb hby own_d2_17) rfl (tlt hc7).1 (by decide) (by decide) kk) ?_
        refine OwnGo.back (s₁.setTop (mkF m 29 #[.val (.int p1)] [(.int p1)])) (fun tg kk => XS.iloadN X0.here hx rfl (hb hby own_d2_28) rfl kk) ?_
        refine OwnGo.back (s₁.setTop (mkF m 31 #[.val (.int p1)] [(.int (93 : Int32)), (.int p1)])) (fun tg kk => XS.bipush X0.here hx rfl (hb hby own_d2_29) kk) ?_
        by_cases hc8 : p1 < (93 : Int32)
        ·
          refine OwnGo.back (s₁.setTop (mkF m 38 #[.val (.int p1)] [])) (fun tg kk => XS.icmpYes X0.here hx rfl (pc0 := 31) (pc' := 38) rfl (hb hby own_d2_31) rfl (tlt hc8).1 (by decide) (by decide) kk) ?_
          refine OwnGo.back (s₁.setTop (mkF m 39 #[.val (.int p1)] [(.int (0 : Int32))])) (fun tg kk => XS.iconst X0.here hx rfl (hb hby own_d2_38) kk) ?_
          obtain ⟨fs, hr, hrun, hended, hW, hsame⟩ := X0.leave (v := some (.int (0 : Int32))) (fun h => by rw [Bd.returns] at h; cases h)
          refine ⟨_, _, ?_, hrun, hended, _, _, rfl, ?_, ⟨_, rfl⟩, hW, hsame.mono (by decide) (by decide)⟩
          · exact retN X0 hx (t := .boolean) Bd.returns (by simp) (hb hby own_d2_39) hr
          · show own_un_Q Z p1 h0 n0 _ s₁.heap _
            rw [e0]
            exact ⟨(0 : Int32), rfl, N0, rfl, (by (simp only [true_and, and_true, false_and, and_false, or_false, false_or, or_true, true_or, not_true_eq_false, not_false_eq_true, eq_self, Int32.lt_iff_toInt_lt, Int32.le_iff_toInt_le, ← Int32.toInt_inj, Int32.reduceToInt, Int64.lt_iff_toInt_lt, Int64.le_iff_toInt_le, ← Int64.toInt_inj, Int64.reduceToInt] at hc1 hc6 hc7 hc8 ⊢) <;> omega)⟩
        ·
          refine OwnGo.back (s₁.setTop (mkF m 34 #[.val (.int p1)] [])) (fun tg kk => XS.icmpNo X0.here hx rfl (hb hby own_d2_31) rfl (flt hc8).1 kk) ?_
          refine OwnGo.back (s₁.setTop (mkF m 35 #[.val (.int p1)] [(.int (1 : Int32))])) (fun tg kk => XS.iconst X0.here hx rfl (hb hby own_d2_34) kk) ?_
          refine OwnGo.back (s₁.setTop (mkF m 39 #[.val (.int p1)] [(.int (1 : Int32))])) (fun tg kk => XS.goto X0.here hx rfl (pc0 := 35) (pc' := 39) rfl (hb hby own_d2_35) (by decide) (by decide) kk) ?_
          obtain ⟨fs, hr, hrun, hended, hW, hsame⟩ := X0.leave (v := some (.int (1 : Int32))) (fun h => by rw [Bd.returns] at h; cases h)
          refine ⟨_, _, ?_, hrun, hended, _, _, rfl, ?_, ⟨_, rfl⟩, hW, hsame.mono (by decide) (by decide)⟩
          · exact retN X0 hx (t := .boolean) Bd.returns (by simp) (hb hby own_d2_39) hr
          · show own_un_Q Z p1 h0 n0 _ s₁.heap _
            rw [e0]
            exact ⟨(1 : Int32), rfl, N0, rfl, (by (simp only [true_and, and_true, false_and, and_false, or_false, false_or, or_true, true_or, not_true_eq_false, not_false_eq_true, eq_self, Int32.lt_iff_toInt_lt, Int32.le_iff_toInt_le, ← Int32.toInt_inj, Int32.reduceToInt, Int64.lt_iff_toInt_lt, Int64.le_iff_toInt_le, ← Int64.toInt_inj, Int64.reduceToInt] at hc1 hc6 hc7 hc8 ⊢) <;> omega)⟩
      ·
        refine OwnGo.back (s₁.setTop (mkF m 20 #[.val (.int p1)] [])) (fun tg kk => XS.icmpNo X0.here hx rfl (hb hby own_d2_17) rfl (flt hc7).1 kk) ?_
        refine OwnGo.back (s₁.setTop (mkF m 21 #[.val (.int p1)] [(.int p1)])) (fun tg kk => XS.iloadN X0.here hx rfl (hb hby own_d2_20) rfl kk) ?_
        refine OwnGo.back (s₁.setTop (mkF m 23 #[.val (.int p1)] [(.int (91 : Int32)), (.int p1)])) (fun tg kk => XS.bipush X0.here hx rfl (hb hby own_d2_21) kk) ?_
        by_cases hc9 : (91 : Int32) < p1
        ·
          refine OwnGo.back (s₁.setTop (mkF m 28 #[.val (.int p1)] [])) (fun tg kk => XS.icmpYes X0.here hx rfl (pc0 := 23) (pc' := 28) rfl (hb hby own_d2_23) rfl (tlt hc9).2.2.1 (by decide) (by decide) kk) ?_
          refine OwnGo.back (s₁.setTop (mkF m 29 #[.val (.int p1)] [(.int p1)])) (fun tg kk => XS.iloadN X0.here hx rfl (hb hby own_d2_28) rfl kk) ?_
          refine OwnGo.back (s₁.setTop (mkF m 31 #[.val (.int p1)] [(.int (93 : Int32)), (.int p1)])) (fun tg kk => XS.bipush X0.here hx rfl (hb hby own_d2_29) kk) ?_
          by_cases hc10 : p1 < (93 : Int32)
          ·
            refine OwnGo.back (s₁.setTop (mkF m 38 #[.val (.int p1)] [])) (fun tg kk => XS.icmpYes X0.here hx rfl (pc0 := 31) (pc' := 38) rfl (hb hby own_d2_31) rfl (tlt hc10).1 (by decide) (by decide) kk) ?_
            refine OwnGo.back (s₁.setTop (mkF m 39 #[.val (.int p1)] [(.int (0 : Int32))])) (fun tg kk => XS.iconst X0.here hx rfl (hb hby own_d2_38) kk) ?_
            obtain ⟨fs, hr, hrun, hended, hW, hsame⟩ := X0.leave (v := some (.int (0 : Int32))) (fun h => by rw [Bd.returns] at h; cases h)
            refine ⟨_, _, ?_, hrun, hended, _, _, rfl, ?_, ⟨_, rfl⟩, hW, hsame.mono (by decide) (by decide)⟩
            · exact retN X0 hx (t := .boolean) Bd.returns (by simp) (hb hby own_d2_39) hr
            · show own_un_Q Z p1 h0 n0 _ s₁.heap _
              rw [e0]
              exact ⟨(0 : Int32), rfl, N0, rfl, (by (simp only [true_and, and_true, false_and, and_false, or_false, false_or, or_true, true_or, not_true_eq_false, not_false_eq_true, eq_self, Int32.lt_iff_toInt_lt, Int32.le_iff_toInt_le, ← Int32.toInt_inj, Int32.reduceToInt, Int64.lt_iff_toInt_lt, Int64.le_iff_toInt_le, ← Int64.toInt_inj, Int64.reduceToInt] at hc1 hc6 hc7 hc9 hc10 ⊢) <;> omega)⟩
          ·
            refine OwnGo.back (s₁.setTop (mkF m 34 #[.val (.int p1)] [])) (fun tg kk => XS.icmpNo X0.here hx rfl (hb hby own_d2_31) rfl (flt hc10).1 kk) ?_
            refine OwnGo.back (s₁.setTop (mkF m 35 #[.val (.int p1)] [(.int (1 : Int32))])) (fun tg kk => XS.iconst X0.here hx rfl (hb hby own_d2_34) kk) ?_
            refine OwnGo.back (s₁.setTop (mkF m 39 #[.val (.int p1)] [(.int (1 : Int32))])) (fun tg kk => XS.goto X0.here hx rfl (pc0 := 35) (pc' := 39) rfl (hb hby own_d2_35) (by decide) (by decide) kk) ?_
            obtain ⟨fs, hr, hrun, hended, hW, hsame⟩ := X0.leave (v := some (.int (1 : Int32))) (fun h => by rw [Bd.returns] at h; cases h)
            refine ⟨_, _, ?_, hrun, hended, _, _, rfl, ?_, ⟨_, rfl⟩, hW, hsame.mono (by decide) (by decide)⟩
            · exact retN X0 hx (t := .boolean) Bd.returns (by simp) (hb hby own_d2_39) hr
            · show own_un_Q Z p1 h0 n0 _ s₁.heap _
              rw [e0]
              exact ⟨(1 : Int32), rfl, N0, rfl, (by (simp only [true_and, and_true, false_and, and_false, or_false, false_or, or_true, true_or, not_true_eq_false, not_false_eq_true, eq_self, Int32.lt_iff_toInt_lt, Int32.le_iff_toInt_le, ← Int32.toInt_inj, Int32.reduceToInt, Int64.lt_iff_toInt_lt, Int64.le_iff_toInt_le, ← Int64.toInt_inj, Int64.reduceToInt] at hc1 hc6 hc7 hc9 hc10 ⊢) <;> omega)⟩
        ·
          refine OwnGo.back (s₁.setTop (mkF m 26 #[.val (.int p1)] [])) (fun tg kk => XS.icmpNo X0.here hx rfl (hb hby own_d2_23) rfl (flt hc9).2.2.1 kk) ?_
          refine OwnGo.back (s₁.setTop (mkF m 27 #[.val (.int p1)] [(.int (1 : Int32))])) (fun tg kk => XS.iconst X0.here hx rfl (hb hby own_d2_26) kk) ?_
          obtain ⟨fs, hr, hrun, hended, hW, hsame⟩ := X0.leave (v := some (.int (1 : Int32))) (fun h => by rw [Bd.returns] at h; cases h)
          refine ⟨_, _, ?_, hrun, hended, _, _, rfl, ?_, ⟨_, rfl⟩, hW, hsame.mono (by decide) (by decide)⟩
          · exact retN X0 hx (t := .boolean) Bd.returns (by simp) (hb hby own_d2_27) hr
          · show own_un_Q Z p1 h0 n0 _ s₁.heap _
            rw [e0]
            exact ⟨(1 : Int32), rfl, N0, rfl, (by (simp only [true_and, and_true, false_and, and_false, or_false, false_or, or_true, true_or, not_true_eq_false, not_false_eq_true, eq_self, Int32.lt_iff_toInt_lt, Int32.le_iff_toInt_le, ← Int32.toInt_inj, Int32.reduceToInt, Int64.lt_iff_toInt_lt, Int64.le_iff_toInt_le, ← Int64.toInt_inj, Int64.reduceToInt] at hc1 hc6 hc7 hc9 ⊢) <;> omega)⟩
    ·
      refine OwnGo.back (s₁.setTop (mkF m 12 #[.val (.int p1)] [])) (fun tg kk => XS.icmpNo X0.here hx rfl (hb hby own_d2_9) rfl (flt hc6).2.2.1 kk) ?_
      refine OwnGo.back (s₁.setTop (mkF m 13 #[.val (.int p1)] [(.int (1 : Int32))])) (fun tg kk => XS.iconst X0.here hx rfl (hb hby own_d2_12) kk) ?_
      obtain ⟨fs, hr, hrun, hended, hW, hsame⟩ := X0.leave (v := some (.int (1 : Int32))) (fun h => by rw [Bd.returns] at h; cases h)
      refine ⟨_, _, ?_, hrun, hended, _, _, rfl, ?_, ⟨_, rfl⟩, hW, hsame.mono (by decide) (by decide)⟩
      · exact retN X0 hx (t := .boolean) Bd.returns (by simp) (hb hby own_d2_13) hr
      · show own_un_Q Z p1 h0 n0 _ s₁.heap _
        rw [e0]
        exact ⟨(1 : Int32), rfl, N0, rfl, (by (simp only [true_and, and_true, false_and, and_false, or_false, false_or, or_true, true_or, not_true_eq_false, not_false_eq_true, eq_self, Int32.lt_iff_toInt_lt, Int32.le_iff_toInt_le, ← Int32.toInt_inj, Int32.reduceToInt, Int64.lt_iff_toInt_lt, Int64.le_iff_toInt_le, ← Int64.toInt_inj, Int64.reduceToInt] at hc1 hc6 ⊢) <;> omega)⟩
theorem own_law_ef (m : MethodId) (x0 : Int32) : entryFrame m #[(.int x0)] maxLocals = mkF m 0 #[.val (.int x0), .unset, .unset, .unset, .unset] [] := by first | (simp [entryFrame, mkF, argsToLocals, Value.category, maxLocals]; done) | rfl
def own_law_Q (Z : State) (p1 : Int32) (h0 : Heap) (n0 : Nat) (rv : Option Value) (hN : Heap) (LL : List Loc) : Prop := rv = some (.int (1 : Int32)) ∧ Fr n0 LL ∧ hN = h0
set_option maxRecDepth 65536 in
set_option maxHeartbeats 40000000 in
theorem own_law (l : Launch) (Z : State) (a0 : Array Value) (hw : ∀ d ∈ tables_1, d.before a0 Z = true) (ws : List Jvm.Cond) (p1 : Int32) (h0 : Heap) (n0 : Nat) (Z0 : n0 ≤ h0.size) :
    MetFree l x (head1 (Jvm.Cond.code x code maxLocals ret :: ws) room_1) (fun aa UU => aa = #[(.int p1)] ∧ Z.Warmed39 UU.vm ∧ UU.heap = h0) (fun _ _ _ _ _ => True) (fun _ UU oo UU' => ∃ rv LL, oo = .returned rv ∧ own_law_Q Z p1 h0 n0 rv UU'.heap LL ∧ FrameEnd UU oo UU' LL room_1.cells room_1.slots) := by
  refine MetFree.of_bodySF (plainFor_of_name own_pn1) hisR ?_
  intro p e s m args below meth c s₁ Bd hml0 hP hK
  obtain ⟨rfl, hZ, hh⟩ := hP
  have hx := Bd.exec
  have hby := Bd.bytes
  have hml : c.maxLocals = 5 := hml0
  have hown : s.vm.findClass "com/example/rhone/rhone/tree/Utf8IsPlainPinLaw" = some m.cls := findClass_of_methodNamed Bd.named
  have hnm := (name_of_methodNamed Bd.named Bd.method).1
  have X0 : Stand p l e room_1 s m #[(.int p1)] below meth c s₁ [] 0 0 := Stand.of_body Bd
  have e0 : s₁.heap = h0 := by rw [← hh, Bd.state]; rfl
  have N0 := Fr.nil n0
  have K0 : Keep h0 h0 [] := Keep.refl h0 _
  refine (?_ : OwnGo p.tables e below (fun UU' oo => ∃ rv LL, oo = .returned rv ∧ own_law_Q Z p1 h0 n0 rv UU'.heap LL ∧ FrameEnd s oo UU' LL room_1.cells room_1.slots) _)
  refine OwnGo.back (s₁.setTop (mkF m 0 #[.val (.int p1), .unset, .unset, .unset, .unset] [])) (fun tg kk => castTop (own_law_ef m p1) kk) ?_
  refine OwnGo.back (s₁.setTop (mkF m 1 #[.val (.int p1), .unset, .unset, .unset, .unset] [(.int p1)])) (fun tg kk => XS.iloadN X0.here hx rfl (hb hby at_0) rfl kk) ?_
  refine OwnGo.back (s₁.setTop (mkF m 3 #[.val (.int p1), .unset, .unset, .unset, .unset] [(.int (65535 : Int32)), (.int p1)])) (fun tg kk => Jvm.Stand.ldcI X0 hx hown (mvT hZ (hw _ (List.mem_of_getElem? (i := 0) rfl))) rfl (hb hby at_1) kk) ?_
  refine OwnGo.back (s₁.setTop (mkF m 4 #[.val (.int p1), .unset, .unset, .unset, .unset] [(.int (p1 &&& (65535 : Int32)))])) (fun tg kk => XS.iand X0.here hx rfl (hb hby at_3) rfl kk) ?_
  refine OwnGo.back (s₁.setTop (mkF m 5 #[.val (.int p1), .val (.int (p1 &&& (65535 : Int32))), .unset, .unset, .unset] [])) (fun tg kk => XS.istoreN X0.here hx rfl (hb hby at_4) rfl (l' := #[.val (.int p1), .val (.int (p1 &&& (65535 : Int32))), .unset, .unset, .unset]) rfl kk) ?_
  refine OwnGo.back (s₁.setTop (mkF m 6 #[.val (.int p1), .val (.int (p1 &&& (65535 : Int32))), .unset, .unset, .unset] [(.int p1)])) (fun tg kk => XS.iloadN X0.here hx rfl (hb hby at_5) rfl kk) ?_
  refine OwnGo.back (s₁.setTop (mkF m 7 #[.val (.int p1), .val (.int (p1 &&& (65535 : Int32))), .unset, .unset, .unset] [(.int (p1.toInt8.toInt32))])) (fun tg kk => XS.i2b X0.here hx rfl (hb hby at_6) rfl kk) ?_
  refine OwnGo.back (s₁.setTop (mkF m 8 #[.val (.int p1), .val (.int (p1 &&& (65535 : Int32))), .val (.int (p1.toInt8.toInt32)), .unset, .unset] [])) (fun tg kk => XS.istoreN X0.here hx rfl (hb hby at_7) rfl (l' := #[.val (.int p1), .val (.int (p1 &&& (65535 : Int32))), .val (.int (p1.toInt8.toInt32)), .unset, .unset]) rfl kk) ?_
  refine OwnGo.back (s₁.setTop (mkF m 9 #[.val (.int p1), .val (.int (p1 &&& (65535 : Int32))), .val (.int (p1.toInt8.toInt32)), .unset, .unset] [(.int (p1 &&& (65535 : Int32)))])) (fun tg kk => XS.iloadN X0.here hx rfl (hb hby at_8) rfl kk) ?_
  obtain ⟨_, _, ⟨T1, L1, k1, n1⟩, -, X1, ⟨Lc1, hQ1, l1, y1, z1⟩, st1⟩ := Jvm.LawKit.callS X0 hx (y := (⟨"com/example/rhone/rhone/tree/Utf8", "isPlain", "(I)Z"⟩ : MethodName)) hown (mvT hZ (hw _ (List.mem_of_getElem? (i := 1) rfl))) (mvT hZ (hw _ (List.mem_of_getElem? (i := 2) rfl))) (mvT hZ (hw _ (List.mem_of_getElem? (i := 3) rfl))) (mvT hZ (hw _ (List.mem_of_getElem? (i := 4) rfl))) (by decide) (backOf (W := 0) (own_pl l Z a0 hw [] (p1 &&& (65535 : Int32)) h0 n0 Z0 ) hZ (hw _ (List.mem_of_getElem? (i := 4) rfl)) (hw _ (List.mem_of_getElem? (i := 3) rfl)) (by decide) (by decide)) (g := (mkF m 9 #[.val (.int p1), .val (.int (p1 &&& (65535 : Int32))), .val (.int (p1.toInt8.toInt32)), .unset, .unset] [(.int (p1 &&& (65535 : Int32)))])) rfl (by rw [hml]; rfl) (argsL := [(.int (p1 &&& (65535 : Int32)))]) (rest := []) (lenOf own_pd0 rfl) rfl (by show 2 * 0 + _ ≤ _; exact Nat.le_of_eq rfl) (hb hby at_9) (fun _ _ => ⟨rfl, e0, (by decide : 0 + 0 ≤ _), (by decide : 0 + 0 ≤ _)⟩)
  dsimp only [Pt.U, Pt.locs, Pt.cells, Pt.slots] at X1 l1 y1 z1 st1 hQ1
  subst l1 y1 z1
  obtain ⟨r_2, rfl, N1q, e1, po3⟩ := hQ1
  have N1 := Fr.app N0 N1q
  refine OwnGo.back (T1.setTop (mkF m 12 #[.val (.int p1), .val (.int (p1 &&& (65535 : Int32))), .val (.int (p1.toInt8.toInt32)), .unset, .unset] [(.int r_2)])) (fun tg kk => st1 _ kk) ?_
  refine OwnGo.back (T1.setTop (mkF m 13 #[.val (.int p1), .val (.int (p1 &&& (65535 : Int32))), .val (.int (p1.toInt8.toInt32)), .unset, .unset] [(.int (p1 &&& (65535 : Int32))), (.int r_2)])) (fun tg kk => XS.iloadN X1.here hx rfl (hb hby at_12) rfl kk) ?_
  obtain ⟨_, _, ⟨T4, L4, k4, n4⟩, -, X4, ⟨Lc4, hQ4, l4, y4, z4⟩, st4⟩ := Jvm.LawKit.callS X1 hx (y := (⟨"com/example/rhone/rhone/tree/Utf8IsPlainPinLaw", "unescaped", "(I)Z"⟩ : MethodName)) hown (mvT hZ (hw _ (List.mem_of_getElem? (i := 5) rfl))) (mvT hZ (hw _ (List.mem_of_getElem? (i := 6) rfl))) (mvT hZ (hw _ (List.mem_of_getElem? (i := 7) rfl))) (mvT hZ (hw _ (List.mem_of_getElem? (i := 8) rfl))) (by decide) (backOf (W := 1) (own_un l Z a0 hw [] (p1 &&& (65535 : Int32)) h0 n0 Z0 ) hZ (hw _ (List.mem_of_getElem? (i := 8) rfl)) (hw _ (List.mem_of_getElem? (i := 7) rfl)) (by decide) (by decide)) (g := (mkF m 13 #[.val (.int p1), .val (.int (p1 &&& (65535 : Int32))), .val (.int (p1.toInt8.toInt32)), .unset, .unset] [(.int (p1 &&& (65535 : Int32))), (.int r_2)])) rfl (by rw [hml]; rfl) (argsL := [(.int (p1 &&& (65535 : Int32)))]) (rest := [(.int r_2)]) (lenOf own_pd0 rfl) rfl (by show 2 * 0 + _ ≤ _; exact Nat.le_of_eq rfl) (hb hby at_13) (fun _ _ => ⟨rfl, e1, (by decide : 0 + 0 ≤ _), (by decide : 0 + 0 ≤ _)⟩)
  dsimp only [Pt.U, Pt.locs, Pt.cells, Pt.slots] at X4 l4 y4 z4 st4 hQ4
  subst l4 y4 z4
  obtain ⟨r_5, rfl, N4q, e4, po6⟩ := hQ4
  have N4 := Fr.app N1 N4q
  refine OwnGo.back (T4.setTop (mkF m 16 #[.val (.int p1), .val (.int (p1 &&& (65535 : Int32))), .val (.int (p1.toInt8.toInt32)), .unset, .unset] [(.int r_5), (.int r_2)])) (fun tg kk => st4 _ kk) ?_
  refine OwnGo.back (T4.setTop (mkF m 19 #[.val (.int p1), .val (.int (p1 &&& (65535 : Int32))), .val (.int (p1.toInt8.toInt32)), .unset, .unset] [])) (fun tg kk => XS.icmpNo X4.here hx rfl (hb hby at_16) rfl (teq (by (simp only [true_and, and_true, false_and, and_false, or_false, false_or, or_true, true_or, not_true_eq_false, not_false_eq_true, eq_self, Int32.lt_iff_toInt_lt, Int32.le_iff_toInt_le, ← Int32.toInt_inj, Int32.reduceToInt, Int64.lt_iff_toInt_lt, Int64.le_iff_toInt_le, ← Int64.toInt_inj, Int64.reduceToInt] at po3 po6 ⊢) <;> omega : r_2 = r_5)).2 kk) ?_
  refine OwnGo.back (T4.setTop (mkF m 20 #[.val (.int p1), .val (.int (p1 &&& (65535 : Int32))), .val (.int (p1.toInt8.toInt32)), .unset, .unset] [(.int (1 : Int32))])) (fun tg kk => XS.iconst X4.here hx rfl (hb hby at_19) kk) ?_
  refine OwnGo.back (T4.setTop (mkF m 24 #[.val (.int p1), .val (.int (p1 &&& (65535 : Int32))), .val (.int (p1.toInt8.toInt32)), .unset, .unset] [(.int (1 : Int32))])) (fun tg kk => XS.goto X4.here hx rfl (pc0 := 20) (pc' := 24) rfl (hb hby at_20) (by decide) (by decide) kk) ?_
  refine OwnGo.back (T4.setTop (mkF m 25 #[.val (.int p1), .val (.int (p1 &&& (65535 : Int32))), .val (.int (p1.toInt8.toInt32)), .val (.int (1 : Int32)), .unset] [])) (fun tg kk => XS.istoreN X4.here hx rfl (hb hby at_24) rfl (l' := #[.val (.int p1), .val (.int (p1 &&& (65535 : Int32))), .val (.int (p1.toInt8.toInt32)), .val (.int (1 : Int32)), .unset]) rfl kk) ?_
  refine OwnGo.back (T4.setTop (mkF m 26 #[.val (.int p1), .val (.int (p1 &&& (65535 : Int32))), .val (.int (p1.toInt8.toInt32)), .val (.int (1 : Int32)), .unset] [(.int (p1.toInt8.toInt32))])) (fun tg kk => XS.iloadN X4.here hx rfl (hb hby at_25) rfl kk) ?_
  obtain ⟨_, _, ⟨T7, L7, k7, n7⟩, -, X7, ⟨Lc7, hQ7, l7, y7, z7⟩, st7⟩ := Jvm.LawKit.callS X4 hx (y := (⟨"com/example/rhone/rhone/tree/Utf8", "isPlain", "(I)Z"⟩ : MethodName)) hown (mvT hZ (hw _ (List.mem_of_getElem? (i := 1) rfl))) (mvT hZ (hw _ (List.mem_of_getElem? (i := 2) rfl))) (mvT hZ (hw _ (List.mem_of_getElem? (i := 3) rfl))) (mvT hZ (hw _ (List.mem_of_getElem? (i := 4) rfl))) (by decide) (backOf (W := 0) (own_pl l Z a0 hw [] (p1.toInt8.toInt32) h0 n0 Z0 ) hZ (hw _ (List.mem_of_getElem? (i := 4) rfl)) (hw _ (List.mem_of_getElem? (i := 3) rfl)) (by decide) (by decide)) (g := (mkF m 26 #[.val (.int p1), .val (.int (p1 &&& (65535 : Int32))), .val (.int (p1.toInt8.toInt32)), .val (.int (1 : Int32)), .unset] [(.int (p1.toInt8.toInt32))])) rfl (by rw [hml]; rfl) (argsL := [(.int (p1.toInt8.toInt32))]) (rest := []) (lenOf own_pd0 rfl) rfl (by show 2 * 0 + _ ≤ _; exact Nat.le_of_eq rfl) (hb hby at_26) (fun _ _ => ⟨rfl, e4, (by decide : 0 + 0 ≤ _), (by decide : 0 + 0 ≤ _)⟩)
  dsimp only [Pt.U, Pt.locs, Pt.cells, Pt.slots] at X7 l7 y7 z7 st7 hQ7
  subst l7 y7 z7
  obtain ⟨r_8, rfl, N7q, e7, po9⟩ := hQ7
  have N7 := Fr.app N4 N7q
  refine OwnGo.back (T7.setTop (mkF m 29 #[.val (.int p1), .val (.int (p1 &&& (65535 : Int32))), .val (.int (p1.toInt8.toInt32)), .val (.int (1 : Int32)), .unset] [(.int r_8)])) (fun tg kk => st7 _ kk) ?_
  refine OwnGo.back (T7.setTop (mkF m 30 #[.val (.int p1), .val (.int (p1 &&& (65535 : Int32))), .val (.int (p1.toInt8.toInt32)), .val (.int (1 : Int32)), .unset] [(.int (p1.toInt8.toInt32)), (.int r_8)])) (fun tg kk => XS.iloadN X7.here hx rfl (hb hby at_29) rfl kk) ?_
  by_cases hc10 : (p1.toInt8.toInt32) < (0 : Int32)
  ·
    refine OwnGo.back (T7.setTop (mkF m 44 #[.val (.int p1), .val (.int (p1 &&& (65535 : Int32))), .val (.int (p1.toInt8.toInt32)), .val (.int (1 : Int32)), .unset] [(.int r_8)])) (fun tg kk => XS.ifYes X7.here hx rfl (pc0 := 30) (pc' := 44) rfl (hb hby at_30) rfl ((if0 _ _).trans (tlt hc10).1) (by decide) (by decide) kk) ?_
    refine OwnGo.back (T7.setTop (mkF m 45 #[.val (.int p1), .val (.int (p1 &&& (65535 : Int32))), .val (.int (p1.toInt8.toInt32)), .val (.int (1 : Int32)), .unset] [(.int (0 : Int32)), (.int r_8)])) (fun tg kk => XS.iconst X7.here hx rfl (hb hby at_44) kk) ?_
    refine OwnGo.back (T7.setTop (mkF m 48 #[.val (.int p1), .val (.int (p1 &&& (65535 : Int32))), .val (.int (p1.toInt8.toInt32)), .val (.int (1 : Int32)), .unset] [])) (fun tg kk => XS.icmpNo X7.here hx rfl (hb hby at_45) rfl (teq (by have hb := c_i2b p1; (simp only [true_and, and_true, false_and, and_false, or_false, false_or, or_true, true_or, not_true_eq_false, not_false_eq_true, eq_self, Int32.lt_iff_toInt_lt, Int32.le_iff_toInt_le, ← Int32.toInt_inj, Int32.reduceToInt, Int64.lt_iff_toInt_lt, Int64.le_iff_toInt_le, ← Int64.toInt_inj, Int64.reduceToInt] at hc10 po3 po6 po9 hb ⊢) <;> omega : r_8 = (0 : Int32))).2 kk) ?_
    refine OwnGo.back (T7.setTop (mkF m 49 #[.val (.int p1), .val (.int (p1 &&& (65535 : Int32))), .val (.int (p1.toInt8.toInt32)), .val (.int (1 : Int32)), .unset] [(.int (1 : Int32))])) (fun tg kk => XS.iconst X7.here hx rfl (hb hby at_48) kk) ?_
    refine OwnGo.back (T7.setTop (mkF m 53 #[.val (.int p1), .val (.int (p1 &&& (65535 : Int32))), .val (.int (p1.toInt8.toInt32)), .val (.int (1 : Int32)), .unset] [(.int (1 : Int32))])) (fun tg kk => XS.goto X7.here hx rfl (pc0 := 49) (pc' := 53) rfl (hb hby at_49) (by decide) (by decide) kk) ?_
    refine OwnGo.back (T7.setTop (mkF m 55 #[.val (.int p1), .val (.int (p1 &&& (65535 : Int32))), .val (.int (p1.toInt8.toInt32)), .val (.int (1 : Int32)), .val (.int (1 : Int32))] [])) (fun tg kk => XS.istore X7.here hx rfl (hb hby at_53) rfl (l' := #[.val (.int p1), .val (.int (p1 &&& (65535 : Int32))), .val (.int (p1.toInt8.toInt32)), .val (.int (1 : Int32)), .val (.int (1 : Int32))]) rfl kk) ?_
    refine OwnGo.back (T7.setTop (mkF m 56 #[.val (.int p1), .val (.int (p1 &&& (65535 : Int32))), .val (.int (p1.toInt8.toInt32)), .val (.int (1 : Int32)), .val (.int (1 : Int32))] [(.int (1 : Int32))])) (fun tg kk => XS.iloadN X7.here hx rfl (hb hby at_55) rfl kk) ?_
    refine OwnGo.back (T7.setTop (mkF m 59 #[.val (.int p1), .val (.int (p1 &&& (65535 : Int32))), .val (.int (p1.toInt8.toInt32)), .val (.int (1 : Int32)), .val (.int (1 : Int32))] [])) (fun tg kk => XS.ifNo X7.here hx rfl (hb hby at_56) rfl ((if0 _ _).trans (feq (by decide : ¬ ((1 : Int32) = (0 : Int32)))).1) kk) ?_
    refine OwnGo.back (T7.setTop (mkF m 61 #[.val (.int p1), .val (.int (p1 &&& (65535 : Int32))), .val (.int (p1.toInt8.toInt32)), .val (.int (1 : Int32)), .val (.int (1 : Int32))] [(.int (1 : Int32))])) (fun tg kk => XS.iload X7.here hx rfl (hb hby at_59) rfl kk) ?_
    refine OwnGo.back (T7.setTop (mkF m 64 #[.val (.int p1), .val (.int (p1 &&& (65535 : Int32))), .val (.int (p1.toInt8.toInt32)), .val (.int (1 : Int32)), .val (.int (1 : Int32))] [])) (fun tg kk => XS.ifNo X7.here hx rfl (hb hby at_61) rfl ((if0 _ _).trans (feq (by decide : ¬ ((1 : Int32) = (0 : Int32)))).1) kk) ?_
    refine OwnGo.back (T7.setTop (mkF m 65 #[.val (.int p1), .val (.int (p1 &&& (65535 : Int32))), .val (.int (p1.toInt8.toInt32)), .val (.int (1 : Int32)), .val (.int (1 : Int32))] [(.int (1 : Int32))])) (fun tg kk => XS.iconst X7.here hx rfl (hb hby at_64) kk) ?_
    refine OwnGo.back (T7.setTop (mkF m 69 #[.val (.int p1), .val (.int (p1 &&& (65535 : Int32))), .val (.int (p1.toInt8.toInt32)), .val (.int (1 : Int32)), .val (.int (1 : Int32))] [(.int (1 : Int32))])) (fun tg kk => XS.goto X7.here hx rfl (pc0 := 65) (pc' := 69) rfl (hb hby at_65) (by decide) (by decide) kk) ?_
    obtain ⟨fs, hr, hrun, hended, hW, hsame⟩ := X7.leave (v := some (.int (1 : Int32))) (fun h => by rw [Bd.returns] at h; cases h)
    refine ⟨_, _, ?_, hrun, hended, _, _, rfl, ?_, ⟨_, rfl⟩, hW, hsame.mono (by decide) (by decide)⟩
    · exact retN X7 hx (t := .boolean) Bd.returns (by simp) (hb hby at_69) hr
    · show own_law_Q Z p1 h0 n0 _ T7.heap _
      rw [e7]
      exact ⟨rfl, N7, rfl⟩
  ·
    refine OwnGo.back (T7.setTop (mkF m 33 #[.val (.int p1), .val (.int (p1 &&& (65535 : Int32))), .val (.int (p1.toInt8.toInt32)), .val (.int (1 : Int32)), .unset] [(.int r_8)])) (fun tg kk => XS.ifNo X7.here hx rfl (hb hby at_30) rfl ((if0 _ _).trans (flt hc10).1) kk) ?_
    refine OwnGo.back (T7.setTop (mkF m 34 #[.val (.int p1), .val (.int (p1 &&& (65535 : Int32))), .val (.int (p1.toInt8.toInt32)), .val (.int (1 : Int32)), .unset] [(.int (p1.toInt8.toInt32)), (.int r_8)])) (fun tg kk => XS.iloadN X7.here hx rfl (hb hby at_33) rfl kk) ?_
    obtain ⟨_, _, ⟨T11, L11, k11, n11⟩, -, X11, ⟨Lc11, hQ11, l11, y11, z11⟩, st11⟩ := Jvm.LawKit.callS X7 hx (y := (⟨"com/example/rhone/rhone/tree/Utf8IsPlainPinLaw", "unescaped", "(I)Z"⟩ : MethodName)) hown (mvT hZ (hw _ (List.mem_of_getElem? (i := 5) rfl))) (mvT hZ (hw _ (List.mem_of_getElem? (i := 6) rfl))) (mvT hZ (hw _ (List.mem_of_getElem? (i := 7) rfl))) (mvT hZ (hw _ (List.mem_of_getElem? (i := 8) rfl))) (by decide) (backOf (W := 1) (own_un l Z a0 hw [] (p1.toInt8.toInt32) h0 n0 Z0 ) hZ (hw _ (List.mem_of_getElem? (i := 8) rfl)) (hw _ (List.mem_of_getElem? (i := 7) rfl)) (by decide) (by decide)) (g := (mkF m 34 #[.val (.int p1), .val (.int (p1 &&& (65535 : Int32))), .val (.int (p1.toInt8.toInt32)), .val (.int (1 : Int32)), .unset] [(.int (p1.toInt8.toInt32)), (.int r_8)])) rfl (by rw [hml]; rfl) (argsL := [(.int (p1.toInt8.toInt32))]) (rest := [(.int r_8)]) (lenOf own_pd0 rfl) rfl (by show 2 * 0 + _ ≤ _; exact Nat.le_of_eq rfl) (hb hby at_34) (fun _ _ => ⟨rfl, e7, (by decide : 0 + 0 ≤ _), (by decide : 0 + 0 ≤ _)⟩)
    dsimp only [Pt.U, Pt.locs, Pt.cells, Pt.slots] at X11 l11 y11 z11 st11 hQ11
    subst l11 y11 z11
    obtain ⟨r_12, rfl, N11q, e11, po13⟩ := hQ11
    have N11 := Fr.app N7 N11q
    refine OwnGo.back (T11.setTop (mkF m 37 #[.val (.int p1), .val (.int (p1 &&& (65535 : Int32))), .val (.int (p1.toInt8.toInt32)), .val (.int (1 : Int32)), .unset] [(.int r_12), (.int r_8)])) (fun tg kk => st11 _ kk) ?_
    by_cases hc14 : r_12 = (0 : Int32)
    ·
      refine OwnGo.back (T11.setTop (mkF m 44 #[.val (.int p1), .val (.int (p1 &&& (65535 : Int32))), .val (.int (p1.toInt8.toInt32)), .val (.int (1 : Int32)), .unset] [(.int r_8)])) (fun tg kk => XS.ifYes X11.here hx rfl (pc0 := 37) (pc' := 44) rfl (hb hby at_37) rfl ((if0 _ _).trans (teq hc14).1) (by decide) (by decide) kk) ?_
      refine OwnGo.back (T11.setTop (mkF m 45 #[.val (.int p1), .val (.int (p1 &&& (65535 : Int32))), .val (.int (p1.toInt8.toInt32)), .val (.int (1 : Int32)), .unset] [(.int (0 : Int32)), (.int r_8)])) (fun tg kk => XS.iconst X11.here hx rfl (hb hby at_44) kk) ?_
      refine OwnGo.back (T11.setTop (mkF m 48 #[.val (.int p1), .val (.int (p1 &&& (65535 : Int32))), .val (.int (p1.toInt8.toInt32)), .val (.int (1 : Int32)), .unset] [])) (fun tg kk => XS.icmpNo X11.here hx rfl (hb hby at_45) rfl (teq (by have hb := c_i2b p1; (simp only [true_and, and_true, false_and, and_false, or_false, false_or, or_true, true_or, not_true_eq_false, not_false_eq_true, eq_self, Int32.lt_iff_toInt_lt, Int32.le_iff_toInt_le, ← Int32.toInt_inj, Int32.reduceToInt, Int64.lt_iff_toInt_lt, Int64.le_iff_toInt_le, ← Int64.toInt_inj, Int64.reduceToInt] at hc10 hc14 po3 po6 po9 po13 hb ⊢) <;> omega : r_8 = (0 : Int32))).2 kk) ?_
      refine OwnGo.back (T11.setTop (mkF m 49 #[.val (.int p1), .val (.int (p1 &&& (65535 : Int32))), .val (.int (p1.toInt8.toInt32)), .val (.int (1 : Int32)), .unset] [(.int (1 : Int32))])) (fun tg kk => XS.iconst X11.here hx rfl (hb hby at_48) kk) ?_
      refine OwnGo.back (T11.setTop (mkF m 53 #[.val (.int p1), .val (.int (p1 &&& (65535 : Int32))), .val (.int (p1.toInt8.toInt32)), .val (.int (1 : Int32)), .unset] [(.int (1 : Int32))])) (fun tg kk => XS.goto X11.here hx rfl (pc0 := 49) (pc' := 53) rfl (hb hby at_49) (by decide) (by decide) kk) ?_
      refine OwnGo.back (T11.setTop (mkF m 55 #[.val (.int p1), .val (.int (p1 &&& (65535 : Int32))), .val (.int (p1.toInt8.toInt32)), .val (.int (1 : Int32)), .val (.int (1 : Int32))] [])) (fun tg kk => XS.istore X11.here hx rfl (hb hby at_53) rfl (l' := #[.val (.int p1), .val (.int (p1 &&& (65535 : Int32))), .val (.int (p1.toInt8.toInt32)), .val (.int (1 : Int32)), .val (.int (1 : Int32))]) rfl kk) ?_
      refine OwnGo.back (T11.setTop (mkF m 56 #[.val (.int p1), .val (.int (p1 &&& (65535 : Int32))), .val (.int (p1.toInt8.toInt32)), .val (.int (1 : Int32)), .val (.int (1 : Int32))] [(.int (1 : Int32))])) (fun tg kk => XS.iloadN X11.here hx rfl (hb hby at_55) rfl kk) ?_
      refine OwnGo.back (T11.setTop (mkF m 59 #[.val (.int p1), .val (.int (p1 &&& (65535 : Int32))), .val (.int (p1.toInt8.toInt32)), .val (.int (1 : Int32)), .val (.int (1 : Int32))] [])) (fun tg kk => XS.ifNo X11.here hx rfl (hb hby at_56) rfl ((if0 _ _).trans (feq (by decide : ¬ ((1 : Int32) = (0 : Int32)))).1) kk) ?_
      refine OwnGo.back (T11.setTop (mkF m 61 #[.val (.int p1), .val (.int (p1 &&& (65535 : Int32))), .val (.int (p1.toInt8.toInt32)), .val (.int (1 : Int32)), .val (.int (1 : Int32))] [(.int (1 : Int32))])) (fun tg kk => XS.iload X11.here hx rfl (hb hby at_59) rfl kk) ?_
      refine OwnGo.back (T11.setTop (mkF m 64 #[.val (.int p1), .val (.int (p1 &&& (65535 : Int32))), .val (.int (p1.toInt8.toInt32)), .val (.int (1 : Int32)), .val (.int (1 : Int32))] [])) (fun tg kk => XS.ifNo X11.here hx rfl (hb hby at_61) rfl ((if0 _ _).trans (feq (by decide : ¬ ((1 : Int32) = (0 : Int32)))).1) kk) ?_
      refine OwnGo.back (T11.setTop (mkF m 65 #[.val (.int p1), .val (.int (p1 &&& (65535 : Int32))), .val (.int (p1.toInt8.toInt32)), .val (.int (1 : Int32)), .val (.int (1 : Int32))] [(.int (1 : Int32))])) (fun tg kk => XS.iconst X11.here hx rfl (hb hby at_64) kk) ?_
      refine OwnGo.back (T11.setTop (mkF m 69 #[.val (.int p1), .val (.int (p1 &&& (65535 : Int32))), .val (.int (p1.toInt8.toInt32)), .val (.int (1 : Int32)), .val (.int (1 : Int32))] [(.int (1 : Int32))])) (fun tg kk => XS.goto X11.here hx rfl (pc0 := 65) (pc' := 69) rfl (hb hby at_65) (by decide) (by decide) kk) ?_
      obtain ⟨fs, hr, hrun, hended, hW, hsame⟩ := X11.leave (v := some (.int (1 : Int32))) (fun h => by rw [Bd.returns] at h; cases h)
      refine ⟨_, _, ?_, hrun, hended, _, _, rfl, ?_, ⟨_, rfl⟩, hW, hsame.mono (by decide) (by decide)⟩
      · exact retN X11 hx (t := .boolean) Bd.returns (by simp) (hb hby at_69) hr
      · show own_law_Q Z p1 h0 n0 _ T11.heap _
        rw [e11]
        exact ⟨rfl, N11, rfl⟩
    ·
      refine OwnGo.back (T11.setTop (mkF m 40 #[.val (.int p1), .val (.int (p1 &&& (65535 : Int32))), .val (.int (p1.toInt8.toInt32)), .val (.int (1 : Int32)), .unset] [(.int r_8)])) (fun tg kk => XS.ifNo X11.here hx rfl (hb hby at_37) rfl ((if0 _ _).trans (feq hc14).1) kk) ?_
      refine OwnGo.back (T11.setTop (mkF m 41 #[.val (.int p1), .val (.int (p1 &&& (65535 : Int32))), .val (.int (p1.toInt8.toInt32)), .val (.int (1 : Int32)), .unset] [(.int (1 : Int32)), (.int r_8)])) (fun tg kk => XS.iconst X11.here hx rfl (hb hby at_40) kk) ?_
      refine OwnGo.back (T11.setTop (mkF m 45 #[.val (.int p1), .val (.int (p1 &&& (65535 : Int32))), .val (.int (p1.toInt8.toInt32)), .val (.int (1 : Int32)), .unset] [(.int (1 : Int32)), (.int r_8)])) (fun tg kk => XS.goto X11.here hx rfl (pc0 := 41) (pc' := 45) rfl (hb hby at_41) (by decide) (by decide) kk) ?_
      refine OwnGo.back (T11.setTop (mkF m 48 #[.val (.int p1), .val (.int (p1 &&& (65535 : Int32))), .val (.int (p1.toInt8.toInt32)), .val (.int (1 : Int32)), .unset] [])) (fun tg kk => XS.icmpNo X11.here hx rfl (hb hby at_45) rfl (teq (by have hb := c_i2b p1; (simp only [true_and, and_true, false_and, and_false, or_false, false_or, or_true, true_or, not_true_eq_false, not_false_eq_true, eq_self, Int32.lt_iff_toInt_lt, Int32.le_iff_toInt_le, ← Int32.toInt_inj, Int32.reduceToInt, Int64.lt_iff_toInt_lt, Int64.le_iff_toInt_le, ← Int64.toInt_inj, Int64.reduceToInt] at hc10 hc14 po3 po6 po9 po13 hb ⊢) <;> omega : r_8 = (1 : Int32))).2 kk) ?_
      refine OwnGo.back (T11.setTop (mkF m 49 #[.val (.int p1), .val (.int (p1 &&& (65535 : Int32))), .val (.int (p1.toInt8.toInt32)), .val (.int (1 : Int32)), .unset] [(.int (1 : Int32))])) (fun tg kk => XS.iconst X11.here hx rfl (hb hby at_48) kk) ?_
      refine OwnGo.back (T11.setTop (mkF m 53 #[.val (.int p1), .val (.int (p1 &&& (65535 : Int32))), .val (.int (p1.toInt8.toInt32)), .val (.int (1 : Int32)), .unset] [(.int (1 : Int32))])) (fun tg kk => XS.goto X11.here hx rfl (pc0 := 49) (pc' := 53) rfl (hb hby at_49) (by decide) (by decide) kk) ?_
      refine OwnGo.back (T11.setTop (mkF m 55 #[.val (.int p1), .val (.int (p1 &&& (65535 : Int32))), .val (.int (p1.toInt8.toInt32)), .val (.int (1 : Int32)), .val (.int (1 : Int32))] [])) (fun tg kk => XS.istore X11.here hx rfl (hb hby at_53) rfl (l' := #[.val (.int p1), .val (.int (p1 &&& (65535 : Int32))), .val (.int (p1.toInt8.toInt32)), .val (.int (1 : Int32)), .val (.int (1 : Int32))]) rfl kk) ?_
      refine OwnGo.back (T11.setTop (mkF m 56 #[.val (.int p1), .val (.int (p1 &&& (65535 : Int32))), .val (.int (p1.toInt8.toInt32)), .val (.int (1 : Int32)), .val (.int (1 : Int32))] [(.int (1 : Int32))])) (fun tg kk => XS.iloadN X11.here hx rfl (hb hby at_55) rfl kk) ?_
      refine OwnGo.back (T11.setTop (mkF m 59 #[.val (.int p1), .val (.int (p1 &&& (65535 : Int32))), .val (.int (p1.toInt8.toInt32)), .val (.int (1 : Int32)), .val (.int (1 : Int32))] [])) (fun tg kk => XS.ifNo X11.here hx rfl (hb hby at_56) rfl ((if0 _ _).trans (feq (by decide : ¬ ((1 : Int32) = (0 : Int32)))).1) kk) ?_
      refine OwnGo.back (T11.setTop (mkF m 61 #[.val (.int p1), .val (.int (p1 &&& (65535 : Int32))), .val (.int (p1.toInt8.toInt32)), .val (.int (1 : Int32)), .val (.int (1 : Int32))] [(.int (1 : Int32))])) (fun tg kk => XS.iload X11.here hx rfl (hb hby at_59) rfl kk) ?_
      refine OwnGo.back (T11.setTop (mkF m 64 #[.val (.int p1), .val (.int (p1 &&& (65535 : Int32))), .val (.int (p1.toInt8.toInt32)), .val (.int (1 : Int32)), .val (.int (1 : Int32))] [])) (fun tg kk => XS.ifNo X11.here hx rfl (hb hby at_61) rfl ((if0 _ _).trans (feq (by decide : ¬ ((1 : Int32) = (0 : Int32)))).1) kk) ?_
      refine OwnGo.back (T11.setTop (mkF m 65 #[.val (.int p1), .val (.int (p1 &&& (65535 : Int32))), .val (.int (p1.toInt8.toInt32)), .val (.int (1 : Int32)), .val (.int (1 : Int32))] [(.int (1 : Int32))])) (fun tg kk => XS.iconst X11.here hx rfl (hb hby at_64) kk) ?_
      refine OwnGo.back (T11.setTop (mkF m 69 #[.val (.int p1), .val (.int (p1 &&& (65535 : Int32))), .val (.int (p1.toInt8.toInt32)), .val (.int (1 : Int32)), .val (.int (1 : Int32))] [(.int (1 : Int32))])) (fun tg kk => XS.goto X11.here hx rfl (pc0 := 65) (pc' := 69) rfl (hb hby at_65) (by decide) (by decide) kk) ?_
      obtain ⟨fs, hr, hrun, hended, hW, hsame⟩ := X11.leave (v := some (.int (1 : Int32))) (fun h => by rw [Bd.returns] at h; cases h)
      refine ⟨_, _, ?_, hrun, hended, _, _, rfl, ?_, ⟨_, rfl⟩, hW, hsame.mono (by decide) (by decide)⟩
      · exact retN X11 hx (t := .boolean) Bd.returns (by simp) (hb hby at_69) hr
      · show own_law_Q Z p1 h0 n0 _ T11.heap _
        rw [e11]
        exact ⟨rfl, N11, rfl⟩
set_option maxRecDepth 65536 in
set_option maxHeartbeats 40000000 in
theorem comes_1 {Post : Tables → Env → Array Value → State → Outcome → State → Prop} (hpost : ∀ tb e args s v u, (limb_1_1.after args s (.returned v) u = true ∧ limb_1_2.after args s (.returned v) u = true ∧ True) → FrameEnd s (.returned v) u (Jvm.fieldLocs frame_1_writes args s ++ Jvm.arrayLocs frame_1_arrays args s ++ Jvm.staticLocs frame_1_statics s) 0 0 → Post tb e args s (.returned v) u) :
    ArmFor flags0 classFile x code maxLocals ret World_1 tables_1 room_1 Calls_1 rest_1 Pre_1 Post := by
  intro l hfl _ _ p e ha hc hk s m args below hf hA hF happ hP
  obtain ⟨hcalls, hrest, hpre⟩ := hP
  obtain ⟨-, -, -, hnamed, -, -, -, hat⟩ := (Spec.applies_iff hf).mp happ
  obtain ⟨hg, hn⟩ := and_e (Cond.before_iff.mp (show (Jvm.Cond.and given_1 narrow_1).before args s = true from hpre))
  obtain ⟨hg0, hg⟩ := and_e hg
  obtain ⟨w0, rfl⟩ : ∃ w0 : Value, args = #[w0] := by
    have hs : args.size = 1 := by simpa [Cond.value, given_1] using hg0
    obtain ⟨L⟩ := args
    match L, hs with
    | [w0], _ => exact ⟨w0, rfl⟩
  have hw := fun d (hd : d ∈ tables_1) => atoms_spec (ws := Jvm.Cond.code x code maxLocals ret :: tables_1) hat d (List.mem_cons_of_mem _ hd)
  have hfit : Fit s := fun {y c} hc i hi => by
    obtain ⟨ha, rfl⟩ := Array.getElem?_eq_some_iff.mp hc
    have q := List.all_eq_true.mp ((Array.all_eq_true_iff_forall_mem.mp hF) _ (Array.getElem_mem ha)) i (List.mem_range.mpr hi)
    simpa [Array.getElem?_eq_getElem hi] using q
  obtain ⟨i0, ei0⟩ := is_v hg
  obtain rfl : w0 = (.int i0) := Option.some.inj ei0
  obtain ⟨n, o, h1, h2, h3, _, L, rfl, ⟨rfl, N, -⟩, hq⟩ := own_law l s _ hw tables_1 i0 s.heap s.heap.size (Nat.le_refl _)  p e ha hc hk s m _ below hf ((Spec.applies_iff_loose hf).mp happ).1 ⟨rfl, State.Warmed39.refl s, rfl⟩ trivial
  refine ⟨n, _, h1, h2, h3, hpost _ _ _ _ _ _ ⟨Cond.after_iff.mpr rfl, Cond.after_iff.mpr (eq_i res_at (Term.int_eval (1)) rfl), trivial⟩ ⟨hq.1, hq.2.1, (hq.2.2.sift fun y hy => Or.inr (N y hy)).mono (by decide) (by decide)⟩⟩
theorem main_1_1 : Claimed_1_1 := comes_1 fun _ _ _ _ _ _ h hF => ⟨h.1, hF⟩
theorem main_1_2 : Claimed_1_2 := comes_1 fun _ _ _ _ _ _ h hF => ⟨h.2.1, hF⟩
end Jvm.Pilot.@@N@@
namespace Jvm.Pilot.@@N@@
open Jvm Jvm.ClassFile Sem Op Lib Jvm.Free Jvm.Stand Jvm.Pilot.@@N@@.Jvm.D
/-! MADE BY PROGRAM (witnessworld.py) out of the Statement's table words and the real class files: 9 classes; the members and pool entries that the words name. The judged class is class 1, her method 2. -/
namespace start1
open Jvm.ClassFile
def u (s : String) : CpInfo := .utf8 (stringToUtf16 s)
/-- a pool by its gaps: so many unusable entries, then the entry; so many at the end -/
def gap : Nat → List CpInfo → List CpInfo
  | 0, r => r
  | n + 1, r => .unusable :: gap n r
def poolList (es : List (Nat × CpInfo)) (last : Nat) : List CpInfo := es.foldr (fun e r => gap e.1 (e.2 :: r)) (gap last [])
def pool (es : List (Nat × CpInfo)) (last : Nat) : Array CpInfo := ⟨poolList es last⟩
def fileOf (pool : Array CpInfo) (this : Nat) (attrs : Array Attribute := #[]) (ms : Array MethodInfo := #[]) (fl : Nat := 33) (sup : Nat := 0) (ifs : Array Nat := #[]) (fds : Array FieldInfo := #[]) : ClassFile where
  minorVersion := 0
  majorVersion := 65
  constantPool := pool
  accessFlags := fl
  thisClass := this
  superClass := sup
  interfaces := ifs
  fields := fds
  methods := ms
  attributes := attrs
def plain (name : String) (sup : Option ClassId) : Class where
  name := name
  kind := .ordinary
  loader := none
  accessFlags := 33
  super := sup
  interfaces := #[]
  cf := none
  fields := #[]
  methods := #[]
  instanceTypes := #[]
  staticTypes := #[]
  resolved := #[]
  callSites := []
  init := .initialized
  statics := none
  mirror := none

def pool0 : Array CpInfo := pool [(5, u "<init>"), (0, u "()V"), (1, .class_ 10), (1, u "java/lang/Object")] 113

def k0m0 : Method := { name := "<init>", desc := "()V", sig := { parameters := [], returnType := none }, accessFlags := 1, code := none }
/-- java/lang/Object -/
def k0 : Class := { plain "java/lang/Object" none with
  accessFlags := 33
  interfaces := #[]
  cf := some (fileOf pool0 8 #[] #[{ accessFlags := 1, nameIndex := 5, descriptorIndex := 6, attributes := #[] }] 33 0 #[] #[])
  fields := #[]
  methods := #[k0m0]
  instanceTypes := #[]
  staticTypes := #[]
  resolved := Array.replicate 124 none
  statics := none }

def pool1 : Array CpInfo := pool [(2, .class_ 4), (1, u "java/lang/Object"), (0, u "<init>"), (0, u "()V"), (0, .integer 65535), (0, .methodref 9 10), (0, .class_ 11), (0, .nameAndType 12 13), (0, u "com/example/rhone/rhone/tree/Utf8"), (0, u "isPlain"), (0, u "(I)Z"), (0, .methodref 15 16), (0, .class_ 17), (0, .nameAndType 18 13), (0, u "com/example/rhone/rhone/tree/Utf8IsPlainPinLaw"), (0, u "unescaped"), (3, u "law")] 2

def k1m0 : Method := { name := "<init>", desc := "()V", sig := { parameters := [], returnType := none }, accessFlags := 2, code := none }
def k1c1 : Code := { maxStack := 2, maxLocals := 1, code := method_2_code, exceptionTable := #[], attributes := #[] }
def k1m1 : Method := { name := "unescaped", desc := "(I)Z", sig := { parameters := [.int], returnType := some .boolean }, accessFlags := 10, code := some k1c1 }
def k1c2 : Code := { maxStack := 2, maxLocals := 5, code := code, exceptionTable := #[], attributes := #[] }
def k1m2 : Method := { name := "law", desc := "(I)Z", sig := { parameters := [.int], returnType := some .boolean }, accessFlags := 9, code := some k1c2 }
/-- com/example/rhone/rhone/tree/Utf8IsPlainPinLaw -/
def k1 : Class := { plain "com/example/rhone/rhone/tree/Utf8IsPlainPinLaw" (some 0) with
  accessFlags := 49
  interfaces := #[]
  cf := some (fileOf pool1 15 #[] #[{ accessFlags := 2, nameIndex := 5, descriptorIndex := 6, attributes := #[] }, { accessFlags := 10, nameIndex := 18, descriptorIndex := 13, attributes := #[] }, { accessFlags := 9, nameIndex := 22, descriptorIndex := 13, attributes := #[] }] 49 2 #[] #[])
  fields := #[]
  methods := #[k1m0, k1m1, k1m2]
  instanceTypes := #[]
  staticTypes := #[]
  resolved := Array.replicate 25 none
  statics := none }

def pool2 : Array CpInfo := pool [(4, .class_ 6), (1, u "java/lang/Object"), (0, u "<init>"), (0, u "()V"), (1, .class_ 12), (1, u "com/example/rhone/rhone/tree/Utf8"), (0, u "LENGTH"), (0, u "[B"), (2, u "LOW"), (0, u "[I"), (2, u "HIGH"), (8, u "WORDS"), (0, u "Ljava/lang/invoke/VarHandle;"), (18, u "isPlain"), (0, u "(I)Z"), (46, u "QUADS"), (30, u "MOST_KEPT_BY_A_NUMBER"), (0, u "I"), (2, u "EACH"), (0, u "J"), (0, u "HIGH_BITS"), (0, u "PLAIN"), (1, u "ESCAPED")] 19

def k2m0 : Method := { name := "<init>", desc := "()V", sig := { parameters := [], returnType := none }, accessFlags := 2, code := none }
def k2c1 : Code := { maxStack := 2, maxLocals := 1, code := prog_78_method_4_code, exceptionTable := #[], attributes := #[] }
def k2m1 : Method := { name := "isPlain", desc := "(I)Z", sig := { parameters := [.int], returnType := some .boolean }, accessFlags := 9, code := some k2c1 }
/-- com/example/rhone/rhone/tree/Utf8 -/
def k2 : Class := { plain "com/example/rhone/rhone/tree/Utf8" (some 0) with
  accessFlags := 33
  interfaces := #[]
  cf := some (fileOf pool2 10 #[] #[{ accessFlags := 2, nameIndex := 7, descriptorIndex := 8, attributes := #[] }, { accessFlags := 9, nameIndex := 50, descriptorIndex := 51, attributes := #[] }] 33 4 #[] #[{ accessFlags := 25, nameIndex := 129, descriptorIndex := 130, attributes := #[] }, { accessFlags := 26, nameIndex := 30, descriptorIndex := 31, attributes := #[] }, { accessFlags := 26, nameIndex := 98, descriptorIndex := 31, attributes := #[] }, { accessFlags := 26, nameIndex := 133, descriptorIndex := 134, attributes := #[] }, { accessFlags := 26, nameIndex := 135, descriptorIndex := 134, attributes := #[] }, { accessFlags := 26, nameIndex := 13, descriptorIndex := 14, attributes := #[] }, { accessFlags := 26, nameIndex := 17, descriptorIndex := 18, attributes := #[] }, { accessFlags := 26, nameIndex := 21, descriptorIndex := 18, attributes := #[] }, { accessFlags := 24, nameIndex := 136, descriptorIndex := 130, attributes := #[] }, { accessFlags := 24, nameIndex := 138, descriptorIndex := 130, attributes := #[] }])
  fields := #[{ name := "MOST_KEPT_BY_A_NUMBER", type := .int, accessFlags := 25, slot := 0, constantValue := 0 }, { name := "WORDS", type := (.object "java/lang/invoke/VarHandle"), accessFlags := 26, slot := 1, constantValue := 0 }, { name := "QUADS", type := (.object "java/lang/invoke/VarHandle"), accessFlags := 26, slot := 2, constantValue := 0 }, { name := "EACH", type := .long, accessFlags := 26, slot := 3, constantValue := 0 }, { name := "HIGH_BITS", type := .long, accessFlags := 26, slot := 4, constantValue := 0 }, { name := "LENGTH", type := (.array .byte), accessFlags := 26, slot := 5, constantValue := 0 }, { name := "LOW", type := (.array .int), accessFlags := 26, slot := 6, constantValue := 0 }, { name := "HIGH", type := (.array .int), accessFlags := 26, slot := 7, constantValue := 0 }, { name := "PLAIN", type := .int, accessFlags := 24, slot := 8, constantValue := 0 }, { name := "ESCAPED", type := .int, accessFlags := 24, slot := 9, constantValue := 0 }]
  methods := #[k2m0, k2m1]
  instanceTypes := #[]
  staticTypes := #[.int, (.object "java/lang/invoke/VarHandle"), (.object "java/lang/invoke/VarHandle"), .long, .long, (.array .byte), (.array .int), (.array .int), .int, .int]
  resolved := Array.replicate 158 none
  statics := none }

def pool3 : Array CpInfo := pool [(1, u "java/lang/Cloneable"), (0, .class_ 1), (0, u "java/lang/Object"), (0, .class_ 3)] 3

/-- java/lang/Cloneable -/
def k3 : Class := { plain "java/lang/Cloneable" (some 0) with
  accessFlags := 1537
  interfaces := #[]
  cf := some (fileOf pool3 2 #[] #[] 1537 4 #[] #[])
  fields := #[]
  methods := #[]
  instanceTypes := #[]
  staticTypes := #[]
  resolved := Array.replicate 8 none
  statics := none }

def pool4 : Array CpInfo := pool [(1, u "java/io/Serializable"), (0, .class_ 1), (0, u "java/lang/Object"), (0, .class_ 3)] 3

/-- java/io/Serializable -/
def k4 : Class := { plain "java/io/Serializable" (some 0) with
  accessFlags := 1537
  interfaces := #[]
  cf := some (fileOf pool4 2 #[] #[] 1537 4 #[] #[])
  fields := #[]
  methods := #[]
  instanceTypes := #[]
  staticTypes := #[]
  resolved := Array.replicate 8 none
  statics := none }

/-- the primitive byte -/
def k5 : Class := { plain "byte" none with kind := .primitive 'B', accessFlags := 0x411 }
/-- [B -/
def k6 : Class := { plain "[B" (some 0) with kind := .array 5 .byte, interfaces := #[3, 4], accessFlags := 1041 }

/-- the primitive int -/
def k7 : Class := { plain "int" none with kind := .primitive 'I', accessFlags := 0x411 }
/-- [I -/
def k8 : Class := { plain "[I" (some 0) with kind := .array 7 .int, interfaces := #[3, 4], accessFlags := 1041 }

def heap : Heap := #[]
def classes : Array Class := #[k0, k1, k2, k3, k4, k5, k6, k7, k8]
def interned : List (Array UInt16 × Addr) := []
def slotsUsed : Nat := 0
def theMethod : MethodId := ⟨1, 2⟩
def args0 : Array Value := #[.int 5]
def aboutOver (below : List Frame) : State where
  vm := { classes := classes, interned := interned.toArray }
  heap := heap
  slotsUsed := slotsUsed
  threads := #[{ frames := .invoking theMethod args0 :: below }]
def below0 : List Frame := [.native { method := ⟨0, 0⟩, args := #[] }]
def about1 : State := aboutOver below0
def p0 : Program := .bare "" "" ""
def e0 : Env := launch0.env 0 0 0
theorem w_frames : about1.frames = Frame.invoking theMethod args0 :: below0 := rfl
set_option maxRecDepth 65536 in
theorem w_args : argsFit about1.vm theMethod args0 = true := by decide +kernel
set_option maxRecDepth 65536 in
theorem w_heap : heapFits about1 = true := by decide +kernel
set_option maxRecDepth 65536 in
theorem w_runnable : about1.curStatus? = some .runnable := by decide +kernel
set_option maxRecDepth 65536 in
theorem w_alone : about1.alone = true := by decide +kernel
set_option maxRecDepth 65536 in
theorem w_named : about1.methodNamed? x = some theMethod := by decide +kernel
set_option maxRecDepth 65536 in
theorem w_hears : about1.hears theMethod below0 = true := by decide +kernel
set_option maxRecDepth 65536 in
theorem w_ripe : about1.ripe theMethod args0 below0 = true := by decide +kernel
theorem w_running : about1.status = .running := rfl
set_option maxRecDepth 65536 in
theorem w_room : about1.hasRoom e0.platform room_1 = true :=
  launch0.hasRoom_least _ room_1 (by decide +kernel) (by decide +kernel) (by decide +kernel) (by decide +kernel) (by decide +kernel) (by decide +kernel)
theorem allAtoms_all (ts : List Jvm.Cond) (a : Array Jvm.Value) (st : Jvm.State) : (allAtoms ts).before a st = ts.all (fun c => c.before a st) := by
  induction ts with
  | nil => rfl
  | cons c t ih =>
    show (Jvm.Cond.and c (allAtoms t)).before a st = _
    rw [Jvm.Cond.before_and, ih, List.all_cons]
def words1 : List Jvm.Cond := Jvm.Cond.code x code maxLocals ret :: tables_1
/-- a 'code' word, met by the world's own term for the bytes: nothing is compared byte by byte -/
theorem code_word {y : MethodName} {bytes : ByteArray} {mx : Nat} {rt : Option FieldType} {a : Array Value} {s : State} {m : MethodId} {meth : Method} {c : Code} (h1 : s.methodNamed? y = some m) (h2 : s.vm.method? m = some meth) (h3 : meth.code = some c) (h4 : c.code = bytes)
    (h5 : (c.maxLocals == mx && c.exceptionTable.isEmpty && decide (c.maxStack ≤ mostOperands) && decide (meth.sig.returnType = rt) && !meth.locks && decide (parseMethodDescriptor y.desc = some meth.sig)) = true) : (Jvm.Cond.code y bytes mx rt).before a s = true := by
  simp only [Bool.and_eq_true, beq_iff_eq, Bool.not_eq_true', decide_eq_true_eq] at h5
  obtain ⟨⟨⟨⟨⟨g1, g2⟩, g3⟩, g4⟩, g5⟩, g6⟩ := h5
  simp [Cond.before, Cond.holds, Cond.value, h1, h2, h3, h4, g1, g2, g3, g4, g5, g6]
def isCode : Jvm.Cond → Bool
  | .code _ _ _ _ => true
  | _ => false
theorem all_split {L : List Jvm.Cond} {P : Jvm.Cond → Bool} (h1 : L.all (fun c => isCode c || P c) = true) (h2 : ∀ c ∈ L.filter isCode, P c = true) : L.all P = true := by
  refine List.all_eq_true.mpr fun c hc => ?_
  have h := List.all_eq_true.mp h1 c hc
  rcases Bool.eq_false_or_eq_true (isCode c) with hi | hi
  · exact h2 c (List.mem_filter.mpr ⟨hc, hi⟩)
  · simpa [hi] using h
set_option maxRecDepth 65536 in
theorem w_c0 : (Jvm.Cond.code x code maxLocals ret).before args0 about1 = true := code_word (m := ⟨1, 2⟩) (meth := k1m2) (c := k1c2) (by decide +kernel) rfl rfl rfl (by decide +kernel)
set_option maxRecDepth 65536 in
theorem w_c1 : (Jvm.Cond.code ({ cls := "com/example/rhone/rhone/tree/Utf8", name := "isPlain", desc := "(I)Z" } : Jvm.MethodName) prog_78_method_4_code (1 : Nat) (Option.some Jvm.ClassFile.FieldType.boolean)).before args0 about1 = true := code_word (m := ⟨2, 1⟩) (meth := k2m1) (c := k2c1) (by decide +kernel) rfl rfl rfl (by decide +kernel)
set_option maxRecDepth 65536 in
theorem w_c2 : (Jvm.Cond.code ({ cls := "com/example/rhone/rhone/tree/Utf8IsPlainPinLaw", name := "unescaped", desc := "(I)Z" } : Jvm.MethodName) method_2_code (1 : Nat) (Option.some Jvm.ClassFile.FieldType.boolean)).before args0 about1 = true := code_word (m := ⟨1, 1⟩) (meth := k1m1) (c := k1c1) (by decide +kernel) rfl rfl rfl (by decide +kernel)
def codes1 : List Jvm.Cond := [Jvm.Cond.code x code maxLocals ret, Jvm.Cond.code ({ cls := "com/example/rhone/rhone/tree/Utf8", name := "isPlain", desc := "(I)Z" } : Jvm.MethodName) prog_78_method_4_code (1 : Nat) (Option.some Jvm.ClassFile.FieldType.boolean), Jvm.Cond.code ({ cls := "com/example/rhone/rhone/tree/Utf8IsPlainPinLaw", name := "unescaped", desc := "(I)Z" } : Jvm.MethodName) method_2_code (1 : Nat) (Option.some Jvm.ClassFile.FieldType.boolean)]
set_option maxRecDepth 65536 in
theorem codes_eq : words1.filter isCode = codes1 := rfl
theorem w_codes : ∀ c ∈ words1.filter isCode, c.before args0 about1 = true := by
  rw [codes_eq]
  intro c hc
  simp only [codes1, List.mem_cons, List.not_mem_nil, or_false] at hc
  rcases hc with rfl | rfl | rfl
  · exact w_c0
  · exact w_c1
  · exact w_c2
set_option maxRecDepth 65536 in
theorem w_t1 : words1.all (fun c => isCode c || c.before args0 about1) = true := by decide +kernel
theorem w_tables : (allAtoms (Jvm.Cond.code x code maxLocals ret :: tables_1)).before args0 about1 = true := by
  rw [allAtoms_all]
  show words1.all (fun c => c.before args0 about1) = true
  refine all_split ?_ w_codes
  rw [w_t1]
set_option maxRecDepth 65536 in
theorem w_case : (Jvm.Cond.and given_1 narrow_1).before args0 about1 = true := by decide +kernel
theorem w_applies : (headSpec (Jvm.Cond.code x code maxLocals ret :: tables_1) room_1).applies x e0.platform about1 = true :=
  (Spec.applies_iff w_frames).mpr ⟨w_running, w_runnable, w_alone, w_named, w_hears, w_ripe, w_room, w_tables⟩
theorem atStart : AtStart classFile x code maxLocals ret World_1 tables_1 room_1 Calls_1 rest_1 Pre_1 launch0 p0 e0 about1 theMethod args0 below0 :=
  ⟨lists_1, trivial, launch0.admits_env _ _ _, launch0.least_env, fairChoices_fair.cas, fairChoices_fair.clock, w_frames, w_args, w_heap, w_applies, trivial, trivial, w_case⟩
end start1
theorem witness_1 : WitnessClaimed_1 := ⟨start1.p0, start1.e0, start1.about1, start1.theMethod, start1.args0, start1.below0, start1.atStart⟩
end Jvm.Pilot.@@N@@
