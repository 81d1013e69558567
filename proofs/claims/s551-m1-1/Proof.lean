import JvmDerived
import JvmDerived.Pilot.@@N@@Statement
import JvmDerived.Pilot.@@N@@Code
set_option linter.unusedVariables false
set_option linter.unusedSimpArgs false
namespace Jvm.RoadKit
open Sem ClassFile Op Lib Jvm.Stand Jvm.Free Jvm.LawKit
section New
variable {p : Program} {l : Launch} {e : Env} {R : Room} {s : State} {m : MethodId} {args : Array Value} {below : List Frame} {meth : Method} {c : Code} {T : State} {locs : List Loc} {cells slots : Nat}
theorem own_retI (X : Stand p l e R s m args below meth c T locs cells slots) (hx : p.tables.exec = Jvm.exec) {pc : Nat} {Ls : Array Slot} {z : Int32} {rest : List Value} (hret : meth.sig.returnType = some .int) (hd : decode c.code pc = .ok (.ireturn, 1)) {fs : List Frame}
    (hl : ∀ (f : JFrame) (acts : List Action), f.method = m → f.locked = none → f.entered = [] → (doReturn e (T.setTop f) acts (some (.int z))).1 = T.setFrames fs) : Steps p.tables e below (T.setTop (mkF m pc Ls (.int z :: rest))) (T.setFrames fs) :=
  retOut X hx hret rfl (Or.inl ⟨rfl, Or.inl rfl, z, rfl⟩) hd hl
theorem own_retJ (X : Stand p l e R s m args below meth c T locs cells slots) (hx : p.tables.exec = Jvm.exec) {pc : Nat} {Ls : Array Slot} {z : Int64} {rest : List Value} (hret : meth.sig.returnType = some .long) (hd : decode c.code pc = .ok (.lreturn, 1)) {fs : List Frame}
    (hl : ∀ (f : JFrame) (acts : List Action), f.method = m → f.locked = none → f.entered = [] → (doReturn e (T.setTop f) acts (some (.long z))).1 = T.setFrames fs) : Steps p.tables e below (T.setTop (mkF m pc Ls (.long z :: rest))) (T.setFrames fs) :=
  retOut X hx hret rfl (Or.inr (Or.inl ⟨rfl, rfl, z, rfl⟩)) hd hl
theorem own_retA (X : Stand p l e R s m args below meth c T locs cells slots) (hx : p.tables.exec = Jvm.exec) {pc : Nat} {Ls : Array Slot} {w : Value} {t : FieldType} {rest : List Value} (hret : meth.sig.returnType = some t) (hn : narrow t w = w) (ht : t.isReference = true) (hw : w.isRef = true) (hd : decode c.code pc = .ok (.areturn, 1)) {fs : List Frame}
    (hl : ∀ (f : JFrame) (acts : List Action), f.method = m → f.locked = none → f.entered = [] → (doReturn e (T.setTop f) acts (some w)).1 = T.setFrames fs) : Steps p.tables e below (T.setTop (mkF m pc Ls (w :: rest))) (T.setFrames fs) :=
  retOut X hx hret hn (Or.inr (Or.inr (Or.inr (Or.inr ⟨rfl, ht, hw⟩)))) hd hl
end New
abbrev OwnGo (tb : Tables) (e : Env) (below : List Frame) (K : State → Outcome → Prop) (st : State) : Prop := ∃ s₂ o, Steps tb e below st s₂ ∧ s₂.status = .running ∧ Ended s₂ below o ∧ K s₂ o
theorem OwnGo.back {tb : Tables} {e : Env} {below : List Frame} {K : State → Outcome → Prop} {st : State} (st' : State) (h : ∀ t, Steps tb e below st' t → Steps tb e below st t) (g : OwnGo tb e below K st') : OwnGo tb e below K st := by
  obtain ⟨s₂, o, h1, h2⟩ := g
  exact ⟨s₂, o, h _ h1, h2⟩
abbrev OwnMg (tb : Tables) (e : Env) (below : List Frame) (D : State → Prop) (st : State) : Prop := ∃ st', D st' ∧ ∀ t, Steps tb e below st' t → Steps tb e below st t
theorem OwnMg.back {tb : Tables} {e : Env} {below : List Frame} {D : State → Prop} {st : State} (st' : State) (h : ∀ t, Steps tb e below st' t → Steps tb e below st t) (g : OwnMg tb e below D st') : OwnMg tb e below D st := by
  obtain ⟨s₂, h1, h2⟩ := g
  exact ⟨s₂, h1, fun t k => h t (h2 t k)⟩
theorem own_not {P Q : Prop} (h : P ↔ Q) (n : ¬ Q) : ¬ P := fun q => n (h.mp q)
theorem own_ne {a b n : Nat} (h : a < n) (q : b = n) : a ≠ b := Nat.ne_of_lt (q ▸ h)
theorem own_ne' {a b n : Nat} (h : a < n) (q : n ≤ b) : a ≠ b := Nat.ne_of_lt (Nat.lt_of_lt_of_le h q)
end Jvm.RoadKit
namespace Jvm.Pilot.@@N@@
open Jvm Jvm.ClassFile Sem Op Lib Jvm.Free Jvm.Stand Jvm.LawKit Jvm.RoadKit Bundle Jvm.Pilot.@@N@@.Jvm.D
theorem own_pn0 : plainName "com/example/rhone/rhone/tree/Utf8" = true := by first | (simp [plainName, overriddenIn]; done) | decide +kernel
theorem own_d1_0 : decode prog_78_method_3_code 0 = .ok (.iload_n 2, 1) := by decide +kernel
theorem own_d1_1 : decode prog_78_method_3_code 1 = .ok (.iload_n 1, 1) := by decide +kernel
theorem own_d1_2 : decode prog_78_method_3_code 2 = .ok (.iconst 1, 1) := by decide +kernel
theorem own_d1_3 : decode prog_78_method_3_code 3 = .ok (.if_icmp .ne 11, 3) := by decide +kernel
theorem own_d1_6 : decode prog_78_method_3_code 6 = .ok (.getstatic 15, 3) := by decide +kernel
theorem own_d1_9 : decode prog_78_method_3_code 9 = .ok (.iload_n 0, 1) := by decide +kernel
theorem own_d1_10 : decode prog_78_method_3_code 10 = .ok (.iaload, 1) := by decide +kernel
theorem own_d1_11 : decode prog_78_method_3_code 11 = .ok (.goto 6, 3) := by decide +kernel
theorem own_d1_17 : decode prog_78_method_3_code 17 = .ok (.if_icmp .lt 27, 3) := by decide +kernel
theorem own_d1_44 : decode prog_78_method_3_code 44 = .ok (.iconst 0, 1) := by decide +kernel
theorem own_d1_45 : decode prog_78_method_3_code 45 = .ok (.ireturn, 1) := by decide +kernel
theorem own_d1_20 : decode prog_78_method_3_code 20 = .ok (.iload_n 2, 1) := by decide +kernel
theorem own_d1_21 : decode prog_78_method_3_code 21 = .ok (.iload_n 1, 1) := by decide +kernel
theorem own_d1_22 : decode prog_78_method_3_code 22 = .ok (.iconst 1, 1) := by decide +kernel
theorem own_d1_23 : decode prog_78_method_3_code 23 = .ok (.if_icmp .ne 11, 3) := by decide +kernel
theorem own_d1_26 : decode prog_78_method_3_code 26 = .ok (.getstatic 19, 3) := by decide +kernel
theorem own_d1_29 : decode prog_78_method_3_code 29 = .ok (.iload_n 0, 1) := by decide +kernel
theorem own_d1_30 : decode prog_78_method_3_code 30 = .ok (.iaload, 1) := by decide +kernel
theorem own_d1_31 : decode prog_78_method_3_code 31 = .ok (.goto 6, 3) := by decide +kernel
theorem own_d1_37 : decode prog_78_method_3_code 37 = .ok (.if_icmp .gt 7, 3) := by decide +kernel
theorem own_d1_40 : decode prog_78_method_3_code 40 = .ok (.iconst 1, 1) := by decide +kernel
theorem own_d1_41 : decode prog_78_method_3_code 41 = .ok (.goto 4, 3) := by decide +kernel
theorem own_d1_14 : decode prog_78_method_3_code 14 = .ok (.sipush 128, 3) := by decide +kernel
theorem own_d1_34 : decode prog_78_method_3_code 34 = .ok (.sipush 191, 3) := by decide +kernel
theorem own_pn1 : plainName "com/example/rhone/rhone/tree/Utf8ContinuesPinLaw" = true := by first | (simp [plainName, overriddenIn]; done) | decide +kernel
theorem own_pd0 : parseMethodDescriptor "(III)Z" = some ⟨[.int, .int, .int], some .boolean⟩ := by decide +kernel
theorem own_cont_ef (m : MethodId) (x0 : Int32) (x1 : Int32) (x2 : Int32) : entryFrame m #[(.int x0), (.int x1), (.int x2)] 3 = mkF m 0 #[.val (.int x0), .val (.int x1), .val (.int x2)] [] := by first | (simp [entryFrame, mkF, argsToLocals, Value.category]; done) | rfl
def own_cont_Q (Z : State) (lead : Int32) (ix : Int32) (un : Int32) (lo : Addr) (hi : Addr) (cl : Cell) (ch : Cell) (h0 : Heap) (n0 : Nat) (rv : Option Value) (hN : Heap) (LL : List Loc) : Prop := ∃ (r : Int32), rv = some (.int r) ∧ Fr n0 LL ∧ hN = h0 ∧ ((r = 1 ∧ ((ix = 1 → ¬ un < atv cl lead ∧ ¬ atv ch lead < un) ∧ (¬ ix = 1 → ¬ un < 128 ∧ ¬ 191 < un))) ∨ (r = 0 ∧ ¬ ((ix = 1 → ¬ un < atv cl lead ∧ ¬ atv ch lead < un) ∧ (¬ ix = 1 → ¬ un < 128 ∧ ¬ 191 < un))))
set_option maxRecDepth 65536 in
set_option maxHeartbeats 40000000 in
theorem own_cont (l : Launch) (Z : State) (a0 : Array Value) (hw : ∀ d ∈ tables_1, d.before a0 Z = true) (ws : List Jvm.Cond) (lead : Int32) (ix : Int32) (un : Int32) (lo : Addr) (hi : Addr) (cl : Cell) (ch : Cell) (h0 : Heap) (n0 : Nat) (Z0 : n0 ≤ h0.size) (SL : Sta Z h0 "com/example/rhone/rhone/tree/Utf8" "LOW" "[I" (.ref lo)) (SH : Sta Z h0 "com/example/rhone/rhone/tree/Utf8" "HIGH" "[I" (.ref hi)) (KL : Scr Z h0 lo cl (256 : Int32)) (KH : Scr Z h0 hi ch (256 : Int32)) (hl0 : ¬ lead < 0) (hl1 : lead < 256) :
    MetFree l (⟨"com/example/rhone/rhone/tree/Utf8", "continues", "(III)Z"⟩ : MethodName) (head1 (Jvm.Cond.code (⟨"com/example/rhone/rhone/tree/Utf8", "continues", "(III)Z"⟩ : MethodName) prog_78_method_3_code 3 (some .boolean) :: ws) ({ frames := 0, cells := 0, slots := 0, locals := 0 } : Room)) (fun aa UU => aa = #[(.int lead), (.int ix), (.int un)] ∧ Z.Warmed39 UU.vm ∧ UU.heap = h0) (fun _ _ _ _ _ => True) (fun _ UU oo UU' => ∃ rv LL, oo = .returned rv ∧ own_cont_Q Z lead ix un lo hi cl ch h0 n0 rv UU'.heap LL ∧ FrameEnd UU oo UU' LL ({ frames := 0, cells := 0, slots := 0, locals := 0 } : Room).cells ({ frames := 0, cells := 0, slots := 0, locals := 0 } : Room).slots) := by
  refine MetFree.of_bodySF (plainFor_of_name own_pn0) hisR ?_
  intro p e s m args below meth c s₁ Bd hml0 hP hK
  obtain ⟨rfl, hZ, hh⟩ := hP
  have hx := Bd.exec
  have hby := Bd.bytes
  have hml : c.maxLocals = 3 := hml0
  have hown : s.vm.findClass "com/example/rhone/rhone/tree/Utf8" = some m.cls := findClass_of_methodNamed Bd.named
  have hnm := (name_of_methodNamed Bd.named Bd.method).1
  have X0 : Stand p l e ({ frames := 0, cells := 0, slots := 0, locals := 0 } : Room) s m #[(.int lead), (.int ix), (.int un)] below meth c s₁ [] 0 0 := Stand.of_body Bd
  have e0 : s₁.heap = h0 := by rw [← hh, Bd.state]; rfl
  have N0 := Fr.nil n0
  have K0 : Keep h0 h0 [] := Keep.refl h0 _
  refine (?_ : OwnGo p.tables e below (fun UU' oo => ∃ rv LL, oo = .returned rv ∧ own_cont_Q Z lead ix un lo hi cl ch h0 n0 rv UU'.heap LL ∧ FrameEnd s oo UU' LL ({ frames := 0, cells := 0, slots := 0, locals := 0 } : Room).cells ({ frames := 0, cells := 0, slots := 0, locals := 0 } : Room).slots) _)
  refine OwnGo.back (s₁.setTop (mkF m 0 #[.val (.int lead), .val (.int ix), .val (.int un)] [])) (fun tg kk => castTop (own_cont_ef m lead ix un) kk) ?_
  refine OwnGo.back (s₁.setTop (mkF m 1 #[.val (.int lead), .val (.int ix), .val (.int un)] [(.int un)])) (fun tg kk => XS.iloadN X0.here hx rfl (hb hby own_d1_0) rfl kk) ?_
  refine OwnGo.back (s₁.setTop (mkF m 2 #[.val (.int lead), .val (.int ix), .val (.int un)] [(.int ix), (.int un)])) (fun tg kk => XS.iloadN X0.here hx rfl (hb hby own_d1_1) rfl kk) ?_
  refine OwnGo.back (s₁.setTop (mkF m 3 #[.val (.int lead), .val (.int ix), .val (.int un)] [(.int (1 : Int32)), (.int ix), (.int un)])) (fun tg kk => XS.iconst X0.here hx rfl (hb hby own_d1_2) kk) ?_
  by_cases hc1 : ix = (1 : Int32)
  ·
    refine OwnGo.back (s₁.setTop (mkF m 6 #[.val (.int lead), .val (.int ix), .val (.int un)] [(.int un)])) (fun tg kk => XS.icmpNo X0.here hx rfl (hb hby own_d1_3) rfl (teq hc1).2 kk) ?_
    obtain ⟨T2, X2, e2, st2⟩ := getS2 X0 hx hZ hown (host := "") (Or.inl (hw _ (List.mem_of_getElem? (i := 5) rfl))) Via.refl e0 SL (g := (mkF m 6 #[.val (.int lead), .val (.int ix), .val (.int un)] [(.int un)])) rfl (hb hby own_d1_6)
    refine OwnGo.back (T2.setTop (mkF m 9 #[.val (.int lead), .val (.int ix), .val (.int un)] [(.ref lo), (.int un)])) (fun tg kk => st2 _ kk) ?_
    refine OwnGo.back (T2.setTop (mkF m 10 #[.val (.int lead), .val (.int ix), .val (.int un)] [(.int lead), (.ref lo), (.int un)])) (fun tg kk => XS.iloadN X2.here hx rfl (hb hby own_d1_9) rfl kk) ?_
    obtain ⟨Ar3, S3, N3, G3⟩ := id KL
    have hin3 : ¬ (lead < 0 ∨ cl.slots.size ≤ (lead).toNatClampNeg) := inb_of S3 ⟨hl0, hl1⟩
    refine OwnGo.back (T2.setTop (mkF m 11 #[.val (.int lead), .val (.int ix), .val (.int un)] [(.int (atv cl lead)), (.int un)])) (fun tg kk => X2.iaload hx (j := lead) (v := (.int (atv cl lead))) (by rw [e2]; exact Ar3.1) (State.isArrayOf_alike hZ.alike Ar3.2.1) Ar3.2.2 hin3 (G3 _ hin3) (g := (mkF m 10 #[.val (.int lead), .val (.int ix), .val (.int un)] [(.int lead), (.ref lo), (.int un)])) rfl rfl (hb hby own_d1_10) _ kk) ?_
    refine OwnGo.back (T2.setTop (mkF m 17 #[.val (.int lead), .val (.int ix), .val (.int un)] [(.int (atv cl lead)), (.int un)])) (fun tg kk => XS.goto X2.here hx rfl (pc0 := 11) (pc' := 17) rfl (hb hby own_d1_11) (by decide) (by decide) kk) ?_
    by_cases hc4 : un < (atv cl lead)
    ·
      refine OwnGo.back (T2.setTop (mkF m 44 #[.val (.int lead), .val (.int ix), .val (.int un)] [])) (fun tg kk => XS.icmpYes X2.here hx rfl (pc0 := 17) (pc' := 44) rfl (hb hby own_d1_17) rfl (tlt hc4).1 (by decide) (by decide) kk) ?_
      refine OwnGo.back (T2.setTop (mkF m 45 #[.val (.int lead), .val (.int ix), .val (.int un)] [(.int (0 : Int32))])) (fun tg kk => XS.iconst X2.here hx rfl (hb hby own_d1_44) kk) ?_
      obtain ⟨fs, hr, hrun, hended, hW, hsame⟩ := X2.leave (v := some (.int (0 : Int32))) (fun h => by rw [Bd.returns] at h; cases h)
      refine ⟨_, _, ?_, hrun, hended, _, _, rfl, ?_, ⟨_, rfl⟩, hW, hsame.mono (by decide) (by decide)⟩
      · exact retN X2 hx (t := .boolean) Bd.returns (by simp) (hb hby own_d1_45) hr
      · show own_cont_Q Z lead ix un lo hi cl ch h0 n0 _ T2.heap _
        rw [e2]
        exact ⟨(0 : Int32), rfl, N0, rfl, (by (simp only [true_and, and_true, false_and, and_false, or_false, false_or, or_true, true_or, not_true_eq_false, not_false_eq_true, eq_self, Int32.lt_iff_toInt_lt, Int32.le_iff_toInt_le, ← Int32.toInt_inj, Int32.reduceToInt, Int64.lt_iff_toInt_lt, Int64.le_iff_toInt_le, ← Int64.toInt_inj, Int64.reduceToInt] at hc1 hc4 hl0 hl1 ⊢) <;> omega)⟩
    ·
      refine OwnGo.back (T2.setTop (mkF m 20 #[.val (.int lead), .val (.int ix), .val (.int un)] [])) (fun tg kk => XS.icmpNo X2.here hx rfl (hb hby own_d1_17) rfl (flt hc4).1 kk) ?_
      refine OwnGo.back (T2.setTop (mkF m 21 #[.val (.int lead), .val (.int ix), .val (.int un)] [(.int un)])) (fun tg kk => XS.iloadN X2.here hx rfl (hb hby own_d1_20) rfl kk) ?_
      refine OwnGo.back (T2.setTop (mkF m 22 #[.val (.int lead), .val (.int ix), .val (.int un)] [(.int ix), (.int un)])) (fun tg kk => XS.iloadN X2.here hx rfl (hb hby own_d1_21) rfl kk) ?_
      refine OwnGo.back (T2.setTop (mkF m 23 #[.val (.int lead), .val (.int ix), .val (.int un)] [(.int (1 : Int32)), (.int ix), (.int un)])) (fun tg kk => XS.iconst X2.here hx rfl (hb hby own_d1_22) kk) ?_
      refine OwnGo.back (T2.setTop (mkF m 26 #[.val (.int lead), .val (.int ix), .val (.int un)] [(.int un)])) (fun tg kk => XS.icmpNo X2.here hx rfl (hb hby own_d1_23) rfl (teq hc1).2 kk) ?_
      obtain ⟨T5, X5, e5, st5⟩ := getS2 X2 hx hZ hown (host := "") (Or.inl (hw _ (List.mem_of_getElem? (i := 7) rfl))) Via.refl e2 SH (g := (mkF m 26 #[.val (.int lead), .val (.int ix), .val (.int un)] [(.int un)])) rfl (hb hby own_d1_26)
      refine OwnGo.back (T5.setTop (mkF m 29 #[.val (.int lead), .val (.int ix), .val (.int un)] [(.ref hi), (.int un)])) (fun tg kk => st5 _ kk) ?_
      refine OwnGo.back (T5.setTop (mkF m 30 #[.val (.int lead), .val (.int ix), .val (.int un)] [(.int lead), (.ref hi), (.int un)])) (fun tg kk => XS.iloadN X5.here hx rfl (hb hby own_d1_29) rfl kk) ?_
      obtain ⟨Ar6, S6, N6, G6⟩ := id KH
      have hin6 : ¬ (lead < 0 ∨ ch.slots.size ≤ (lead).toNatClampNeg) := inb_of S6 ⟨hl0, hl1⟩
      refine OwnGo.back (T5.setTop (mkF m 31 #[.val (.int lead), .val (.int ix), .val (.int un)] [(.int (atv ch lead)), (.int un)])) (fun tg kk => X5.iaload hx (j := lead) (v := (.int (atv ch lead))) (by rw [e5]; exact Ar6.1) (State.isArrayOf_alike hZ.alike Ar6.2.1) Ar6.2.2 hin6 (G6 _ hin6) (g := (mkF m 30 #[.val (.int lead), .val (.int ix), .val (.int un)] [(.int lead), (.ref hi), (.int un)])) rfl rfl (hb hby own_d1_30) _ kk) ?_
      refine OwnGo.back (T5.setTop (mkF m 37 #[.val (.int lead), .val (.int ix), .val (.int un)] [(.int (atv ch lead)), (.int un)])) (fun tg kk => XS.goto X5.here hx rfl (pc0 := 31) (pc' := 37) rfl (hb hby own_d1_31) (by decide) (by decide) kk) ?_
      by_cases hc7 : (atv ch lead) < un
      ·
        refine OwnGo.back (T5.setTop (mkF m 44 #[.val (.int lead), .val (.int ix), .val (.int un)] [])) (fun tg kk => XS.icmpYes X5.here hx rfl (pc0 := 37) (pc' := 44) rfl (hb hby own_d1_37) rfl (tlt hc7).2.2.1 (by decide) (by decide) kk) ?_
        refine OwnGo.back (T5.setTop (mkF m 45 #[.val (.int lead), .val (.int ix), .val (.int un)] [(.int (0 : Int32))])) (fun tg kk => XS.iconst X5.here hx rfl (hb hby own_d1_44) kk) ?_
        obtain ⟨fs, hr, hrun, hended, hW, hsame⟩ := X5.leave (v := some (.int (0 : Int32))) (fun h => by rw [Bd.returns] at h; cases h)
        refine ⟨_, _, ?_, hrun, hended, _, _, rfl, ?_, ⟨_, rfl⟩, hW, hsame.mono (by decide) (by decide)⟩
        · exact retN X5 hx (t := .boolean) Bd.returns (by simp) (hb hby own_d1_45) hr
        · show own_cont_Q Z lead ix un lo hi cl ch h0 n0 _ T5.heap _
          rw [e5]
          exact ⟨(0 : Int32), rfl, N0, rfl, (by (simp only [true_and, and_true, false_and, and_false, or_false, false_or, or_true, true_or, not_true_eq_false, not_false_eq_true, eq_self, Int32.lt_iff_toInt_lt, Int32.le_iff_toInt_le, ← Int32.toInt_inj, Int32.reduceToInt, Int64.lt_iff_toInt_lt, Int64.le_iff_toInt_le, ← Int64.toInt_inj, Int64.reduceToInt] at hc1 hc4 hc7 hl0 hl1 ⊢) <;> omega)⟩
      ·
        refine OwnGo.back (T5.setTop (mkF m 40 #[.val (.int lead), .val (.int ix), .val (.int un)] [])) (fun tg kk => XS.icmpNo X5.here hx rfl (hb hby own_d1_37) rfl (flt hc7).2.2.1 kk) ?_
        refine OwnGo.back (T5.setTop (mkF m 41 #[.val (.int lead), .val (.int ix), .val (.int un)] [(.int (1 : Int32))])) (fun tg kk => XS.iconst X5.here hx rfl (hb hby own_d1_40) kk) ?_
        refine OwnGo.back (T5.setTop (mkF m 45 #[.val (.int lead), .val (.int ix), .val (.int un)] [(.int (1 : Int32))])) (fun tg kk => XS.goto X5.here hx rfl (pc0 := 41) (pc' := 45) rfl (hb hby own_d1_41) (by decide) (by decide) kk) ?_
        obtain ⟨fs, hr, hrun, hended, hW, hsame⟩ := X5.leave (v := some (.int (1 : Int32))) (fun h => by rw [Bd.returns] at h; cases h)
        refine ⟨_, _, ?_, hrun, hended, _, _, rfl, ?_, ⟨_, rfl⟩, hW, hsame.mono (by decide) (by decide)⟩
        · exact retN X5 hx (t := .boolean) Bd.returns (by simp) (hb hby own_d1_45) hr
        · show own_cont_Q Z lead ix un lo hi cl ch h0 n0 _ T5.heap _
          rw [e5]
          exact ⟨(1 : Int32), rfl, N0, rfl, (by (simp only [true_and, and_true, false_and, and_false, or_false, false_or, or_true, true_or, not_true_eq_false, not_false_eq_true, eq_self, Int32.lt_iff_toInt_lt, Int32.le_iff_toInt_le, ← Int32.toInt_inj, Int32.reduceToInt, Int64.lt_iff_toInt_lt, Int64.le_iff_toInt_le, ← Int64.toInt_inj, Int64.reduceToInt] at hc1 hc4 hc7 hl0 hl1 ⊢) <;> omega)⟩
  ·
    refine OwnGo.back (s₁.setTop (mkF m 14 #[.val (.int lead), .val (.int ix), .val (.int un)] [(.int un)])) (fun tg kk => XS.icmpYes X0.here hx rfl (pc0 := 3) (pc' := 14) rfl (hb hby own_d1_3) rfl (feq hc1).2 (by decide) (by decide) kk) ?_
    refine OwnGo.back (s₁.setTop (mkF m 17 #[.val (.int lead), .val (.int ix), .val (.int un)] [(.int (128 : Int32)), (.int un)])) (fun tg kk => XS.sipush X0.here hx rfl (hb hby own_d1_14) kk) ?_
    by_cases hc8 : un < (128 : Int32)
    ·
      refine OwnGo.back (s₁.setTop (mkF m 44 #[.val (.int lead), .val (.int ix), .val (.int un)] [])) (fun tg kk => XS.icmpYes X0.here hx rfl (pc0 := 17) (pc' := 44) rfl (hb hby own_d1_17) rfl (tlt hc8).1 (by decide) (by decide) kk) ?_
      refine OwnGo.back (s₁.setTop (mkF m 45 #[.val (.int lead), .val (.int ix), .val (.int un)] [(.int (0 : Int32))])) (fun tg kk => XS.iconst X0.here hx rfl (hb hby own_d1_44) kk) ?_
      obtain ⟨fs, hr, hrun, hended, hW, hsame⟩ := X0.leave (v := some (.int (0 : Int32))) (fun h => by rw [Bd.returns] at h; cases h)
      refine ⟨_, _, ?_, hrun, hended, _, _, rfl, ?_, ⟨_, rfl⟩, hW, hsame.mono (by decide) (by decide)⟩
      · exact retN X0 hx (t := .boolean) Bd.returns (by simp) (hb hby own_d1_45) hr
      · show own_cont_Q Z lead ix un lo hi cl ch h0 n0 _ s₁.heap _
        rw [e0]
        exact ⟨(0 : Int32), rfl, N0, rfl, (by (simp only [true_and, and_true, false_and, and_false, or_false, false_or, or_true, true_or, not_true_eq_false, not_false_eq_true, eq_self, Int32.lt_iff_toInt_lt, Int32.le_iff_toInt_le, ← Int32.toInt_inj, Int32.reduceToInt, Int64.lt_iff_toInt_lt, Int64.le_iff_toInt_le, ← Int64.toInt_inj, Int64.reduceToInt] at hc1 hc8 hl0 hl1 ⊢) <;> omega)⟩
    ·
      refine OwnGo.back (s₁.setTop (mkF m 20 #[.val (.int lead), .val (.int ix), .val (.int un)] [])) (fun tg kk => XS.icmpNo X0.here hx rfl (hb hby own_d1_17) rfl (flt hc8).1 kk) ?_
      refine OwnGo.back (s₁.setTop (mkF m 21 #[.val (.int lead), .val (.int ix), .val (.int un)] [(.int un)])) (fun tg kk => XS.iloadN X0.here hx rfl (hb hby own_d1_20) rfl kk) ?_
      refine OwnGo.back (s₁.setTop (mkF m 22 #[.val (.int lead), .val (.int ix), .val (.int un)] [(.int ix), (.int un)])) (fun tg kk => XS.iloadN X0.here hx rfl (hb hby own_d1_21) rfl kk) ?_
      refine OwnGo.back (s₁.setTop (mkF m 23 #[.val (.int lead), .val (.int ix), .val (.int un)] [(.int (1 : Int32)), (.int ix), (.int un)])) (fun tg kk => XS.iconst X0.here hx rfl (hb hby own_d1_22) kk) ?_
      refine OwnGo.back (s₁.setTop (mkF m 34 #[.val (.int lead), .val (.int ix), .val (.int un)] [(.int un)])) (fun tg kk => XS.icmpYes X0.here hx rfl (pc0 := 23) (pc' := 34) rfl (hb hby own_d1_23) rfl (feq hc1).2 (by decide) (by decide) kk) ?_
      refine OwnGo.back (s₁.setTop (mkF m 37 #[.val (.int lead), .val (.int ix), .val (.int un)] [(.int (191 : Int32)), (.int un)])) (fun tg kk => XS.sipush X0.here hx rfl (hb hby own_d1_34) kk) ?_
      by_cases hc9 : (191 : Int32) < un
      ·
        refine OwnGo.back (s₁.setTop (mkF m 44 #[.val (.int lead), .val (.int ix), .val (.int un)] [])) (fun tg kk => XS.icmpYes X0.here hx rfl (pc0 := 37) (pc' := 44) rfl (hb hby own_d1_37) rfl (tlt hc9).2.2.1 (by decide) (by decide) kk) ?_
        refine OwnGo.back (s₁.setTop (mkF m 45 #[.val (.int lead), .val (.int ix), .val (.int un)] [(.int (0 : Int32))])) (fun tg kk => XS.iconst X0.here hx rfl (hb hby own_d1_44) kk) ?_
        obtain ⟨fs, hr, hrun, hended, hW, hsame⟩ := X0.leave (v := some (.int (0 : Int32))) (fun h => by rw [Bd.returns] at h; cases h)
        refine ⟨_, _, ?_, hrun, hended, _, _, rfl, ?_, ⟨_, rfl⟩, hW, hsame.mono (by decide) (by decide)⟩
        · exact retN X0 hx (t := .boolean) Bd.returns (by simp) (hb hby own_d1_45) hr
        · show own_cont_Q Z lead ix un lo hi cl ch h0 n0 _ s₁.heap _
          rw [e0]
          exact ⟨(0 : Int32), rfl, N0, rfl, (by (simp only [true_and, and_true, false_and, and_false, or_false, false_or, or_true, true_or, not_true_eq_false, not_false_eq_true, eq_self, Int32.lt_iff_toInt_lt, Int32.le_iff_toInt_le, ← Int32.toInt_inj, Int32.reduceToInt, Int64.lt_iff_toInt_lt, Int64.le_iff_toInt_le, ← Int64.toInt_inj, Int64.reduceToInt] at hc1 hc8 hc9 hl0 hl1 ⊢) <;> omega)⟩
      ·
        refine OwnGo.back (s₁.setTop (mkF m 40 #[.val (.int lead), .val (.int ix), .val (.int un)] [])) (fun tg kk => XS.icmpNo X0.here hx rfl (hb hby own_d1_37) rfl (flt hc9).2.2.1 kk) ?_
        refine OwnGo.back (s₁.setTop (mkF m 41 #[.val (.int lead), .val (.int ix), .val (.int un)] [(.int (1 : Int32))])) (fun tg kk => XS.iconst X0.here hx rfl (hb hby own_d1_40) kk) ?_
        refine OwnGo.back (s₁.setTop (mkF m 45 #[.val (.int lead), .val (.int ix), .val (.int un)] [(.int (1 : Int32))])) (fun tg kk => XS.goto X0.here hx rfl (pc0 := 41) (pc' := 45) rfl (hb hby own_d1_41) (by decide) (by decide) kk) ?_
        obtain ⟨fs, hr, hrun, hended, hW, hsame⟩ := X0.leave (v := some (.int (1 : Int32))) (fun h => by rw [Bd.returns] at h; cases h)
        refine ⟨_, _, ?_, hrun, hended, _, _, rfl, ?_, ⟨_, rfl⟩, hW, hsame.mono (by decide) (by decide)⟩
        · exact retN X0 hx (t := .boolean) Bd.returns (by simp) (hb hby own_d1_45) hr
        · show own_cont_Q Z lead ix un lo hi cl ch h0 n0 _ s₁.heap _
          rw [e0]
          exact ⟨(1 : Int32), rfl, N0, rfl, (by (simp only [true_and, and_true, false_and, and_false, or_false, false_or, or_true, true_or, not_true_eq_false, not_false_eq_true, eq_self, Int32.lt_iff_toInt_lt, Int32.le_iff_toInt_le, ← Int32.toInt_inj, Int32.reduceToInt, Int64.lt_iff_toInt_lt, Int64.le_iff_toInt_le, ← Int64.toInt_inj, Int64.reduceToInt] at hc1 hc8 hc9 hl0 hl1 ⊢) <;> omega)⟩
def own_TL (cl : Cell) : Prop := ∀ j : Int32, 0 ≤ j.toInt → j.toInt < 256 → (j.toInt = 224 ∧ (atv cl j).toInt = 160) ∨ (j.toInt = 240 ∧ (atv cl j).toInt = 144) ∨ (j.toInt ≠ 224 ∧ j.toInt ≠ 240 ∧ (atv cl j).toInt = 128)
def own_TH (ch : Cell) : Prop := ∀ j : Int32, 0 ≤ j.toInt → j.toInt < 256 → (j.toInt = 237 ∧ (atv ch j).toInt = 159) ∨ (j.toInt = 244 ∧ (atv ch j).toInt = 143) ∨ (j.toInt ≠ 237 ∧ j.toInt ≠ 244 ∧ (atv ch j).toInt = 191)
theorem own_ld (x : Int32) : 194 ≤ ((194 : Int32) + ((x &&& (2147483647 : Int32)) % (51 : Int32))).toInt ∧ ((194 : Int32) + ((x &&& (2147483647 : Int32)) % (51 : Int32))).toInt ≤ 244 := by
  have h := c_mask x 2147483647 31 (by decide) (by decide)
  have h2 := (c_irem (x &&& 2147483647) 51 51 (by decide)).1 (by omega)
  have h3 := c_iadd 194 ((x &&& 2147483647) % 51)
  have r := rng32 ((194 : Int32) + (x &&& 2147483647) % 51)
  simp only [Int32.reduceToInt] at *
  omega
theorem own_ix {x m : Int32} (hm : 2 ≤ m.toInt ∧ m.toInt ≤ 4) : 1 ≤ ((1 : Int32) + ((x &&& (2147483647 : Int32)) % (m - (1 : Int32)))).toInt ∧ ((1 : Int32) + ((x &&& (2147483647 : Int32)) % (m - (1 : Int32)))).toInt < m.toInt := by
  have h := c_mask x 2147483647 31 (by decide) (by decide)
  have s := c_isub m 1
  have rs := rng32 (m - 1)
  simp only [Int32.reduceToInt] at s
  have h2 := (c_iremV (x &&& 2147483647) (m - 1)).1 (by omega) (by omega)
  have h3 := c_iadd 1 ((x &&& 2147483647) % (m - 1))
  have r := rng32 ((1 : Int32) + (x &&& 2147483647) % (m - 1))
  simp only [Int32.reduceToInt] at *
  omega
theorem own_nz {m : Int32} (hm : 2 ≤ m.toInt ∧ m.toInt ≤ 4) : (m - (1 : Int32)) ≠ 0 := by
  have s := c_isub m 1
  have rs := rng32 (m - 1)
  rw [ne_eq, ← Int32.toInt_inj]
  simp only [Int32.reduceToInt] at *
  omega
theorem own_un (x : Int32) : 0 ≤ (x &&& (255 : Int32)).toInt ∧ (x &&& (255 : Int32)).toInt < 256 := by
  have h := c_mask x 255 8 (by decide) (by decide)
  omega
theorem own_c0 {u : Int32} (h : 0 ≤ u.toInt ∧ u.toInt < 256) : ((u &&& (192 : Int32)) = (128 : Int32)) ↔ (128 ≤ u.toInt ∧ u.toInt ≤ 191) := by
  obtain ⟨k, hk⟩ : ∃ k : Fin 256, u = Int32.ofNat k.val := by
    refine ⟨⟨u.toInt.toNat, by omega⟩, ?_⟩
    have e := Int32.toInt_ofNat_of_lt (n := u.toInt.toNat) (by omega)
    rw [← Int32.toInt_inj, e]
    omega
  rw [hk]
  exact (show ∀ k : Fin 256, ((Int32.ofNat k.val &&& (192 : Int32)) = (128 : Int32)) ↔ (128 ≤ (Int32.ofNat k.val).toInt ∧ (Int32.ofNat k.val).toInt ≤ 191) by decide +kernel) k
theorem own_p3 (ld u : Int32) : (((ld &&& (15 : Int32)) <<< ((6 : Int32) &&& 31)) ||| (u &&& (63 : Int32))).toInt = (ld.toInt % 16) * 64 + u.toInt % 64 := by
  have a := c_mask ld 15 4 (by decide) (by decide)
  have b := c_mask u 63 6 (by decide) (by decide)
  have s := c_ishl (ld &&& 15) 6 6 (by decide)
  have o := c_or ((ld &&& 15) <<< ((6 : Int32) &&& 31)) (u &&& 63) 6 (by decide) 64 (by decide)
  have r1 := rng32 ((ld &&& 15) <<< ((6 : Int32) &&& 31))
  have r2 := rng32 (((ld &&& 15) <<< ((6 : Int32) &&& 31)) ||| (u &&& 63))
  have q : ((ld &&& 15) <<< ((6 : Int32) &&& 31)).toInt = (ld.toInt % 16) * 64 := by
    rw [a] at s
    omega
  have o' := o (by omega) (by omega) (by omega)
  omega
theorem own_p4 (ld u : Int32) : (((ld &&& (7 : Int32)) <<< ((6 : Int32) &&& 31)) ||| (u &&& (63 : Int32))).toInt = (ld.toInt % 8) * 64 + u.toInt % 64 := by
  have a := c_mask ld 7 3 (by decide) (by decide)
  have b := c_mask u 63 6 (by decide) (by decide)
  have s := c_ishl (ld &&& 7) 6 6 (by decide)
  have o := c_or ((ld &&& 7) <<< ((6 : Int32) &&& 31)) (u &&& 63) 6 (by decide) 64 (by decide)
  have r1 := rng32 ((ld &&& 7) <<< ((6 : Int32) &&& 31))
  have r2 := rng32 (((ld &&& 7) <<< ((6 : Int32) &&& 31)) ||| (u &&& 63))
  have q : ((ld &&& 7) <<< ((6 : Int32) &&& 31)).toInt = (ld.toInt % 8) * 64 := by
    rw [a] at s
    omega
  have o' := o (by omega) (by omega) (by omega)
  omega
theorem own_every {args : Array Value} {s : State} {t : Term} {X : Jvm.Cond} {a : Addr} {cl : Cell} (ht : t.eval args s none [] s = some (.ref a)) (A : Arr s s.heap a cl .int) (h : (Jvm.Cond.all t X).value args s none s [] = some true) (hz : cl.slots.size = 256) {j : Int32} (h0 : 0 ≤ j.toInt) (h1 : j.toInt < 256) : X.value args s none s [j.toNatClampNeg] = some true :=
  Cond.all_elim ht (A.fin (Vm.Alike.refl _)) h _ (by have e : j.toNatClampNeg = j.toInt.toNat := rfl; omega)
theorem own_eqI {args : Array Value} {first s : State} {o : Option Outcome} {idx : List Nat} {t : Term} {k : Int32} (h : (Jvm.Cond.eq t (.int k)).value args first o s idx = some true) : t.eval args first o idx s = some (.int k) := by
  obtain ⟨x, y, h1, h2, k1, k2⟩ := cmp_v (Or.inl h)
  have e : y = .int k := Option.some.inj (h2.symm.trans rfl)
  subst e
  obtain ⟨z, rfl⟩ := k2
  have q : z = k := by simpa [Cond.value, h1, h2] using h
  rw [h1, q]
theorem own_size {args : Array Value} {s : State} {t : Term} {a : Addr} {cl : Cell} {ty : FieldType} (ht : t.eval args s none [] s = some (.ref a)) (A : Arr s s.heap a cl ty) (h : (Jvm.Cond.eq (.length t) (.int 256)).value args s none s [] = some true) : cl.slots.size = 256 ∧ cl.slots.size < 2 ^ 31 := by
  have q := own_eqI h
  have h3 : cl.slots.size < 2 ^ 31 := by
    rcases Decidable.em (cl.slots.size < 2 ^ 31) with h' | h'
    · exact h'
    · simp [Term.eval, ht, A.fin (Vm.Alike.refl _), h'] at q
  have h4 := Value.int.inj (Option.some.inj ((len_f ht (A.fin (Vm.Alike.refl _)) h3).symm.trans q))
  have e := len_toInt h3
  rw [h4] at e
  have : (256 : Int32).toInt = 256 := rfl
  exact ⟨by omega, h3⟩
theorem own_elt {args : Array Value} {s : State} {t u : Term} {a : Addr} {cl : Cell} {k j : Int32} {idx : List Nat} (ht : t.eval args s none idx s = some (.ref a)) (A : Arr s s.heap a cl .int) (hu : u.eval args s none idx s = some (.int j)) (h0 : 0 ≤ j.toInt) (h : (Jvm.Cond.eq (.elem t u) (.int k)).value args s none s idx = some true) : atv cl j = k := by
  have q := own_eqI h
  rw [elem_f ht hu (A.fin (Vm.Alike.refl _)) (by rw [Int32.lt_iff_toInt_lt]; exact Int.not_lt.mpr h0)] at q
  exact atv_of q
theorem own_sum {args : Array Value} {s : State} {idx : List Nat} {c d : Jvm.Cond} (h : (Jvm.Cond.or c d).value args s none s idx = some true) : c.value args s none s idx = some true ∨ d.value args s none s idx = some true := by
  simp only [Cond.value] at h
  cases hc : c.value args s none s idx with
  | none => simp [hc] at h
  | some x =>
    cases x with
    | true => exact Or.inl rfl
    | false => simp [hc] at h; exact Or.inr h
theorem own_idx {args : Array Value} {s : State} {j : Int32} (h0 : 0 ≤ j.toInt) : (Term.index 0).eval args s none [j.toNatClampNeg] s = some (.int j) := idx_at (by rw [Int32.lt_iff_toInt_lt]; exact Int.not_lt.mpr h0)
theorem own_le {args : Array Value} {s : State} {j k : Int32} (h0 : 0 ≤ j.toInt) (h : (Jvm.Cond.le (.int k) (.index 0)).value args s none s [j.toNatClampNeg] = some true) : k.toInt ≤ j.toInt := by
  have q := gotT (P := k ≤ j) (Cond.le_ints (Term.int_eval k) (own_idx h0)) h
  exact Int32.le_iff_toInt_le.mp q
theorem own_lt {args : Array Value} {s : State} {j k : Int32} (h0 : 0 ≤ j.toInt) (h : (Jvm.Cond.lt (.index 0) (.int k)).value args s none s [j.toNatClampNeg] = some true) : j.toInt < k.toInt := by
  have q := gotT (P := j < k) (Cond.lt_ints (own_idx h0) (Term.int_eval k)) h
  exact Int32.lt_iff_toInt_lt.mp q
theorem own_law_ef (m : MethodId) (x0 : Int32) (x1 : Int32) (x2 : Int32) : entryFrame m #[(.int x0), (.int x1), (.int x2)] maxLocals = mkF m 0 #[.val (.int x0), .val (.int x1), .val (.int x2), .unset, .unset, .unset, .unset, .unset, .unset, .unset] [] := by first | (simp [entryFrame, mkF, argsToLocals, Value.category, maxLocals]; done) | rfl
def own_law_Q (Z : State) (p1 : Int32) (p2 : Int32) (p3 : Int32) (lo : Addr) (hi : Addr) (cl : Cell) (ch : Cell) (h0 : Heap) (n0 : Nat) (rv : Option Value) (hN : Heap) (LL : List Loc) : Prop := rv = some (.int (1 : Int32)) ∧ Fr n0 LL ∧ hN = h0
set_option maxRecDepth 65536 in
set_option maxHeartbeats 40000000 in
theorem own_law (l : Launch) (Z : State) (a0 : Array Value) (hw : ∀ d ∈ tables_1, d.before a0 Z = true) (ws : List Jvm.Cond) (p1 : Int32) (p2 : Int32) (p3 : Int32) (lo : Addr) (hi : Addr) (cl : Cell) (ch : Cell) (h0 : Heap) (n0 : Nat) (Z0 : n0 ≤ h0.size) (SL : Sta Z h0 "com/example/rhone/rhone/tree/Utf8" "LOW" "[I" (.ref lo)) (SH : Sta Z h0 "com/example/rhone/rhone/tree/Utf8" "HIGH" "[I" (.ref hi)) (KL : Scr Z h0 lo cl (256 : Int32)) (KH : Scr Z h0 hi ch (256 : Int32)) (tL : own_TL cl) (tH : own_TH ch) :
    MetFree l x (head1 (Jvm.Cond.code x code maxLocals ret :: ws) room_1) (fun aa UU => aa = #[(.int p1), (.int p2), (.int p3)] ∧ Z.Warmed39 UU.vm ∧ UU.heap = h0) (fun _ _ _ _ _ => True) (fun _ UU oo UU' => ∃ rv LL, oo = .returned rv ∧ own_law_Q Z p1 p2 p3 lo hi cl ch h0 n0 rv UU'.heap LL ∧ FrameEnd UU oo UU' LL room_1.cells room_1.slots) := by
  refine MetFree.of_bodySF (plainFor_of_name own_pn1) hisR ?_
  intro p e s m args below meth c s₁ Bd hml0 hP hK
  obtain ⟨rfl, hZ, hh⟩ := hP
  have hx := Bd.exec
  have hby := Bd.bytes
  have hml : c.maxLocals = 10 := hml0
  have hown : s.vm.findClass "com/example/rhone/rhone/tree/Utf8ContinuesPinLaw" = some m.cls := findClass_of_methodNamed Bd.named
  have hnm := (name_of_methodNamed Bd.named Bd.method).1
  have X0 : Stand p l e room_1 s m #[(.int p1), (.int p2), (.int p3)] below meth c s₁ [] 0 0 := Stand.of_body Bd
  have e0 : s₁.heap = h0 := by rw [← hh, Bd.state]; rfl
  have N0 := Fr.nil n0
  have K0 : Keep h0 h0 [] := Keep.refl h0 _
  refine (?_ : OwnGo p.tables e below (fun UU' oo => ∃ rv LL, oo = .returned rv ∧ own_law_Q Z p1 p2 p3 lo hi cl ch h0 n0 rv UU'.heap LL ∧ FrameEnd s oo UU' LL room_1.cells room_1.slots) _)
  refine OwnGo.back (s₁.setTop (mkF m 0 #[.val (.int p1), .val (.int p2), .val (.int p3), .unset, .unset, .unset, .unset, .unset, .unset, .unset] [])) (fun tg kk => castTop (own_law_ef m p1 p2 p3) kk) ?_
  refine OwnGo.back (s₁.setTop (mkF m 3 #[.val (.int p1), .val (.int p2), .val (.int p3), .unset, .unset, .unset, .unset, .unset, .unset, .unset] [(.int (194 : Int32))])) (fun tg kk => XS.sipush X0.here hx rfl (hb hby at_0) kk) ?_
  refine OwnGo.back (s₁.setTop (mkF m 4 #[.val (.int p1), .val (.int p2), .val (.int p3), .unset, .unset, .unset, .unset, .unset, .unset, .unset] [(.int p1), (.int (194 : Int32))])) (fun tg kk => XS.iloadN X0.here hx rfl (hb hby at_3) rfl kk) ?_
  refine OwnGo.back (s₁.setTop (mkF m 6 #[.val (.int p1), .val (.int p2), .val (.int p3), .unset, .unset, .unset, .unset, .unset, .unset, .unset] [(.int (2147483647 : Int32)), (.int p1), (.int (194 : Int32))])) (fun tg kk => Jvm.Stand.ldcI X0 hx hown (mvT hZ (hw _ (List.mem_of_getElem? (i := 0) rfl))) rfl (hb hby at_4) kk) ?_
  refine OwnGo.back (s₁.setTop (mkF m 7 #[.val (.int p1), .val (.int p2), .val (.int p3), .unset, .unset, .unset, .unset, .unset, .unset, .unset] [(.int (p1 &&& (2147483647 : Int32))), (.int (194 : Int32))])) (fun tg kk => XS.iand X0.here hx rfl (hb hby at_6) rfl kk) ?_
  refine OwnGo.back (s₁.setTop (mkF m 9 #[.val (.int p1), .val (.int p2), .val (.int p3), .unset, .unset, .unset, .unset, .unset, .unset, .unset] [(.int (51 : Int32)), (.int (p1 &&& (2147483647 : Int32))), (.int (194 : Int32))])) (fun tg kk => XS.bipush X0.here hx rfl (hb hby at_7) kk) ?_
  refine OwnGo.back (s₁.setTop (mkF m 10 #[.val (.int p1), .val (.int p2), .val (.int p3), .unset, .unset, .unset, .unset, .unset, .unset, .unset] [(.int ((p1 &&& (2147483647 : Int32)) % (51 : Int32))), (.int (194 : Int32))])) (fun tg kk => iremM X0 hx rfl (hb hby at_9) rfl (by decide) kk) ?_
  refine OwnGo.back (s₁.setTop (mkF m 11 #[.val (.int p1), .val (.int p2), .val (.int p3), .unset, .unset, .unset, .unset, .unset, .unset, .unset] [(.int ((194 : Int32) + ((p1 &&& (2147483647 : Int32)) % (51 : Int32))))])) (fun tg kk => XS.iadd X0.here hx rfl (hb hby at_10) rfl kk) ?_
  obtain ⟨ld, hld⟩ : ∃ z, z = ((194 : Int32) + ((p1 &&& (2147483647 : Int32)) % (51 : Int32))) := ⟨_, rfl⟩
  have rld := own_ld p1
  rw [← hld] at rld
  rw [← hld]
  refine OwnGo.back (s₁.setTop (mkF m 12 #[.val (.int p1), .val (.int p2), .val (.int p3), .val (.int ld), .unset, .unset, .unset, .unset, .unset, .unset] [])) (fun tg kk => XS.istoreN X0.here hx rfl (hb hby at_11) rfl (l' := #[.val (.int p1), .val (.int p2), .val (.int p3), .val (.int ld), .unset, .unset, .unset, .unset, .unset, .unset]) rfl kk) ?_
  obtain ⟨_, ⟨m3, rfl, hm4⟩, dm5⟩ : OwnMg p.tables e below (fun st' => ∃ (m3 : Int32), st' = s₁.setTop (mkF m 35 #[.val (.int p1), .val (.int p2), .val (.int p3), .val (.int ld), .unset, .unset, .unset, .unset, .unset, .unset] [(.int m3)]) ∧ ((((223 : Int32) < ld) ∧ ((239 : Int32) < ld) ∧ m3 = (4 : Int32)) ∨ (((223 : Int32) < ld) ∧ (¬ ((239 : Int32) < ld)) ∧ m3 = (3 : Int32)) ∨ ((¬ ((223 : Int32) < ld)) ∧ m3 = (2 : Int32)))) (s₁.setTop (mkF m 12 #[.val (.int p1), .val (.int p2), .val (.int p3), .val (.int ld), .unset, .unset, .unset, .unset, .unset, .unset] [])) := by
    refine OwnMg.back (s₁.setTop (mkF m 13 #[.val (.int p1), .val (.int p2), .val (.int p3), .val (.int ld), .unset, .unset, .unset, .unset, .unset, .unset] [(.int ld)])) (fun tg kk => XS.iloadN X0.here hx rfl (hb hby at_12) rfl kk) ?_
    refine OwnMg.back (s₁.setTop (mkF m 16 #[.val (.int p1), .val (.int p2), .val (.int p3), .val (.int ld), .unset, .unset, .unset, .unset, .unset, .unset] [(.int (223 : Int32)), (.int ld)])) (fun tg kk => XS.sipush X0.here hx rfl (hb hby at_13) kk) ?_
    by_cases hc11 : (223 : Int32) < ld
    ·
      refine OwnMg.back (s₁.setTop (mkF m 23 #[.val (.int p1), .val (.int p2), .val (.int p3), .val (.int ld), .unset, .unset, .unset, .unset, .unset, .unset] [])) (fun tg kk => XS.icmpYes X0.here hx rfl (pc0 := 16) (pc' := 23) rfl (hb hby at_16) rfl (tlt hc11).2.2.1 (by decide) (by decide) kk) ?_
      refine OwnMg.back (s₁.setTop (mkF m 24 #[.val (.int p1), .val (.int p2), .val (.int p3), .val (.int ld), .unset, .unset, .unset, .unset, .unset, .unset] [(.int ld)])) (fun tg kk => XS.iloadN X0.here hx rfl (hb hby at_23) rfl kk) ?_
      refine OwnMg.back (s₁.setTop (mkF m 27 #[.val (.int p1), .val (.int p2), .val (.int p3), .val (.int ld), .unset, .unset, .unset, .unset, .unset, .unset] [(.int (239 : Int32)), (.int ld)])) (fun tg kk => XS.sipush X0.here hx rfl (hb hby at_24) kk) ?_
      by_cases hc12 : (239 : Int32) < ld
      ·
        refine OwnMg.back (s₁.setTop (mkF m 34 #[.val (.int p1), .val (.int p2), .val (.int p3), .val (.int ld), .unset, .unset, .unset, .unset, .unset, .unset] [])) (fun tg kk => XS.icmpYes X0.here hx rfl (pc0 := 27) (pc' := 34) rfl (hb hby at_27) rfl (tlt hc12).2.2.1 (by decide) (by decide) kk) ?_
        refine OwnMg.back (s₁.setTop (mkF m 35 #[.val (.int p1), .val (.int p2), .val (.int p3), .val (.int ld), .unset, .unset, .unset, .unset, .unset, .unset] [(.int (4 : Int32))])) (fun tg kk => XS.iconst X0.here hx rfl (hb hby at_34) kk) ?_
        exact ⟨_, ⟨(4 : Int32), rfl, Or.inl ⟨hc11, hc12, rfl⟩⟩, fun tg kk => kk⟩
      ·
        refine OwnMg.back (s₁.setTop (mkF m 30 #[.val (.int p1), .val (.int p2), .val (.int p3), .val (.int ld), .unset, .unset, .unset, .unset, .unset, .unset] [])) (fun tg kk => XS.icmpNo X0.here hx rfl (hb hby at_27) rfl (flt hc12).2.2.1 kk) ?_
        refine OwnMg.back (s₁.setTop (mkF m 31 #[.val (.int p1), .val (.int p2), .val (.int p3), .val (.int ld), .unset, .unset, .unset, .unset, .unset, .unset] [(.int (3 : Int32))])) (fun tg kk => XS.iconst X0.here hx rfl (hb hby at_30) kk) ?_
        refine OwnMg.back (s₁.setTop (mkF m 35 #[.val (.int p1), .val (.int p2), .val (.int p3), .val (.int ld), .unset, .unset, .unset, .unset, .unset, .unset] [(.int (3 : Int32))])) (fun tg kk => XS.goto X0.here hx rfl (pc0 := 31) (pc' := 35) rfl (hb hby at_31) (by decide) (by decide) kk) ?_
        exact ⟨_, ⟨(3 : Int32), rfl, Or.inr (Or.inl ⟨hc11, hc12, rfl⟩)⟩, fun tg kk => kk⟩
    ·
      refine OwnMg.back (s₁.setTop (mkF m 19 #[.val (.int p1), .val (.int p2), .val (.int p3), .val (.int ld), .unset, .unset, .unset, .unset, .unset, .unset] [])) (fun tg kk => XS.icmpNo X0.here hx rfl (hb hby at_16) rfl (flt hc11).2.2.1 kk) ?_
      refine OwnMg.back (s₁.setTop (mkF m 20 #[.val (.int p1), .val (.int p2), .val (.int p3), .val (.int ld), .unset, .unset, .unset, .unset, .unset, .unset] [(.int (2 : Int32))])) (fun tg kk => XS.iconst X0.here hx rfl (hb hby at_19) kk) ?_
      refine OwnMg.back (s₁.setTop (mkF m 35 #[.val (.int p1), .val (.int p2), .val (.int p3), .val (.int ld), .unset, .unset, .unset, .unset, .unset, .unset] [(.int (2 : Int32))])) (fun tg kk => XS.goto X0.here hx rfl (pc0 := 20) (pc' := 35) rfl (hb hby at_20) (by decide) (by decide) kk) ?_
      exact ⟨_, ⟨(2 : Int32), rfl, Or.inr (Or.inr (⟨hc11, rfl⟩))⟩, fun tg kk => kk⟩
  refine OwnGo.back (s₁.setTop (mkF m 35 #[.val (.int p1), .val (.int p2), .val (.int p3), .val (.int ld), .unset, .unset, .unset, .unset, .unset, .unset] [(.int m3)])) dm5 ?_
  have rm : 2 ≤ m3.toInt ∧ m3.toInt ≤ 4 := by simp only [true_and, and_true, false_and, and_false, or_false, false_or, or_true, true_or, not_true_eq_false, not_false_eq_true, eq_self, Int32.lt_iff_toInt_lt, Int32.le_iff_toInt_le, ← Int32.toInt_inj, Int32.reduceToInt, Int64.lt_iff_toInt_lt, Int64.le_iff_toInt_le, ← Int64.toInt_inj, Int64.reduceToInt] at hm4; omega
  refine OwnGo.back (s₁.setTop (mkF m 37 #[.val (.int p1), .val (.int p2), .val (.int p3), .val (.int ld), .val (.int m3), .unset, .unset, .unset, .unset, .unset] [])) (fun tg kk => XS.istore X0.here hx rfl (hb hby at_35) rfl (l' := #[.val (.int p1), .val (.int p2), .val (.int p3), .val (.int ld), .val (.int m3), .unset, .unset, .unset, .unset, .unset]) rfl kk) ?_
  refine OwnGo.back (s₁.setTop (mkF m 38 #[.val (.int p1), .val (.int p2), .val (.int p3), .val (.int ld), .val (.int m3), .unset, .unset, .unset, .unset, .unset] [(.int (1 : Int32))])) (fun tg kk => XS.iconst X0.here hx rfl (hb hby at_37) kk) ?_
  refine OwnGo.back (s₁.setTop (mkF m 39 #[.val (.int p1), .val (.int p2), .val (.int p3), .val (.int ld), .val (.int m3), .unset, .unset, .unset, .unset, .unset] [(.int p2), (.int (1 : Int32))])) (fun tg kk => XS.iloadN X0.here hx rfl (hb hby at_38) rfl kk) ?_
  refine OwnGo.back (s₁.setTop (mkF m 41 #[.val (.int p1), .val (.int p2), .val (.int p3), .val (.int ld), .val (.int m3), .unset, .unset, .unset, .unset, .unset] [(.int (2147483647 : Int32)), (.int p2), (.int (1 : Int32))])) (fun tg kk => Jvm.Stand.ldcI X0 hx hown (mvT hZ (hw _ (List.mem_of_getElem? (i := 0) rfl))) rfl (hb hby at_39) kk) ?_
  refine OwnGo.back (s₁.setTop (mkF m 42 #[.val (.int p1), .val (.int p2), .val (.int p3), .val (.int ld), .val (.int m3), .unset, .unset, .unset, .unset, .unset] [(.int (p2 &&& (2147483647 : Int32))), (.int (1 : Int32))])) (fun tg kk => XS.iand X0.here hx rfl (hb hby at_41) rfl kk) ?_
  refine OwnGo.back (s₁.setTop (mkF m 44 #[.val (.int p1), .val (.int p2), .val (.int p3), .val (.int ld), .val (.int m3), .unset, .unset, .unset, .unset, .unset] [(.int m3), (.int (p2 &&& (2147483647 : Int32))), (.int (1 : Int32))])) (fun tg kk => XS.iload X0.here hx rfl (hb hby at_42) rfl kk) ?_
  refine OwnGo.back (s₁.setTop (mkF m 45 #[.val (.int p1), .val (.int p2), .val (.int p3), .val (.int ld), .val (.int m3), .unset, .unset, .unset, .unset, .unset] [(.int (1 : Int32)), (.int m3), (.int (p2 &&& (2147483647 : Int32))), (.int (1 : Int32))])) (fun tg kk => XS.iconst X0.here hx rfl (hb hby at_44) kk) ?_
  refine OwnGo.back (s₁.setTop (mkF m 46 #[.val (.int p1), .val (.int p2), .val (.int p3), .val (.int ld), .val (.int m3), .unset, .unset, .unset, .unset, .unset] [(.int (m3 - (1 : Int32))), (.int (p2 &&& (2147483647 : Int32))), (.int (1 : Int32))])) (fun tg kk => XS.isub X0.here hx rfl (hb hby at_45) rfl kk) ?_
  refine OwnGo.back (s₁.setTop (mkF m 47 #[.val (.int p1), .val (.int p2), .val (.int p3), .val (.int ld), .val (.int m3), .unset, .unset, .unset, .unset, .unset] [(.int ((p2 &&& (2147483647 : Int32)) % (m3 - (1 : Int32)))), (.int (1 : Int32))])) (fun tg kk => iremM X0 hx rfl (hb hby at_46) rfl (own_nz rm) kk) ?_
  refine OwnGo.back (s₁.setTop (mkF m 48 #[.val (.int p1), .val (.int p2), .val (.int p3), .val (.int ld), .val (.int m3), .unset, .unset, .unset, .unset, .unset] [(.int ((1 : Int32) + ((p2 &&& (2147483647 : Int32)) % (m3 - (1 : Int32)))))])) (fun tg kk => XS.iadd X0.here hx rfl (hb hby at_47) rfl kk) ?_
  obtain ⟨ix, hix⟩ : ∃ z, z = ((1 : Int32) + ((p2 &&& (2147483647 : Int32)) % (m3 - (1 : Int32)))) := ⟨_, rfl⟩
  have rix := own_ix (x := p2) rm
  rw [← hix] at rix
  rw [← hix]
  refine OwnGo.back (s₁.setTop (mkF m 50 #[.val (.int p1), .val (.int p2), .val (.int p3), .val (.int ld), .val (.int m3), .val (.int ix), .unset, .unset, .unset, .unset] [])) (fun tg kk => XS.istore X0.here hx rfl (hb hby at_48) rfl (l' := #[.val (.int p1), .val (.int p2), .val (.int p3), .val (.int ld), .val (.int m3), .val (.int ix), .unset, .unset, .unset, .unset]) rfl kk) ?_
  refine OwnGo.back (s₁.setTop (mkF m 51 #[.val (.int p1), .val (.int p2), .val (.int p3), .val (.int ld), .val (.int m3), .val (.int ix), .unset, .unset, .unset, .unset] [(.int p3)])) (fun tg kk => XS.iloadN X0.here hx rfl (hb hby at_50) rfl kk) ?_
  refine OwnGo.back (s₁.setTop (mkF m 54 #[.val (.int p1), .val (.int p2), .val (.int p3), .val (.int ld), .val (.int m3), .val (.int ix), .unset, .unset, .unset, .unset] [(.int (255 : Int32)), (.int p3)])) (fun tg kk => XS.sipush X0.here hx rfl (hb hby at_51) kk) ?_
  refine OwnGo.back (s₁.setTop (mkF m 55 #[.val (.int p1), .val (.int p2), .val (.int p3), .val (.int ld), .val (.int m3), .val (.int ix), .unset, .unset, .unset, .unset] [(.int (p3 &&& (255 : Int32)))])) (fun tg kk => XS.iand X0.here hx rfl (hb hby at_54) rfl kk) ?_
  obtain ⟨un, hun⟩ : ∃ z, z = (p3 &&& (255 : Int32)) := ⟨_, rfl⟩
  have run := own_un p3
  rw [← hun] at run
  rw [← hun]
  refine OwnGo.back (s₁.setTop (mkF m 57 #[.val (.int p1), .val (.int p2), .val (.int p3), .val (.int ld), .val (.int m3), .val (.int ix), .val (.int un), .unset, .unset, .unset] [])) (fun tg kk => XS.istore X0.here hx rfl (hb hby at_55) rfl (l' := #[.val (.int p1), .val (.int p2), .val (.int p3), .val (.int ld), .val (.int m3), .val (.int ix), .val (.int un), .unset, .unset, .unset]) rfl kk) ?_
  obtain ⟨_, ⟨m14, rfl, hm15⟩, dm16⟩ : OwnMg p.tables e below (fun st' => ∃ (m14 : Int32), st' = s₁.setTop (mkF m 74 #[.val (.int p1), .val (.int p2), .val (.int p3), .val (.int ld), .val (.int m3), .val (.int ix), .val (.int un), .unset, .unset, .unset] [(.int m14)]) ∧ ((((un &&& (192 : Int32)) = (128 : Int32)) ∧ m14 = (1 : Int32)) ∨ ((¬ ((un &&& (192 : Int32)) = (128 : Int32))) ∧ m14 = (0 : Int32)))) (s₁.setTop (mkF m 57 #[.val (.int p1), .val (.int p2), .val (.int p3), .val (.int ld), .val (.int m3), .val (.int ix), .val (.int un), .unset, .unset, .unset] [])) := by
    refine OwnMg.back (s₁.setTop (mkF m 59 #[.val (.int p1), .val (.int p2), .val (.int p3), .val (.int ld), .val (.int m3), .val (.int ix), .val (.int un), .unset, .unset, .unset] [(.int un)])) (fun tg kk => XS.iload X0.here hx rfl (hb hby at_57) rfl kk) ?_
    refine OwnMg.back (s₁.setTop (mkF m 62 #[.val (.int p1), .val (.int p2), .val (.int p3), .val (.int ld), .val (.int m3), .val (.int ix), .val (.int un), .unset, .unset, .unset] [(.int (192 : Int32)), (.int un)])) (fun tg kk => XS.sipush X0.here hx rfl (hb hby at_59) kk) ?_
    refine OwnMg.back (s₁.setTop (mkF m 63 #[.val (.int p1), .val (.int p2), .val (.int p3), .val (.int ld), .val (.int m3), .val (.int ix), .val (.int un), .unset, .unset, .unset] [(.int (un &&& (192 : Int32)))])) (fun tg kk => XS.iand X0.here hx rfl (hb hby at_62) rfl kk) ?_
    refine OwnMg.back (s₁.setTop (mkF m 66 #[.val (.int p1), .val (.int p2), .val (.int p3), .val (.int ld), .val (.int m3), .val (.int ix), .val (.int un), .unset, .unset, .unset] [(.int (128 : Int32)), (.int (un &&& (192 : Int32)))])) (fun tg kk => XS.sipush X0.here hx rfl (hb hby at_63) kk) ?_
    by_cases hc22 : (un &&& (192 : Int32)) = (128 : Int32)
    ·
      refine OwnMg.back (s₁.setTop (mkF m 69 #[.val (.int p1), .val (.int p2), .val (.int p3), .val (.int ld), .val (.int m3), .val (.int ix), .val (.int un), .unset, .unset, .unset] [])) (fun tg kk => XS.icmpNo X0.here hx rfl (hb hby at_66) rfl (teq hc22).2 kk) ?_
      refine OwnMg.back (s₁.setTop (mkF m 70 #[.val (.int p1), .val (.int p2), .val (.int p3), .val (.int ld), .val (.int m3), .val (.int ix), .val (.int un), .unset, .unset, .unset] [(.int (1 : Int32))])) (fun tg kk => XS.iconst X0.here hx rfl (hb hby at_69) kk) ?_
      refine OwnMg.back (s₁.setTop (mkF m 74 #[.val (.int p1), .val (.int p2), .val (.int p3), .val (.int ld), .val (.int m3), .val (.int ix), .val (.int un), .unset, .unset, .unset] [(.int (1 : Int32))])) (fun tg kk => XS.goto X0.here hx rfl (pc0 := 70) (pc' := 74) rfl (hb hby at_70) (by decide) (by decide) kk) ?_
      exact ⟨_, ⟨(1 : Int32), rfl, Or.inl ⟨hc22, rfl⟩⟩, fun tg kk => kk⟩
    ·
      refine OwnMg.back (s₁.setTop (mkF m 73 #[.val (.int p1), .val (.int p2), .val (.int p3), .val (.int ld), .val (.int m3), .val (.int ix), .val (.int un), .unset, .unset, .unset] [])) (fun tg kk => XS.icmpYes X0.here hx rfl (pc0 := 66) (pc' := 73) rfl (hb hby at_66) rfl (feq hc22).2 (by decide) (by decide) kk) ?_
      refine OwnMg.back (s₁.setTop (mkF m 74 #[.val (.int p1), .val (.int p2), .val (.int p3), .val (.int ld), .val (.int m3), .val (.int ix), .val (.int un), .unset, .unset, .unset] [(.int (0 : Int32))])) (fun tg kk => XS.iconst X0.here hx rfl (hb hby at_73) kk) ?_
      exact ⟨_, ⟨(0 : Int32), rfl, Or.inr (⟨hc22, rfl⟩)⟩, fun tg kk => kk⟩
  refine OwnGo.back (s₁.setTop (mkF m 74 #[.val (.int p1), .val (.int p2), .val (.int p3), .val (.int ld), .val (.int m3), .val (.int ix), .val (.int un), .unset, .unset, .unset] [(.int m14)])) dm16 ?_
  refine OwnGo.back (s₁.setTop (mkF m 76 #[.val (.int p1), .val (.int p2), .val (.int p3), .val (.int ld), .val (.int m3), .val (.int ix), .val (.int un), .val (.int m14), .unset, .unset] [])) (fun tg kk => XS.istore X0.here hx rfl (hb hby at_74) rfl (l' := #[.val (.int p1), .val (.int p2), .val (.int p3), .val (.int ld), .val (.int m3), .val (.int ix), .val (.int un), .val (.int m14), .unset, .unset]) rfl kk) ?_
  refine OwnGo.back (s₁.setTop (mkF m 78 #[.val (.int p1), .val (.int p2), .val (.int p3), .val (.int ld), .val (.int m3), .val (.int ix), .val (.int un), .val (.int m14), .unset, .unset] [(.int ix)])) (fun tg kk => XS.iload X0.here hx rfl (hb hby at_76) rfl kk) ?_
  refine OwnGo.back (s₁.setTop (mkF m 79 #[.val (.int p1), .val (.int p2), .val (.int p3), .val (.int ld), .val (.int m3), .val (.int ix), .val (.int un), .val (.int m14), .unset, .unset] [(.int (1 : Int32)), (.int ix)])) (fun tg kk => XS.iconst X0.here hx rfl (hb hby at_78) kk) ?_
  by_cases hc23 : ix = (1 : Int32)
  ·
    refine OwnGo.back (s₁.setTop (mkF m 82 #[.val (.int p1), .val (.int p2), .val (.int p3), .val (.int ld), .val (.int m3), .val (.int ix), .val (.int un), .val (.int m14), .unset, .unset] [])) (fun tg kk => XS.icmpNo X0.here hx rfl (hb hby at_79) rfl (teq hc23).2 kk) ?_
    refine OwnGo.back (s₁.setTop (mkF m 84 #[.val (.int p1), .val (.int p2), .val (.int p3), .val (.int ld), .val (.int m3), .val (.int ix), .val (.int un), .val (.int m14), .unset, .unset] [(.int m3)])) (fun tg kk => XS.iload X0.here hx rfl (hb hby at_82) rfl kk) ?_
    refine OwnGo.back (s₁.setTop (mkF m 85 #[.val (.int p1), .val (.int p2), .val (.int p3), .val (.int ld), .val (.int m3), .val (.int ix), .val (.int un), .val (.int m14), .unset, .unset] [(.int (2 : Int32)), (.int m3)])) (fun tg kk => XS.iconst X0.here hx rfl (hb hby at_84) kk) ?_
    by_cases hc24 : m3 = (2 : Int32)
    ·
      refine OwnGo.back (s₁.setTop (mkF m 88 #[.val (.int p1), .val (.int p2), .val (.int p3), .val (.int ld), .val (.int m3), .val (.int ix), .val (.int un), .val (.int m14), .unset, .unset] [])) (fun tg kk => XS.icmpNo X0.here hx rfl (hb hby at_85) rfl (teq hc24).2 kk) ?_
      refine OwnGo.back (s₁.setTop (mkF m 90 #[.val (.int p1), .val (.int p2), .val (.int p3), .val (.int ld), .val (.int m3), .val (.int ix), .val (.int un), .val (.int m14), .unset, .unset] [(.int m14)])) (fun tg kk => XS.iload X0.here hx rfl (hb hby at_88) rfl kk) ?_
      refine OwnGo.back (s₁.setTop (mkF m 92 #[.val (.int p1), .val (.int p2), .val (.int p3), .val (.int ld), .val (.int m3), .val (.int ix), .val (.int un), .val (.int m14), .val (.int m14), .unset] [])) (fun tg kk => XS.istore X0.here hx rfl (hb hby at_90) rfl (l' := #[.val (.int p1), .val (.int p2), .val (.int p3), .val (.int ld), .val (.int m3), .val (.int ix), .val (.int un), .val (.int m14), .val (.int m14), .unset]) rfl kk) ?_
      refine OwnGo.back (s₁.setTop (mkF m 196 #[.val (.int p1), .val (.int p2), .val (.int p3), .val (.int ld), .val (.int m3), .val (.int ix), .val (.int un), .val (.int m14), .val (.int m14), .unset] [])) (fun tg kk => XS.goto X0.here hx rfl (pc0 := 92) (pc' := 196) rfl (hb hby at_92) (by decide) (by decide) kk) ?_
      refine OwnGo.back (s₁.setTop (mkF m 197 #[.val (.int p1), .val (.int p2), .val (.int p3), .val (.int ld), .val (.int m3), .val (.int ix), .val (.int un), .val (.int m14), .val (.int m14), .unset] [(.int ld)])) (fun tg kk => XS.iloadN X0.here hx rfl (hb hby at_196) rfl kk) ?_
      refine OwnGo.back (s₁.setTop (mkF m 199 #[.val (.int p1), .val (.int p2), .val (.int p3), .val (.int ld), .val (.int m3), .val (.int ix), .val (.int un), .val (.int m14), .val (.int m14), .unset] [(.int ix), (.int ld)])) (fun tg kk => XS.iload X0.here hx rfl (hb hby at_197) rfl kk) ?_
      refine OwnGo.back (s₁.setTop (mkF m 201 #[.val (.int p1), .val (.int p2), .val (.int p3), .val (.int ld), .val (.int m3), .val (.int ix), .val (.int un), .val (.int m14), .val (.int m14), .unset] [(.int un), (.int ix), (.int ld)])) (fun tg kk => XS.iload X0.here hx rfl (hb hby at_199) rfl kk) ?_
      obtain ⟨_, _, ⟨T25, L25, k25, n25⟩, -, X25, ⟨Lc25, hQ25, l25, y25, z25⟩, st25⟩ := Jvm.LawKit.callS X0 hx (y := (⟨"com/example/rhone/rhone/tree/Utf8", "continues", "(III)Z"⟩ : MethodName)) hown (mvT hZ (hw _ (List.mem_of_getElem? (i := 1) rfl))) (mvT hZ (hw _ (List.mem_of_getElem? (i := 2) rfl))) (mvT hZ (hw _ (List.mem_of_getElem? (i := 3) rfl))) (mvT hZ (hw _ (List.mem_of_getElem? (i := 4) rfl))) (by decide) (backOf (W := 0) (own_cont l Z a0 hw [] ld ix un lo hi cl ch h0 n0 Z0 SL SH KL KH (by rw [Int32.lt_iff_toInt_lt]; show ¬ _ < (0 : Int); omega) (by rw [Int32.lt_iff_toInt_lt]; show _ < (256 : Int); omega)) hZ (hw _ (List.mem_of_getElem? (i := 4) rfl)) (hw _ (List.mem_of_getElem? (i := 3) rfl)) (by decide) (by decide)) (g := (mkF m 201 #[.val (.int p1), .val (.int p2), .val (.int p3), .val (.int ld), .val (.int m3), .val (.int ix), .val (.int un), .val (.int m14), .val (.int m14), .unset] [(.int un), (.int ix), (.int ld)])) rfl (by rw [hml]; rfl) (argsL := [(.int ld), (.int ix), (.int un)]) (rest := []) (lenOf own_pd0 rfl) rfl (by show 2 * 0 + _ ≤ _; exact Nat.le_of_eq rfl) (hb hby at_201) (fun _ _ => ⟨rfl, e0, (by decide : 0 + 0 ≤ _), (by decide : 0 + 0 ≤ _)⟩)
      dsimp only [Pt.U, Pt.locs, Pt.cells, Pt.slots] at X25 l25 y25 z25 st25 hQ25
      subst l25 y25 z25
      obtain ⟨r_26, rfl, N25q, e25, po27⟩ := hQ25
      have N25 := Fr.app N0 N25q
      refine OwnGo.back (T25.setTop (mkF m 204 #[.val (.int p1), .val (.int p2), .val (.int p3), .val (.int ld), .val (.int m3), .val (.int ix), .val (.int un), .val (.int m14), .val (.int m14), .unset] [(.int r_26)])) (fun tg kk => st25 _ kk) ?_
      refine OwnGo.back (T25.setTop (mkF m 206 #[.val (.int p1), .val (.int p2), .val (.int p3), .val (.int ld), .val (.int m3), .val (.int ix), .val (.int un), .val (.int m14), .val (.int m14), .unset] [(.int m14), (.int r_26)])) (fun tg kk => XS.iload X25.here hx rfl (hb hby at_204) rfl kk) ?_
      refine OwnGo.back (T25.setTop (mkF m 209 #[.val (.int p1), .val (.int p2), .val (.int p3), .val (.int ld), .val (.int m3), .val (.int ix), .val (.int un), .val (.int m14), .val (.int m14), .unset] [])) (fun tg kk => XS.icmpNo X25.here hx rfl (hb hby at_206) rfl (teq (by have a1 := tL ld (by omega) (by omega); have a2 := tH ld (by omega) (by omega); have a3 := own_p3 ld un; have a4 := own_p4 ld un; have a5 := own_c0 run; (simp only [true_and, and_true, false_and, and_false, or_false, false_or, or_true, true_or, not_true_eq_false, not_false_eq_true, eq_self, Int32.lt_iff_toInt_lt, Int32.le_iff_toInt_le, ← Int32.toInt_inj, Int32.reduceToInt, Int64.lt_iff_toInt_lt, Int64.le_iff_toInt_le, ← Int64.toInt_inj, Int64.reduceToInt] at hc23 hc24 tL tH hm4 hm15 po27 a5 ⊢) <;> omega : r_26 = m14)).2 kk) ?_
      refine OwnGo.back (T25.setTop (mkF m 210 #[.val (.int p1), .val (.int p2), .val (.int p3), .val (.int ld), .val (.int m3), .val (.int ix), .val (.int un), .val (.int m14), .val (.int m14), .unset] [(.int (1 : Int32))])) (fun tg kk => XS.iconst X25.here hx rfl (hb hby at_209) kk) ?_
      refine OwnGo.back (T25.setTop (mkF m 214 #[.val (.int p1), .val (.int p2), .val (.int p3), .val (.int ld), .val (.int m3), .val (.int ix), .val (.int un), .val (.int m14), .val (.int m14), .unset] [(.int (1 : Int32))])) (fun tg kk => XS.goto X25.here hx rfl (pc0 := 210) (pc' := 214) rfl (hb hby at_210) (by decide) (by decide) kk) ?_
      obtain ⟨fs, hr, hrun, hended, hW, hsame⟩ := X25.leave (v := some (.int (1 : Int32))) (fun h => by rw [Bd.returns] at h; cases h)
      refine ⟨_, _, ?_, hrun, hended, _, _, rfl, ?_, ⟨_, rfl⟩, hW, hsame.mono (by decide) (by decide)⟩
      · exact retN X25 hx (t := .boolean) Bd.returns (by simp) (hb hby at_214) hr
      · show own_law_Q Z p1 p2 p3 lo hi cl ch h0 n0 _ T25.heap _
        rw [e25]
        exact ⟨rfl, N25, rfl⟩
    ·
      refine OwnGo.back (s₁.setTop (mkF m 95 #[.val (.int p1), .val (.int p2), .val (.int p3), .val (.int ld), .val (.int m3), .val (.int ix), .val (.int un), .val (.int m14), .unset, .unset] [])) (fun tg kk => XS.icmpYes X0.here hx rfl (pc0 := 85) (pc' := 95) rfl (hb hby at_85) rfl (feq hc24).2 (by decide) (by decide) kk) ?_
      refine OwnGo.back (s₁.setTop (mkF m 97 #[.val (.int p1), .val (.int p2), .val (.int p3), .val (.int ld), .val (.int m3), .val (.int ix), .val (.int un), .val (.int m14), .unset, .unset] [(.int m3)])) (fun tg kk => XS.iload X0.here hx rfl (hb hby at_95) rfl kk) ?_
      refine OwnGo.back (s₁.setTop (mkF m 98 #[.val (.int p1), .val (.int p2), .val (.int p3), .val (.int ld), .val (.int m3), .val (.int ix), .val (.int un), .val (.int m14), .unset, .unset] [(.int (3 : Int32)), (.int m3)])) (fun tg kk => XS.iconst X0.here hx rfl (hb hby at_97) kk) ?_
      by_cases hc28 : m3 = (3 : Int32)
      ·
        refine OwnGo.back (s₁.setTop (mkF m 101 #[.val (.int p1), .val (.int p2), .val (.int p3), .val (.int ld), .val (.int m3), .val (.int ix), .val (.int un), .val (.int m14), .unset, .unset] [])) (fun tg kk => XS.icmpNo X0.here hx rfl (hb hby at_98) rfl (teq hc28).2 kk) ?_
        refine OwnGo.back (s₁.setTop (mkF m 102 #[.val (.int p1), .val (.int p2), .val (.int p3), .val (.int ld), .val (.int m3), .val (.int ix), .val (.int un), .val (.int m14), .unset, .unset] [(.int ld)])) (fun tg kk => XS.iloadN X0.here hx rfl (hb hby at_101) rfl kk) ?_
        refine OwnGo.back (s₁.setTop (mkF m 104 #[.val (.int p1), .val (.int p2), .val (.int p3), .val (.int ld), .val (.int m3), .val (.int ix), .val (.int un), .val (.int m14), .unset, .unset] [(.int (15 : Int32)), (.int ld)])) (fun tg kk => XS.bipush X0.here hx rfl (hb hby at_102) kk) ?_
        refine OwnGo.back (s₁.setTop (mkF m 105 #[.val (.int p1), .val (.int p2), .val (.int p3), .val (.int ld), .val (.int m3), .val (.int ix), .val (.int un), .val (.int m14), .unset, .unset] [(.int (ld &&& (15 : Int32)))])) (fun tg kk => XS.iand X0.here hx rfl (hb hby at_104) rfl kk) ?_
        refine OwnGo.back (s₁.setTop (mkF m 107 #[.val (.int p1), .val (.int p2), .val (.int p3), .val (.int ld), .val (.int m3), .val (.int ix), .val (.int un), .val (.int m14), .unset, .unset] [(.int (6 : Int32)), (.int (ld &&& (15 : Int32)))])) (fun tg kk => XS.bipush X0.here hx rfl (hb hby at_105) kk) ?_
        refine OwnGo.back (s₁.setTop (mkF m 108 #[.val (.int p1), .val (.int p2), .val (.int p3), .val (.int ld), .val (.int m3), .val (.int ix), .val (.int un), .val (.int m14), .unset, .unset] [(.int ((ld &&& (15 : Int32)) <<< ((6 : Int32) &&& 31)))])) (fun tg kk => XS.ishl X0.here hx rfl (hb hby at_107) rfl kk) ?_
        refine OwnGo.back (s₁.setTop (mkF m 110 #[.val (.int p1), .val (.int p2), .val (.int p3), .val (.int ld), .val (.int m3), .val (.int ix), .val (.int un), .val (.int m14), .unset, .unset] [(.int un), (.int ((ld &&& (15 : Int32)) <<< ((6 : Int32) &&& 31)))])) (fun tg kk => XS.iload X0.here hx rfl (hb hby at_108) rfl kk) ?_
        refine OwnGo.back (s₁.setTop (mkF m 112 #[.val (.int p1), .val (.int p2), .val (.int p3), .val (.int ld), .val (.int m3), .val (.int ix), .val (.int un), .val (.int m14), .unset, .unset] [(.int (63 : Int32)), (.int un), (.int ((ld &&& (15 : Int32)) <<< ((6 : Int32) &&& 31)))])) (fun tg kk => XS.bipush X0.here hx rfl (hb hby at_110) kk) ?_
        refine OwnGo.back (s₁.setTop (mkF m 113 #[.val (.int p1), .val (.int p2), .val (.int p3), .val (.int ld), .val (.int m3), .val (.int ix), .val (.int un), .val (.int m14), .unset, .unset] [(.int (un &&& (63 : Int32))), (.int ((ld &&& (15 : Int32)) <<< ((6 : Int32) &&& 31)))])) (fun tg kk => XS.iand X0.here hx rfl (hb hby at_112) rfl kk) ?_
        refine OwnGo.back (s₁.setTop (mkF m 114 #[.val (.int p1), .val (.int p2), .val (.int p3), .val (.int ld), .val (.int m3), .val (.int ix), .val (.int un), .val (.int m14), .unset, .unset] [(.int (((ld &&& (15 : Int32)) <<< ((6 : Int32) &&& 31)) ||| (un &&& (63 : Int32))))])) (fun tg kk => XS.ior X0.here hx rfl (hb hby at_113) rfl kk) ?_
        refine OwnGo.back (s₁.setTop (mkF m 116 #[.val (.int p1), .val (.int p2), .val (.int p3), .val (.int ld), .val (.int m3), .val (.int ix), .val (.int un), .val (.int m14), .unset, .val (.int (((ld &&& (15 : Int32)) <<< ((6 : Int32) &&& 31)) ||| (un &&& (63 : Int32))))] [])) (fun tg kk => XS.istore X0.here hx rfl (hb hby at_114) rfl (l' := #[.val (.int p1), .val (.int p2), .val (.int p3), .val (.int ld), .val (.int m3), .val (.int ix), .val (.int un), .val (.int m14), .unset, .val (.int (((ld &&& (15 : Int32)) <<< ((6 : Int32) &&& 31)) ||| (un &&& (63 : Int32))))]) rfl kk) ?_
        refine OwnGo.back (s₁.setTop (mkF m 118 #[.val (.int p1), .val (.int p2), .val (.int p3), .val (.int ld), .val (.int m3), .val (.int ix), .val (.int un), .val (.int m14), .unset, .val (.int (((ld &&& (15 : Int32)) <<< ((6 : Int32) &&& 31)) ||| (un &&& (63 : Int32))))] [(.int m14)])) (fun tg kk => XS.iload X0.here hx rfl (hb hby at_116) rfl kk) ?_
        by_cases hc29 : m14 = (0 : Int32)
        ·
          refine OwnGo.back (s₁.setTop (mkF m 148 #[.val (.int p1), .val (.int p2), .val (.int p3), .val (.int ld), .val (.int m3), .val (.int ix), .val (.int un), .val (.int m14), .unset, .val (.int (((ld &&& (15 : Int32)) <<< ((6 : Int32) &&& 31)) ||| (un &&& (63 : Int32))))] [])) (fun tg kk => XS.ifYes X0.here hx rfl (pc0 := 118) (pc' := 148) rfl (hb hby at_118) rfl ((if0 _ _).trans (teq hc29).1) (by decide) (by decide) kk) ?_
          refine OwnGo.back (s₁.setTop (mkF m 149 #[.val (.int p1), .val (.int p2), .val (.int p3), .val (.int ld), .val (.int m3), .val (.int ix), .val (.int un), .val (.int m14), .unset, .val (.int (((ld &&& (15 : Int32)) <<< ((6 : Int32) &&& 31)) ||| (un &&& (63 : Int32))))] [(.int (0 : Int32))])) (fun tg kk => XS.iconst X0.here hx rfl (hb hby at_148) kk) ?_
          refine OwnGo.back (s₁.setTop (mkF m 151 #[.val (.int p1), .val (.int p2), .val (.int p3), .val (.int ld), .val (.int m3), .val (.int ix), .val (.int un), .val (.int m14), .val (.int (0 : Int32)), .val (.int (((ld &&& (15 : Int32)) <<< ((6 : Int32) &&& 31)) ||| (un &&& (63 : Int32))))] [])) (fun tg kk => XS.istore X0.here hx rfl (hb hby at_149) rfl (l' := #[.val (.int p1), .val (.int p2), .val (.int p3), .val (.int ld), .val (.int m3), .val (.int ix), .val (.int un), .val (.int m14), .val (.int (0 : Int32)), .val (.int (((ld &&& (15 : Int32)) <<< ((6 : Int32) &&& 31)) ||| (un &&& (63 : Int32))))]) rfl kk) ?_
          refine OwnGo.back (s₁.setTop (mkF m 196 #[.val (.int p1), .val (.int p2), .val (.int p3), .val (.int ld), .val (.int m3), .val (.int ix), .val (.int un), .val (.int m14), .val (.int (0 : Int32)), .val (.int (((ld &&& (15 : Int32)) <<< ((6 : Int32) &&& 31)) ||| (un &&& (63 : Int32))))] [])) (fun tg kk => XS.goto X0.here hx rfl (pc0 := 151) (pc' := 196) rfl (hb hby at_151) (by decide) (by decide) kk) ?_
          refine OwnGo.back (s₁.setTop (mkF m 197 #[.val (.int p1), .val (.int p2), .val (.int p3), .val (.int ld), .val (.int m3), .val (.int ix), .val (.int un), .val (.int m14), .val (.int (0 : Int32)), .val (.int (((ld &&& (15 : Int32)) <<< ((6 : Int32) &&& 31)) ||| (un &&& (63 : Int32))))] [(.int ld)])) (fun tg kk => XS.iloadN X0.here hx rfl (hb hby at_196) rfl kk) ?_
          refine OwnGo.back (s₁.setTop (mkF m 199 #[.val (.int p1), .val (.int p2), .val (.int p3), .val (.int ld), .val (.int m3), .val (.int ix), .val (.int un), .val (.int m14), .val (.int (0 : Int32)), .val (.int (((ld &&& (15 : Int32)) <<< ((6 : Int32) &&& 31)) ||| (un &&& (63 : Int32))))] [(.int ix), (.int ld)])) (fun tg kk => XS.iload X0.here hx rfl (hb hby at_197) rfl kk) ?_
          refine OwnGo.back (s₁.setTop (mkF m 201 #[.val (.int p1), .val (.int p2), .val (.int p3), .val (.int ld), .val (.int m3), .val (.int ix), .val (.int un), .val (.int m14), .val (.int (0 : Int32)), .val (.int (((ld &&& (15 : Int32)) <<< ((6 : Int32) &&& 31)) ||| (un &&& (63 : Int32))))] [(.int un), (.int ix), (.int ld)])) (fun tg kk => XS.iload X0.here hx rfl (hb hby at_199) rfl kk) ?_
          obtain ⟨_, _, ⟨T30, L30, k30, n30⟩, -, X30, ⟨Lc30, hQ30, l30, y30, z30⟩, st30⟩ := Jvm.LawKit.callS X0 hx (y := (⟨"com/example/rhone/rhone/tree/Utf8", "continues", "(III)Z"⟩ : MethodName)) hown (mvT hZ (hw _ (List.mem_of_getElem? (i := 1) rfl))) (mvT hZ (hw _ (List.mem_of_getElem? (i := 2) rfl))) (mvT hZ (hw _ (List.mem_of_getElem? (i := 3) rfl))) (mvT hZ (hw _ (List.mem_of_getElem? (i := 4) rfl))) (by decide) (backOf (W := 0) (own_cont l Z a0 hw [] ld ix un lo hi cl ch h0 n0 Z0 SL SH KL KH (by rw [Int32.lt_iff_toInt_lt]; show ¬ _ < (0 : Int); omega) (by rw [Int32.lt_iff_toInt_lt]; show _ < (256 : Int); omega)) hZ (hw _ (List.mem_of_getElem? (i := 4) rfl)) (hw _ (List.mem_of_getElem? (i := 3) rfl)) (by decide) (by decide)) (g := (mkF m 201 #[.val (.int p1), .val (.int p2), .val (.int p3), .val (.int ld), .val (.int m3), .val (.int ix), .val (.int un), .val (.int m14), .val (.int (0 : Int32)), .val (.int (((ld &&& (15 : Int32)) <<< ((6 : Int32) &&& 31)) ||| (un &&& (63 : Int32))))] [(.int un), (.int ix), (.int ld)])) rfl (by rw [hml]; rfl) (argsL := [(.int ld), (.int ix), (.int un)]) (rest := []) (lenOf own_pd0 rfl) rfl (by show 2 * 0 + _ ≤ _; exact Nat.le_of_eq rfl) (hb hby at_201) (fun _ _ => ⟨rfl, e0, (by decide : 0 + 0 ≤ _), (by decide : 0 + 0 ≤ _)⟩)
          dsimp only [Pt.U, Pt.locs, Pt.cells, Pt.slots] at X30 l30 y30 z30 st30 hQ30
          subst l30 y30 z30
          obtain ⟨r_31, rfl, N30q, e30, po32⟩ := hQ30
          have N30 := Fr.app N0 N30q
          refine OwnGo.back (T30.setTop (mkF m 204 #[.val (.int p1), .val (.int p2), .val (.int p3), .val (.int ld), .val (.int m3), .val (.int ix), .val (.int un), .val (.int m14), .val (.int (0 : Int32)), .val (.int (((ld &&& (15 : Int32)) <<< ((6 : Int32) &&& 31)) ||| (un &&& (63 : Int32))))] [(.int r_31)])) (fun tg kk => st30 _ kk) ?_
          refine OwnGo.back (T30.setTop (mkF m 206 #[.val (.int p1), .val (.int p2), .val (.int p3), .val (.int ld), .val (.int m3), .val (.int ix), .val (.int un), .val (.int m14), .val (.int (0 : Int32)), .val (.int (((ld &&& (15 : Int32)) <<< ((6 : Int32) &&& 31)) ||| (un &&& (63 : Int32))))] [(.int (0 : Int32)), (.int r_31)])) (fun tg kk => XS.iload X30.here hx rfl (hb hby at_204) rfl kk) ?_
          refine OwnGo.back (T30.setTop (mkF m 209 #[.val (.int p1), .val (.int p2), .val (.int p3), .val (.int ld), .val (.int m3), .val (.int ix), .val (.int un), .val (.int m14), .val (.int (0 : Int32)), .val (.int (((ld &&& (15 : Int32)) <<< ((6 : Int32) &&& 31)) ||| (un &&& (63 : Int32))))] [])) (fun tg kk => XS.icmpNo X30.here hx rfl (hb hby at_206) rfl (teq (by have a1 := tL ld (by omega) (by omega); have a2 := tH ld (by omega) (by omega); have a3 := own_p3 ld un; have a4 := own_p4 ld un; have a5 := own_c0 run; (simp only [true_and, and_true, false_and, and_false, or_false, false_or, or_true, true_or, not_true_eq_false, not_false_eq_true, eq_self, Int32.lt_iff_toInt_lt, Int32.le_iff_toInt_le, ← Int32.toInt_inj, Int32.reduceToInt, Int64.lt_iff_toInt_lt, Int64.le_iff_toInt_le, ← Int64.toInt_inj, Int64.reduceToInt] at hc23 hc24 hc28 hc29 tL tH hm4 hm15 po32 a5 ⊢) <;> omega : r_31 = (0 : Int32))).2 kk) ?_
          refine OwnGo.back (T30.setTop (mkF m 210 #[.val (.int p1), .val (.int p2), .val (.int p3), .val (.int ld), .val (.int m3), .val (.int ix), .val (.int un), .val (.int m14), .val (.int (0 : Int32)), .val (.int (((ld &&& (15 : Int32)) <<< ((6 : Int32) &&& 31)) ||| (un &&& (63 : Int32))))] [(.int (1 : Int32))])) (fun tg kk => XS.iconst X30.here hx rfl (hb hby at_209) kk) ?_
          refine OwnGo.back (T30.setTop (mkF m 214 #[.val (.int p1), .val (.int p2), .val (.int p3), .val (.int ld), .val (.int m3), .val (.int ix), .val (.int un), .val (.int m14), .val (.int (0 : Int32)), .val (.int (((ld &&& (15 : Int32)) <<< ((6 : Int32) &&& 31)) ||| (un &&& (63 : Int32))))] [(.int (1 : Int32))])) (fun tg kk => XS.goto X30.here hx rfl (pc0 := 210) (pc' := 214) rfl (hb hby at_210) (by decide) (by decide) kk) ?_
          obtain ⟨fs, hr, hrun, hended, hW, hsame⟩ := X30.leave (v := some (.int (1 : Int32))) (fun h => by rw [Bd.returns] at h; cases h)
          refine ⟨_, _, ?_, hrun, hended, _, _, rfl, ?_, ⟨_, rfl⟩, hW, hsame.mono (by decide) (by decide)⟩
          · exact retN X30 hx (t := .boolean) Bd.returns (by simp) (hb hby at_214) hr
          · show own_law_Q Z p1 p2 p3 lo hi cl ch h0 n0 _ T30.heap _
            rw [e30]
            exact ⟨rfl, N30, rfl⟩
        ·
          refine OwnGo.back (s₁.setTop (mkF m 121 #[.val (.int p1), .val (.int p2), .val (.int p3), .val (.int ld), .val (.int m3), .val (.int ix), .val (.int un), .val (.int m14), .unset, .val (.int (((ld &&& (15 : Int32)) <<< ((6 : Int32) &&& 31)) ||| (un &&& (63 : Int32))))] [])) (fun tg kk => XS.ifNo X0.here hx rfl (hb hby at_118) rfl ((if0 _ _).trans (feq hc29).1) kk) ?_
          refine OwnGo.back (s₁.setTop (mkF m 123 #[.val (.int p1), .val (.int p2), .val (.int p3), .val (.int ld), .val (.int m3), .val (.int ix), .val (.int un), .val (.int m14), .unset, .val (.int (((ld &&& (15 : Int32)) <<< ((6 : Int32) &&& 31)) ||| (un &&& (63 : Int32))))] [(.int (((ld &&& (15 : Int32)) <<< ((6 : Int32) &&& 31)) ||| (un &&& (63 : Int32))))])) (fun tg kk => XS.iload X0.here hx rfl (hb hby at_121) rfl kk) ?_
          refine OwnGo.back (s₁.setTop (mkF m 125 #[.val (.int p1), .val (.int p2), .val (.int p3), .val (.int ld), .val (.int m3), .val (.int ix), .val (.int un), .val (.int m14), .unset, .val (.int (((ld &&& (15 : Int32)) <<< ((6 : Int32) &&& 31)) ||| (un &&& (63 : Int32))))] [(.int (32 : Int32)), (.int (((ld &&& (15 : Int32)) <<< ((6 : Int32) &&& 31)) ||| (un &&& (63 : Int32))))])) (fun tg kk => XS.bipush X0.here hx rfl (hb hby at_123) kk) ?_
          by_cases hc33 : (((ld &&& (15 : Int32)) <<< ((6 : Int32) &&& 31)) ||| (un &&& (63 : Int32))) < (32 : Int32)
          ·
            refine OwnGo.back (s₁.setTop (mkF m 148 #[.val (.int p1), .val (.int p2), .val (.int p3), .val (.int ld), .val (.int m3), .val (.int ix), .val (.int un), .val (.int m14), .unset, .val (.int (((ld &&& (15 : Int32)) <<< ((6 : Int32) &&& 31)) ||| (un &&& (63 : Int32))))] [])) (fun tg kk => XS.icmpYes X0.here hx rfl (pc0 := 125) (pc' := 148) rfl (hb hby at_125) rfl (tlt hc33).1 (by decide) (by decide) kk) ?_
            refine OwnGo.back (s₁.setTop (mkF m 149 #[.val (.int p1), .val (.int p2), .val (.int p3), .val (.int ld), .val (.int m3), .val (.int ix), .val (.int un), .val (.int m14), .unset, .val (.int (((ld &&& (15 : Int32)) <<< ((6 : Int32) &&& 31)) ||| (un &&& (63 : Int32))))] [(.int (0 : Int32))])) (fun tg kk => XS.iconst X0.here hx rfl (hb hby at_148) kk) ?_
            refine OwnGo.back (s₁.setTop (mkF m 151 #[.val (.int p1), .val (.int p2), .val (.int p3), .val (.int ld), .val (.int m3), .val (.int ix), .val (.int un), .val (.int m14), .val (.int (0 : Int32)), .val (.int (((ld &&& (15 : Int32)) <<< ((6 : Int32) &&& 31)) ||| (un &&& (63 : Int32))))] [])) (fun tg kk => XS.istore X0.here hx rfl (hb hby at_149) rfl (l' := #[.val (.int p1), .val (.int p2), .val (.int p3), .val (.int ld), .val (.int m3), .val (.int ix), .val (.int un), .val (.int m14), .val (.int (0 : Int32)), .val (.int (((ld &&& (15 : Int32)) <<< ((6 : Int32) &&& 31)) ||| (un &&& (63 : Int32))))]) rfl kk) ?_
            refine OwnGo.back (s₁.setTop (mkF m 196 #[.val (.int p1), .val (.int p2), .val (.int p3), .val (.int ld), .val (.int m3), .val (.int ix), .val (.int un), .val (.int m14), .val (.int (0 : Int32)), .val (.int (((ld &&& (15 : Int32)) <<< ((6 : Int32) &&& 31)) ||| (un &&& (63 : Int32))))] [])) (fun tg kk => XS.goto X0.here hx rfl (pc0 := 151) (pc' := 196) rfl (hb hby at_151) (by decide) (by decide) kk) ?_
            refine OwnGo.back (s₁.setTop (mkF m 197 #[.val (.int p1), .val (.int p2), .val (.int p3), .val (.int ld), .val (.int m3), .val (.int ix), .val (.int un), .val (.int m14), .val (.int (0 : Int32)), .val (.int (((ld &&& (15 : Int32)) <<< ((6 : Int32) &&& 31)) ||| (un &&& (63 : Int32))))] [(.int ld)])) (fun tg kk => XS.iloadN X0.here hx rfl (hb hby at_196) rfl kk) ?_
            refine OwnGo.back (s₁.setTop (mkF m 199 #[.val (.int p1), .val (.int p2), .val (.int p3), .val (.int ld), .val (.int m3), .val (.int ix), .val (.int un), .val (.int m14), .val (.int (0 : Int32)), .val (.int (((ld &&& (15 : Int32)) <<< ((6 : Int32) &&& 31)) ||| (un &&& (63 : Int32))))] [(.int ix), (.int ld)])) (fun tg kk => XS.iload X0.here hx rfl (hb hby at_197) rfl kk) ?_
            refine OwnGo.back (s₁.setTop (mkF m 201 #[.val (.int p1), .val (.int p2), .val (.int p3), .val (.int ld), .val (.int m3), .val (.int ix), .val (.int un), .val (.int m14), .val (.int (0 : Int32)), .val (.int (((ld &&& (15 : Int32)) <<< ((6 : Int32) &&& 31)) ||| (un &&& (63 : Int32))))] [(.int un), (.int ix), (.int ld)])) (fun tg kk => XS.iload X0.here hx rfl (hb hby at_199) rfl kk) ?_
            obtain ⟨_, _, ⟨T34, L34, k34, n34⟩, -, X34, ⟨Lc34, hQ34, l34, y34, z34⟩, st34⟩ := Jvm.LawKit.callS X0 hx (y := (⟨"com/example/rhone/rhone/tree/Utf8", "continues", "(III)Z"⟩ : MethodName)) hown (mvT hZ (hw _ (List.mem_of_getElem? (i := 1) rfl))) (mvT hZ (hw _ (List.mem_of_getElem? (i := 2) rfl))) (mvT hZ (hw _ (List.mem_of_getElem? (i := 3) rfl))) (mvT hZ (hw _ (List.mem_of_getElem? (i := 4) rfl))) (by decide) (backOf (W := 0) (own_cont l Z a0 hw [] ld ix un lo hi cl ch h0 n0 Z0 SL SH KL KH (by rw [Int32.lt_iff_toInt_lt]; show ¬ _ < (0 : Int); omega) (by rw [Int32.lt_iff_toInt_lt]; show _ < (256 : Int); omega)) hZ (hw _ (List.mem_of_getElem? (i := 4) rfl)) (hw _ (List.mem_of_getElem? (i := 3) rfl)) (by decide) (by decide)) (g := (mkF m 201 #[.val (.int p1), .val (.int p2), .val (.int p3), .val (.int ld), .val (.int m3), .val (.int ix), .val (.int un), .val (.int m14), .val (.int (0 : Int32)), .val (.int (((ld &&& (15 : Int32)) <<< ((6 : Int32) &&& 31)) ||| (un &&& (63 : Int32))))] [(.int un), (.int ix), (.int ld)])) rfl (by rw [hml]; rfl) (argsL := [(.int ld), (.int ix), (.int un)]) (rest := []) (lenOf own_pd0 rfl) rfl (by show 2 * 0 + _ ≤ _; exact Nat.le_of_eq rfl) (hb hby at_201) (fun _ _ => ⟨rfl, e0, (by decide : 0 + 0 ≤ _), (by decide : 0 + 0 ≤ _)⟩)
            dsimp only [Pt.U, Pt.locs, Pt.cells, Pt.slots] at X34 l34 y34 z34 st34 hQ34
            subst l34 y34 z34
            obtain ⟨r_35, rfl, N34q, e34, po36⟩ := hQ34
            have N34 := Fr.app N0 N34q
            refine OwnGo.back (T34.setTop (mkF m 204 #[.val (.int p1), .val (.int p2), .val (.int p3), .val (.int ld), .val (.int m3), .val (.int ix), .val (.int un), .val (.int m14), .val (.int (0 : Int32)), .val (.int (((ld &&& (15 : Int32)) <<< ((6 : Int32) &&& 31)) ||| (un &&& (63 : Int32))))] [(.int r_35)])) (fun tg kk => st34 _ kk) ?_
            refine OwnGo.back (T34.setTop (mkF m 206 #[.val (.int p1), .val (.int p2), .val (.int p3), .val (.int ld), .val (.int m3), .val (.int ix), .val (.int un), .val (.int m14), .val (.int (0 : Int32)), .val (.int (((ld &&& (15 : Int32)) <<< ((6 : Int32) &&& 31)) ||| (un &&& (63 : Int32))))] [(.int (0 : Int32)), (.int r_35)])) (fun tg kk => XS.iload X34.here hx rfl (hb hby at_204) rfl kk) ?_
            refine OwnGo.back (T34.setTop (mkF m 209 #[.val (.int p1), .val (.int p2), .val (.int p3), .val (.int ld), .val (.int m3), .val (.int ix), .val (.int un), .val (.int m14), .val (.int (0 : Int32)), .val (.int (((ld &&& (15 : Int32)) <<< ((6 : Int32) &&& 31)) ||| (un &&& (63 : Int32))))] [])) (fun tg kk => XS.icmpNo X34.here hx rfl (hb hby at_206) rfl (teq (by have a1 := tL ld (by omega) (by omega); have a2 := tH ld (by omega) (by omega); have a3 := own_p3 ld un; have a4 := own_p4 ld un; have a5 := own_c0 run; (simp only [true_and, and_true, false_and, and_false, or_false, false_or, or_true, true_or, not_true_eq_false, not_false_eq_true, eq_self, Int32.lt_iff_toInt_lt, Int32.le_iff_toInt_le, ← Int32.toInt_inj, Int32.reduceToInt, Int64.lt_iff_toInt_lt, Int64.le_iff_toInt_le, ← Int64.toInt_inj, Int64.reduceToInt] at hc23 hc24 hc28 hc29 hc33 tL tH hm4 hm15 po36 a5 ⊢) <;> omega : r_35 = (0 : Int32))).2 kk) ?_
            refine OwnGo.back (T34.setTop (mkF m 210 #[.val (.int p1), .val (.int p2), .val (.int p3), .val (.int ld), .val (.int m3), .val (.int ix), .val (.int un), .val (.int m14), .val (.int (0 : Int32)), .val (.int (((ld &&& (15 : Int32)) <<< ((6 : Int32) &&& 31)) ||| (un &&& (63 : Int32))))] [(.int (1 : Int32))])) (fun tg kk => XS.iconst X34.here hx rfl (hb hby at_209) kk) ?_
            refine OwnGo.back (T34.setTop (mkF m 214 #[.val (.int p1), .val (.int p2), .val (.int p3), .val (.int ld), .val (.int m3), .val (.int ix), .val (.int un), .val (.int m14), .val (.int (0 : Int32)), .val (.int (((ld &&& (15 : Int32)) <<< ((6 : Int32) &&& 31)) ||| (un &&& (63 : Int32))))] [(.int (1 : Int32))])) (fun tg kk => XS.goto X34.here hx rfl (pc0 := 210) (pc' := 214) rfl (hb hby at_210) (by decide) (by decide) kk) ?_
            obtain ⟨fs, hr, hrun, hended, hW, hsame⟩ := X34.leave (v := some (.int (1 : Int32))) (fun h => by rw [Bd.returns] at h; cases h)
            refine ⟨_, _, ?_, hrun, hended, _, _, rfl, ?_, ⟨_, rfl⟩, hW, hsame.mono (by decide) (by decide)⟩
            · exact retN X34 hx (t := .boolean) Bd.returns (by simp) (hb hby at_214) hr
            · show own_law_Q Z p1 p2 p3 lo hi cl ch h0 n0 _ T34.heap _
              rw [e34]
              exact ⟨rfl, N34, rfl⟩
          ·
            refine OwnGo.back (s₁.setTop (mkF m 128 #[.val (.int p1), .val (.int p2), .val (.int p3), .val (.int ld), .val (.int m3), .val (.int ix), .val (.int un), .val (.int m14), .unset, .val (.int (((ld &&& (15 : Int32)) <<< ((6 : Int32) &&& 31)) ||| (un &&& (63 : Int32))))] [])) (fun tg kk => XS.icmpNo X0.here hx rfl (hb hby at_125) rfl (flt hc33).1 kk) ?_
            refine OwnGo.back (s₁.setTop (mkF m 130 #[.val (.int p1), .val (.int p2), .val (.int p3), .val (.int ld), .val (.int m3), .val (.int ix), .val (.int un), .val (.int m14), .unset, .val (.int (((ld &&& (15 : Int32)) <<< ((6 : Int32) &&& 31)) ||| (un &&& (63 : Int32))))] [(.int (((ld &&& (15 : Int32)) <<< ((6 : Int32) &&& 31)) ||| (un &&& (63 : Int32))))])) (fun tg kk => XS.iload X0.here hx rfl (hb hby at_128) rfl kk) ?_
            refine OwnGo.back (s₁.setTop (mkF m 133 #[.val (.int p1), .val (.int p2), .val (.int p3), .val (.int ld), .val (.int m3), .val (.int ix), .val (.int un), .val (.int m14), .unset, .val (.int (((ld &&& (15 : Int32)) <<< ((6 : Int32) &&& 31)) ||| (un &&& (63 : Int32))))] [(.int (864 : Int32)), (.int (((ld &&& (15 : Int32)) <<< ((6 : Int32) &&& 31)) ||| (un &&& (63 : Int32))))])) (fun tg kk => XS.sipush X0.here hx rfl (hb hby at_130) kk) ?_
            by_cases hc37 : (((ld &&& (15 : Int32)) <<< ((6 : Int32) &&& 31)) ||| (un &&& (63 : Int32))) < (864 : Int32)
            ·
              refine OwnGo.back (s₁.setTop (mkF m 144 #[.val (.int p1), .val (.int p2), .val (.int p3), .val (.int ld), .val (.int m3), .val (.int ix), .val (.int un), .val (.int m14), .unset, .val (.int (((ld &&& (15 : Int32)) <<< ((6 : Int32) &&& 31)) ||| (un &&& (63 : Int32))))] [])) (fun tg kk => XS.icmpYes X0.here hx rfl (pc0 := 133) (pc' := 144) rfl (hb hby at_133) rfl (tlt hc37).1 (by decide) (by decide) kk) ?_
              refine OwnGo.back (s₁.setTop (mkF m 145 #[.val (.int p1), .val (.int p2), .val (.int p3), .val (.int ld), .val (.int m3), .val (.int ix), .val (.int un), .val (.int m14), .unset, .val (.int (((ld &&& (15 : Int32)) <<< ((6 : Int32) &&& 31)) ||| (un &&& (63 : Int32))))] [(.int (1 : Int32))])) (fun tg kk => XS.iconst X0.here hx rfl (hb hby at_144) kk) ?_
              refine OwnGo.back (s₁.setTop (mkF m 149 #[.val (.int p1), .val (.int p2), .val (.int p3), .val (.int ld), .val (.int m3), .val (.int ix), .val (.int un), .val (.int m14), .unset, .val (.int (((ld &&& (15 : Int32)) <<< ((6 : Int32) &&& 31)) ||| (un &&& (63 : Int32))))] [(.int (1 : Int32))])) (fun tg kk => XS.goto X0.here hx rfl (pc0 := 145) (pc' := 149) rfl (hb hby at_145) (by decide) (by decide) kk) ?_
              refine OwnGo.back (s₁.setTop (mkF m 151 #[.val (.int p1), .val (.int p2), .val (.int p3), .val (.int ld), .val (.int m3), .val (.int ix), .val (.int un), .val (.int m14), .val (.int (1 : Int32)), .val (.int (((ld &&& (15 : Int32)) <<< ((6 : Int32) &&& 31)) ||| (un &&& (63 : Int32))))] [])) (fun tg kk => XS.istore X0.here hx rfl (hb hby at_149) rfl (l' := #[.val (.int p1), .val (.int p2), .val (.int p3), .val (.int ld), .val (.int m3), .val (.int ix), .val (.int un), .val (.int m14), .val (.int (1 : Int32)), .val (.int (((ld &&& (15 : Int32)) <<< ((6 : Int32) &&& 31)) ||| (un &&& (63 : Int32))))]) rfl kk) ?_
              refine OwnGo.back (s₁.setTop (mkF m 196 #[.val (.int p1), .val (.int p2), .val (.int p3), .val (.int ld), .val (.int m3), .val (.int ix), .val (.int un), .val (.int m14), .val (.int (1 : Int32)), .val (.int (((ld &&& (15 : Int32)) <<< ((6 : Int32) &&& 31)) ||| (un &&& (63 : Int32))))] [])) (fun tg kk => XS.goto X0.here hx rfl (pc0 := 151) (pc' := 196) rfl (hb hby at_151) (by decide) (by decide) kk) ?_
              refine OwnGo.back (s₁.setTop (mkF m 197 #[.val (.int p1), .val (.int p2), .val (.int p3), .val (.int ld), .val (.int m3), .val (.int ix), .val (.int un), .val (.int m14), .val (.int (1 : Int32)), .val (.int (((ld &&& (15 : Int32)) <<< ((6 : Int32) &&& 31)) ||| (un &&& (63 : Int32))))] [(.int ld)])) (fun tg kk => XS.iloadN X0.here hx rfl (hb hby at_196) rfl kk) ?_
              refine OwnGo.back (s₁.setTop (mkF m 199 #[.val (.int p1), .val (.int p2), .val (.int p3), .val (.int ld), .val (.int m3), .val (.int ix), .val (.int un), .val (.int m14), .val (.int (1 : Int32)), .val (.int (((ld &&& (15 : Int32)) <<< ((6 : Int32) &&& 31)) ||| (un &&& (63 : Int32))))] [(.int ix), (.int ld)])) (fun tg kk => XS.iload X0.here hx rfl (hb hby at_197) rfl kk) ?_
              refine OwnGo.back (s₁.setTop (mkF m 201 #[.val (.int p1), .val (.int p2), .val (.int p3), .val (.int ld), .val (.int m3), .val (.int ix), .val (.int un), .val (.int m14), .val (.int (1 : Int32)), .val (.int (((ld &&& (15 : Int32)) <<< ((6 : Int32) &&& 31)) ||| (un &&& (63 : Int32))))] [(.int un), (.int ix), (.int ld)])) (fun tg kk => XS.iload X0.here hx rfl (hb hby at_199) rfl kk) ?_
              obtain ⟨_, _, ⟨T38, L38, k38, n38⟩, -, X38, ⟨Lc38, hQ38, l38, y38, z38⟩, st38⟩ := Jvm.LawKit.callS X0 hx (y := (⟨"com/example/rhone/rhone/tree/Utf8", "continues", "(III)Z"⟩ : MethodName)) hown (mvT hZ (hw _ (List.mem_of_getElem? (i := 1) rfl))) (mvT hZ (hw _ (List.mem_of_getElem? (i := 2) rfl))) (mvT hZ (hw _ (List.mem_of_getElem? (i := 3) rfl))) (mvT hZ (hw _ (List.mem_of_getElem? (i := 4) rfl))) (by decide) (backOf (W := 0) (own_cont l Z a0 hw [] ld ix un lo hi cl ch h0 n0 Z0 SL SH KL KH (by rw [Int32.lt_iff_toInt_lt]; show ¬ _ < (0 : Int); omega) (by rw [Int32.lt_iff_toInt_lt]; show _ < (256 : Int); omega)) hZ (hw _ (List.mem_of_getElem? (i := 4) rfl)) (hw _ (List.mem_of_getElem? (i := 3) rfl)) (by decide) (by decide)) (g := (mkF m 201 #[.val (.int p1), .val (.int p2), .val (.int p3), .val (.int ld), .val (.int m3), .val (.int ix), .val (.int un), .val (.int m14), .val (.int (1 : Int32)), .val (.int (((ld &&& (15 : Int32)) <<< ((6 : Int32) &&& 31)) ||| (un &&& (63 : Int32))))] [(.int un), (.int ix), (.int ld)])) rfl (by rw [hml]; rfl) (argsL := [(.int ld), (.int ix), (.int un)]) (rest := []) (lenOf own_pd0 rfl) rfl (by show 2 * 0 + _ ≤ _; exact Nat.le_of_eq rfl) (hb hby at_201) (fun _ _ => ⟨rfl, e0, (by decide : 0 + 0 ≤ _), (by decide : 0 + 0 ≤ _)⟩)
              dsimp only [Pt.U, Pt.locs, Pt.cells, Pt.slots] at X38 l38 y38 z38 st38 hQ38
              subst l38 y38 z38
              obtain ⟨r_39, rfl, N38q, e38, po40⟩ := hQ38
              have N38 := Fr.app N0 N38q
              refine OwnGo.back (T38.setTop (mkF m 204 #[.val (.int p1), .val (.int p2), .val (.int p3), .val (.int ld), .val (.int m3), .val (.int ix), .val (.int un), .val (.int m14), .val (.int (1 : Int32)), .val (.int (((ld &&& (15 : Int32)) <<< ((6 : Int32) &&& 31)) ||| (un &&& (63 : Int32))))] [(.int r_39)])) (fun tg kk => st38 _ kk) ?_
              refine OwnGo.back (T38.setTop (mkF m 206 #[.val (.int p1), .val (.int p2), .val (.int p3), .val (.int ld), .val (.int m3), .val (.int ix), .val (.int un), .val (.int m14), .val (.int (1 : Int32)), .val (.int (((ld &&& (15 : Int32)) <<< ((6 : Int32) &&& 31)) ||| (un &&& (63 : Int32))))] [(.int (1 : Int32)), (.int r_39)])) (fun tg kk => XS.iload X38.here hx rfl (hb hby at_204) rfl kk) ?_
              refine OwnGo.back (T38.setTop (mkF m 209 #[.val (.int p1), .val (.int p2), .val (.int p3), .val (.int ld), .val (.int m3), .val (.int ix), .val (.int un), .val (.int m14), .val (.int (1 : Int32)), .val (.int (((ld &&& (15 : Int32)) <<< ((6 : Int32) &&& 31)) ||| (un &&& (63 : Int32))))] [])) (fun tg kk => XS.icmpNo X38.here hx rfl (hb hby at_206) rfl (teq (by have a1 := tL ld (by omega) (by omega); have a2 := tH ld (by omega) (by omega); have a3 := own_p3 ld un; have a4 := own_p4 ld un; have a5 := own_c0 run; (simp only [true_and, and_true, false_and, and_false, or_false, false_or, or_true, true_or, not_true_eq_false, not_false_eq_true, eq_self, Int32.lt_iff_toInt_lt, Int32.le_iff_toInt_le, ← Int32.toInt_inj, Int32.reduceToInt, Int64.lt_iff_toInt_lt, Int64.le_iff_toInt_le, ← Int64.toInt_inj, Int64.reduceToInt] at hc23 hc24 hc28 hc29 hc33 hc37 tL tH hm4 hm15 po40 a5 ⊢) <;> omega : r_39 = (1 : Int32))).2 kk) ?_
              refine OwnGo.back (T38.setTop (mkF m 210 #[.val (.int p1), .val (.int p2), .val (.int p3), .val (.int ld), .val (.int m3), .val (.int ix), .val (.int un), .val (.int m14), .val (.int (1 : Int32)), .val (.int (((ld &&& (15 : Int32)) <<< ((6 : Int32) &&& 31)) ||| (un &&& (63 : Int32))))] [(.int (1 : Int32))])) (fun tg kk => XS.iconst X38.here hx rfl (hb hby at_209) kk) ?_
              refine OwnGo.back (T38.setTop (mkF m 214 #[.val (.int p1), .val (.int p2), .val (.int p3), .val (.int ld), .val (.int m3), .val (.int ix), .val (.int un), .val (.int m14), .val (.int (1 : Int32)), .val (.int (((ld &&& (15 : Int32)) <<< ((6 : Int32) &&& 31)) ||| (un &&& (63 : Int32))))] [(.int (1 : Int32))])) (fun tg kk => XS.goto X38.here hx rfl (pc0 := 210) (pc' := 214) rfl (hb hby at_210) (by decide) (by decide) kk) ?_
              obtain ⟨fs, hr, hrun, hended, hW, hsame⟩ := X38.leave (v := some (.int (1 : Int32))) (fun h => by rw [Bd.returns] at h; cases h)
              refine ⟨_, _, ?_, hrun, hended, _, _, rfl, ?_, ⟨_, rfl⟩, hW, hsame.mono (by decide) (by decide)⟩
              · exact retN X38 hx (t := .boolean) Bd.returns (by simp) (hb hby at_214) hr
              · show own_law_Q Z p1 p2 p3 lo hi cl ch h0 n0 _ T38.heap _
                rw [e38]
                exact ⟨rfl, N38, rfl⟩
            ·
              refine OwnGo.back (s₁.setTop (mkF m 136 #[.val (.int p1), .val (.int p2), .val (.int p3), .val (.int ld), .val (.int m3), .val (.int ix), .val (.int un), .val (.int m14), .unset, .val (.int (((ld &&& (15 : Int32)) <<< ((6 : Int32) &&& 31)) ||| (un &&& (63 : Int32))))] [])) (fun tg kk => XS.icmpNo X0.here hx rfl (hb hby at_133) rfl (flt hc37).1 kk) ?_
              refine OwnGo.back (s₁.setTop (mkF m 138 #[.val (.int p1), .val (.int p2), .val (.int p3), .val (.int ld), .val (.int m3), .val (.int ix), .val (.int un), .val (.int m14), .unset, .val (.int (((ld &&& (15 : Int32)) <<< ((6 : Int32) &&& 31)) ||| (un &&& (63 : Int32))))] [(.int (((ld &&& (15 : Int32)) <<< ((6 : Int32) &&& 31)) ||| (un &&& (63 : Int32))))])) (fun tg kk => XS.iload X0.here hx rfl (hb hby at_136) rfl kk) ?_
              refine OwnGo.back (s₁.setTop (mkF m 141 #[.val (.int p1), .val (.int p2), .val (.int p3), .val (.int ld), .val (.int m3), .val (.int ix), .val (.int un), .val (.int m14), .unset, .val (.int (((ld &&& (15 : Int32)) <<< ((6 : Int32) &&& 31)) ||| (un &&& (63 : Int32))))] [(.int (895 : Int32)), (.int (((ld &&& (15 : Int32)) <<< ((6 : Int32) &&& 31)) ||| (un &&& (63 : Int32))))])) (fun tg kk => XS.sipush X0.here hx rfl (hb hby at_138) kk) ?_
              by_cases hc41 : (895 : Int32) < (((ld &&& (15 : Int32)) <<< ((6 : Int32) &&& 31)) ||| (un &&& (63 : Int32)))
              ·
                refine OwnGo.back (s₁.setTop (mkF m 144 #[.val (.int p1), .val (.int p2), .val (.int p3), .val (.int ld), .val (.int m3), .val (.int ix), .val (.int un), .val (.int m14), .unset, .val (.int (((ld &&& (15 : Int32)) <<< ((6 : Int32) &&& 31)) ||| (un &&& (63 : Int32))))] [])) (fun tg kk => XS.icmpNo X0.here hx rfl (hb hby at_141) rfl (tlt hc41).2.2.2 kk) ?_
                refine OwnGo.back (s₁.setTop (mkF m 145 #[.val (.int p1), .val (.int p2), .val (.int p3), .val (.int ld), .val (.int m3), .val (.int ix), .val (.int un), .val (.int m14), .unset, .val (.int (((ld &&& (15 : Int32)) <<< ((6 : Int32) &&& 31)) ||| (un &&& (63 : Int32))))] [(.int (1 : Int32))])) (fun tg kk => XS.iconst X0.here hx rfl (hb hby at_144) kk) ?_
                refine OwnGo.back (s₁.setTop (mkF m 149 #[.val (.int p1), .val (.int p2), .val (.int p3), .val (.int ld), .val (.int m3), .val (.int ix), .val (.int un), .val (.int m14), .unset, .val (.int (((ld &&& (15 : Int32)) <<< ((6 : Int32) &&& 31)) ||| (un &&& (63 : Int32))))] [(.int (1 : Int32))])) (fun tg kk => XS.goto X0.here hx rfl (pc0 := 145) (pc' := 149) rfl (hb hby at_145) (by decide) (by decide) kk) ?_
                refine OwnGo.back (s₁.setTop (mkF m 151 #[.val (.int p1), .val (.int p2), .val (.int p3), .val (.int ld), .val (.int m3), .val (.int ix), .val (.int un), .val (.int m14), .val (.int (1 : Int32)), .val (.int (((ld &&& (15 : Int32)) <<< ((6 : Int32) &&& 31)) ||| (un &&& (63 : Int32))))] [])) (fun tg kk => XS.istore X0.here hx rfl (hb hby at_149) rfl (l' := #[.val (.int p1), .val (.int p2), .val (.int p3), .val (.int ld), .val (.int m3), .val (.int ix), .val (.int un), .val (.int m14), .val (.int (1 : Int32)), .val (.int (((ld &&& (15 : Int32)) <<< ((6 : Int32) &&& 31)) ||| (un &&& (63 : Int32))))]) rfl kk) ?_
                refine OwnGo.back (s₁.setTop (mkF m 196 #[.val (.int p1), .val (.int p2), .val (.int p3), .val (.int ld), .val (.int m3), .val (.int ix), .val (.int un), .val (.int m14), .val (.int (1 : Int32)), .val (.int (((ld &&& (15 : Int32)) <<< ((6 : Int32) &&& 31)) ||| (un &&& (63 : Int32))))] [])) (fun tg kk => XS.goto X0.here hx rfl (pc0 := 151) (pc' := 196) rfl (hb hby at_151) (by decide) (by decide) kk) ?_
                refine OwnGo.back (s₁.setTop (mkF m 197 #[.val (.int p1), .val (.int p2), .val (.int p3), .val (.int ld), .val (.int m3), .val (.int ix), .val (.int un), .val (.int m14), .val (.int (1 : Int32)), .val (.int (((ld &&& (15 : Int32)) <<< ((6 : Int32) &&& 31)) ||| (un &&& (63 : Int32))))] [(.int ld)])) (fun tg kk => XS.iloadN X0.here hx rfl (hb hby at_196) rfl kk) ?_
                refine OwnGo.back (s₁.setTop (mkF m 199 #[.val (.int p1), .val (.int p2), .val (.int p3), .val (.int ld), .val (.int m3), .val (.int ix), .val (.int un), .val (.int m14), .val (.int (1 : Int32)), .val (.int (((ld &&& (15 : Int32)) <<< ((6 : Int32) &&& 31)) ||| (un &&& (63 : Int32))))] [(.int ix), (.int ld)])) (fun tg kk => XS.iload X0.here hx rfl (hb hby at_197) rfl kk) ?_
                refine OwnGo.back (s₁.setTop (mkF m 201 #[.val (.int p1), .val (.int p2), .val (.int p3), .val (.int ld), .val (.int m3), .val (.int ix), .val (.int un), .val (.int m14), .val (.int (1 : Int32)), .val (.int (((ld &&& (15 : Int32)) <<< ((6 : Int32) &&& 31)) ||| (un &&& (63 : Int32))))] [(.int un), (.int ix), (.int ld)])) (fun tg kk => XS.iload X0.here hx rfl (hb hby at_199) rfl kk) ?_
                obtain ⟨_, _, ⟨T42, L42, k42, n42⟩, -, X42, ⟨Lc42, hQ42, l42, y42, z42⟩, st42⟩ := Jvm.LawKit.callS X0 hx (y := (⟨"com/example/rhone/rhone/tree/Utf8", "continues", "(III)Z"⟩ : MethodName)) hown (mvT hZ (hw _ (List.mem_of_getElem? (i := 1) rfl))) (mvT hZ (hw _ (List.mem_of_getElem? (i := 2) rfl))) (mvT hZ (hw _ (List.mem_of_getElem? (i := 3) rfl))) (mvT hZ (hw _ (List.mem_of_getElem? (i := 4) rfl))) (by decide) (backOf (W := 0) (own_cont l Z a0 hw [] ld ix un lo hi cl ch h0 n0 Z0 SL SH KL KH (by rw [Int32.lt_iff_toInt_lt]; show ¬ _ < (0 : Int); omega) (by rw [Int32.lt_iff_toInt_lt]; show _ < (256 : Int); omega)) hZ (hw _ (List.mem_of_getElem? (i := 4) rfl)) (hw _ (List.mem_of_getElem? (i := 3) rfl)) (by decide) (by decide)) (g := (mkF m 201 #[.val (.int p1), .val (.int p2), .val (.int p3), .val (.int ld), .val (.int m3), .val (.int ix), .val (.int un), .val (.int m14), .val (.int (1 : Int32)), .val (.int (((ld &&& (15 : Int32)) <<< ((6 : Int32) &&& 31)) ||| (un &&& (63 : Int32))))] [(.int un), (.int ix), (.int ld)])) rfl (by rw [hml]; rfl) (argsL := [(.int ld), (.int ix), (.int un)]) (rest := []) (lenOf own_pd0 rfl) rfl (by show 2 * 0 + _ ≤ _; exact Nat.le_of_eq rfl) (hb hby at_201) (fun _ _ => ⟨rfl, e0, (by decide : 0 + 0 ≤ _), (by decide : 0 + 0 ≤ _)⟩)
                dsimp only [Pt.U, Pt.locs, Pt.cells, Pt.slots] at X42 l42 y42 z42 st42 hQ42
                subst l42 y42 z42
                obtain ⟨r_43, rfl, N42q, e42, po44⟩ := hQ42
                have N42 := Fr.app N0 N42q
                refine OwnGo.back (T42.setTop (mkF m 204 #[.val (.int p1), .val (.int p2), .val (.int p3), .val (.int ld), .val (.int m3), .val (.int ix), .val (.int un), .val (.int m14), .val (.int (1 : Int32)), .val (.int (((ld &&& (15 : Int32)) <<< ((6 : Int32) &&& 31)) ||| (un &&& (63 : Int32))))] [(.int r_43)])) (fun tg kk => st42 _ kk) ?_
                refine OwnGo.back (T42.setTop (mkF m 206 #[.val (.int p1), .val (.int p2), .val (.int p3), .val (.int ld), .val (.int m3), .val (.int ix), .val (.int un), .val (.int m14), .val (.int (1 : Int32)), .val (.int (((ld &&& (15 : Int32)) <<< ((6 : Int32) &&& 31)) ||| (un &&& (63 : Int32))))] [(.int (1 : Int32)), (.int r_43)])) (fun tg kk => XS.iload X42.here hx rfl (hb hby at_204) rfl kk) ?_
                refine OwnGo.back (T42.setTop (mkF m 209 #[.val (.int p1), .val (.int p2), .val (.int p3), .val (.int ld), .val (.int m3), .val (.int ix), .val (.int un), .val (.int m14), .val (.int (1 : Int32)), .val (.int (((ld &&& (15 : Int32)) <<< ((6 : Int32) &&& 31)) ||| (un &&& (63 : Int32))))] [])) (fun tg kk => XS.icmpNo X42.here hx rfl (hb hby at_206) rfl (teq (by have a1 := tL ld (by omega) (by omega); have a2 := tH ld (by omega) (by omega); have a3 := own_p3 ld un; have a4 := own_p4 ld un; have a5 := own_c0 run; (simp only [true_and, and_true, false_and, and_false, or_false, false_or, or_true, true_or, not_true_eq_false, not_false_eq_true, eq_self, Int32.lt_iff_toInt_lt, Int32.le_iff_toInt_le, ← Int32.toInt_inj, Int32.reduceToInt, Int64.lt_iff_toInt_lt, Int64.le_iff_toInt_le, ← Int64.toInt_inj, Int64.reduceToInt] at hc23 hc24 hc28 hc29 hc33 hc37 hc41 tL tH hm4 hm15 po44 a5 ⊢) <;> omega : r_43 = (1 : Int32))).2 kk) ?_
                refine OwnGo.back (T42.setTop (mkF m 210 #[.val (.int p1), .val (.int p2), .val (.int p3), .val (.int ld), .val (.int m3), .val (.int ix), .val (.int un), .val (.int m14), .val (.int (1 : Int32)), .val (.int (((ld &&& (15 : Int32)) <<< ((6 : Int32) &&& 31)) ||| (un &&& (63 : Int32))))] [(.int (1 : Int32))])) (fun tg kk => XS.iconst X42.here hx rfl (hb hby at_209) kk) ?_
                refine OwnGo.back (T42.setTop (mkF m 214 #[.val (.int p1), .val (.int p2), .val (.int p3), .val (.int ld), .val (.int m3), .val (.int ix), .val (.int un), .val (.int m14), .val (.int (1 : Int32)), .val (.int (((ld &&& (15 : Int32)) <<< ((6 : Int32) &&& 31)) ||| (un &&& (63 : Int32))))] [(.int (1 : Int32))])) (fun tg kk => XS.goto X42.here hx rfl (pc0 := 210) (pc' := 214) rfl (hb hby at_210) (by decide) (by decide) kk) ?_
                obtain ⟨fs, hr, hrun, hended, hW, hsame⟩ := X42.leave (v := some (.int (1 : Int32))) (fun h => by rw [Bd.returns] at h; cases h)
                refine ⟨_, _, ?_, hrun, hended, _, _, rfl, ?_, ⟨_, rfl⟩, hW, hsame.mono (by decide) (by decide)⟩
                · exact retN X42 hx (t := .boolean) Bd.returns (by simp) (hb hby at_214) hr
                · show own_law_Q Z p1 p2 p3 lo hi cl ch h0 n0 _ T42.heap _
                  rw [e42]
                  exact ⟨rfl, N42, rfl⟩
              ·
                refine OwnGo.back (s₁.setTop (mkF m 148 #[.val (.int p1), .val (.int p2), .val (.int p3), .val (.int ld), .val (.int m3), .val (.int ix), .val (.int un), .val (.int m14), .unset, .val (.int (((ld &&& (15 : Int32)) <<< ((6 : Int32) &&& 31)) ||| (un &&& (63 : Int32))))] [])) (fun tg kk => XS.icmpYes X0.here hx rfl (pc0 := 141) (pc' := 148) rfl (hb hby at_141) rfl (flt hc41).2.2.2 (by decide) (by decide) kk) ?_
                refine OwnGo.back (s₁.setTop (mkF m 149 #[.val (.int p1), .val (.int p2), .val (.int p3), .val (.int ld), .val (.int m3), .val (.int ix), .val (.int un), .val (.int m14), .unset, .val (.int (((ld &&& (15 : Int32)) <<< ((6 : Int32) &&& 31)) ||| (un &&& (63 : Int32))))] [(.int (0 : Int32))])) (fun tg kk => XS.iconst X0.here hx rfl (hb hby at_148) kk) ?_
                refine OwnGo.back (s₁.setTop (mkF m 151 #[.val (.int p1), .val (.int p2), .val (.int p3), .val (.int ld), .val (.int m3), .val (.int ix), .val (.int un), .val (.int m14), .val (.int (0 : Int32)), .val (.int (((ld &&& (15 : Int32)) <<< ((6 : Int32) &&& 31)) ||| (un &&& (63 : Int32))))] [])) (fun tg kk => XS.istore X0.here hx rfl (hb hby at_149) rfl (l' := #[.val (.int p1), .val (.int p2), .val (.int p3), .val (.int ld), .val (.int m3), .val (.int ix), .val (.int un), .val (.int m14), .val (.int (0 : Int32)), .val (.int (((ld &&& (15 : Int32)) <<< ((6 : Int32) &&& 31)) ||| (un &&& (63 : Int32))))]) rfl kk) ?_
                refine OwnGo.back (s₁.setTop (mkF m 196 #[.val (.int p1), .val (.int p2), .val (.int p3), .val (.int ld), .val (.int m3), .val (.int ix), .val (.int un), .val (.int m14), .val (.int (0 : Int32)), .val (.int (((ld &&& (15 : Int32)) <<< ((6 : Int32) &&& 31)) ||| (un &&& (63 : Int32))))] [])) (fun tg kk => XS.goto X0.here hx rfl (pc0 := 151) (pc' := 196) rfl (hb hby at_151) (by decide) (by decide) kk) ?_
                refine OwnGo.back (s₁.setTop (mkF m 197 #[.val (.int p1), .val (.int p2), .val (.int p3), .val (.int ld), .val (.int m3), .val (.int ix), .val (.int un), .val (.int m14), .val (.int (0 : Int32)), .val (.int (((ld &&& (15 : Int32)) <<< ((6 : Int32) &&& 31)) ||| (un &&& (63 : Int32))))] [(.int ld)])) (fun tg kk => XS.iloadN X0.here hx rfl (hb hby at_196) rfl kk) ?_
                refine OwnGo.back (s₁.setTop (mkF m 199 #[.val (.int p1), .val (.int p2), .val (.int p3), .val (.int ld), .val (.int m3), .val (.int ix), .val (.int un), .val (.int m14), .val (.int (0 : Int32)), .val (.int (((ld &&& (15 : Int32)) <<< ((6 : Int32) &&& 31)) ||| (un &&& (63 : Int32))))] [(.int ix), (.int ld)])) (fun tg kk => XS.iload X0.here hx rfl (hb hby at_197) rfl kk) ?_
                refine OwnGo.back (s₁.setTop (mkF m 201 #[.val (.int p1), .val (.int p2), .val (.int p3), .val (.int ld), .val (.int m3), .val (.int ix), .val (.int un), .val (.int m14), .val (.int (0 : Int32)), .val (.int (((ld &&& (15 : Int32)) <<< ((6 : Int32) &&& 31)) ||| (un &&& (63 : Int32))))] [(.int un), (.int ix), (.int ld)])) (fun tg kk => XS.iload X0.here hx rfl (hb hby at_199) rfl kk) ?_
                obtain ⟨_, _, ⟨T45, L45, k45, n45⟩, -, X45, ⟨Lc45, hQ45, l45, y45, z45⟩, st45⟩ := Jvm.LawKit.callS X0 hx (y := (⟨"com/example/rhone/rhone/tree/Utf8", "continues", "(III)Z"⟩ : MethodName)) hown (mvT hZ (hw _ (List.mem_of_getElem? (i := 1) rfl))) (mvT hZ (hw _ (List.mem_of_getElem? (i := 2) rfl))) (mvT hZ (hw _ (List.mem_of_getElem? (i := 3) rfl))) (mvT hZ (hw _ (List.mem_of_getElem? (i := 4) rfl))) (by decide) (backOf (W := 0) (own_cont l Z a0 hw [] ld ix un lo hi cl ch h0 n0 Z0 SL SH KL KH (by rw [Int32.lt_iff_toInt_lt]; show ¬ _ < (0 : Int); omega) (by rw [Int32.lt_iff_toInt_lt]; show _ < (256 : Int); omega)) hZ (hw _ (List.mem_of_getElem? (i := 4) rfl)) (hw _ (List.mem_of_getElem? (i := 3) rfl)) (by decide) (by decide)) (g := (mkF m 201 #[.val (.int p1), .val (.int p2), .val (.int p3), .val (.int ld), .val (.int m3), .val (.int ix), .val (.int un), .val (.int m14), .val (.int (0 : Int32)), .val (.int (((ld &&& (15 : Int32)) <<< ((6 : Int32) &&& 31)) ||| (un &&& (63 : Int32))))] [(.int un), (.int ix), (.int ld)])) rfl (by rw [hml]; rfl) (argsL := [(.int ld), (.int ix), (.int un)]) (rest := []) (lenOf own_pd0 rfl) rfl (by show 2 * 0 + _ ≤ _; exact Nat.le_of_eq rfl) (hb hby at_201) (fun _ _ => ⟨rfl, e0, (by decide : 0 + 0 ≤ _), (by decide : 0 + 0 ≤ _)⟩)
                dsimp only [Pt.U, Pt.locs, Pt.cells, Pt.slots] at X45 l45 y45 z45 st45 hQ45
                subst l45 y45 z45
                obtain ⟨r_46, rfl, N45q, e45, po47⟩ := hQ45
                have N45 := Fr.app N0 N45q
                refine OwnGo.back (T45.setTop (mkF m 204 #[.val (.int p1), .val (.int p2), .val (.int p3), .val (.int ld), .val (.int m3), .val (.int ix), .val (.int un), .val (.int m14), .val (.int (0 : Int32)), .val (.int (((ld &&& (15 : Int32)) <<< ((6 : Int32) &&& 31)) ||| (un &&& (63 : Int32))))] [(.int r_46)])) (fun tg kk => st45 _ kk) ?_
                refine OwnGo.back (T45.setTop (mkF m 206 #[.val (.int p1), .val (.int p2), .val (.int p3), .val (.int ld), .val (.int m3), .val (.int ix), .val (.int un), .val (.int m14), .val (.int (0 : Int32)), .val (.int (((ld &&& (15 : Int32)) <<< ((6 : Int32) &&& 31)) ||| (un &&& (63 : Int32))))] [(.int (0 : Int32)), (.int r_46)])) (fun tg kk => XS.iload X45.here hx rfl (hb hby at_204) rfl kk) ?_
                refine OwnGo.back (T45.setTop (mkF m 209 #[.val (.int p1), .val (.int p2), .val (.int p3), .val (.int ld), .val (.int m3), .val (.int ix), .val (.int un), .val (.int m14), .val (.int (0 : Int32)), .val (.int (((ld &&& (15 : Int32)) <<< ((6 : Int32) &&& 31)) ||| (un &&& (63 : Int32))))] [])) (fun tg kk => XS.icmpNo X45.here hx rfl (hb hby at_206) rfl (teq (by have a1 := tL ld (by omega) (by omega); have a2 := tH ld (by omega) (by omega); have a3 := own_p3 ld un; have a4 := own_p4 ld un; have a5 := own_c0 run; (simp only [true_and, and_true, false_and, and_false, or_false, false_or, or_true, true_or, not_true_eq_false, not_false_eq_true, eq_self, Int32.lt_iff_toInt_lt, Int32.le_iff_toInt_le, ← Int32.toInt_inj, Int32.reduceToInt, Int64.lt_iff_toInt_lt, Int64.le_iff_toInt_le, ← Int64.toInt_inj, Int64.reduceToInt] at hc23 hc24 hc28 hc29 hc33 hc37 hc41 tL tH hm4 hm15 po47 a5 ⊢) <;> omega : r_46 = (0 : Int32))).2 kk) ?_
                refine OwnGo.back (T45.setTop (mkF m 210 #[.val (.int p1), .val (.int p2), .val (.int p3), .val (.int ld), .val (.int m3), .val (.int ix), .val (.int un), .val (.int m14), .val (.int (0 : Int32)), .val (.int (((ld &&& (15 : Int32)) <<< ((6 : Int32) &&& 31)) ||| (un &&& (63 : Int32))))] [(.int (1 : Int32))])) (fun tg kk => XS.iconst X45.here hx rfl (hb hby at_209) kk) ?_
                refine OwnGo.back (T45.setTop (mkF m 214 #[.val (.int p1), .val (.int p2), .val (.int p3), .val (.int ld), .val (.int m3), .val (.int ix), .val (.int un), .val (.int m14), .val (.int (0 : Int32)), .val (.int (((ld &&& (15 : Int32)) <<< ((6 : Int32) &&& 31)) ||| (un &&& (63 : Int32))))] [(.int (1 : Int32))])) (fun tg kk => XS.goto X45.here hx rfl (pc0 := 210) (pc' := 214) rfl (hb hby at_210) (by decide) (by decide) kk) ?_
                obtain ⟨fs, hr, hrun, hended, hW, hsame⟩ := X45.leave (v := some (.int (1 : Int32))) (fun h => by rw [Bd.returns] at h; cases h)
                refine ⟨_, _, ?_, hrun, hended, _, _, rfl, ?_, ⟨_, rfl⟩, hW, hsame.mono (by decide) (by decide)⟩
                · exact retN X45 hx (t := .boolean) Bd.returns (by simp) (hb hby at_214) hr
                · show own_law_Q Z p1 p2 p3 lo hi cl ch h0 n0 _ T45.heap _
                  rw [e45]
                  exact ⟨rfl, N45, rfl⟩
      ·
        refine OwnGo.back (s₁.setTop (mkF m 154 #[.val (.int p1), .val (.int p2), .val (.int p3), .val (.int ld), .val (.int m3), .val (.int ix), .val (.int un), .val (.int m14), .unset, .unset] [])) (fun tg kk => XS.icmpYes X0.here hx rfl (pc0 := 98) (pc' := 154) rfl (hb hby at_98) rfl (feq hc28).2 (by decide) (by decide) kk) ?_
        refine OwnGo.back (s₁.setTop (mkF m 155 #[.val (.int p1), .val (.int p2), .val (.int p3), .val (.int ld), .val (.int m3), .val (.int ix), .val (.int un), .val (.int m14), .unset, .unset] [(.int ld)])) (fun tg kk => XS.iloadN X0.here hx rfl (hb hby at_154) rfl kk) ?_
        refine OwnGo.back (s₁.setTop (mkF m 157 #[.val (.int p1), .val (.int p2), .val (.int p3), .val (.int ld), .val (.int m3), .val (.int ix), .val (.int un), .val (.int m14), .unset, .unset] [(.int (7 : Int32)), (.int ld)])) (fun tg kk => XS.bipush X0.here hx rfl (hb hby at_155) kk) ?_
        refine OwnGo.back (s₁.setTop (mkF m 158 #[.val (.int p1), .val (.int p2), .val (.int p3), .val (.int ld), .val (.int m3), .val (.int ix), .val (.int un), .val (.int m14), .unset, .unset] [(.int (ld &&& (7 : Int32)))])) (fun tg kk => XS.iand X0.here hx rfl (hb hby at_157) rfl kk) ?_
        refine OwnGo.back (s₁.setTop (mkF m 160 #[.val (.int p1), .val (.int p2), .val (.int p3), .val (.int ld), .val (.int m3), .val (.int ix), .val (.int un), .val (.int m14), .unset, .unset] [(.int (6 : Int32)), (.int (ld &&& (7 : Int32)))])) (fun tg kk => XS.bipush X0.here hx rfl (hb hby at_158) kk) ?_
        refine OwnGo.back (s₁.setTop (mkF m 161 #[.val (.int p1), .val (.int p2), .val (.int p3), .val (.int ld), .val (.int m3), .val (.int ix), .val (.int un), .val (.int m14), .unset, .unset] [(.int ((ld &&& (7 : Int32)) <<< ((6 : Int32) &&& 31)))])) (fun tg kk => XS.ishl X0.here hx rfl (hb hby at_160) rfl kk) ?_
        refine OwnGo.back (s₁.setTop (mkF m 163 #[.val (.int p1), .val (.int p2), .val (.int p3), .val (.int ld), .val (.int m3), .val (.int ix), .val (.int un), .val (.int m14), .unset, .unset] [(.int un), (.int ((ld &&& (7 : Int32)) <<< ((6 : Int32) &&& 31)))])) (fun tg kk => XS.iload X0.here hx rfl (hb hby at_161) rfl kk) ?_
        refine OwnGo.back (s₁.setTop (mkF m 165 #[.val (.int p1), .val (.int p2), .val (.int p3), .val (.int ld), .val (.int m3), .val (.int ix), .val (.int un), .val (.int m14), .unset, .unset] [(.int (63 : Int32)), (.int un), (.int ((ld &&& (7 : Int32)) <<< ((6 : Int32) &&& 31)))])) (fun tg kk => XS.bipush X0.here hx rfl (hb hby at_163) kk) ?_
        refine OwnGo.back (s₁.setTop (mkF m 166 #[.val (.int p1), .val (.int p2), .val (.int p3), .val (.int ld), .val (.int m3), .val (.int ix), .val (.int un), .val (.int m14), .unset, .unset] [(.int (un &&& (63 : Int32))), (.int ((ld &&& (7 : Int32)) <<< ((6 : Int32) &&& 31)))])) (fun tg kk => XS.iand X0.here hx rfl (hb hby at_165) rfl kk) ?_
        refine OwnGo.back (s₁.setTop (mkF m 167 #[.val (.int p1), .val (.int p2), .val (.int p3), .val (.int ld), .val (.int m3), .val (.int ix), .val (.int un), .val (.int m14), .unset, .unset] [(.int (((ld &&& (7 : Int32)) <<< ((6 : Int32) &&& 31)) ||| (un &&& (63 : Int32))))])) (fun tg kk => XS.ior X0.here hx rfl (hb hby at_166) rfl kk) ?_
        refine OwnGo.back (s₁.setTop (mkF m 169 #[.val (.int p1), .val (.int p2), .val (.int p3), .val (.int ld), .val (.int m3), .val (.int ix), .val (.int un), .val (.int m14), .unset, .val (.int (((ld &&& (7 : Int32)) <<< ((6 : Int32) &&& 31)) ||| (un &&& (63 : Int32))))] [])) (fun tg kk => XS.istore X0.here hx rfl (hb hby at_167) rfl (l' := #[.val (.int p1), .val (.int p2), .val (.int p3), .val (.int ld), .val (.int m3), .val (.int ix), .val (.int un), .val (.int m14), .unset, .val (.int (((ld &&& (7 : Int32)) <<< ((6 : Int32) &&& 31)) ||| (un &&& (63 : Int32))))]) rfl kk) ?_
        refine OwnGo.back (s₁.setTop (mkF m 171 #[.val (.int p1), .val (.int p2), .val (.int p3), .val (.int ld), .val (.int m3), .val (.int ix), .val (.int un), .val (.int m14), .unset, .val (.int (((ld &&& (7 : Int32)) <<< ((6 : Int32) &&& 31)) ||| (un &&& (63 : Int32))))] [(.int m14)])) (fun tg kk => XS.iload X0.here hx rfl (hb hby at_169) rfl kk) ?_
        by_cases hc48 : m14 = (0 : Int32)
        ·
          refine OwnGo.back (s₁.setTop (mkF m 193 #[.val (.int p1), .val (.int p2), .val (.int p3), .val (.int ld), .val (.int m3), .val (.int ix), .val (.int un), .val (.int m14), .unset, .val (.int (((ld &&& (7 : Int32)) <<< ((6 : Int32) &&& 31)) ||| (un &&& (63 : Int32))))] [])) (fun tg kk => XS.ifYes X0.here hx rfl (pc0 := 171) (pc' := 193) rfl (hb hby at_171) rfl ((if0 _ _).trans (teq hc48).1) (by decide) (by decide) kk) ?_
          refine OwnGo.back (s₁.setTop (mkF m 194 #[.val (.int p1), .val (.int p2), .val (.int p3), .val (.int ld), .val (.int m3), .val (.int ix), .val (.int un), .val (.int m14), .unset, .val (.int (((ld &&& (7 : Int32)) <<< ((6 : Int32) &&& 31)) ||| (un &&& (63 : Int32))))] [(.int (0 : Int32))])) (fun tg kk => XS.iconst X0.here hx rfl (hb hby at_193) kk) ?_
          refine OwnGo.back (s₁.setTop (mkF m 196 #[.val (.int p1), .val (.int p2), .val (.int p3), .val (.int ld), .val (.int m3), .val (.int ix), .val (.int un), .val (.int m14), .val (.int (0 : Int32)), .val (.int (((ld &&& (7 : Int32)) <<< ((6 : Int32) &&& 31)) ||| (un &&& (63 : Int32))))] [])) (fun tg kk => XS.istore X0.here hx rfl (hb hby at_194) rfl (l' := #[.val (.int p1), .val (.int p2), .val (.int p3), .val (.int ld), .val (.int m3), .val (.int ix), .val (.int un), .val (.int m14), .val (.int (0 : Int32)), .val (.int (((ld &&& (7 : Int32)) <<< ((6 : Int32) &&& 31)) ||| (un &&& (63 : Int32))))]) rfl kk) ?_
          refine OwnGo.back (s₁.setTop (mkF m 197 #[.val (.int p1), .val (.int p2), .val (.int p3), .val (.int ld), .val (.int m3), .val (.int ix), .val (.int un), .val (.int m14), .val (.int (0 : Int32)), .val (.int (((ld &&& (7 : Int32)) <<< ((6 : Int32) &&& 31)) ||| (un &&& (63 : Int32))))] [(.int ld)])) (fun tg kk => XS.iloadN X0.here hx rfl (hb hby at_196) rfl kk) ?_
          refine OwnGo.back (s₁.setTop (mkF m 199 #[.val (.int p1), .val (.int p2), .val (.int p3), .val (.int ld), .val (.int m3), .val (.int ix), .val (.int un), .val (.int m14), .val (.int (0 : Int32)), .val (.int (((ld &&& (7 : Int32)) <<< ((6 : Int32) &&& 31)) ||| (un &&& (63 : Int32))))] [(.int ix), (.int ld)])) (fun tg kk => XS.iload X0.here hx rfl (hb hby at_197) rfl kk) ?_
          refine OwnGo.back (s₁.setTop (mkF m 201 #[.val (.int p1), .val (.int p2), .val (.int p3), .val (.int ld), .val (.int m3), .val (.int ix), .val (.int un), .val (.int m14), .val (.int (0 : Int32)), .val (.int (((ld &&& (7 : Int32)) <<< ((6 : Int32) &&& 31)) ||| (un &&& (63 : Int32))))] [(.int un), (.int ix), (.int ld)])) (fun tg kk => XS.iload X0.here hx rfl (hb hby at_199) rfl kk) ?_
          obtain ⟨_, _, ⟨T49, L49, k49, n49⟩, -, X49, ⟨Lc49, hQ49, l49, y49, z49⟩, st49⟩ := Jvm.LawKit.callS X0 hx (y := (⟨"com/example/rhone/rhone/tree/Utf8", "continues", "(III)Z"⟩ : MethodName)) hown (mvT hZ (hw _ (List.mem_of_getElem? (i := 1) rfl))) (mvT hZ (hw _ (List.mem_of_getElem? (i := 2) rfl))) (mvT hZ (hw _ (List.mem_of_getElem? (i := 3) rfl))) (mvT hZ (hw _ (List.mem_of_getElem? (i := 4) rfl))) (by decide) (backOf (W := 0) (own_cont l Z a0 hw [] ld ix un lo hi cl ch h0 n0 Z0 SL SH KL KH (by rw [Int32.lt_iff_toInt_lt]; show ¬ _ < (0 : Int); omega) (by rw [Int32.lt_iff_toInt_lt]; show _ < (256 : Int); omega)) hZ (hw _ (List.mem_of_getElem? (i := 4) rfl)) (hw _ (List.mem_of_getElem? (i := 3) rfl)) (by decide) (by decide)) (g := (mkF m 201 #[.val (.int p1), .val (.int p2), .val (.int p3), .val (.int ld), .val (.int m3), .val (.int ix), .val (.int un), .val (.int m14), .val (.int (0 : Int32)), .val (.int (((ld &&& (7 : Int32)) <<< ((6 : Int32) &&& 31)) ||| (un &&& (63 : Int32))))] [(.int un), (.int ix), (.int ld)])) rfl (by rw [hml]; rfl) (argsL := [(.int ld), (.int ix), (.int un)]) (rest := []) (lenOf own_pd0 rfl) rfl (by show 2 * 0 + _ ≤ _; exact Nat.le_of_eq rfl) (hb hby at_201) (fun _ _ => ⟨rfl, e0, (by decide : 0 + 0 ≤ _), (by decide : 0 + 0 ≤ _)⟩)
          dsimp only [Pt.U, Pt.locs, Pt.cells, Pt.slots] at X49 l49 y49 z49 st49 hQ49
          subst l49 y49 z49
          obtain ⟨r_50, rfl, N49q, e49, po51⟩ := hQ49
          have N49 := Fr.app N0 N49q
          refine OwnGo.back (T49.setTop (mkF m 204 #[.val (.int p1), .val (.int p2), .val (.int p3), .val (.int ld), .val (.int m3), .val (.int ix), .val (.int un), .val (.int m14), .val (.int (0 : Int32)), .val (.int (((ld &&& (7 : Int32)) <<< ((6 : Int32) &&& 31)) ||| (un &&& (63 : Int32))))] [(.int r_50)])) (fun tg kk => st49 _ kk) ?_
          refine OwnGo.back (T49.setTop (mkF m 206 #[.val (.int p1), .val (.int p2), .val (.int p3), .val (.int ld), .val (.int m3), .val (.int ix), .val (.int un), .val (.int m14), .val (.int (0 : Int32)), .val (.int (((ld &&& (7 : Int32)) <<< ((6 : Int32) &&& 31)) ||| (un &&& (63 : Int32))))] [(.int (0 : Int32)), (.int r_50)])) (fun tg kk => XS.iload X49.here hx rfl (hb hby at_204) rfl kk) ?_
          refine OwnGo.back (T49.setTop (mkF m 209 #[.val (.int p1), .val (.int p2), .val (.int p3), .val (.int ld), .val (.int m3), .val (.int ix), .val (.int un), .val (.int m14), .val (.int (0 : Int32)), .val (.int (((ld &&& (7 : Int32)) <<< ((6 : Int32) &&& 31)) ||| (un &&& (63 : Int32))))] [])) (fun tg kk => XS.icmpNo X49.here hx rfl (hb hby at_206) rfl (teq (by have a1 := tL ld (by omega) (by omega); have a2 := tH ld (by omega) (by omega); have a3 := own_p3 ld un; have a4 := own_p4 ld un; have a5 := own_c0 run; (simp only [true_and, and_true, false_and, and_false, or_false, false_or, or_true, true_or, not_true_eq_false, not_false_eq_true, eq_self, Int32.lt_iff_toInt_lt, Int32.le_iff_toInt_le, ← Int32.toInt_inj, Int32.reduceToInt, Int64.lt_iff_toInt_lt, Int64.le_iff_toInt_le, ← Int64.toInt_inj, Int64.reduceToInt] at hc23 hc24 hc28 hc48 tL tH hm4 hm15 po51 a5 ⊢) <;> omega : r_50 = (0 : Int32))).2 kk) ?_
          refine OwnGo.back (T49.setTop (mkF m 210 #[.val (.int p1), .val (.int p2), .val (.int p3), .val (.int ld), .val (.int m3), .val (.int ix), .val (.int un), .val (.int m14), .val (.int (0 : Int32)), .val (.int (((ld &&& (7 : Int32)) <<< ((6 : Int32) &&& 31)) ||| (un &&& (63 : Int32))))] [(.int (1 : Int32))])) (fun tg kk => XS.iconst X49.here hx rfl (hb hby at_209) kk) ?_
          refine OwnGo.back (T49.setTop (mkF m 214 #[.val (.int p1), .val (.int p2), .val (.int p3), .val (.int ld), .val (.int m3), .val (.int ix), .val (.int un), .val (.int m14), .val (.int (0 : Int32)), .val (.int (((ld &&& (7 : Int32)) <<< ((6 : Int32) &&& 31)) ||| (un &&& (63 : Int32))))] [(.int (1 : Int32))])) (fun tg kk => XS.goto X49.here hx rfl (pc0 := 210) (pc' := 214) rfl (hb hby at_210) (by decide) (by decide) kk) ?_
          obtain ⟨fs, hr, hrun, hended, hW, hsame⟩ := X49.leave (v := some (.int (1 : Int32))) (fun h => by rw [Bd.returns] at h; cases h)
          refine ⟨_, _, ?_, hrun, hended, _, _, rfl, ?_, ⟨_, rfl⟩, hW, hsame.mono (by decide) (by decide)⟩
          · exact retN X49 hx (t := .boolean) Bd.returns (by simp) (hb hby at_214) hr
          · show own_law_Q Z p1 p2 p3 lo hi cl ch h0 n0 _ T49.heap _
            rw [e49]
            exact ⟨rfl, N49, rfl⟩
        ·
          refine OwnGo.back (s₁.setTop (mkF m 174 #[.val (.int p1), .val (.int p2), .val (.int p3), .val (.int ld), .val (.int m3), .val (.int ix), .val (.int un), .val (.int m14), .unset, .val (.int (((ld &&& (7 : Int32)) <<< ((6 : Int32) &&& 31)) ||| (un &&& (63 : Int32))))] [])) (fun tg kk => XS.ifNo X0.here hx rfl (hb hby at_171) rfl ((if0 _ _).trans (feq hc48).1) kk) ?_
          refine OwnGo.back (s₁.setTop (mkF m 176 #[.val (.int p1), .val (.int p2), .val (.int p3), .val (.int ld), .val (.int m3), .val (.int ix), .val (.int un), .val (.int m14), .unset, .val (.int (((ld &&& (7 : Int32)) <<< ((6 : Int32) &&& 31)) ||| (un &&& (63 : Int32))))] [(.int (((ld &&& (7 : Int32)) <<< ((6 : Int32) &&& 31)) ||| (un &&& (63 : Int32))))])) (fun tg kk => XS.iload X0.here hx rfl (hb hby at_174) rfl kk) ?_
          refine OwnGo.back (s₁.setTop (mkF m 178 #[.val (.int p1), .val (.int p2), .val (.int p3), .val (.int ld), .val (.int m3), .val (.int ix), .val (.int un), .val (.int m14), .unset, .val (.int (((ld &&& (7 : Int32)) <<< ((6 : Int32) &&& 31)) ||| (un &&& (63 : Int32))))] [(.int (16 : Int32)), (.int (((ld &&& (7 : Int32)) <<< ((6 : Int32) &&& 31)) ||| (un &&& (63 : Int32))))])) (fun tg kk => XS.bipush X0.here hx rfl (hb hby at_176) kk) ?_
          by_cases hc52 : (((ld &&& (7 : Int32)) <<< ((6 : Int32) &&& 31)) ||| (un &&& (63 : Int32))) < (16 : Int32)
          ·
            refine OwnGo.back (s₁.setTop (mkF m 193 #[.val (.int p1), .val (.int p2), .val (.int p3), .val (.int ld), .val (.int m3), .val (.int ix), .val (.int un), .val (.int m14), .unset, .val (.int (((ld &&& (7 : Int32)) <<< ((6 : Int32) &&& 31)) ||| (un &&& (63 : Int32))))] [])) (fun tg kk => XS.icmpYes X0.here hx rfl (pc0 := 178) (pc' := 193) rfl (hb hby at_178) rfl (tlt hc52).1 (by decide) (by decide) kk) ?_
            refine OwnGo.back (s₁.setTop (mkF m 194 #[.val (.int p1), .val (.int p2), .val (.int p3), .val (.int ld), .val (.int m3), .val (.int ix), .val (.int un), .val (.int m14), .unset, .val (.int (((ld &&& (7 : Int32)) <<< ((6 : Int32) &&& 31)) ||| (un &&& (63 : Int32))))] [(.int (0 : Int32))])) (fun tg kk => XS.iconst X0.here hx rfl (hb hby at_193) kk) ?_
            refine OwnGo.back (s₁.setTop (mkF m 196 #[.val (.int p1), .val (.int p2), .val (.int p3), .val (.int ld), .val (.int m3), .val (.int ix), .val (.int un), .val (.int m14), .val (.int (0 : Int32)), .val (.int (((ld &&& (7 : Int32)) <<< ((6 : Int32) &&& 31)) ||| (un &&& (63 : Int32))))] [])) (fun tg kk => XS.istore X0.here hx rfl (hb hby at_194) rfl (l' := #[.val (.int p1), .val (.int p2), .val (.int p3), .val (.int ld), .val (.int m3), .val (.int ix), .val (.int un), .val (.int m14), .val (.int (0 : Int32)), .val (.int (((ld &&& (7 : Int32)) <<< ((6 : Int32) &&& 31)) ||| (un &&& (63 : Int32))))]) rfl kk) ?_
            refine OwnGo.back (s₁.setTop (mkF m 197 #[.val (.int p1), .val (.int p2), .val (.int p3), .val (.int ld), .val (.int m3), .val (.int ix), .val (.int un), .val (.int m14), .val (.int (0 : Int32)), .val (.int (((ld &&& (7 : Int32)) <<< ((6 : Int32) &&& 31)) ||| (un &&& (63 : Int32))))] [(.int ld)])) (fun tg kk => XS.iloadN X0.here hx rfl (hb hby at_196) rfl kk) ?_
            refine OwnGo.back (s₁.setTop (mkF m 199 #[.val (.int p1), .val (.int p2), .val (.int p3), .val (.int ld), .val (.int m3), .val (.int ix), .val (.int un), .val (.int m14), .val (.int (0 : Int32)), .val (.int (((ld &&& (7 : Int32)) <<< ((6 : Int32) &&& 31)) ||| (un &&& (63 : Int32))))] [(.int ix), (.int ld)])) (fun tg kk => XS.iload X0.here hx rfl (hb hby at_197) rfl kk) ?_
            refine OwnGo.back (s₁.setTop (mkF m 201 #[.val (.int p1), .val (.int p2), .val (.int p3), .val (.int ld), .val (.int m3), .val (.int ix), .val (.int un), .val (.int m14), .val (.int (0 : Int32)), .val (.int (((ld &&& (7 : Int32)) <<< ((6 : Int32) &&& 31)) ||| (un &&& (63 : Int32))))] [(.int un), (.int ix), (.int ld)])) (fun tg kk => XS.iload X0.here hx rfl (hb hby at_199) rfl kk) ?_
            obtain ⟨_, _, ⟨T53, L53, k53, n53⟩, -, X53, ⟨Lc53, hQ53, l53, y53, z53⟩, st53⟩ := Jvm.LawKit.callS X0 hx (y := (⟨"com/example/rhone/rhone/tree/Utf8", "continues", "(III)Z"⟩ : MethodName)) hown (mvT hZ (hw _ (List.mem_of_getElem? (i := 1) rfl))) (mvT hZ (hw _ (List.mem_of_getElem? (i := 2) rfl))) (mvT hZ (hw _ (List.mem_of_getElem? (i := 3) rfl))) (mvT hZ (hw _ (List.mem_of_getElem? (i := 4) rfl))) (by decide) (backOf (W := 0) (own_cont l Z a0 hw [] ld ix un lo hi cl ch h0 n0 Z0 SL SH KL KH (by rw [Int32.lt_iff_toInt_lt]; show ¬ _ < (0 : Int); omega) (by rw [Int32.lt_iff_toInt_lt]; show _ < (256 : Int); omega)) hZ (hw _ (List.mem_of_getElem? (i := 4) rfl)) (hw _ (List.mem_of_getElem? (i := 3) rfl)) (by decide) (by decide)) (g := (mkF m 201 #[.val (.int p1), .val (.int p2), .val (.int p3), .val (.int ld), .val (.int m3), .val (.int ix), .val (.int un), .val (.int m14), .val (.int (0 : Int32)), .val (.int (((ld &&& (7 : Int32)) <<< ((6 : Int32) &&& 31)) ||| (un &&& (63 : Int32))))] [(.int un), (.int ix), (.int ld)])) rfl (by rw [hml]; rfl) (argsL := [(.int ld), (.int ix), (.int un)]) (rest := []) (lenOf own_pd0 rfl) rfl (by show 2 * 0 + _ ≤ _; exact Nat.le_of_eq rfl) (hb hby at_201) (fun _ _ => ⟨rfl, e0, (by decide : 0 + 0 ≤ _), (by decide : 0 + 0 ≤ _)⟩)
            dsimp only [Pt.U, Pt.locs, Pt.cells, Pt.slots] at X53 l53 y53 z53 st53 hQ53
            subst l53 y53 z53
            obtain ⟨r_54, rfl, N53q, e53, po55⟩ := hQ53
            have N53 := Fr.app N0 N53q
            refine OwnGo.back (T53.setTop (mkF m 204 #[.val (.int p1), .val (.int p2), .val (.int p3), .val (.int ld), .val (.int m3), .val (.int ix), .val (.int un), .val (.int m14), .val (.int (0 : Int32)), .val (.int (((ld &&& (7 : Int32)) <<< ((6 : Int32) &&& 31)) ||| (un &&& (63 : Int32))))] [(.int r_54)])) (fun tg kk => st53 _ kk) ?_
            refine OwnGo.back (T53.setTop (mkF m 206 #[.val (.int p1), .val (.int p2), .val (.int p3), .val (.int ld), .val (.int m3), .val (.int ix), .val (.int un), .val (.int m14), .val (.int (0 : Int32)), .val (.int (((ld &&& (7 : Int32)) <<< ((6 : Int32) &&& 31)) ||| (un &&& (63 : Int32))))] [(.int (0 : Int32)), (.int r_54)])) (fun tg kk => XS.iload X53.here hx rfl (hb hby at_204) rfl kk) ?_
            refine OwnGo.back (T53.setTop (mkF m 209 #[.val (.int p1), .val (.int p2), .val (.int p3), .val (.int ld), .val (.int m3), .val (.int ix), .val (.int un), .val (.int m14), .val (.int (0 : Int32)), .val (.int (((ld &&& (7 : Int32)) <<< ((6 : Int32) &&& 31)) ||| (un &&& (63 : Int32))))] [])) (fun tg kk => XS.icmpNo X53.here hx rfl (hb hby at_206) rfl (teq (by have a1 := tL ld (by omega) (by omega); have a2 := tH ld (by omega) (by omega); have a3 := own_p3 ld un; have a4 := own_p4 ld un; have a5 := own_c0 run; (simp only [true_and, and_true, false_and, and_false, or_false, false_or, or_true, true_or, not_true_eq_false, not_false_eq_true, eq_self, Int32.lt_iff_toInt_lt, Int32.le_iff_toInt_le, ← Int32.toInt_inj, Int32.reduceToInt, Int64.lt_iff_toInt_lt, Int64.le_iff_toInt_le, ← Int64.toInt_inj, Int64.reduceToInt] at hc23 hc24 hc28 hc48 hc52 tL tH hm4 hm15 po55 a5 ⊢) <;> omega : r_54 = (0 : Int32))).2 kk) ?_
            refine OwnGo.back (T53.setTop (mkF m 210 #[.val (.int p1), .val (.int p2), .val (.int p3), .val (.int ld), .val (.int m3), .val (.int ix), .val (.int un), .val (.int m14), .val (.int (0 : Int32)), .val (.int (((ld &&& (7 : Int32)) <<< ((6 : Int32) &&& 31)) ||| (un &&& (63 : Int32))))] [(.int (1 : Int32))])) (fun tg kk => XS.iconst X53.here hx rfl (hb hby at_209) kk) ?_
            refine OwnGo.back (T53.setTop (mkF m 214 #[.val (.int p1), .val (.int p2), .val (.int p3), .val (.int ld), .val (.int m3), .val (.int ix), .val (.int un), .val (.int m14), .val (.int (0 : Int32)), .val (.int (((ld &&& (7 : Int32)) <<< ((6 : Int32) &&& 31)) ||| (un &&& (63 : Int32))))] [(.int (1 : Int32))])) (fun tg kk => XS.goto X53.here hx rfl (pc0 := 210) (pc' := 214) rfl (hb hby at_210) (by decide) (by decide) kk) ?_
            obtain ⟨fs, hr, hrun, hended, hW, hsame⟩ := X53.leave (v := some (.int (1 : Int32))) (fun h => by rw [Bd.returns] at h; cases h)
            refine ⟨_, _, ?_, hrun, hended, _, _, rfl, ?_, ⟨_, rfl⟩, hW, hsame.mono (by decide) (by decide)⟩
            · exact retN X53 hx (t := .boolean) Bd.returns (by simp) (hb hby at_214) hr
            · show own_law_Q Z p1 p2 p3 lo hi cl ch h0 n0 _ T53.heap _
              rw [e53]
              exact ⟨rfl, N53, rfl⟩
          ·
            refine OwnGo.back (s₁.setTop (mkF m 181 #[.val (.int p1), .val (.int p2), .val (.int p3), .val (.int ld), .val (.int m3), .val (.int ix), .val (.int un), .val (.int m14), .unset, .val (.int (((ld &&& (7 : Int32)) <<< ((6 : Int32) &&& 31)) ||| (un &&& (63 : Int32))))] [])) (fun tg kk => XS.icmpNo X0.here hx rfl (hb hby at_178) rfl (flt hc52).1 kk) ?_
            refine OwnGo.back (s₁.setTop (mkF m 183 #[.val (.int p1), .val (.int p2), .val (.int p3), .val (.int ld), .val (.int m3), .val (.int ix), .val (.int un), .val (.int m14), .unset, .val (.int (((ld &&& (7 : Int32)) <<< ((6 : Int32) &&& 31)) ||| (un &&& (63 : Int32))))] [(.int (((ld &&& (7 : Int32)) <<< ((6 : Int32) &&& 31)) ||| (un &&& (63 : Int32))))])) (fun tg kk => XS.iload X0.here hx rfl (hb hby at_181) rfl kk) ?_
            refine OwnGo.back (s₁.setTop (mkF m 186 #[.val (.int p1), .val (.int p2), .val (.int p3), .val (.int ld), .val (.int m3), .val (.int ix), .val (.int un), .val (.int m14), .unset, .val (.int (((ld &&& (7 : Int32)) <<< ((6 : Int32) &&& 31)) ||| (un &&& (63 : Int32))))] [(.int (271 : Int32)), (.int (((ld &&& (7 : Int32)) <<< ((6 : Int32) &&& 31)) ||| (un &&& (63 : Int32))))])) (fun tg kk => XS.sipush X0.here hx rfl (hb hby at_183) kk) ?_
            by_cases hc56 : (271 : Int32) < (((ld &&& (7 : Int32)) <<< ((6 : Int32) &&& 31)) ||| (un &&& (63 : Int32)))
            ·
              refine OwnGo.back (s₁.setTop (mkF m 193 #[.val (.int p1), .val (.int p2), .val (.int p3), .val (.int ld), .val (.int m3), .val (.int ix), .val (.int un), .val (.int m14), .unset, .val (.int (((ld &&& (7 : Int32)) <<< ((6 : Int32) &&& 31)) ||| (un &&& (63 : Int32))))] [])) (fun tg kk => XS.icmpYes X0.here hx rfl (pc0 := 186) (pc' := 193) rfl (hb hby at_186) rfl (tlt hc56).2.2.1 (by decide) (by decide) kk) ?_
              refine OwnGo.back (s₁.setTop (mkF m 194 #[.val (.int p1), .val (.int p2), .val (.int p3), .val (.int ld), .val (.int m3), .val (.int ix), .val (.int un), .val (.int m14), .unset, .val (.int (((ld &&& (7 : Int32)) <<< ((6 : Int32) &&& 31)) ||| (un &&& (63 : Int32))))] [(.int (0 : Int32))])) (fun tg kk => XS.iconst X0.here hx rfl (hb hby at_193) kk) ?_
              refine OwnGo.back (s₁.setTop (mkF m 196 #[.val (.int p1), .val (.int p2), .val (.int p3), .val (.int ld), .val (.int m3), .val (.int ix), .val (.int un), .val (.int m14), .val (.int (0 : Int32)), .val (.int (((ld &&& (7 : Int32)) <<< ((6 : Int32) &&& 31)) ||| (un &&& (63 : Int32))))] [])) (fun tg kk => XS.istore X0.here hx rfl (hb hby at_194) rfl (l' := #[.val (.int p1), .val (.int p2), .val (.int p3), .val (.int ld), .val (.int m3), .val (.int ix), .val (.int un), .val (.int m14), .val (.int (0 : Int32)), .val (.int (((ld &&& (7 : Int32)) <<< ((6 : Int32) &&& 31)) ||| (un &&& (63 : Int32))))]) rfl kk) ?_
              refine OwnGo.back (s₁.setTop (mkF m 197 #[.val (.int p1), .val (.int p2), .val (.int p3), .val (.int ld), .val (.int m3), .val (.int ix), .val (.int un), .val (.int m14), .val (.int (0 : Int32)), .val (.int (((ld &&& (7 : Int32)) <<< ((6 : Int32) &&& 31)) ||| (un &&& (63 : Int32))))] [(.int ld)])) (fun tg kk => XS.iloadN X0.here hx rfl (hb hby at_196) rfl kk) ?_
              refine OwnGo.back (s₁.setTop (mkF m 199 #[.val (.int p1), .val (.int p2), .val (.int p3), .val (.int ld), .val (.int m3), .val (.int ix), .val (.int un), .val (.int m14), .val (.int (0 : Int32)), .val (.int (((ld &&& (7 : Int32)) <<< ((6 : Int32) &&& 31)) ||| (un &&& (63 : Int32))))] [(.int ix), (.int ld)])) (fun tg kk => XS.iload X0.here hx rfl (hb hby at_197) rfl kk) ?_
              refine OwnGo.back (s₁.setTop (mkF m 201 #[.val (.int p1), .val (.int p2), .val (.int p3), .val (.int ld), .val (.int m3), .val (.int ix), .val (.int un), .val (.int m14), .val (.int (0 : Int32)), .val (.int (((ld &&& (7 : Int32)) <<< ((6 : Int32) &&& 31)) ||| (un &&& (63 : Int32))))] [(.int un), (.int ix), (.int ld)])) (fun tg kk => XS.iload X0.here hx rfl (hb hby at_199) rfl kk) ?_
              obtain ⟨_, _, ⟨T57, L57, k57, n57⟩, -, X57, ⟨Lc57, hQ57, l57, y57, z57⟩, st57⟩ := Jvm.LawKit.callS X0 hx (y := (⟨"com/example/rhone/rhone/tree/Utf8", "continues", "(III)Z"⟩ : MethodName)) hown (mvT hZ (hw _ (List.mem_of_getElem? (i := 1) rfl))) (mvT hZ (hw _ (List.mem_of_getElem? (i := 2) rfl))) (mvT hZ (hw _ (List.mem_of_getElem? (i := 3) rfl))) (mvT hZ (hw _ (List.mem_of_getElem? (i := 4) rfl))) (by decide) (backOf (W := 0) (own_cont l Z a0 hw [] ld ix un lo hi cl ch h0 n0 Z0 SL SH KL KH (by rw [Int32.lt_iff_toInt_lt]; show ¬ _ < (0 : Int); omega) (by rw [Int32.lt_iff_toInt_lt]; show _ < (256 : Int); omega)) hZ (hw _ (List.mem_of_getElem? (i := 4) rfl)) (hw _ (List.mem_of_getElem? (i := 3) rfl)) (by decide) (by decide)) (g := (mkF m 201 #[.val (.int p1), .val (.int p2), .val (.int p3), .val (.int ld), .val (.int m3), .val (.int ix), .val (.int un), .val (.int m14), .val (.int (0 : Int32)), .val (.int (((ld &&& (7 : Int32)) <<< ((6 : Int32) &&& 31)) ||| (un &&& (63 : Int32))))] [(.int un), (.int ix), (.int ld)])) rfl (by rw [hml]; rfl) (argsL := [(.int ld), (.int ix), (.int un)]) (rest := []) (lenOf own_pd0 rfl) rfl (by show 2 * 0 + _ ≤ _; exact Nat.le_of_eq rfl) (hb hby at_201) (fun _ _ => ⟨rfl, e0, (by decide : 0 + 0 ≤ _), (by decide : 0 + 0 ≤ _)⟩)
              dsimp only [Pt.U, Pt.locs, Pt.cells, Pt.slots] at X57 l57 y57 z57 st57 hQ57
              subst l57 y57 z57
              obtain ⟨r_58, rfl, N57q, e57, po59⟩ := hQ57
              have N57 := Fr.app N0 N57q
              refine OwnGo.back (T57.setTop (mkF m 204 #[.val (.int p1), .val (.int p2), .val (.int p3), .val (.int ld), .val (.int m3), .val (.int ix), .val (.int un), .val (.int m14), .val (.int (0 : Int32)), .val (.int (((ld &&& (7 : Int32)) <<< ((6 : Int32) &&& 31)) ||| (un &&& (63 : Int32))))] [(.int r_58)])) (fun tg kk => st57 _ kk) ?_
              refine OwnGo.back (T57.setTop (mkF m 206 #[.val (.int p1), .val (.int p2), .val (.int p3), .val (.int ld), .val (.int m3), .val (.int ix), .val (.int un), .val (.int m14), .val (.int (0 : Int32)), .val (.int (((ld &&& (7 : Int32)) <<< ((6 : Int32) &&& 31)) ||| (un &&& (63 : Int32))))] [(.int (0 : Int32)), (.int r_58)])) (fun tg kk => XS.iload X57.here hx rfl (hb hby at_204) rfl kk) ?_
              refine OwnGo.back (T57.setTop (mkF m 209 #[.val (.int p1), .val (.int p2), .val (.int p3), .val (.int ld), .val (.int m3), .val (.int ix), .val (.int un), .val (.int m14), .val (.int (0 : Int32)), .val (.int (((ld &&& (7 : Int32)) <<< ((6 : Int32) &&& 31)) ||| (un &&& (63 : Int32))))] [])) (fun tg kk => XS.icmpNo X57.here hx rfl (hb hby at_206) rfl (teq (by have a1 := tL ld (by omega) (by omega); have a2 := tH ld (by omega) (by omega); have a3 := own_p3 ld un; have a4 := own_p4 ld un; have a5 := own_c0 run; (simp only [true_and, and_true, false_and, and_false, or_false, false_or, or_true, true_or, not_true_eq_false, not_false_eq_true, eq_self, Int32.lt_iff_toInt_lt, Int32.le_iff_toInt_le, ← Int32.toInt_inj, Int32.reduceToInt, Int64.lt_iff_toInt_lt, Int64.le_iff_toInt_le, ← Int64.toInt_inj, Int64.reduceToInt] at hc23 hc24 hc28 hc48 hc52 hc56 tL tH hm4 hm15 po59 a5 ⊢) <;> omega : r_58 = (0 : Int32))).2 kk) ?_
              refine OwnGo.back (T57.setTop (mkF m 210 #[.val (.int p1), .val (.int p2), .val (.int p3), .val (.int ld), .val (.int m3), .val (.int ix), .val (.int un), .val (.int m14), .val (.int (0 : Int32)), .val (.int (((ld &&& (7 : Int32)) <<< ((6 : Int32) &&& 31)) ||| (un &&& (63 : Int32))))] [(.int (1 : Int32))])) (fun tg kk => XS.iconst X57.here hx rfl (hb hby at_209) kk) ?_
              refine OwnGo.back (T57.setTop (mkF m 214 #[.val (.int p1), .val (.int p2), .val (.int p3), .val (.int ld), .val (.int m3), .val (.int ix), .val (.int un), .val (.int m14), .val (.int (0 : Int32)), .val (.int (((ld &&& (7 : Int32)) <<< ((6 : Int32) &&& 31)) ||| (un &&& (63 : Int32))))] [(.int (1 : Int32))])) (fun tg kk => XS.goto X57.here hx rfl (pc0 := 210) (pc' := 214) rfl (hb hby at_210) (by decide) (by decide) kk) ?_
              obtain ⟨fs, hr, hrun, hended, hW, hsame⟩ := X57.leave (v := some (.int (1 : Int32))) (fun h => by rw [Bd.returns] at h; cases h)
              refine ⟨_, _, ?_, hrun, hended, _, _, rfl, ?_, ⟨_, rfl⟩, hW, hsame.mono (by decide) (by decide)⟩
              · exact retN X57 hx (t := .boolean) Bd.returns (by simp) (hb hby at_214) hr
              · show own_law_Q Z p1 p2 p3 lo hi cl ch h0 n0 _ T57.heap _
                rw [e57]
                exact ⟨rfl, N57, rfl⟩
            ·
              refine OwnGo.back (s₁.setTop (mkF m 189 #[.val (.int p1), .val (.int p2), .val (.int p3), .val (.int ld), .val (.int m3), .val (.int ix), .val (.int un), .val (.int m14), .unset, .val (.int (((ld &&& (7 : Int32)) <<< ((6 : Int32) &&& 31)) ||| (un &&& (63 : Int32))))] [])) (fun tg kk => XS.icmpNo X0.here hx rfl (hb hby at_186) rfl (flt hc56).2.2.1 kk) ?_
              refine OwnGo.back (s₁.setTop (mkF m 190 #[.val (.int p1), .val (.int p2), .val (.int p3), .val (.int ld), .val (.int m3), .val (.int ix), .val (.int un), .val (.int m14), .unset, .val (.int (((ld &&& (7 : Int32)) <<< ((6 : Int32) &&& 31)) ||| (un &&& (63 : Int32))))] [(.int (1 : Int32))])) (fun tg kk => XS.iconst X0.here hx rfl (hb hby at_189) kk) ?_
              refine OwnGo.back (s₁.setTop (mkF m 194 #[.val (.int p1), .val (.int p2), .val (.int p3), .val (.int ld), .val (.int m3), .val (.int ix), .val (.int un), .val (.int m14), .unset, .val (.int (((ld &&& (7 : Int32)) <<< ((6 : Int32) &&& 31)) ||| (un &&& (63 : Int32))))] [(.int (1 : Int32))])) (fun tg kk => XS.goto X0.here hx rfl (pc0 := 190) (pc' := 194) rfl (hb hby at_190) (by decide) (by decide) kk) ?_
              refine OwnGo.back (s₁.setTop (mkF m 196 #[.val (.int p1), .val (.int p2), .val (.int p3), .val (.int ld), .val (.int m3), .val (.int ix), .val (.int un), .val (.int m14), .val (.int (1 : Int32)), .val (.int (((ld &&& (7 : Int32)) <<< ((6 : Int32) &&& 31)) ||| (un &&& (63 : Int32))))] [])) (fun tg kk => XS.istore X0.here hx rfl (hb hby at_194) rfl (l' := #[.val (.int p1), .val (.int p2), .val (.int p3), .val (.int ld), .val (.int m3), .val (.int ix), .val (.int un), .val (.int m14), .val (.int (1 : Int32)), .val (.int (((ld &&& (7 : Int32)) <<< ((6 : Int32) &&& 31)) ||| (un &&& (63 : Int32))))]) rfl kk) ?_
              refine OwnGo.back (s₁.setTop (mkF m 197 #[.val (.int p1), .val (.int p2), .val (.int p3), .val (.int ld), .val (.int m3), .val (.int ix), .val (.int un), .val (.int m14), .val (.int (1 : Int32)), .val (.int (((ld &&& (7 : Int32)) <<< ((6 : Int32) &&& 31)) ||| (un &&& (63 : Int32))))] [(.int ld)])) (fun tg kk => XS.iloadN X0.here hx rfl (hb hby at_196) rfl kk) ?_
              refine OwnGo.back (s₁.setTop (mkF m 199 #[.val (.int p1), .val (.int p2), .val (.int p3), .val (.int ld), .val (.int m3), .val (.int ix), .val (.int un), .val (.int m14), .val (.int (1 : Int32)), .val (.int (((ld &&& (7 : Int32)) <<< ((6 : Int32) &&& 31)) ||| (un &&& (63 : Int32))))] [(.int ix), (.int ld)])) (fun tg kk => XS.iload X0.here hx rfl (hb hby at_197) rfl kk) ?_
              refine OwnGo.back (s₁.setTop (mkF m 201 #[.val (.int p1), .val (.int p2), .val (.int p3), .val (.int ld), .val (.int m3), .val (.int ix), .val (.int un), .val (.int m14), .val (.int (1 : Int32)), .val (.int (((ld &&& (7 : Int32)) <<< ((6 : Int32) &&& 31)) ||| (un &&& (63 : Int32))))] [(.int un), (.int ix), (.int ld)])) (fun tg kk => XS.iload X0.here hx rfl (hb hby at_199) rfl kk) ?_
              obtain ⟨_, _, ⟨T60, L60, k60, n60⟩, -, X60, ⟨Lc60, hQ60, l60, y60, z60⟩, st60⟩ := Jvm.LawKit.callS X0 hx (y := (⟨"com/example/rhone/rhone/tree/Utf8", "continues", "(III)Z"⟩ : MethodName)) hown (mvT hZ (hw _ (List.mem_of_getElem? (i := 1) rfl))) (mvT hZ (hw _ (List.mem_of_getElem? (i := 2) rfl))) (mvT hZ (hw _ (List.mem_of_getElem? (i := 3) rfl))) (mvT hZ (hw _ (List.mem_of_getElem? (i := 4) rfl))) (by decide) (backOf (W := 0) (own_cont l Z a0 hw [] ld ix un lo hi cl ch h0 n0 Z0 SL SH KL KH (by rw [Int32.lt_iff_toInt_lt]; show ¬ _ < (0 : Int); omega) (by rw [Int32.lt_iff_toInt_lt]; show _ < (256 : Int); omega)) hZ (hw _ (List.mem_of_getElem? (i := 4) rfl)) (hw _ (List.mem_of_getElem? (i := 3) rfl)) (by decide) (by decide)) (g := (mkF m 201 #[.val (.int p1), .val (.int p2), .val (.int p3), .val (.int ld), .val (.int m3), .val (.int ix), .val (.int un), .val (.int m14), .val (.int (1 : Int32)), .val (.int (((ld &&& (7 : Int32)) <<< ((6 : Int32) &&& 31)) ||| (un &&& (63 : Int32))))] [(.int un), (.int ix), (.int ld)])) rfl (by rw [hml]; rfl) (argsL := [(.int ld), (.int ix), (.int un)]) (rest := []) (lenOf own_pd0 rfl) rfl (by show 2 * 0 + _ ≤ _; exact Nat.le_of_eq rfl) (hb hby at_201) (fun _ _ => ⟨rfl, e0, (by decide : 0 + 0 ≤ _), (by decide : 0 + 0 ≤ _)⟩)
              dsimp only [Pt.U, Pt.locs, Pt.cells, Pt.slots] at X60 l60 y60 z60 st60 hQ60
              subst l60 y60 z60
              obtain ⟨r_61, rfl, N60q, e60, po62⟩ := hQ60
              have N60 := Fr.app N0 N60q
              refine OwnGo.back (T60.setTop (mkF m 204 #[.val (.int p1), .val (.int p2), .val (.int p3), .val (.int ld), .val (.int m3), .val (.int ix), .val (.int un), .val (.int m14), .val (.int (1 : Int32)), .val (.int (((ld &&& (7 : Int32)) <<< ((6 : Int32) &&& 31)) ||| (un &&& (63 : Int32))))] [(.int r_61)])) (fun tg kk => st60 _ kk) ?_
              refine OwnGo.back (T60.setTop (mkF m 206 #[.val (.int p1), .val (.int p2), .val (.int p3), .val (.int ld), .val (.int m3), .val (.int ix), .val (.int un), .val (.int m14), .val (.int (1 : Int32)), .val (.int (((ld &&& (7 : Int32)) <<< ((6 : Int32) &&& 31)) ||| (un &&& (63 : Int32))))] [(.int (1 : Int32)), (.int r_61)])) (fun tg kk => XS.iload X60.here hx rfl (hb hby at_204) rfl kk) ?_
              refine OwnGo.back (T60.setTop (mkF m 209 #[.val (.int p1), .val (.int p2), .val (.int p3), .val (.int ld), .val (.int m3), .val (.int ix), .val (.int un), .val (.int m14), .val (.int (1 : Int32)), .val (.int (((ld &&& (7 : Int32)) <<< ((6 : Int32) &&& 31)) ||| (un &&& (63 : Int32))))] [])) (fun tg kk => XS.icmpNo X60.here hx rfl (hb hby at_206) rfl (teq (by have a1 := tL ld (by omega) (by omega); have a2 := tH ld (by omega) (by omega); have a3 := own_p3 ld un; have a4 := own_p4 ld un; have a5 := own_c0 run; (simp only [true_and, and_true, false_and, and_false, or_false, false_or, or_true, true_or, not_true_eq_false, not_false_eq_true, eq_self, Int32.lt_iff_toInt_lt, Int32.le_iff_toInt_le, ← Int32.toInt_inj, Int32.reduceToInt, Int64.lt_iff_toInt_lt, Int64.le_iff_toInt_le, ← Int64.toInt_inj, Int64.reduceToInt] at hc23 hc24 hc28 hc48 hc52 hc56 tL tH hm4 hm15 po62 a5 ⊢) <;> omega : r_61 = (1 : Int32))).2 kk) ?_
              refine OwnGo.back (T60.setTop (mkF m 210 #[.val (.int p1), .val (.int p2), .val (.int p3), .val (.int ld), .val (.int m3), .val (.int ix), .val (.int un), .val (.int m14), .val (.int (1 : Int32)), .val (.int (((ld &&& (7 : Int32)) <<< ((6 : Int32) &&& 31)) ||| (un &&& (63 : Int32))))] [(.int (1 : Int32))])) (fun tg kk => XS.iconst X60.here hx rfl (hb hby at_209) kk) ?_
              refine OwnGo.back (T60.setTop (mkF m 214 #[.val (.int p1), .val (.int p2), .val (.int p3), .val (.int ld), .val (.int m3), .val (.int ix), .val (.int un), .val (.int m14), .val (.int (1 : Int32)), .val (.int (((ld &&& (7 : Int32)) <<< ((6 : Int32) &&& 31)) ||| (un &&& (63 : Int32))))] [(.int (1 : Int32))])) (fun tg kk => XS.goto X60.here hx rfl (pc0 := 210) (pc' := 214) rfl (hb hby at_210) (by decide) (by decide) kk) ?_
              obtain ⟨fs, hr, hrun, hended, hW, hsame⟩ := X60.leave (v := some (.int (1 : Int32))) (fun h => by rw [Bd.returns] at h; cases h)
              refine ⟨_, _, ?_, hrun, hended, _, _, rfl, ?_, ⟨_, rfl⟩, hW, hsame.mono (by decide) (by decide)⟩
              · exact retN X60 hx (t := .boolean) Bd.returns (by simp) (hb hby at_214) hr
              · show own_law_Q Z p1 p2 p3 lo hi cl ch h0 n0 _ T60.heap _
                rw [e60]
                exact ⟨rfl, N60, rfl⟩
  ·
    refine OwnGo.back (s₁.setTop (mkF m 88 #[.val (.int p1), .val (.int p2), .val (.int p3), .val (.int ld), .val (.int m3), .val (.int ix), .val (.int un), .val (.int m14), .unset, .unset] [])) (fun tg kk => XS.icmpYes X0.here hx rfl (pc0 := 79) (pc' := 88) rfl (hb hby at_79) rfl (feq hc23).2 (by decide) (by decide) kk) ?_
    refine OwnGo.back (s₁.setTop (mkF m 90 #[.val (.int p1), .val (.int p2), .val (.int p3), .val (.int ld), .val (.int m3), .val (.int ix), .val (.int un), .val (.int m14), .unset, .unset] [(.int m14)])) (fun tg kk => XS.iload X0.here hx rfl (hb hby at_88) rfl kk) ?_
    refine OwnGo.back (s₁.setTop (mkF m 92 #[.val (.int p1), .val (.int p2), .val (.int p3), .val (.int ld), .val (.int m3), .val (.int ix), .val (.int un), .val (.int m14), .val (.int m14), .unset] [])) (fun tg kk => XS.istore X0.here hx rfl (hb hby at_90) rfl (l' := #[.val (.int p1), .val (.int p2), .val (.int p3), .val (.int ld), .val (.int m3), .val (.int ix), .val (.int un), .val (.int m14), .val (.int m14), .unset]) rfl kk) ?_
    refine OwnGo.back (s₁.setTop (mkF m 196 #[.val (.int p1), .val (.int p2), .val (.int p3), .val (.int ld), .val (.int m3), .val (.int ix), .val (.int un), .val (.int m14), .val (.int m14), .unset] [])) (fun tg kk => XS.goto X0.here hx rfl (pc0 := 92) (pc' := 196) rfl (hb hby at_92) (by decide) (by decide) kk) ?_
    refine OwnGo.back (s₁.setTop (mkF m 197 #[.val (.int p1), .val (.int p2), .val (.int p3), .val (.int ld), .val (.int m3), .val (.int ix), .val (.int un), .val (.int m14), .val (.int m14), .unset] [(.int ld)])) (fun tg kk => XS.iloadN X0.here hx rfl (hb hby at_196) rfl kk) ?_
    refine OwnGo.back (s₁.setTop (mkF m 199 #[.val (.int p1), .val (.int p2), .val (.int p3), .val (.int ld), .val (.int m3), .val (.int ix), .val (.int un), .val (.int m14), .val (.int m14), .unset] [(.int ix), (.int ld)])) (fun tg kk => XS.iload X0.here hx rfl (hb hby at_197) rfl kk) ?_
    refine OwnGo.back (s₁.setTop (mkF m 201 #[.val (.int p1), .val (.int p2), .val (.int p3), .val (.int ld), .val (.int m3), .val (.int ix), .val (.int un), .val (.int m14), .val (.int m14), .unset] [(.int un), (.int ix), (.int ld)])) (fun tg kk => XS.iload X0.here hx rfl (hb hby at_199) rfl kk) ?_
    obtain ⟨_, _, ⟨T63, L63, k63, n63⟩, -, X63, ⟨Lc63, hQ63, l63, y63, z63⟩, st63⟩ := Jvm.LawKit.callS X0 hx (y := (⟨"com/example/rhone/rhone/tree/Utf8", "continues", "(III)Z"⟩ : MethodName)) hown (mvT hZ (hw _ (List.mem_of_getElem? (i := 1) rfl))) (mvT hZ (hw _ (List.mem_of_getElem? (i := 2) rfl))) (mvT hZ (hw _ (List.mem_of_getElem? (i := 3) rfl))) (mvT hZ (hw _ (List.mem_of_getElem? (i := 4) rfl))) (by decide) (backOf (W := 0) (own_cont l Z a0 hw [] ld ix un lo hi cl ch h0 n0 Z0 SL SH KL KH (by rw [Int32.lt_iff_toInt_lt]; show ¬ _ < (0 : Int); omega) (by rw [Int32.lt_iff_toInt_lt]; show _ < (256 : Int); omega)) hZ (hw _ (List.mem_of_getElem? (i := 4) rfl)) (hw _ (List.mem_of_getElem? (i := 3) rfl)) (by decide) (by decide)) (g := (mkF m 201 #[.val (.int p1), .val (.int p2), .val (.int p3), .val (.int ld), .val (.int m3), .val (.int ix), .val (.int un), .val (.int m14), .val (.int m14), .unset] [(.int un), (.int ix), (.int ld)])) rfl (by rw [hml]; rfl) (argsL := [(.int ld), (.int ix), (.int un)]) (rest := []) (lenOf own_pd0 rfl) rfl (by show 2 * 0 + _ ≤ _; exact Nat.le_of_eq rfl) (hb hby at_201) (fun _ _ => ⟨rfl, e0, (by decide : 0 + 0 ≤ _), (by decide : 0 + 0 ≤ _)⟩)
    dsimp only [Pt.U, Pt.locs, Pt.cells, Pt.slots] at X63 l63 y63 z63 st63 hQ63
    subst l63 y63 z63
    obtain ⟨r_64, rfl, N63q, e63, po65⟩ := hQ63
    have N63 := Fr.app N0 N63q
    refine OwnGo.back (T63.setTop (mkF m 204 #[.val (.int p1), .val (.int p2), .val (.int p3), .val (.int ld), .val (.int m3), .val (.int ix), .val (.int un), .val (.int m14), .val (.int m14), .unset] [(.int r_64)])) (fun tg kk => st63 _ kk) ?_
    refine OwnGo.back (T63.setTop (mkF m 206 #[.val (.int p1), .val (.int p2), .val (.int p3), .val (.int ld), .val (.int m3), .val (.int ix), .val (.int un), .val (.int m14), .val (.int m14), .unset] [(.int m14), (.int r_64)])) (fun tg kk => XS.iload X63.here hx rfl (hb hby at_204) rfl kk) ?_
    refine OwnGo.back (T63.setTop (mkF m 209 #[.val (.int p1), .val (.int p2), .val (.int p3), .val (.int ld), .val (.int m3), .val (.int ix), .val (.int un), .val (.int m14), .val (.int m14), .unset] [])) (fun tg kk => XS.icmpNo X63.here hx rfl (hb hby at_206) rfl (teq (by have a1 := tL ld (by omega) (by omega); have a2 := tH ld (by omega) (by omega); have a3 := own_p3 ld un; have a4 := own_p4 ld un; have a5 := own_c0 run; (simp only [true_and, and_true, false_and, and_false, or_false, false_or, or_true, true_or, not_true_eq_false, not_false_eq_true, eq_self, Int32.lt_iff_toInt_lt, Int32.le_iff_toInt_le, ← Int32.toInt_inj, Int32.reduceToInt, Int64.lt_iff_toInt_lt, Int64.le_iff_toInt_le, ← Int64.toInt_inj, Int64.reduceToInt] at hc23 tL tH hm4 hm15 po65 a5 ⊢) <;> omega : r_64 = m14)).2 kk) ?_
    refine OwnGo.back (T63.setTop (mkF m 210 #[.val (.int p1), .val (.int p2), .val (.int p3), .val (.int ld), .val (.int m3), .val (.int ix), .val (.int un), .val (.int m14), .val (.int m14), .unset] [(.int (1 : Int32))])) (fun tg kk => XS.iconst X63.here hx rfl (hb hby at_209) kk) ?_
    refine OwnGo.back (T63.setTop (mkF m 214 #[.val (.int p1), .val (.int p2), .val (.int p3), .val (.int ld), .val (.int m3), .val (.int ix), .val (.int un), .val (.int m14), .val (.int m14), .unset] [(.int (1 : Int32))])) (fun tg kk => XS.goto X63.here hx rfl (pc0 := 210) (pc' := 214) rfl (hb hby at_210) (by decide) (by decide) kk) ?_
    obtain ⟨fs, hr, hrun, hended, hW, hsame⟩ := X63.leave (v := some (.int (1 : Int32))) (fun h => by rw [Bd.returns] at h; cases h)
    refine ⟨_, _, ?_, hrun, hended, _, _, rfl, ?_, ⟨_, rfl⟩, hW, hsame.mono (by decide) (by decide)⟩
    · exact retN X63 hx (t := .boolean) Bd.returns (by simp) (hb hby at_214) hr
    · show own_law_Q Z p1 p2 p3 lo hi cl ch h0 n0 _ T63.heap _
      rw [e63]
      exact ⟨rfl, N63, rfl⟩
set_option maxRecDepth 65536 in
set_option maxHeartbeats 40000000 in
theorem comes_1 {Post : Tables → Env → Array Value → State → Outcome → State → Prop} (hpost : ∀ tb e args s v u, (limb_1_1.after args s (.returned v) u = true ∧ limb_1_2.after args s (.returned v) u = true ∧ True) → FrameEnd s (.returned v) u (Jvm.fieldLocs frame_1_writes args s ++ Jvm.arrayLocs frame_1_arrays args s ++ Jvm.staticLocs frame_1_statics s) 0 0 → Post tb e args s (.returned v) u) :
    ArmFor flags0 classFile x code maxLocals ret World_1 tables_1 room_1 Calls_1 rest_1 Pre_1 Post := by
  intro l hfl _ _ p e ha hc hk s m args below hf hA hF happ hP
  obtain ⟨hcalls, hrest, hpre⟩ := hP
  obtain ⟨-, -, -, hnamed, -, -, -, hat⟩ := (Spec.applies_iff hf).mp happ
  obtain ⟨hg, hn⟩ := and_e (Cond.before_iff.mp (show (Jvm.Cond.and given_1 narrow_1).before args s = true from hpre))
  obtain ⟨hg0, hg⟩ := and_e hg
  obtain ⟨hg1, hg⟩ := and_e hg
  obtain ⟨hg2, hg⟩ := and_e hg
  obtain ⟨w0, w1, w2, rfl⟩ : ∃ w0 w1 w2 : Value, args = #[w0, w1, w2] := by
    have hs : args.size = 3 := by simpa [Cond.value, given_1] using hg0
    obtain ⟨L⟩ := args
    match L, hs with
    | [w0, w1, w2], _ => exact ⟨w0, w1, w2, rfl⟩
  have hw := fun d (hd : d ∈ tables_1) => atoms_spec (ws := Jvm.Cond.code x code maxLocals ret :: tables_1) hat d (List.mem_cons_of_mem _ hd)
  have hfit : Fit s := fun {y c} hc i hi => by
    obtain ⟨ha, rfl⟩ := Array.getElem?_eq_some_iff.mp hc
    have q := List.all_eq_true.mp ((Array.all_eq_true_iff_forall_mem.mp hF) _ (Array.getElem_mem ha)) i (List.mem_range.mpr hi)
    simpa [Array.getElem?_eq_getElem hi] using q
  obtain ⟨i0, ei0⟩ := is_v hg1
  obtain rfl : w0 = (.int i0) := Option.some.inj ei0
  obtain ⟨i1, ei1⟩ := is_v hg2
  obtain rfl : w1 = (.int i1) := Option.some.inj ei1
  obtain ⟨i2, ei2⟩ := is_v hg
  obtain rfl : w2 = (.int i2) := Option.some.inj ei2
  obtain ⟨nw0, hn⟩ := and_e hn
  obtain ⟨nw1, hn⟩ := and_e hn
  obtain ⟨nw2, hn⟩ := and_e hn
  obtain ⟨nw3, hn⟩ := and_e hn
  obtain ⟨nw4, hn⟩ := and_e hn
  obtain ⟨nw5, hn⟩ := and_e hn
  obtain ⟨nw6, hn⟩ := and_e hn
  obtain ⟨nw7, hn⟩ := and_e hn
  obtain ⟨nw8, hn⟩ := and_e hn
  obtain ⟨nw9, hn⟩ := and_e hn
  obtain ⟨nw10, hn⟩ := and_e hn
  obtain ⟨nw11, hn⟩ := and_e hn
  obtain ⟨nw12, hn⟩ := and_e hn
  have nw13 := hn
  obtain ⟨lo, evl⟩ := arr_v nw0
  obtain ⟨hi, evh⟩ := arr_v nw2
  obtain ⟨cl, Al⟩ := Arr.start evl nw0
  obtain ⟨ch, Ah⟩ := Arr.start evh nw2
  have zl := own_size evl Al nw1
  have zh := own_size evh Ah nw3
  obtain ⟨n1, en1, KL⟩ := Scr.start hfit Al zl.2
  obtain ⟨n2, en2, KH⟩ := Scr.start hfit Ah zh.2
  rw [zl.1] at en1
  rw [zh.1] at en2
  have SL := Sta.start evl (Or.inr ⟨(hw _ (List.mem_of_getElem? (i := 3) rfl)), (hw _ (List.mem_of_getElem? (i := 6) rfl))⟩)
  have SH := Sta.start evh (Or.inr ⟨(hw _ (List.mem_of_getElem? (i := 3) rfl)), (hw _ (List.mem_of_getElem? (i := 8) rfl))⟩)
  have tL : own_TL cl := fun j h0 h1 => by
    have b0 := own_every evl Al nw4 zl.1 h0 h1
    have b1 := own_every evl Al nw6 zl.1 h0 h1
    have b2 := own_every evl Al nw8 zl.1 h0 h1
    have e1 := own_elt evl Al rfl (by decide) nw5
    have e2 := own_elt evl Al rfl (by decide) nw7
    have s224 : (224 : Int32).toInt = 224 := rfl
    have s225 : (225 : Int32).toInt = 225 := rfl
    have s240 : (240 : Int32).toInt = 240 := rfl
    have s241 : (241 : Int32).toInt = 241 := rfl
    rcases Decidable.em (j = 224) with h | h
    · exact Or.inl ⟨by rw [h]; rfl, by rw [h, e1]; rfl⟩
    rcases Decidable.em (j = 240) with g | g
    · exact Or.inr (Or.inl ⟨by rw [g]; rfl, by rw [g, e2]; rfl⟩)
    refine Or.inr (Or.inr ⟨fun q => h (Int32.toInt_inj.mp q), fun q => g (Int32.toInt_inj.mp q), ?_⟩)
    have h' : ¬ j.toInt = 224 := fun q => h (Int32.toInt_inj.mp q)
    have g' : ¬ j.toInt = 240 := fun q => g (Int32.toInt_inj.mp q)
    rcases own_sum b0 with q | q
    · have q := own_le h0 q
      rcases own_sum b1 with u | u
      · have u := own_lt h0 u; omega
      · rcases own_sum u with u | u
        · have u := own_le h0 u
          rcases own_sum b2 with v | v
          · have v := own_lt h0 v; omega
          · rw [own_elt (by exact evl) Al (own_idx h0) h0 v]; rfl
        · rw [own_elt (by exact evl) Al (own_idx h0) h0 u]; rfl
    · rw [own_elt (by exact evl) Al (own_idx h0) h0 q]; rfl
  have tH : own_TH ch := fun j h0 h1 => by
    have b0 := own_every evh Ah nw9 zh.1 h0 h1
    have b1 := own_every evh Ah nw11 zh.1 h0 h1
    have b2 := own_every evh Ah nw13 zh.1 h0 h1
    have e1 := own_elt evh Ah rfl (by decide) nw10
    have e2 := own_elt evh Ah rfl (by decide) nw12
    have s224 : (237 : Int32).toInt = 237 := rfl
    have s225 : (238 : Int32).toInt = 238 := rfl
    have s240 : (244 : Int32).toInt = 244 := rfl
    have s241 : (245 : Int32).toInt = 245 := rfl
    rcases Decidable.em (j = 237) with h | h
    · exact Or.inl ⟨by rw [h]; rfl, by rw [h, e1]; rfl⟩
    rcases Decidable.em (j = 244) with g | g
    · exact Or.inr (Or.inl ⟨by rw [g]; rfl, by rw [g, e2]; rfl⟩)
    have h' : ¬ j.toInt = 237 := fun q => h (Int32.toInt_inj.mp q)
    have g' : ¬ j.toInt = 244 := fun q => g (Int32.toInt_inj.mp q)
    refine Or.inr (Or.inr ⟨h', g', ?_⟩)
    rcases own_sum b0 with q | q
    · have q := own_le h0 q
      rcases own_sum b1 with u | u
      · have u := own_lt h0 u; omega
      · rcases own_sum u with u | u
        · have u := own_le h0 u
          rcases own_sum b2 with v | v
          · have v := own_lt h0 v; omega
          · rw [own_elt (by exact evh) Ah (own_idx h0) h0 v]; rfl
        · rw [own_elt (by exact evh) Ah (own_idx h0) h0 u]; rfl
    · rw [own_elt (by exact evh) Ah (own_idx h0) h0 q]; rfl
  obtain ⟨n, o, h1, h2, h3, _, L, rfl, ⟨rfl, N, -⟩, hq⟩ := own_law l s _ hw tables_1 i0 i1 i2 lo hi cl ch s.heap s.heap.size (Nat.le_refl _) SL SH (by rw [en1] at KL; exact KL) (by rw [en2] at KH; exact KH) tL tH p e ha hc hk s m _ below hf ((Spec.applies_iff_loose hf).mp happ).1 ⟨rfl, State.Warmed39.refl s, rfl⟩ trivial
  refine ⟨n, _, h1, h2, h3, hpost _ _ _ _ _ _ ⟨Cond.after_iff.mpr rfl, Cond.after_iff.mpr (eq_i res_at (Term.int_eval (1)) rfl), trivial⟩ ⟨hq.1, hq.2.1, (hq.2.2.sift fun y hy => Or.inr (N y hy)).mono (by decide) (by decide)⟩⟩
theorem main_1_1 : Claimed_1_1 := comes_1 fun _ _ _ _ _ _ h hF => ⟨h.1, hF⟩
theorem main_1_2 : Claimed_1_2 := comes_1 fun _ _ _ _ _ _ h hF => ⟨h.2.1, hF⟩
end Jvm.Pilot.@@N@@
namespace Jvm.Pilot.@@N@@
open Jvm Jvm.ClassFile Sem Op Lib Jvm.Free Jvm.Stand Jvm.Pilot.@@N@@.Jvm.D
/-! MADE BY PROGRAM (witnessworld.py) out of the Statement's table words and the real class files: 9 classes; the members and pool entries that the words name. The judged class is class 1, her method 1. -/
namespace start1
open Jvm.ClassFile
def u (s : String) : CpInfo := .utf8 (stringToUtf16 s)
/-- a pool by its gaps: so many unusable entries, then the entry; so many at the end -/
def gap : Nat → List CpInfo → List CpInfo
  | 0, r => r
  | n + 1, r => .unusable :: gap n r
def poolList (es : List (Nat × CpInfo)) (last : Nat) : List CpInfo := es.foldr (fun e r => gap e.1 (e.2 :: r)) (gap last [])
def pool (es : List (Nat × CpInfo)) (last : Nat) : Array CpInfo := ⟨poolList es last⟩
def fileOf (pool : Array CpInfo) (this : Nat) (attrs : Array Attribute := #[]) (ms : Array MethodInfo := #[]) (fl : Nat := 33) (sup : Nat := 0) (ifs : Array Nat := #[]) (fds : Array FieldInfo := #[]) : ClassFile where
  minorVersion := 0
  majorVersion := 65
  constantPool := pool
  accessFlags := fl
  thisClass := this
  superClass := sup
  interfaces := ifs
  fields := fds
  methods := ms
  attributes := attrs
def plain (name : String) (sup : Option ClassId) : Class where
  name := name
  kind := .ordinary
  loader := none
  accessFlags := 33
  super := sup
  interfaces := #[]
  cf := none
  fields := #[]
  methods := #[]
  instanceTypes := #[]
  staticTypes := #[]
  resolved := #[]
  callSites := []
  init := .initialized
  statics := none
  mirror := none

def pool0 : Array CpInfo := pool [(5, u "<init>"), (0, u "()V"), (1, .class_ 10), (1, u "java/lang/Object")] 113

def k0m0 : Method := { name := "<init>", desc := "()V", sig := { parameters := [], returnType := none }, accessFlags := 1, code := none }
/-- java/lang/Object -/
def k0 : Class := { plain "java/lang/Object" none with
  accessFlags := 33
  interfaces := #[]
  cf := some (fileOf pool0 8 #[] #[{ accessFlags := 1, nameIndex := 5, descriptorIndex := 6, attributes := #[] }] 33 0 #[] #[])
  fields := #[]
  methods := #[k0m0]
  instanceTypes := #[]
  staticTypes := #[]
  resolved := Array.replicate 124 none
  statics := none }

def pool1 : Array CpInfo := pool [(2, .class_ 4), (1, u "java/lang/Object"), (0, u "<init>"), (0, u "()V"), (0, .integer 2147483647), (0, .methodref 9 10), (0, .class_ 11), (0, .nameAndType 12 13), (0, u "com/example/rhone/rhone/tree/Utf8"), (0, u "continues"), (0, u "(III)Z"), (0, .class_ 15), (0, u "com/example/rhone/rhone/tree/Utf8ContinuesPinLaw"), (2, u "law")] 3

def k1m0 : Method := { name := "<init>", desc := "()V", sig := { parameters := [], returnType := none }, accessFlags := 2, code := none }
def k1c1 : Code := { maxStack := 4, maxLocals := 10, code := code, exceptionTable := #[], attributes := #[] }
def k1m1 : Method := { name := "law", desc := "(III)Z", sig := { parameters := [.int, .int, .int], returnType := some .boolean }, accessFlags := 9, code := some k1c1 }
/-- com/example/rhone/rhone/tree/Utf8ContinuesPinLaw -/
def k1 : Class := { plain "com/example/rhone/rhone/tree/Utf8ContinuesPinLaw" (some 0) with
  accessFlags := 49
  interfaces := #[]
  cf := some (fileOf pool1 14 #[] #[{ accessFlags := 2, nameIndex := 5, descriptorIndex := 6, attributes := #[] }, { accessFlags := 9, nameIndex := 18, descriptorIndex := 13, attributes := #[] }] 49 2 #[] #[])
  fields := #[]
  methods := #[k1m0, k1m1]
  instanceTypes := #[]
  staticTypes := #[]
  resolved := Array.replicate 22 none
  statics := none }

def pool2 : Array CpInfo := pool [(4, .class_ 6), (1, u "java/lang/Object"), (0, u "<init>"), (0, u "()V"), (1, .class_ 12), (1, u "com/example/rhone/rhone/tree/Utf8"), (0, u "LENGTH"), (0, u "[B"), (0, .fieldref 10 16), (0, .nameAndType 17 18), (0, u "LOW"), (0, u "[I"), (0, .fieldref 10 20), (0, .nameAndType 21 18), (0, u "HIGH"), (8, u "WORDS"), (0, u "Ljava/lang/invoke/VarHandle;"), (66, u "QUADS"), (13, u "continues"), (0, u "(III)Z"), (15, u "MOST_KEPT_BY_A_NUMBER"), (0, u "I"), (2, u "EACH"), (0, u "J"), (0, u "HIGH_BITS"), (0, u "PLAIN"), (1, u "ESCAPED")] 19

def k2m0 : Method := { name := "<init>", desc := "()V", sig := { parameters := [], returnType := none }, accessFlags := 2, code := none }
def k2c1 : Code := { maxStack := 3, maxLocals := 3, code := prog_78_method_3_code, exceptionTable := #[], attributes := #[] }
def k2m1 : Method := { name := "continues", desc := "(III)Z", sig := { parameters := [.int, .int, .int], returnType := some .boolean }, accessFlags := 9, code := some k2c1 }
/-- com/example/rhone/rhone/tree/Utf8 -/
def k2 : Class := { plain "com/example/rhone/rhone/tree/Utf8" (some 0) with
  accessFlags := 33
  interfaces := #[]
  cf := some (fileOf pool2 10 #[] #[{ accessFlags := 2, nameIndex := 7, descriptorIndex := 8, attributes := #[] }, { accessFlags := 9, nameIndex := 112, descriptorIndex := 113, attributes := #[] }] 33 4 #[] #[{ accessFlags := 25, nameIndex := 129, descriptorIndex := 130, attributes := #[] }, { accessFlags := 26, nameIndex := 30, descriptorIndex := 31, attributes := #[] }, { accessFlags := 26, nameIndex := 98, descriptorIndex := 31, attributes := #[] }, { accessFlags := 26, nameIndex := 133, descriptorIndex := 134, attributes := #[] }, { accessFlags := 26, nameIndex := 135, descriptorIndex := 134, attributes := #[] }, { accessFlags := 26, nameIndex := 13, descriptorIndex := 14, attributes := #[] }, { accessFlags := 26, nameIndex := 17, descriptorIndex := 18, attributes := #[] }, { accessFlags := 26, nameIndex := 21, descriptorIndex := 18, attributes := #[] }, { accessFlags := 24, nameIndex := 136, descriptorIndex := 130, attributes := #[] }, { accessFlags := 24, nameIndex := 138, descriptorIndex := 130, attributes := #[] }])
  fields := #[{ name := "MOST_KEPT_BY_A_NUMBER", type := .int, accessFlags := 25, slot := 0, constantValue := 0 }, { name := "WORDS", type := (.object "java/lang/invoke/VarHandle"), accessFlags := 26, slot := 1, constantValue := 0 }, { name := "QUADS", type := (.object "java/lang/invoke/VarHandle"), accessFlags := 26, slot := 2, constantValue := 0 }, { name := "EACH", type := .long, accessFlags := 26, slot := 3, constantValue := 0 }, { name := "HIGH_BITS", type := .long, accessFlags := 26, slot := 4, constantValue := 0 }, { name := "LENGTH", type := (.array .byte), accessFlags := 26, slot := 5, constantValue := 0 }, { name := "LOW", type := (.array .int), accessFlags := 26, slot := 6, constantValue := 0 }, { name := "HIGH", type := (.array .int), accessFlags := 26, slot := 7, constantValue := 0 }, { name := "PLAIN", type := .int, accessFlags := 24, slot := 8, constantValue := 0 }, { name := "ESCAPED", type := .int, accessFlags := 24, slot := 9, constantValue := 0 }]
  methods := #[k2m0, k2m1]
  instanceTypes := #[]
  staticTypes := #[.int, (.object "java/lang/invoke/VarHandle"), (.object "java/lang/invoke/VarHandle"), .long, .long, (.array .byte), (.array .int), (.array .int), .int, .int]
  resolved := Array.replicate 158 none
  statics := some 0 }

def pool3 : Array CpInfo := pool [(1, u "java/lang/Cloneable"), (0, .class_ 1), (0, u "java/lang/Object"), (0, .class_ 3)] 3

/-- java/lang/Cloneable -/
def k3 : Class := { plain "java/lang/Cloneable" (some 0) with
  accessFlags := 1537
  interfaces := #[]
  cf := some (fileOf pool3 2 #[] #[] 1537 4 #[] #[])
  fields := #[]
  methods := #[]
  instanceTypes := #[]
  staticTypes := #[]
  resolved := Array.replicate 8 none
  statics := none }

def pool4 : Array CpInfo := pool [(1, u "java/io/Serializable"), (0, .class_ 1), (0, u "java/lang/Object"), (0, .class_ 3)] 3

/-- java/io/Serializable -/
def k4 : Class := { plain "java/io/Serializable" (some 0) with
  accessFlags := 1537
  interfaces := #[]
  cf := some (fileOf pool4 2 #[] #[] 1537 4 #[] #[])
  fields := #[]
  methods := #[]
  instanceTypes := #[]
  staticTypes := #[]
  resolved := Array.replicate 8 none
  statics := none }

/-- the primitive byte -/
def k5 : Class := { plain "byte" none with kind := .primitive 'B', accessFlags := 0x411 }
/-- [B -/
def k6 : Class := { plain "[B" (some 0) with kind := .array 5 .byte, interfaces := #[3, 4], accessFlags := 1041 }

/-- the primitive int -/
def k7 : Class := { plain "int" none with kind := .primitive 'I', accessFlags := 0x411 }
/-- [I -/
def k8 : Class := { plain "[I" (some 0) with kind := .array 7 .int, interfaces := #[3, 4], accessFlags := 1041 }

def heap : Heap := #[{ cls := 2, slots := #[.int 0, .null, .null, .long 0, .long 0, .null, .ref 1, .ref 2, .int 0, .int 0], vm := .statics 2 },
  { cls := 8, slots := #[.int 128, .int 128, .int 128, .int 128, .int 128, .int 128, .int 128, .int 128, .int 128, .int 128, .int 128, .int 128, .int 128, .int 128, .int 128, .int 128, .int 128, .int 128, .int 128, .int 128, .int 128, .int 128, .int 128, .int 128, .int 128, .int 128, .int 128, .int 128, .int 128, .int 128, .int 128, .int 128, .int 128, .int 128, .int 128, .int 128, .int 128, .int 128, .int 128, .int 128, .int 128, .int 128, .int 128, .int 128, .int 128, .int 128, .int 128, .int 128, .int 128, .int 128, .int 128, .int 128, .int 128, .int 128, .int 128, .int 128, .int 128, .int 128, .int 128, .int 128, .int 128, .int 128, .int 128, .int 128, .int 128, .int 128, .int 128, .int 128, .int 128, .int 128, .int 128, .int 128, .int 128, .int 128, .int 128, .int 128, .int 128, .int 128, .int 128, .int 128, .int 128, .int 128, .int 128, .int 128, .int 128, .int 128, .int 128, .int 128, .int 128, .int 128, .int 128, .int 128, .int 128, .int 128, .int 128, .int 128, .int 128, .int 128, .int 128, .int 128, .int 128, .int 128, .int 128, .int 128, .int 128, .int 128, .int 128, .int 128, .int 128, .int 128, .int 128, .int 128, .int 128, .int 128, .int 128, .int 128, .int 128, .int 128, .int 128, .int 128, .int 128, .int 128, .int 128, .int 128, .int 128, .int 128, .int 128, .int 128, .int 128, .int 128, .int 128, .int 128, .int 128, .int 128, .int 128, .int 128, .int 128, .int 128, .int 128, .int 128, .int 128, .int 128, .int 128, .int 128, .int 128, .int 128, .int 128, .int 128, .int 128, .int 128, .int 128, .int 128, .int 128, .int 128, .int 128, .int 128, .int 128, .int 128, .int 128, .int 128, .int 128, .int 128, .int 128, .int 128, .int 128, .int 128, .int 128, .int 128, .int 128, .int 128, .int 128, .int 128, .int 128, .int 128, .int 128, .int 128, .int 128, .int 128, .int 128, .int 128, .int 128, .int 128, .int 128, .int 128, .int 128, .int 128, .int 128, .int 128, .int 128, .int 128, .int 128, .int 128, .int 128, .int 128, .int 128, .int 128, .int 128, .int 128, .int 128, .int 128, .int 128, .int 128, .int 128, .int 128, .int 128, .int 128, .int 128, .int 128, .int 128, .int 128, .int 128, .int 128, .int 128, .int 128, .int 128, .int 128, .int 128, .int 128, .int 128, .int 128, .int 128, .int 128, .int 128, .int 128, .int 160, .int 128, .int 128, .int 128, .int 128, .int 128, .int 128, .int 128, .int 128, .int 128, .int 128, .int 128, .int 128, .int 128, .int 128, .int 128, .int 144, .int 128, .int 128, .int 128, .int 128, .int 128, .int 128, .int 128, .int 128, .int 128, .int 128, .int 128, .int 128, .int 128, .int 128, .int 128], vm := .none },
  { cls := 8, slots := #[.int 191, .int 191, .int 191, .int 191, .int 191, .int 191, .int 191, .int 191, .int 191, .int 191, .int 191, .int 191, .int 191, .int 191, .int 191, .int 191, .int 191, .int 191, .int 191, .int 191, .int 191, .int 191, .int 191, .int 191, .int 191, .int 191, .int 191, .int 191, .int 191, .int 191, .int 191, .int 191, .int 191, .int 191, .int 191, .int 191, .int 191, .int 191, .int 191, .int 191, .int 191, .int 191, .int 191, .int 191, .int 191, .int 191, .int 191, .int 191, .int 191, .int 191, .int 191, .int 191, .int 191, .int 191, .int 191, .int 191, .int 191, .int 191, .int 191, .int 191, .int 191, .int 191, .int 191, .int 191, .int 191, .int 191, .int 191, .int 191, .int 191, .int 191, .int 191, .int 191, .int 191, .int 191, .int 191, .int 191, .int 191, .int 191, .int 191, .int 191, .int 191, .int 191, .int 191, .int 191, .int 191, .int 191, .int 191, .int 191, .int 191, .int 191, .int 191, .int 191, .int 191, .int 191, .int 191, .int 191, .int 191, .int 191, .int 191, .int 191, .int 191, .int 191, .int 191, .int 191, .int 191, .int 191, .int 191, .int 191, .int 191, .int 191, .int 191, .int 191, .int 191, .int 191, .int 191, .int 191, .int 191, .int 191, .int 191, .int 191, .int 191, .int 191, .int 191, .int 191, .int 191, .int 191, .int 191, .int 191, .int 191, .int 191, .int 191, .int 191, .int 191, .int 191, .int 191, .int 191, .int 191, .int 191, .int 191, .int 191, .int 191, .int 191, .int 191, .int 191, .int 191, .int 191, .int 191, .int 191, .int 191, .int 191, .int 191, .int 191, .int 191, .int 191, .int 191, .int 191, .int 191, .int 191, .int 191, .int 191, .int 191, .int 191, .int 191, .int 191, .int 191, .int 191, .int 191, .int 191, .int 191, .int 191, .int 191, .int 191, .int 191, .int 191, .int 191, .int 191, .int 191, .int 191, .int 191, .int 191, .int 191, .int 191, .int 191, .int 191, .int 191, .int 191, .int 191, .int 191, .int 191, .int 191, .int 191, .int 191, .int 191, .int 191, .int 191, .int 191, .int 191, .int 191, .int 191, .int 191, .int 191, .int 191, .int 191, .int 191, .int 191, .int 191, .int 191, .int 191, .int 191, .int 191, .int 191, .int 191, .int 191, .int 191, .int 191, .int 191, .int 191, .int 191, .int 191, .int 191, .int 191, .int 191, .int 191, .int 191, .int 191, .int 191, .int 191, .int 191, .int 191, .int 191, .int 191, .int 191, .int 191, .int 191, .int 191, .int 191, .int 191, .int 159, .int 191, .int 191, .int 191, .int 191, .int 191, .int 191, .int 143, .int 191, .int 191, .int 191, .int 191, .int 191, .int 191, .int 191, .int 191, .int 191, .int 191, .int 191], vm := .none }]
def classes : Array Class := #[k0, k1, k2, k3, k4, k5, k6, k7, k8]
def interned : List (Array UInt16 × Addr) := []
def slotsUsed : Nat := 522
def theMethod : MethodId := ⟨1, 1⟩
def args0 : Array Value := #[.int 5, .int 2, .int 7]
def aboutOver (below : List Frame) : State where
  vm := { classes := classes, interned := interned.toArray }
  heap := heap
  slotsUsed := slotsUsed
  threads := #[{ frames := .invoking theMethod args0 :: below }]
def below0 : List Frame := [.native { method := ⟨0, 0⟩, args := #[] }]
def about1 : State := aboutOver below0
def p0 : Program := .bare "" "" ""
def e0 : Env := launch0.env 0 0 0
theorem w_frames : about1.frames = Frame.invoking theMethod args0 :: below0 := rfl
set_option maxRecDepth 65536 in
theorem w_args : argsFit about1.vm theMethod args0 = true := by decide +kernel
set_option maxRecDepth 65536 in
theorem w_heap : heapFits about1 = true := by decide +kernel
set_option maxRecDepth 65536 in
theorem w_runnable : about1.curStatus? = some .runnable := by decide +kernel
set_option maxRecDepth 65536 in
theorem w_alone : about1.alone = true := by decide +kernel
set_option maxRecDepth 65536 in
theorem w_named : about1.methodNamed? x = some theMethod := by decide +kernel
set_option maxRecDepth 65536 in
theorem w_hears : about1.hears theMethod below0 = true := by decide +kernel
set_option maxRecDepth 65536 in
theorem w_ripe : about1.ripe theMethod args0 below0 = true := by decide +kernel
theorem w_running : about1.status = .running := rfl
set_option maxRecDepth 65536 in
theorem w_room : about1.hasRoom e0.platform room_1 = true :=
  launch0.hasRoom_least _ room_1 (by decide +kernel) (by decide +kernel) (by decide +kernel) (by decide +kernel) (by decide +kernel) (by decide +kernel)
theorem allAtoms_all (ts : List Jvm.Cond) (a : Array Jvm.Value) (st : Jvm.State) : (allAtoms ts).before a st = ts.all (fun c => c.before a st) := by
  induction ts with
  | nil => rfl
  | cons c t ih =>
    show (Jvm.Cond.and c (allAtoms t)).before a st = _
    rw [Jvm.Cond.before_and, ih, List.all_cons]
def words1 : List Jvm.Cond := Jvm.Cond.code x code maxLocals ret :: tables_1
/-- a 'code' word, met by the world's own term for the bytes: nothing is compared byte by byte -/
theorem code_word {y : MethodName} {bytes : ByteArray} {mx : Nat} {rt : Option FieldType} {a : Array Value} {s : State} {m : MethodId} {meth : Method} {c : Code} (h1 : s.methodNamed? y = some m) (h2 : s.vm.method? m = some meth) (h3 : meth.code = some c) (h4 : c.code = bytes)
    (h5 : (c.maxLocals == mx && c.exceptionTable.isEmpty && decide (c.maxStack ≤ mostOperands) && decide (meth.sig.returnType = rt) && !meth.locks && decide (parseMethodDescriptor y.desc = some meth.sig)) = true) : (Jvm.Cond.code y bytes mx rt).before a s = true := by
  simp only [Bool.and_eq_true, beq_iff_eq, Bool.not_eq_true', decide_eq_true_eq] at h5
  obtain ⟨⟨⟨⟨⟨g1, g2⟩, g3⟩, g4⟩, g5⟩, g6⟩ := h5
  simp [Cond.before, Cond.holds, Cond.value, h1, h2, h3, h4, g1, g2, g3, g4, g5, g6]
def isCode : Jvm.Cond → Bool
  | .code _ _ _ _ => true
  | _ => false
theorem all_split {L : List Jvm.Cond} {P : Jvm.Cond → Bool} (h1 : L.all (fun c => isCode c || P c) = true) (h2 : ∀ c ∈ L.filter isCode, P c = true) : L.all P = true := by
  refine List.all_eq_true.mpr fun c hc => ?_
  have h := List.all_eq_true.mp h1 c hc
  rcases Bool.eq_false_or_eq_true (isCode c) with hi | hi
  · exact h2 c (List.mem_filter.mpr ⟨hc, hi⟩)
  · simpa [hi] using h
set_option maxRecDepth 65536 in
theorem w_c0 : (Jvm.Cond.code x code maxLocals ret).before args0 about1 = true := code_word (m := ⟨1, 1⟩) (meth := k1m1) (c := k1c1) (by decide +kernel) rfl rfl rfl (by decide +kernel)
set_option maxRecDepth 65536 in
theorem w_c1 : (Jvm.Cond.code ({ cls := "com/example/rhone/rhone/tree/Utf8", name := "continues", desc := "(III)Z" } : Jvm.MethodName) prog_78_method_3_code (3 : Nat) (Option.some Jvm.ClassFile.FieldType.boolean)).before args0 about1 = true := code_word (m := ⟨2, 1⟩) (meth := k2m1) (c := k2c1) (by decide +kernel) rfl rfl rfl (by decide +kernel)
def codes1 : List Jvm.Cond := [Jvm.Cond.code x code maxLocals ret, Jvm.Cond.code ({ cls := "com/example/rhone/rhone/tree/Utf8", name := "continues", desc := "(III)Z" } : Jvm.MethodName) prog_78_method_3_code (3 : Nat) (Option.some Jvm.ClassFile.FieldType.boolean)]
set_option maxRecDepth 65536 in
theorem codes_eq : words1.filter isCode = codes1 := rfl
theorem w_codes : ∀ c ∈ words1.filter isCode, c.before args0 about1 = true := by
  rw [codes_eq]
  intro c hc
  simp only [codes1, List.mem_cons, List.not_mem_nil, or_false] at hc
  rcases hc with rfl | rfl
  · exact w_c0
  · exact w_c1
set_option maxRecDepth 65536 in
theorem w_t1 : words1.all (fun c => isCode c || c.before args0 about1) = true := by decide +kernel
theorem w_tables : (allAtoms (Jvm.Cond.code x code maxLocals ret :: tables_1)).before args0 about1 = true := by
  rw [allAtoms_all]
  show words1.all (fun c => c.before args0 about1) = true
  refine all_split ?_ w_codes
  rw [w_t1]
set_option maxRecDepth 65536 in
theorem w_case : (Jvm.Cond.and given_1 narrow_1).before args0 about1 = true := by decide +kernel
theorem w_applies : (headSpec (Jvm.Cond.code x code maxLocals ret :: tables_1) room_1).applies x e0.platform about1 = true :=
  (Spec.applies_iff w_frames).mpr ⟨w_running, w_runnable, w_alone, w_named, w_hears, w_ripe, w_room, w_tables⟩
theorem atStart : AtStart classFile x code maxLocals ret World_1 tables_1 room_1 Calls_1 rest_1 Pre_1 launch0 p0 e0 about1 theMethod args0 below0 :=
  ⟨lists_1, trivial, launch0.admits_env _ _ _, launch0.least_env, fairChoices_fair.cas, fairChoices_fair.clock, w_frames, w_args, w_heap, w_applies, trivial, trivial, w_case⟩
end start1
theorem witness_1 : WitnessClaimed_1 := ⟨start1.p0, start1.e0, start1.about1, start1.theMethod, start1.args0, start1.below0, start1.atStart⟩
end Jvm.Pilot.@@N@@
