import JvmDerived
import JvmDerived.Pilot.@@N@@Statement
import JvmDerived.Pilot.@@N@@Code
set_option linter.unusedVariables false
set_option linter.unusedSimpArgs false
namespace Jvm.RoadKit
open Sem ClassFile Op Lib Jvm.Stand Jvm.Free Jvm.LawKit
section New
variable {p : Program} {l : Launch} {e : Env} {R : Room} {s : State} {m : MethodId} {args : Array Value} {below : List Frame} {meth : Method} {c : Code} {T : State} {locs : List Loc} {cells slots : Nat}
theorem own_retI (X : Stand p l e R s m args below meth c T locs cells slots) (hx : p.tables.exec = Jvm.exec) {pc : Nat} {Ls : Array Slot} {z : Int32} {rest : List Value} (hret : meth.sig.returnType = some .int) (hd : decode c.code pc = .ok (.ireturn, 1)) {fs : List Frame}
    (hl : ∀ (f : JFrame) (acts : List Action), f.method = m → f.locked = none → f.entered = [] → (doReturn e (T.setTop f) acts (some (.int z))).1 = T.setFrames fs) : Steps p.tables e below (T.setTop (mkF m pc Ls (.int z :: rest))) (T.setFrames fs) :=
  retOut X hx hret rfl (Or.inl ⟨rfl, Or.inl rfl, z, rfl⟩) hd hl
theorem own_retJ (X : Stand p l e R s m args below meth c T locs cells slots) (hx : p.tables.exec = Jvm.exec) {pc : Nat} {Ls : Array Slot} {z : Int64} {rest : List Value} (hret : meth.sig.returnType = some .long) (hd : decode c.code pc = .ok (.lreturn, 1)) {fs : List Frame}
    (hl : ∀ (f : JFrame) (acts : List Action), f.method = m → f.locked = none → f.entered = [] → (doReturn e (T.setTop f) acts (some (.long z))).1 = T.setFrames fs) : Steps p.tables e below (T.setTop (mkF m pc Ls (.long z :: rest))) (T.setFrames fs) :=
  retOut X hx hret rfl (Or.inr (Or.inl ⟨rfl, rfl, z, rfl⟩)) hd hl
theorem own_retA (X : Stand p l e R s m args below meth c T locs cells slots) (hx : p.tables.exec = Jvm.exec) {pc : Nat} {Ls : Array Slot} {w : Value} {t : FieldType} {rest : List Value} (hret : meth.sig.returnType = some t) (hn : narrow t w = w) (ht : t.isReference = true) (hw : w.isRef = true) (hd : decode c.code pc = .ok (.areturn, 1)) {fs : List Frame}
    (hl : ∀ (f : JFrame) (acts : List Action), f.method = m → f.locked = none → f.entered = [] → (doReturn e (T.setTop f) acts (some w)).1 = T.setFrames fs) : Steps p.tables e below (T.setTop (mkF m pc Ls (w :: rest))) (T.setFrames fs) :=
  retOut X hx hret hn (Or.inr (Or.inr (Or.inr (Or.inr ⟨rfl, ht, hw⟩)))) hd hl
end New
abbrev OwnGo (tb : Tables) (e : Env) (below : List Frame) (K : State → Outcome → Prop) (st : State) : Prop := ∃ s₂ o, Steps tb e below st s₂ ∧ s₂.status = .running ∧ Ended s₂ below o ∧ K s₂ o
theorem OwnGo.back {tb : Tables} {e : Env} {below : List Frame} {K : State → Outcome → Prop} {st : State} (st' : State) (h : ∀ t, Steps tb e below st' t → Steps tb e below st t) (g : OwnGo tb e below K st') : OwnGo tb e below K st := by
  obtain ⟨s₂, o, h1, h2⟩ := g
  exact ⟨s₂, o, h _ h1, h2⟩
abbrev OwnMg (tb : Tables) (e : Env) (below : List Frame) (D : State → Prop) (st : State) : Prop := ∃ st', D st' ∧ ∀ t, Steps tb e below st' t → Steps tb e below st t
theorem OwnMg.back {tb : Tables} {e : Env} {below : List Frame} {D : State → Prop} {st : State} (st' : State) (h : ∀ t, Steps tb e below st' t → Steps tb e below st t) (g : OwnMg tb e below D st') : OwnMg tb e below D st := by
  obtain ⟨s₂, h1, h2⟩ := g
  exact ⟨s₂, h1, fun t k => h t (h2 t k)⟩
theorem own_not {P Q : Prop} (h : P ↔ Q) (n : ¬ Q) : ¬ P := fun q => n (h.mp q)
theorem own_ne {a b n : Nat} (h : a < n) (q : b = n) : a ≠ b := Nat.ne_of_lt (q ▸ h)
theorem own_ne' {a b n : Nat} (h : a < n) (q : n ≤ b) : a ≠ b := Nat.ne_of_lt (Nat.lt_of_lt_of_le h q)
end Jvm.RoadKit
namespace Jvm.Pilot.@@N@@
open Jvm Jvm.ClassFile Sem Op Lib Jvm.Free Jvm.Stand Jvm.LawKit Jvm.RoadKit Bundle Jvm.Pilot.@@N@@.Jvm.D
theorem own_pn0 : plainName "com/example/penelope/penelope/TransactionDefinition" = true := by first | (simp [plainName, overriddenIn]; done) | decide +kernel
theorem own_d1_0 : decode prog_27_method_12_code 0 = .ok (.iload_n 0, 1) := by decide +kernel
theorem own_d1_1 : decode prog_27_method_12_code 1 = .ok (.ifCond .gt 22, 3) := by decide +kernel
theorem own_d1_23 : decode prog_27_method_12_code 23 = .ok (.iload_n 0, 1) := by decide +kernel
theorem own_d1_24 : decode prog_27_method_12_code 24 = .ok (.ireturn, 1) := by decide +kernel
theorem own_d1_4 : decode prog_27_method_12_code 4 = .ok (.iload_n 0, 1) := by decide +kernel
theorem own_d1_5 : decode prog_27_method_12_code 5 = .ok (.iconst (-1), 1) := by decide +kernel
theorem own_d1_6 : decode prog_27_method_12_code 6 = .ok (.if_icmp .eq 17, 3) := by decide +kernel
theorem own_pn1 : plainName "com/example/penelope/penelope/TransactionDefinitionCheckedTimeoutPinLaw" = true := by first | (simp [plainName, overriddenIn]; done) | decide +kernel
theorem own_pd0 : parseMethodDescriptor "(I)I" = some ⟨[.int], some .int⟩ := by decide +kernel
theorem own_ct_ef (m : MethodId) (x0 : Int32) : entryFrame m #[(.int x0)] 1 = mkF m 0 #[.val (.int x0)] [] := by first | (simp [entryFrame, mkF, argsToLocals, Value.category]; done) | rfl
def own_ct_Q (Z : State) (p1 : Int32) (h0 : Heap) (n0 : Nat) (rv : Option Value) (hN : Heap) (LL : List Loc) : Prop := rv = some (.int p1) ∧ Fr n0 LL ∧ hN = h0
set_option maxRecDepth 65536 in
set_option maxHeartbeats 40000000 in
theorem own_ct (l : Launch) (Z : State) (a0 : Array Value) (hw : ∀ d ∈ tables_1, d.before a0 Z = true) (ws : List Jvm.Cond) (p1 : Int32) (h0 : Heap) (n0 : Nat) (Z0 : n0 ≤ h0.size) (hp : 0 < p1 ∨ p1 = -1) :
    MetFree l (⟨"com/example/penelope/penelope/TransactionDefinition", "checkedTimeout", "(I)I"⟩ : MethodName) (head1 (Jvm.Cond.code (⟨"com/example/penelope/penelope/TransactionDefinition", "checkedTimeout", "(I)I"⟩ : MethodName) prog_27_method_12_code 1 (some .int) :: ws) ({ frames := 0, cells := 0, slots := 0, locals := 0 } : Room)) (fun aa UU => aa = #[(.int p1)] ∧ Z.Warmed39 UU.vm ∧ UU.heap = h0) (fun _ _ _ _ _ => True) (fun _ UU oo UU' => ∃ rv LL, oo = .returned rv ∧ own_ct_Q Z p1 h0 n0 rv UU'.heap LL ∧ FrameEnd UU oo UU' LL ({ frames := 0, cells := 0, slots := 0, locals := 0 } : Room).cells ({ frames := 0, cells := 0, slots := 0, locals := 0 } : Room).slots) := by
  refine MetFree.of_bodySF (plainFor_of_name own_pn0) hisR ?_
  intro p e s m args below meth c s₁ Bd hml0 hP hK
  obtain ⟨rfl, hZ, hh⟩ := hP
  have hx := Bd.exec
  have hby := Bd.bytes
  have hml : c.maxLocals = 1 := hml0
  have hown : s.vm.findClass "com/example/penelope/penelope/TransactionDefinition" = some m.cls := findClass_of_methodNamed Bd.named
  have hnm := (name_of_methodNamed Bd.named Bd.method).1
  have X0 : Stand p l e ({ frames := 0, cells := 0, slots := 0, locals := 0 } : Room) s m #[(.int p1)] below meth c s₁ [] 0 0 := Stand.of_body Bd
  have e0 : s₁.heap = h0 := by rw [← hh, Bd.state]; rfl
  have N0 := Fr.nil n0
  have K0 : Keep h0 h0 [] := Keep.refl h0 _
  refine (?_ : OwnGo p.tables e below (fun UU' oo => ∃ rv LL, oo = .returned rv ∧ own_ct_Q Z p1 h0 n0 rv UU'.heap LL ∧ FrameEnd s oo UU' LL ({ frames := 0, cells := 0, slots := 0, locals := 0 } : Room).cells ({ frames := 0, cells := 0, slots := 0, locals := 0 } : Room).slots) _)
  refine OwnGo.back (s₁.setTop (mkF m 0 #[.val (.int p1)] [])) (fun tg kk => castTop (own_ct_ef m p1) kk) ?_
  refine OwnGo.back (s₁.setTop (mkF m 1 #[.val (.int p1)] [(.int p1)])) (fun tg kk => XS.iloadN X0.here hx rfl (hb hby own_d1_0) rfl kk) ?_
  by_cases hc1 : (0 : Int32) < p1
  ·
    refine OwnGo.back (s₁.setTop (mkF m 23 #[.val (.int p1)] [])) (fun tg kk => XS.ifYes X0.here hx rfl (pc0 := 1) (pc' := 23) rfl (hb hby own_d1_1) rfl ((if0 _ _).trans (tlt hc1).2.2.1) (by decide) (by decide) kk) ?_
    refine OwnGo.back (s₁.setTop (mkF m 24 #[.val (.int p1)] [(.int p1)])) (fun tg kk => XS.iloadN X0.here hx rfl (hb hby own_d1_23) rfl kk) ?_
    obtain ⟨fs, hr, hrun, hended, hW, hsame⟩ := X0.leave (v := some (.int p1)) (fun h => by rw [Bd.returns] at h; cases h)
    refine ⟨_, _, ?_, hrun, hended, _, _, rfl, ?_, ⟨_, rfl⟩, hW, hsame.mono (by decide) (by decide)⟩
    · exact own_retI X0 hx Bd.returns (hb hby own_d1_24) hr
    · show own_ct_Q Z p1 h0 n0 _ s₁.heap _
      rw [e0]
      exact ⟨rfl, N0, rfl⟩
  ·
    refine OwnGo.back (s₁.setTop (mkF m 4 #[.val (.int p1)] [])) (fun tg kk => XS.ifNo X0.here hx rfl (hb hby own_d1_1) rfl ((if0 _ _).trans (flt hc1).2.2.1) kk) ?_
    refine OwnGo.back (s₁.setTop (mkF m 5 #[.val (.int p1)] [(.int p1)])) (fun tg kk => XS.iloadN X0.here hx rfl (hb hby own_d1_4) rfl kk) ?_
    refine OwnGo.back (s₁.setTop (mkF m 6 #[.val (.int p1)] [(.int (-1 : Int32)), (.int p1)])) (fun tg kk => XS.iconst X0.here hx rfl (hb hby own_d1_5) kk) ?_
    refine OwnGo.back (s₁.setTop (mkF m 23 #[.val (.int p1)] [])) (fun tg kk => XS.icmpYes X0.here hx rfl (pc0 := 6) (pc' := 23) rfl (hb hby own_d1_6) rfl (teq ((hp.resolve_left hc1) : p1 = (-1 : Int32))).1 (by decide) (by decide) kk) ?_
    refine OwnGo.back (s₁.setTop (mkF m 24 #[.val (.int p1)] [(.int p1)])) (fun tg kk => XS.iloadN X0.here hx rfl (hb hby own_d1_23) rfl kk) ?_
    obtain ⟨fs, hr, hrun, hended, hW, hsame⟩ := X0.leave (v := some (.int p1)) (fun h => by rw [Bd.returns] at h; cases h)
    refine ⟨_, _, ?_, hrun, hended, _, _, rfl, ?_, ⟨_, rfl⟩, hW, hsame.mono (by decide) (by decide)⟩
    · exact own_retI X0 hx Bd.returns (hb hby own_d1_24) hr
    · show own_ct_Q Z p1 h0 n0 _ s₁.heap _
      rw [e0]
      exact ⟨rfl, N0, rfl⟩
theorem own_mask (x : Int32) : ¬ (x &&& 2147483647) < 0 := by
  have h := c_mask x 2147483647 31 (by decide) (by decide)
  rw [Int32.lt_iff_toInt_lt, h]
  show ¬ _ < (0 : Int)
  omega
theorem own_pos {x : Int32} (h0 : ¬ x < 0) (h1 : ¬ x = 0) : 0 < x := by
  simp only [Int32.lt_iff_toInt_lt, ← Int32.toInt_inj, Int32.reduceToInt] at *
  omega
theorem own_law_ef (m : MethodId) (x0 : Int32) (x1 : Int32) : entryFrame m #[(.int x0), (.int x1)] maxLocals = mkF m 0 #[.val (.int x0), .val (.int x1), .unset, .unset, .unset] [] := by first | (simp [entryFrame, mkF, argsToLocals, Value.category, maxLocals]; done) | rfl
def own_law_Q (Z : State) (p1 : Int32) (p2 : Int32) (h0 : Heap) (n0 : Nat) (rv : Option Value) (hN : Heap) (LL : List Loc) : Prop := rv = some (.int (1 : Int32)) ∧ Fr n0 LL ∧ hN = h0
set_option maxRecDepth 65536 in
set_option maxHeartbeats 40000000 in
theorem own_law (l : Launch) (Z : State) (a0 : Array Value) (hw : ∀ d ∈ tables_1, d.before a0 Z = true) (ws : List Jvm.Cond) (p1 : Int32) (p2 : Int32) (h0 : Heap) (n0 : Nat) (Z0 : n0 ≤ h0.size) :
    MetFree l x (head1 (Jvm.Cond.code x code maxLocals ret :: ws) room_1) (fun aa UU => aa = #[(.int p1), (.int p2)] ∧ Z.Warmed39 UU.vm ∧ UU.heap = h0) (fun _ _ _ _ _ => True) (fun _ UU oo UU' => ∃ rv LL, oo = .returned rv ∧ own_law_Q Z p1 p2 h0 n0 rv UU'.heap LL ∧ FrameEnd UU oo UU' LL room_1.cells room_1.slots) := by
  refine MetFree.of_bodySF (plainFor_of_name own_pn1) hisR ?_
  intro p e s m args below meth c s₁ Bd hml0 hP hK
  obtain ⟨rfl, hZ, hh⟩ := hP
  have hx := Bd.exec
  have hby := Bd.bytes
  have hml : c.maxLocals = 5 := hml0
  have hown : s.vm.findClass "com/example/penelope/penelope/TransactionDefinitionCheckedTimeoutPinLaw" = some m.cls := findClass_of_methodNamed Bd.named
  have hnm := (name_of_methodNamed Bd.named Bd.method).1
  have X0 : Stand p l e room_1 s m #[(.int p1), (.int p2)] below meth c s₁ [] 0 0 := Stand.of_body Bd
  have e0 : s₁.heap = h0 := by rw [← hh, Bd.state]; rfl
  have N0 := Fr.nil n0
  have K0 : Keep h0 h0 [] := Keep.refl h0 _
  refine (?_ : OwnGo p.tables e below (fun UU' oo => ∃ rv LL, oo = .returned rv ∧ own_law_Q Z p1 p2 h0 n0 rv UU'.heap LL ∧ FrameEnd s oo UU' LL room_1.cells room_1.slots) _)
  refine OwnGo.back (s₁.setTop (mkF m 0 #[.val (.int p1), .val (.int p2), .unset, .unset, .unset] [])) (fun tg kk => castTop (own_law_ef m p1 p2) kk) ?_
  refine OwnGo.back (s₁.setTop (mkF m 1 #[.val (.int p1), .val (.int p2), .unset, .unset, .unset] [(.int p1)])) (fun tg kk => XS.iloadN X0.here hx rfl (hb hby at_0) rfl kk) ?_
  refine OwnGo.back (s₁.setTop (mkF m 3 #[.val (.int p1), .val (.int p2), .unset, .unset, .unset] [(.int (2147483647 : Int32)), (.int p1)])) (fun tg kk => Jvm.Stand.ldcI X0 hx hown (mvT hZ (hw _ (List.mem_of_getElem? (i := 0) rfl))) rfl (hb hby at_1) kk) ?_
  refine OwnGo.back (s₁.setTop (mkF m 4 #[.val (.int p1), .val (.int p2), .unset, .unset, .unset] [(.int (p1 &&& (2147483647 : Int32)))])) (fun tg kk => XS.iand X0.here hx rfl (hb hby at_3) rfl kk) ?_
  refine OwnGo.back (s₁.setTop (mkF m 5 #[.val (.int p1), .val (.int p2), .val (.int (p1 &&& (2147483647 : Int32))), .unset, .unset] [])) (fun tg kk => XS.istoreN X0.here hx rfl (hb hby at_4) rfl (l' := #[.val (.int p1), .val (.int p2), .val (.int (p1 &&& (2147483647 : Int32))), .unset, .unset]) rfl kk) ?_
  refine OwnGo.back (s₁.setTop (mkF m 6 #[.val (.int p1), .val (.int p2), .val (.int (p1 &&& (2147483647 : Int32))), .unset, .unset] [(.int p2)])) (fun tg kk => XS.iloadN X0.here hx rfl (hb hby at_5) rfl kk) ?_
  refine OwnGo.back (s₁.setTop (mkF m 7 #[.val (.int p1), .val (.int p2), .val (.int (p1 &&& (2147483647 : Int32))), .unset, .unset] [(.int (1 : Int32)), (.int p2)])) (fun tg kk => XS.iconst X0.here hx rfl (hb hby at_6) kk) ?_
  refine OwnGo.back (s₁.setTop (mkF m 8 #[.val (.int p1), .val (.int p2), .val (.int (p1 &&& (2147483647 : Int32))), .unset, .unset] [(.int (p2 &&& (1 : Int32)))])) (fun tg kk => XS.iand X0.here hx rfl (hb hby at_7) rfl kk) ?_
  by_cases hc1 : (p2 &&& (1 : Int32)) = (0 : Int32)
  ·
    refine OwnGo.back (s₁.setTop (mkF m 11 #[.val (.int p1), .val (.int p2), .val (.int (p1 &&& (2147483647 : Int32))), .unset, .unset] [])) (fun tg kk => XS.ifNo X0.here hx rfl (hb hby at_8) rfl ((if0 _ _).trans (teq hc1).2) kk) ?_
    refine OwnGo.back (s₁.setTop (mkF m 12 #[.val (.int p1), .val (.int p2), .val (.int (p1 &&& (2147483647 : Int32))), .unset, .unset] [(.int (p1 &&& (2147483647 : Int32)))])) (fun tg kk => XS.iloadN X0.here hx rfl (hb hby at_11) rfl kk) ?_
    by_cases hc2 : (p1 &&& (2147483647 : Int32)) = (0 : Int32)
    ·
      refine OwnGo.back (s₁.setTop (mkF m 15 #[.val (.int p1), .val (.int p2), .val (.int (p1 &&& (2147483647 : Int32))), .unset, .unset] [])) (fun tg kk => XS.ifNo X0.here hx rfl (hb hby at_12) rfl ((if0 _ _).trans (teq hc2).2) kk) ?_
      refine OwnGo.back (s₁.setTop (mkF m 16 #[.val (.int p1), .val (.int p2), .val (.int (p1 &&& (2147483647 : Int32))), .unset, .unset] [(.int (-1 : Int32))])) (fun tg kk => XS.iconst X0.here hx rfl (hb hby at_15) kk) ?_
      refine OwnGo.back (s₁.setTop (mkF m 17 #[.val (.int p1), .val (.int p2), .val (.int (p1 &&& (2147483647 : Int32))), .val (.int (-1 : Int32)), .unset] [])) (fun tg kk => XS.istoreN X0.here hx rfl (hb hby at_16) rfl (l' := #[.val (.int p1), .val (.int p2), .val (.int (p1 &&& (2147483647 : Int32))), .val (.int (-1 : Int32)), .unset]) rfl kk) ?_
      refine OwnGo.back (s₁.setTop (mkF m 22 #[.val (.int p1), .val (.int p2), .val (.int (p1 &&& (2147483647 : Int32))), .val (.int (-1 : Int32)), .unset] [])) (fun tg kk => XS.goto X0.here hx rfl (pc0 := 17) (pc' := 22) rfl (hb hby at_17) (by decide) (by decide) kk) ?_
      refine OwnGo.back (s₁.setTop (mkF m 23 #[.val (.int p1), .val (.int p2), .val (.int (p1 &&& (2147483647 : Int32))), .val (.int (-1 : Int32)), .unset] [(.int (-1 : Int32))])) (fun tg kk => XS.iloadN X0.here hx rfl (hb hby at_22) rfl kk) ?_
      obtain ⟨_, _, ⟨T3, L3, k3, n3⟩, -, X3, ⟨Lc3, hQ3, l3, y3, z3⟩, st3⟩ := Jvm.LawKit.callS X0 hx (y := (⟨"com/example/penelope/penelope/TransactionDefinition", "checkedTimeout", "(I)I"⟩ : MethodName)) hown (mvT hZ (hw _ (List.mem_of_getElem? (i := 1) rfl))) (mvT hZ (hw _ (List.mem_of_getElem? (i := 2) rfl))) (mvT hZ (hw _ (List.mem_of_getElem? (i := 3) rfl))) (mvT hZ (hw _ (List.mem_of_getElem? (i := 4) rfl))) (by decide) (backOf (W := 0) (own_ct l Z a0 hw [] (-1 : Int32) h0 n0 Z0 (Or.inr rfl)) hZ (hw _ (List.mem_of_getElem? (i := 4) rfl)) (hw _ (List.mem_of_getElem? (i := 3) rfl)) (by decide) (by decide)) (g := (mkF m 23 #[.val (.int p1), .val (.int p2), .val (.int (p1 &&& (2147483647 : Int32))), .val (.int (-1 : Int32)), .unset] [(.int (-1 : Int32))])) rfl (by rw [hml]; rfl) (argsL := [(.int (-1 : Int32))]) (rest := []) (lenOf own_pd0 rfl) rfl (by show 2 * 0 + _ ≤ _; exact Nat.le_of_eq rfl) (hb hby at_23) (fun _ _ => ⟨rfl, e0, (by decide : 0 + 0 ≤ _), (by decide : 0 + 0 ≤ _)⟩)
      dsimp only [Pt.U, Pt.locs, Pt.cells, Pt.slots] at X3 l3 y3 z3 st3 hQ3
      subst l3 y3 z3
      obtain ⟨rfl, N3q, e3⟩ := hQ3
      have N3 := Fr.app N0 N3q
      refine OwnGo.back (T3.setTop (mkF m 26 #[.val (.int p1), .val (.int p2), .val (.int (p1 &&& (2147483647 : Int32))), .val (.int (-1 : Int32)), .unset] [(.int (-1 : Int32))])) (fun tg kk => st3 _ kk) ?_
      refine OwnGo.back (T3.setTop (mkF m 28 #[.val (.int p1), .val (.int p2), .val (.int (p1 &&& (2147483647 : Int32))), .val (.int (-1 : Int32)), .val (.int (-1 : Int32))] [])) (fun tg kk => XS.istore X3.here hx rfl (hb hby at_26) rfl (l' := #[.val (.int p1), .val (.int p2), .val (.int (p1 &&& (2147483647 : Int32))), .val (.int (-1 : Int32)), .val (.int (-1 : Int32))]) rfl kk) ?_
      refine OwnGo.back (T3.setTop (mkF m 30 #[.val (.int p1), .val (.int p2), .val (.int (p1 &&& (2147483647 : Int32))), .val (.int (-1 : Int32)), .val (.int (-1 : Int32))] [(.int (-1 : Int32))])) (fun tg kk => XS.iload X3.here hx rfl (hb hby at_28) rfl kk) ?_
      refine OwnGo.back (T3.setTop (mkF m 31 #[.val (.int p1), .val (.int p2), .val (.int (p1 &&& (2147483647 : Int32))), .val (.int (-1 : Int32)), .val (.int (-1 : Int32))] [(.int (-1 : Int32)), (.int (-1 : Int32))])) (fun tg kk => XS.iloadN X3.here hx rfl (hb hby at_30) rfl kk) ?_
      refine OwnGo.back (T3.setTop (mkF m 34 #[.val (.int p1), .val (.int p2), .val (.int (p1 &&& (2147483647 : Int32))), .val (.int (-1 : Int32)), .val (.int (-1 : Int32))] [])) (fun tg kk => XS.icmpNo X3.here hx rfl (hb hby at_31) rfl (teq (by decide : (-1 : Int32) = (-1 : Int32))).2 kk) ?_
      refine OwnGo.back (T3.setTop (mkF m 36 #[.val (.int p1), .val (.int p2), .val (.int (p1 &&& (2147483647 : Int32))), .val (.int (-1 : Int32)), .val (.int (-1 : Int32))] [(.int (-1 : Int32))])) (fun tg kk => XS.iload X3.here hx rfl (hb hby at_34) rfl kk) ?_
      refine OwnGo.back (T3.setTop (mkF m 39 #[.val (.int p1), .val (.int p2), .val (.int (p1 &&& (2147483647 : Int32))), .val (.int (-1 : Int32)), .val (.int (-1 : Int32))] [])) (fun tg kk => XS.ifNo X3.here hx rfl (hb hby at_36) rfl ((if0 _ _).trans (flt (by decide : ¬ ((0 : Int32) < (-1 : Int32)))).2.2.1) kk) ?_
      refine OwnGo.back (T3.setTop (mkF m 41 #[.val (.int p1), .val (.int p2), .val (.int (p1 &&& (2147483647 : Int32))), .val (.int (-1 : Int32)), .val (.int (-1 : Int32))] [(.int (-1 : Int32))])) (fun tg kk => XS.iload X3.here hx rfl (hb hby at_39) rfl kk) ?_
      refine OwnGo.back (T3.setTop (mkF m 42 #[.val (.int p1), .val (.int p2), .val (.int (p1 &&& (2147483647 : Int32))), .val (.int (-1 : Int32)), .val (.int (-1 : Int32))] [(.int (-1 : Int32)), (.int (-1 : Int32))])) (fun tg kk => XS.iconst X3.here hx rfl (hb hby at_41) kk) ?_
      refine OwnGo.back (T3.setTop (mkF m 45 #[.val (.int p1), .val (.int p2), .val (.int (p1 &&& (2147483647 : Int32))), .val (.int (-1 : Int32)), .val (.int (-1 : Int32))] [])) (fun tg kk => XS.icmpNo X3.here hx rfl (hb hby at_42) rfl (teq (by decide : (-1 : Int32) = (-1 : Int32))).2 kk) ?_
      refine OwnGo.back (T3.setTop (mkF m 46 #[.val (.int p1), .val (.int p2), .val (.int (p1 &&& (2147483647 : Int32))), .val (.int (-1 : Int32)), .val (.int (-1 : Int32))] [(.int (1 : Int32))])) (fun tg kk => XS.iconst X3.here hx rfl (hb hby at_45) kk) ?_
      refine OwnGo.back (T3.setTop (mkF m 50 #[.val (.int p1), .val (.int p2), .val (.int (p1 &&& (2147483647 : Int32))), .val (.int (-1 : Int32)), .val (.int (-1 : Int32))] [(.int (1 : Int32))])) (fun tg kk => XS.goto X3.here hx rfl (pc0 := 46) (pc' := 50) rfl (hb hby at_46) (by decide) (by decide) kk) ?_
      obtain ⟨fs, hr, hrun, hended, hW, hsame⟩ := X3.leave (v := some (.int (1 : Int32))) (fun h => by rw [Bd.returns] at h; cases h)
      refine ⟨_, _, ?_, hrun, hended, _, _, rfl, ?_, ⟨_, rfl⟩, hW, hsame.mono (by decide) (by decide)⟩
      · exact retN X3 hx (t := .boolean) Bd.returns (by simp) (hb hby at_50) hr
      · show own_law_Q Z p1 p2 h0 n0 _ T3.heap _
        rw [e3]
        exact ⟨rfl, N3, rfl⟩
    ·
      refine OwnGo.back (s₁.setTop (mkF m 20 #[.val (.int p1), .val (.int p2), .val (.int (p1 &&& (2147483647 : Int32))), .unset, .unset] [])) (fun tg kk => XS.ifYes X0.here hx rfl (pc0 := 12) (pc' := 20) rfl (hb hby at_12) rfl ((if0 _ _).trans (feq hc2).2) (by decide) (by decide) kk) ?_
      refine OwnGo.back (s₁.setTop (mkF m 21 #[.val (.int p1), .val (.int p2), .val (.int (p1 &&& (2147483647 : Int32))), .unset, .unset] [(.int (p1 &&& (2147483647 : Int32)))])) (fun tg kk => XS.iloadN X0.here hx rfl (hb hby at_20) rfl kk) ?_
      refine OwnGo.back (s₁.setTop (mkF m 22 #[.val (.int p1), .val (.int p2), .val (.int (p1 &&& (2147483647 : Int32))), .val (.int (p1 &&& (2147483647 : Int32))), .unset] [])) (fun tg kk => XS.istoreN X0.here hx rfl (hb hby at_21) rfl (l' := #[.val (.int p1), .val (.int p2), .val (.int (p1 &&& (2147483647 : Int32))), .val (.int (p1 &&& (2147483647 : Int32))), .unset]) rfl kk) ?_
      refine OwnGo.back (s₁.setTop (mkF m 23 #[.val (.int p1), .val (.int p2), .val (.int (p1 &&& (2147483647 : Int32))), .val (.int (p1 &&& (2147483647 : Int32))), .unset] [(.int (p1 &&& (2147483647 : Int32)))])) (fun tg kk => XS.iloadN X0.here hx rfl (hb hby at_22) rfl kk) ?_
      obtain ⟨_, _, ⟨T4, L4, k4, n4⟩, -, X4, ⟨Lc4, hQ4, l4, y4, z4⟩, st4⟩ := Jvm.LawKit.callS X0 hx (y := (⟨"com/example/penelope/penelope/TransactionDefinition", "checkedTimeout", "(I)I"⟩ : MethodName)) hown (mvT hZ (hw _ (List.mem_of_getElem? (i := 1) rfl))) (mvT hZ (hw _ (List.mem_of_getElem? (i := 2) rfl))) (mvT hZ (hw _ (List.mem_of_getElem? (i := 3) rfl))) (mvT hZ (hw _ (List.mem_of_getElem? (i := 4) rfl))) (by decide) (backOf (W := 0) (own_ct l Z a0 hw [] (p1 &&& (2147483647 : Int32)) h0 n0 Z0 (Or.inl (own_pos (own_mask p1) hc2))) hZ (hw _ (List.mem_of_getElem? (i := 4) rfl)) (hw _ (List.mem_of_getElem? (i := 3) rfl)) (by decide) (by decide)) (g := (mkF m 23 #[.val (.int p1), .val (.int p2), .val (.int (p1 &&& (2147483647 : Int32))), .val (.int (p1 &&& (2147483647 : Int32))), .unset] [(.int (p1 &&& (2147483647 : Int32)))])) rfl (by rw [hml]; rfl) (argsL := [(.int (p1 &&& (2147483647 : Int32)))]) (rest := []) (lenOf own_pd0 rfl) rfl (by show 2 * 0 + _ ≤ _; exact Nat.le_of_eq rfl) (hb hby at_23) (fun _ _ => ⟨rfl, e0, (by decide : 0 + 0 ≤ _), (by decide : 0 + 0 ≤ _)⟩)
      dsimp only [Pt.U, Pt.locs, Pt.cells, Pt.slots] at X4 l4 y4 z4 st4 hQ4
      subst l4 y4 z4
      obtain ⟨rfl, N4q, e4⟩ := hQ4
      have N4 := Fr.app N0 N4q
      refine OwnGo.back (T4.setTop (mkF m 26 #[.val (.int p1), .val (.int p2), .val (.int (p1 &&& (2147483647 : Int32))), .val (.int (p1 &&& (2147483647 : Int32))), .unset] [(.int (p1 &&& (2147483647 : Int32)))])) (fun tg kk => st4 _ kk) ?_
      refine OwnGo.back (T4.setTop (mkF m 28 #[.val (.int p1), .val (.int p2), .val (.int (p1 &&& (2147483647 : Int32))), .val (.int (p1 &&& (2147483647 : Int32))), .val (.int (p1 &&& (2147483647 : Int32)))] [])) (fun tg kk => XS.istore X4.here hx rfl (hb hby at_26) rfl (l' := #[.val (.int p1), .val (.int p2), .val (.int (p1 &&& (2147483647 : Int32))), .val (.int (p1 &&& (2147483647 : Int32))), .val (.int (p1 &&& (2147483647 : Int32)))]) rfl kk) ?_
      refine OwnGo.back (T4.setTop (mkF m 30 #[.val (.int p1), .val (.int p2), .val (.int (p1 &&& (2147483647 : Int32))), .val (.int (p1 &&& (2147483647 : Int32))), .val (.int (p1 &&& (2147483647 : Int32)))] [(.int (p1 &&& (2147483647 : Int32)))])) (fun tg kk => XS.iload X4.here hx rfl (hb hby at_28) rfl kk) ?_
      refine OwnGo.back (T4.setTop (mkF m 31 #[.val (.int p1), .val (.int p2), .val (.int (p1 &&& (2147483647 : Int32))), .val (.int (p1 &&& (2147483647 : Int32))), .val (.int (p1 &&& (2147483647 : Int32)))] [(.int (p1 &&& (2147483647 : Int32))), (.int (p1 &&& (2147483647 : Int32)))])) (fun tg kk => XS.iloadN X4.here hx rfl (hb hby at_30) rfl kk) ?_
      refine OwnGo.back (T4.setTop (mkF m 34 #[.val (.int p1), .val (.int p2), .val (.int (p1 &&& (2147483647 : Int32))), .val (.int (p1 &&& (2147483647 : Int32))), .val (.int (p1 &&& (2147483647 : Int32)))] [])) (fun tg kk => XS.icmpNo X4.here hx rfl (hb hby at_31) rfl (teq (rfl : (p1 &&& (2147483647 : Int32)) = (p1 &&& (2147483647 : Int32)))).2 kk) ?_
      refine OwnGo.back (T4.setTop (mkF m 36 #[.val (.int p1), .val (.int p2), .val (.int (p1 &&& (2147483647 : Int32))), .val (.int (p1 &&& (2147483647 : Int32))), .val (.int (p1 &&& (2147483647 : Int32)))] [(.int (p1 &&& (2147483647 : Int32)))])) (fun tg kk => XS.iload X4.here hx rfl (hb hby at_34) rfl kk) ?_
      refine OwnGo.back (T4.setTop (mkF m 45 #[.val (.int p1), .val (.int p2), .val (.int (p1 &&& (2147483647 : Int32))), .val (.int (p1 &&& (2147483647 : Int32))), .val (.int (p1 &&& (2147483647 : Int32)))] [])) (fun tg kk => XS.ifYes X4.here hx rfl (pc0 := 36) (pc' := 45) rfl (hb hby at_36) rfl ((if0 _ _).trans (tlt (own_pos (own_mask p1) hc2 : (0 : Int32) < (p1 &&& (2147483647 : Int32)))).2.2.1) (by decide) (by decide) kk) ?_
      refine OwnGo.back (T4.setTop (mkF m 46 #[.val (.int p1), .val (.int p2), .val (.int (p1 &&& (2147483647 : Int32))), .val (.int (p1 &&& (2147483647 : Int32))), .val (.int (p1 &&& (2147483647 : Int32)))] [(.int (1 : Int32))])) (fun tg kk => XS.iconst X4.here hx rfl (hb hby at_45) kk) ?_
      refine OwnGo.back (T4.setTop (mkF m 50 #[.val (.int p1), .val (.int p2), .val (.int (p1 &&& (2147483647 : Int32))), .val (.int (p1 &&& (2147483647 : Int32))), .val (.int (p1 &&& (2147483647 : Int32)))] [(.int (1 : Int32))])) (fun tg kk => XS.goto X4.here hx rfl (pc0 := 46) (pc' := 50) rfl (hb hby at_46) (by decide) (by decide) kk) ?_
      obtain ⟨fs, hr, hrun, hended, hW, hsame⟩ := X4.leave (v := some (.int (1 : Int32))) (fun h => by rw [Bd.returns] at h; cases h)
      refine ⟨_, _, ?_, hrun, hended, _, _, rfl, ?_, ⟨_, rfl⟩, hW, hsame.mono (by decide) (by decide)⟩
      · exact retN X4 hx (t := .boolean) Bd.returns (by simp) (hb hby at_50) hr
      · show own_law_Q Z p1 p2 h0 n0 _ T4.heap _
        rw [e4]
        exact ⟨rfl, N4, rfl⟩
  ·
    refine OwnGo.back (s₁.setTop (mkF m 15 #[.val (.int p1), .val (.int p2), .val (.int (p1 &&& (2147483647 : Int32))), .unset, .unset] [])) (fun tg kk => XS.ifYes X0.here hx rfl (pc0 := 8) (pc' := 15) rfl (hb hby at_8) rfl ((if0 _ _).trans (feq hc1).2) (by decide) (by decide) kk) ?_
    refine OwnGo.back (s₁.setTop (mkF m 16 #[.val (.int p1), .val (.int p2), .val (.int (p1 &&& (2147483647 : Int32))), .unset, .unset] [(.int (-1 : Int32))])) (fun tg kk => XS.iconst X0.here hx rfl (hb hby at_15) kk) ?_
    refine OwnGo.back (s₁.setTop (mkF m 17 #[.val (.int p1), .val (.int p2), .val (.int (p1 &&& (2147483647 : Int32))), .val (.int (-1 : Int32)), .unset] [])) (fun tg kk => XS.istoreN X0.here hx rfl (hb hby at_16) rfl (l' := #[.val (.int p1), .val (.int p2), .val (.int (p1 &&& (2147483647 : Int32))), .val (.int (-1 : Int32)), .unset]) rfl kk) ?_
    refine OwnGo.back (s₁.setTop (mkF m 22 #[.val (.int p1), .val (.int p2), .val (.int (p1 &&& (2147483647 : Int32))), .val (.int (-1 : Int32)), .unset] [])) (fun tg kk => XS.goto X0.here hx rfl (pc0 := 17) (pc' := 22) rfl (hb hby at_17) (by decide) (by decide) kk) ?_
    refine OwnGo.back (s₁.setTop (mkF m 23 #[.val (.int p1), .val (.int p2), .val (.int (p1 &&& (2147483647 : Int32))), .val (.int (-1 : Int32)), .unset] [(.int (-1 : Int32))])) (fun tg kk => XS.iloadN X0.here hx rfl (hb hby at_22) rfl kk) ?_
    obtain ⟨_, _, ⟨T5, L5, k5, n5⟩, -, X5, ⟨Lc5, hQ5, l5, y5, z5⟩, st5⟩ := Jvm.LawKit.callS X0 hx (y := (⟨"com/example/penelope/penelope/TransactionDefinition", "checkedTimeout", "(I)I"⟩ : MethodName)) hown (mvT hZ (hw _ (List.mem_of_getElem? (i := 1) rfl))) (mvT hZ (hw _ (List.mem_of_getElem? (i := 2) rfl))) (mvT hZ (hw _ (List.mem_of_getElem? (i := 3) rfl))) (mvT hZ (hw _ (List.mem_of_getElem? (i := 4) rfl))) (by decide) (backOf (W := 0) (own_ct l Z a0 hw [] (-1 : Int32) h0 n0 Z0 (Or.inr rfl)) hZ (hw _ (List.mem_of_getElem? (i := 4) rfl)) (hw _ (List.mem_of_getElem? (i := 3) rfl)) (by decide) (by decide)) (g := (mkF m 23 #[.val (.int p1), .val (.int p2), .val (.int (p1 &&& (2147483647 : Int32))), .val (.int (-1 : Int32)), .unset] [(.int (-1 : Int32))])) rfl (by rw [hml]; rfl) (argsL := [(.int (-1 : Int32))]) (rest := []) (lenOf own_pd0 rfl) rfl (by show 2 * 0 + _ ≤ _; exact Nat.le_of_eq rfl) (hb hby at_23) (fun _ _ => ⟨rfl, e0, (by decide : 0 + 0 ≤ _), (by decide : 0 + 0 ≤ _)⟩)
    dsimp only [Pt.U, Pt.locs, Pt.cells, Pt.slots] at X5 l5 y5 z5 st5 hQ5
    subst l5 y5 z5
    obtain ⟨rfl, N5q, e5⟩ := hQ5
    have N5 := Fr.app N0 N5q
    refine OwnGo.back (T5.setTop (mkF m 26 #[.val (.int p1), .val (.int p2), .val (.int (p1 &&& (2147483647 : Int32))), .val (.int (-1 : Int32)), .unset] [(.int (-1 : Int32))])) (fun tg kk => st5 _ kk) ?_
    refine OwnGo.back (T5.setTop (mkF m 28 #[.val (.int p1), .val (.int p2), .val (.int (p1 &&& (2147483647 : Int32))), .val (.int (-1 : Int32)), .val (.int (-1 : Int32))] [])) (fun tg kk => XS.istore X5.here hx rfl (hb hby at_26) rfl (l' := #[.val (.int p1), .val (.int p2), .val (.int (p1 &&& (2147483647 : Int32))), .val (.int (-1 : Int32)), .val (.int (-1 : Int32))]) rfl kk) ?_
    refine OwnGo.back (T5.setTop (mkF m 30 #[.val (.int p1), .val (.int p2), .val (.int (p1 &&& (2147483647 : Int32))), .val (.int (-1 : Int32)), .val (.int (-1 : Int32))] [(.int (-1 : Int32))])) (fun tg kk => XS.iload X5.here hx rfl (hb hby at_28) rfl kk) ?_
    refine OwnGo.back (T5.setTop (mkF m 31 #[.val (.int p1), .val (.int p2), .val (.int (p1 &&& (2147483647 : Int32))), .val (.int (-1 : Int32)), .val (.int (-1 : Int32))] [(.int (-1 : Int32)), (.int (-1 : Int32))])) (fun tg kk => XS.iloadN X5.here hx rfl (hb hby at_30) rfl kk) ?_
    refine OwnGo.back (T5.setTop (mkF m 34 #[.val (.int p1), .val (.int p2), .val (.int (p1 &&& (2147483647 : Int32))), .val (.int (-1 : Int32)), .val (.int (-1 : Int32))] [])) (fun tg kk => XS.icmpNo X5.here hx rfl (hb hby at_31) rfl (teq (by decide : (-1 : Int32) = (-1 : Int32))).2 kk) ?_
    refine OwnGo.back (T5.setTop (mkF m 36 #[.val (.int p1), .val (.int p2), .val (.int (p1 &&& (2147483647 : Int32))), .val (.int (-1 : Int32)), .val (.int (-1 : Int32))] [(.int (-1 : Int32))])) (fun tg kk => XS.iload X5.here hx rfl (hb hby at_34) rfl kk) ?_
    refine OwnGo.back (T5.setTop (mkF m 39 #[.val (.int p1), .val (.int p2), .val (.int (p1 &&& (2147483647 : Int32))), .val (.int (-1 : Int32)), .val (.int (-1 : Int32))] [])) (fun tg kk => XS.ifNo X5.here hx rfl (hb hby at_36) rfl ((if0 _ _).trans (flt (by decide : ¬ ((0 : Int32) < (-1 : Int32)))).2.2.1) kk) ?_
    refine OwnGo.back (T5.setTop (mkF m 41 #[.val (.int p1), .val (.int p2), .val (.int (p1 &&& (2147483647 : Int32))), .val (.int (-1 : Int32)), .val (.int (-1 : Int32))] [(.int (-1 : Int32))])) (fun tg kk => XS.iload X5.here hx rfl (hb hby at_39) rfl kk) ?_
    refine OwnGo.back (T5.setTop (mkF m 42 #[.val (.int p1), .val (.int p2), .val (.int (p1 &&& (2147483647 : Int32))), .val (.int (-1 : Int32)), .val (.int (-1 : Int32))] [(.int (-1 : Int32)), (.int (-1 : Int32))])) (fun tg kk => XS.iconst X5.here hx rfl (hb hby at_41) kk) ?_
    refine OwnGo.back (T5.setTop (mkF m 45 #[.val (.int p1), .val (.int p2), .val (.int (p1 &&& (2147483647 : Int32))), .val (.int (-1 : Int32)), .val (.int (-1 : Int32))] [])) (fun tg kk => XS.icmpNo X5.here hx rfl (hb hby at_42) rfl (teq (by decide : (-1 : Int32) = (-1 : Int32))).2 kk) ?_
    refine OwnGo.back (T5.setTop (mkF m 46 #[.val (.int p1), .val (.int p2), .val (.int (p1 &&& (2147483647 : Int32))), .val (.int (-1 : Int32)), .val (.int (-1 : Int32))] [(.int (1 : Int32))])) (fun tg kk => XS.iconst X5.here hx rfl (hb hby at_45) kk) ?_
    refine OwnGo.back (T5.setTop (mkF m 50 #[.val (.int p1), .val (.int p2), .val (.int (p1 &&& (2147483647 : Int32))), .val (.int (-1 : Int32)), .val (.int (-1 : Int32))] [(.int (1 : Int32))])) (fun tg kk => XS.goto X5.here hx rfl (pc0 := 46) (pc' := 50) rfl (hb hby at_46) (by decide) (by decide) kk) ?_
    obtain ⟨fs, hr, hrun, hended, hW, hsame⟩ := X5.leave (v := some (.int (1 : Int32))) (fun h => by rw [Bd.returns] at h; cases h)
    refine ⟨_, _, ?_, hrun, hended, _, _, rfl, ?_, ⟨_, rfl⟩, hW, hsame.mono (by decide) (by decide)⟩
    · exact retN X5 hx (t := .boolean) Bd.returns (by simp) (hb hby at_50) hr
    · show own_law_Q Z p1 p2 h0 n0 _ T5.heap _
      rw [e5]
      exact ⟨rfl, N5, rfl⟩
set_option maxRecDepth 65536 in
set_option maxHeartbeats 40000000 in
theorem comes_1 {Post : Tables → Env → Array Value → State → Outcome → State → Prop} (hpost : ∀ tb e args s v u, (limb_1_1.after args s (.returned v) u = true ∧ limb_1_2.after args s (.returned v) u = true ∧ True) → FrameEnd s (.returned v) u (Jvm.fieldLocs frame_1_writes args s ++ Jvm.arrayLocs frame_1_arrays args s ++ Jvm.staticLocs frame_1_statics s) 0 0 → Post tb e args s (.returned v) u) :
    ArmFor flags0 classFile x code maxLocals ret World_1 tables_1 room_1 Calls_1 rest_1 Pre_1 Post := by
  intro l hfl _ _ p e ha hc hk s m args below hf hA hF happ hP
  obtain ⟨hcalls, hrest, hpre⟩ := hP
  obtain ⟨-, -, -, hnamed, -, -, -, hat⟩ := (Spec.applies_iff hf).mp happ
  obtain ⟨hg, hn⟩ := and_e (Cond.before_iff.mp (show (Jvm.Cond.and given_1 narrow_1).before args s = true from hpre))
  obtain ⟨hg0, hg⟩ := and_e hg
  obtain ⟨hg1, hg⟩ := and_e hg
  obtain ⟨w0, w1, rfl⟩ : ∃ w0 w1 : Value, args = #[w0, w1] := by
    have hs : args.size = 2 := by simpa [Cond.value, given_1] using hg0
    obtain ⟨L⟩ := args
    match L, hs with
    | [w0, w1], _ => exact ⟨w0, w1, rfl⟩
  have hw := fun d (hd : d ∈ tables_1) => atoms_spec (ws := Jvm.Cond.code x code maxLocals ret :: tables_1) hat d (List.mem_cons_of_mem _ hd)
  have hfit : Fit s := fun {y c} hc i hi => by
    obtain ⟨ha, rfl⟩ := Array.getElem?_eq_some_iff.mp hc
    have q := List.all_eq_true.mp ((Array.all_eq_true_iff_forall_mem.mp hF) _ (Array.getElem_mem ha)) i (List.mem_range.mpr hi)
    simpa [Array.getElem?_eq_getElem hi] using q
  obtain ⟨i0, ei0⟩ := is_v hg1
  obtain rfl : w0 = (.int i0) := Option.some.inj ei0
  obtain ⟨i1, ei1⟩ := is_v hg
  obtain rfl : w1 = (.int i1) := Option.some.inj ei1
  obtain ⟨n, o, h1, h2, h3, _, L, rfl, ⟨rfl, N, -⟩, hq⟩ := own_law l s _ hw tables_1 i0 i1 s.heap s.heap.size (Nat.le_refl _)  p e ha hc hk s m _ below hf ((Spec.applies_iff_loose hf).mp happ).1 ⟨rfl, State.Warmed39.refl s, rfl⟩ trivial
  refine ⟨n, _, h1, h2, h3, hpost _ _ _ _ _ _ ⟨Cond.after_iff.mpr rfl, Cond.after_iff.mpr (eq_i res_at (Term.int_eval (1)) rfl), trivial⟩ ⟨hq.1, hq.2.1, (hq.2.2.sift fun y hy => Or.inr (N y hy)).mono (by decide) (by decide)⟩⟩
theorem main_1_1 : Claimed_1_1 := comes_1 fun _ _ _ _ _ _ h hF => ⟨h.1, hF⟩
theorem main_1_2 : Claimed_1_2 := comes_1 fun _ _ _ _ _ _ h hF => ⟨h.2.1, hF⟩
end Jvm.Pilot.@@N@@
namespace Jvm.Pilot.@@N@@
open Jvm Jvm.ClassFile Sem Op Lib Jvm.Free Jvm.Stand Jvm.Pilot.@@N@@.Jvm.D
/-! MADE BY PROGRAM (witnessworld.py) out of the Statement's table words and the real class files: 9 classes; the members and pool entries that the words name. The judged class is class 1, her method 1. -/
namespace start1
open Jvm.ClassFile
def u (s : String) : CpInfo := .utf8 (stringToUtf16 s)
/-- a pool by its gaps: so many unusable entries, then the entry; so many at the end -/
def gap : Nat → List CpInfo → List CpInfo
  | 0, r => r
  | n + 1, r => .unusable :: gap n r
def poolList (es : List (Nat × CpInfo)) (last : Nat) : List CpInfo := es.foldr (fun e r => gap e.1 (e.2 :: r)) (gap last [])
def pool (es : List (Nat × CpInfo)) (last : Nat) : Array CpInfo := ⟨poolList es last⟩
def fileOf (pool : Array CpInfo) (this : Nat) (attrs : Array Attribute := #[]) (ms : Array MethodInfo := #[]) (fl : Nat := 33) (sup : Nat := 0) (ifs : Array Nat := #[]) (fds : Array FieldInfo := #[]) : ClassFile where
  minorVersion := 0
  majorVersion := 65
  constantPool := pool
  accessFlags := fl
  thisClass := this
  superClass := sup
  interfaces := ifs
  fields := fds
  methods := ms
  attributes := attrs
def plain (name : String) (sup : Option ClassId) : Class where
  name := name
  kind := .ordinary
  loader := none
  accessFlags := 33
  super := sup
  interfaces := #[]
  cf := none
  fields := #[]
  methods := #[]
  instanceTypes := #[]
  staticTypes := #[]
  resolved := #[]
  callSites := []
  init := .initialized
  statics := none
  mirror := none

def pool0 : Array CpInfo := pool [(5, u "<init>"), (0, u "()V"), (1, .class_ 10), (1, u "java/lang/Object")] 113

def k0m0 : Method := { name := "<init>", desc := "()V", sig := { parameters := [], returnType := none }, accessFlags := 1, code := none }
/-- java/lang/Object -/
def k0 : Class := { plain "java/lang/Object" none with
  accessFlags := 33
  interfaces := #[]
  cf := some (fileOf pool0 8 #[] #[{ accessFlags := 1, nameIndex := 5, descriptorIndex := 6, attributes := #[] }] 33 0 #[] #[])
  fields := #[]
  methods := #[k0m0]
  instanceTypes := #[]
  staticTypes := #[]
  resolved := Array.replicate 124 none
  statics := none }

def pool1 : Array CpInfo := pool [(2, .class_ 4), (1, u "java/lang/Object"), (0, u "<init>"), (0, u "()V"), (0, .integer 2147483647), (0, .class_ 9), (0, u "com/example/penelope/penelope/TransactionDefinition"), (0, .methodref 8 11), (0, .nameAndType 12 13), (0, u "checkedTimeout"), (0, u "(I)I"), (0, .class_ 15), (0, u "com/example/penelope/penelope/TransactionDefinitionCheckedTimeoutPinLaw"), (2, u "law"), (0, u "(II)Z")] 3

def k1m0 : Method := { name := "<init>", desc := "()V", sig := { parameters := [], returnType := none }, accessFlags := 1, code := none }
def k1c1 : Code := { maxStack := 2, maxLocals := 5, code := code, exceptionTable := #[], attributes := #[] }
def k1m1 : Method := { name := "law", desc := "(II)Z", sig := { parameters := [.int, .int], returnType := some .boolean }, accessFlags := 9, code := some k1c1 }
/-- com/example/penelope/penelope/TransactionDefinitionCheckedTimeoutPinLaw -/
def k1 : Class := { plain "com/example/penelope/penelope/TransactionDefinitionCheckedTimeoutPinLaw" (some 0) with
  accessFlags := 49
  interfaces := #[]
  cf := some (fileOf pool1 14 #[] #[{ accessFlags := 1, nameIndex := 5, descriptorIndex := 6, attributes := #[] }, { accessFlags := 9, nameIndex := 18, descriptorIndex := 19, attributes := #[] }] 49 2 #[] #[])
  fields := #[]
  methods := #[k1m0, k1m1]
  instanceTypes := #[]
  staticTypes := #[]
  resolved := Array.replicate 23 none
  statics := none }

def pool2 : Array CpInfo := pool [(2, .class_ 4), (1, u "java/lang/Object"), (3, .class_ 10), (1, u "com/example/penelope/penelope/TransactionDefinition"), (0, u "propagation"), (0, u "Lcom/example/penelope/penelope/Propagation;"), (2, u "name"), (0, u "Ljava/lang/String;"), (2, u "isolation"), (0, u "Lcom/example/penelope/penelope/IsolationLevel;"), (2, u "readOnly"), (0, u "Z"), (2, u "timeout"), (0, u "I"), (20, u "checkedTimeout"), (0, u "(I)I"), (14, u "DEFAULT"), (2, u "Lcom/example/penelope/penelope/TransactionDefinition;"), (0, u "DEFAULT_TIMEOUT")] 39

def k2c0 : Code := { maxStack := 3, maxLocals := 1, code := prog_27_method_12_code, exceptionTable := #[], attributes := #[] }
def k2m0 : Method := { name := "checkedTimeout", desc := "(I)I", sig := { parameters := [.int], returnType := some .int }, accessFlags := 8, code := some k2c0 }
/-- com/example/penelope/penelope/TransactionDefinition -/
def k2 : Class := { plain "com/example/penelope/penelope/TransactionDefinition" (some 0) with
  accessFlags := 49
  interfaces := #[]
  cf := some (fileOf pool2 8 #[] #[{ accessFlags := 8, nameIndex := 49, descriptorIndex := 50, attributes := #[] }] 49 2 #[] #[{ accessFlags := 25, nameIndex := 69, descriptorIndex := 28, attributes := #[] }, { accessFlags := 25, nameIndex := 65, descriptorIndex := 68, attributes := #[] }, { accessFlags := 18, nameIndex := 11, descriptorIndex := 12, attributes := #[] }, { accessFlags := 18, nameIndex := 15, descriptorIndex := 16, attributes := #[] }, { accessFlags := 18, nameIndex := 19, descriptorIndex := 20, attributes := #[] }, { accessFlags := 18, nameIndex := 23, descriptorIndex := 24, attributes := #[] }, { accessFlags := 18, nameIndex := 27, descriptorIndex := 28, attributes := #[] }])
  fields := #[{ name := "DEFAULT_TIMEOUT", type := .int, accessFlags := 25, slot := 0, constantValue := 0 }, { name := "DEFAULT", type := (.object "com/example/penelope/penelope/TransactionDefinition"), accessFlags := 25, slot := 1, constantValue := 0 }, { name := "propagation", type := (.object "com/example/penelope/penelope/Propagation"), accessFlags := 18, slot := 0, constantValue := 0 }, { name := "name", type := (.object "java/lang/String"), accessFlags := 18, slot := 1, constantValue := 0 }, { name := "isolation", type := (.object "com/example/penelope/penelope/IsolationLevel"), accessFlags := 18, slot := 2, constantValue := 0 }, { name := "readOnly", type := .boolean, accessFlags := 18, slot := 3, constantValue := 0 }, { name := "timeout", type := .int, accessFlags := 18, slot := 4, constantValue := 0 }]
  methods := #[k2m0]
  instanceTypes := #[(.object "com/example/penelope/penelope/Propagation"), (.object "java/lang/String"), (.object "com/example/penelope/penelope/IsolationLevel"), .boolean, .int]
  staticTypes := #[.int, (.object "com/example/penelope/penelope/TransactionDefinition")]
  resolved := Array.replicate 109 none
  statics := none }

def pool3 : Array CpInfo := pool [(1, u "java/lang/Cloneable"), (0, .class_ 1), (0, u "java/lang/Object"), (0, .class_ 3)] 3

/-- java/lang/Cloneable -/
def k3 : Class := { plain "java/lang/Cloneable" (some 0) with
  accessFlags := 1537
  interfaces := #[]
  cf := some (fileOf pool3 2 #[] #[] 1537 4 #[] #[])
  fields := #[]
  methods := #[]
  instanceTypes := #[]
  staticTypes := #[]
  resolved := Array.replicate 8 none
  statics := none }

def pool4 : Array CpInfo := pool [(1, u "java/io/Serializable"), (0, .class_ 1), (0, u "java/lang/Object"), (0, .class_ 3)] 3

/-- java/io/Serializable -/
def k4 : Class := { plain "java/io/Serializable" (some 0) with
  accessFlags := 1537
  interfaces := #[]
  cf := some (fileOf pool4 2 #[] #[] 1537 4 #[] #[])
  fields := #[]
  methods := #[]
  instanceTypes := #[]
  staticTypes := #[]
  resolved := Array.replicate 8 none
  statics := none }

/-- the primitive byte -/
def k5 : Class := { plain "byte" none with kind := .primitive 'B', accessFlags := 0x411 }
/-- [B -/
def k6 : Class := { plain "[B" (some 0) with kind := .array 5 .byte, interfaces := #[3, 4], accessFlags := 1041 }

/-- the primitive int -/
def k7 : Class := { plain "int" none with kind := .primitive 'I', accessFlags := 0x411 }
/-- [I -/
def k8 : Class := { plain "[I" (some 0) with kind := .array 7 .int, interfaces := #[3, 4], accessFlags := 1041 }

def heap : Heap := #[]
def classes : Array Class := #[k0, k1, k2, k3, k4, k5, k6, k7, k8]
def interned : List (Array UInt16 × Addr) := []
def slotsUsed : Nat := 0
def theMethod : MethodId := ⟨1, 1⟩
def args0 : Array Value := #[.int 5, .int 2]
def aboutOver (below : List Frame) : State where
  vm := { classes := classes, interned := interned.toArray }
  heap := heap
  slotsUsed := slotsUsed
  threads := #[{ frames := .invoking theMethod args0 :: below }]
def below0 : List Frame := [.native { method := ⟨0, 0⟩, args := #[] }]
def about1 : State := aboutOver below0
def p0 : Program := .bare "" "" ""
def e0 : Env := launch0.env 0 0 0
theorem w_frames : about1.frames = Frame.invoking theMethod args0 :: below0 := rfl
set_option maxRecDepth 65536 in
theorem w_args : argsFit about1.vm theMethod args0 = true := by decide +kernel
set_option maxRecDepth 65536 in
theorem w_heap : heapFits about1 = true := by decide +kernel
set_option maxRecDepth 65536 in
theorem w_runnable : about1.curStatus? = some .runnable := by decide +kernel
set_option maxRecDepth 65536 in
theorem w_alone : about1.alone = true := by decide +kernel
set_option maxRecDepth 65536 in
theorem w_named : about1.methodNamed? x = some theMethod := by decide +kernel
set_option maxRecDepth 65536 in
theorem w_hears : about1.hears theMethod below0 = true := by decide +kernel
set_option maxRecDepth 65536 in
theorem w_ripe : about1.ripe theMethod args0 below0 = true := by decide +kernel
theorem w_running : about1.status = .running := rfl
set_option maxRecDepth 65536 in
theorem w_room : about1.hasRoom e0.platform room_1 = true :=
  launch0.hasRoom_least _ room_1 (by decide +kernel) (by decide +kernel) (by decide +kernel) (by decide +kernel) (by decide +kernel) (by decide +kernel)
theorem allAtoms_all (ts : List Jvm.Cond) (a : Array Jvm.Value) (st : Jvm.State) : (allAtoms ts).before a st = ts.all (fun c => c.before a st) := by
  induction ts with
  | nil => rfl
  | cons c t ih =>
    show (Jvm.Cond.and c (allAtoms t)).before a st = _
    rw [Jvm.Cond.before_and, ih, List.all_cons]
def words1 : List Jvm.Cond := Jvm.Cond.code x code maxLocals ret :: tables_1
/-- a 'code' word, met by the world's own term for the bytes: nothing is compared byte by byte -/
theorem code_word {y : MethodName} {bytes : ByteArray} {mx : Nat} {rt : Option FieldType} {a : Array Value} {s : State} {m : MethodId} {meth : Method} {c : Code} (h1 : s.methodNamed? y = some m) (h2 : s.vm.method? m = some meth) (h3 : meth.code = some c) (h4 : c.code = bytes)
    (h5 : (c.maxLocals == mx && c.exceptionTable.isEmpty && decide (c.maxStack ≤ mostOperands) && decide (meth.sig.returnType = rt) && !meth.locks && decide (parseMethodDescriptor y.desc = some meth.sig)) = true) : (Jvm.Cond.code y bytes mx rt).before a s = true := by
  simp only [Bool.and_eq_true, beq_iff_eq, Bool.not_eq_true', decide_eq_true_eq] at h5
  obtain ⟨⟨⟨⟨⟨g1, g2⟩, g3⟩, g4⟩, g5⟩, g6⟩ := h5
  simp [Cond.before, Cond.holds, Cond.value, h1, h2, h3, h4, g1, g2, g3, g4, g5, g6]
def isCode : Jvm.Cond → Bool
  | .code _ _ _ _ => true
  | _ => false
theorem all_split {L : List Jvm.Cond} {P : Jvm.Cond → Bool} (h1 : L.all (fun c => isCode c || P c) = true) (h2 : ∀ c ∈ L.filter isCode, P c = true) : L.all P = true := by
  refine List.all_eq_true.mpr fun c hc => ?_
  have h := List.all_eq_true.mp h1 c hc
  rcases Bool.eq_false_or_eq_true (isCode c) with hi | hi
  · exact h2 c (List.mem_filter.mpr ⟨hc, hi⟩)
  · simpa [hi] using h
set_option maxRecDepth 65536 in
theorem w_c0 : (Jvm.Cond.code x code maxLocals ret).before args0 about1 = true := code_word (m := ⟨1, 1⟩) (meth := k1m1) (c := k1c1) (by decide +kernel) rfl rfl rfl (by decide +kernel)
set_option maxRecDepth 65536 in
theorem w_c1 : (Jvm.Cond.code ({ cls := "com/example/penelope/penelope/TransactionDefinition", name := "checkedTimeout", desc := "(I)I" } : Jvm.MethodName) prog_27_method_12_code (1 : Nat) (Option.some Jvm.ClassFile.FieldType.int)).before args0 about1 = true := code_word (m := ⟨2, 0⟩) (meth := k2m0) (c := k2c0) (by decide +kernel) rfl rfl rfl (by decide +kernel)
def codes1 : List Jvm.Cond := [Jvm.Cond.code x code maxLocals ret, Jvm.Cond.code ({ cls := "com/example/penelope/penelope/TransactionDefinition", name := "checkedTimeout", desc := "(I)I" } : Jvm.MethodName) prog_27_method_12_code (1 : Nat) (Option.some Jvm.ClassFile.FieldType.int)]
set_option maxRecDepth 65536 in
theorem codes_eq : words1.filter isCode = codes1 := rfl
theorem w_codes : ∀ c ∈ words1.filter isCode, c.before args0 about1 = true := by
  rw [codes_eq]
  intro c hc
  simp only [codes1, List.mem_cons, List.not_mem_nil, or_false] at hc
  rcases hc with rfl | rfl
  · exact w_c0
  · exact w_c1
set_option maxRecDepth 65536 in
theorem w_t1 : words1.all (fun c => isCode c || c.before args0 about1) = true := by decide +kernel
theorem w_tables : (allAtoms (Jvm.Cond.code x code maxLocals ret :: tables_1)).before args0 about1 = true := by
  rw [allAtoms_all]
  show words1.all (fun c => c.before args0 about1) = true
  refine all_split ?_ w_codes
  rw [w_t1]
set_option maxRecDepth 65536 in
theorem w_case : (Jvm.Cond.and given_1 narrow_1).before args0 about1 = true := by decide +kernel
theorem w_applies : (headSpec (Jvm.Cond.code x code maxLocals ret :: tables_1) room_1).applies x e0.platform about1 = true :=
  (Spec.applies_iff w_frames).mpr ⟨w_running, w_runnable, w_alone, w_named, w_hears, w_ripe, w_room, w_tables⟩
theorem atStart : AtStart classFile x code maxLocals ret World_1 tables_1 room_1 Calls_1 rest_1 Pre_1 launch0 p0 e0 about1 theMethod args0 below0 :=
  ⟨lists_1, trivial, launch0.admits_env _ _ _, launch0.least_env, fairChoices_fair.cas, fairChoices_fair.clock, w_frames, w_args, w_heap, w_applies, trivial, trivial, w_case⟩
end start1
theorem witness_1 : WitnessClaimed_1 := ⟨start1.p0, start1.e0, start1.about1, start1.theMethod, start1.args0, start1.below0, start1.atStart⟩
end Jvm.Pilot.@@N@@
