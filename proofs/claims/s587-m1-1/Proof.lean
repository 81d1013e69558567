import JvmDerived
import JvmDerived.Pilot.@@N@@Statement
import JvmDerived.Pilot.@@N@@Code
set_option linter.unusedVariables false
set_option linter.unusedSimpArgs false
namespace Jvm.RoadKit
open Sem ClassFile Op Lib Jvm.Stand Jvm.Free Jvm.LawKit
section New
variable {p : Program} {l : Launch} {e : Env} {R : Room} {s : State} {m : MethodId} {args : Array Value} {below : List Frame} {meth : Method} {c : Code} {T : State} {locs : List Loc} {cells slots : Nat}
theorem own_retI (X : Stand p l e R s m args below meth c T locs cells slots) (hx : p.tables.exec = Jvm.exec) {pc : Nat} {Ls : Array Slot} {z : Int32} {rest : List Value} (hret : meth.sig.returnType = some .int) (hd : decode c.code pc = .ok (.ireturn, 1)) {fs : List Frame}
    (hl : ∀ (f : JFrame) (acts : List Action), f.method = m → f.locked = none → f.entered = [] → (doReturn e (T.setTop f) acts (some (.int z))).1 = T.setFrames fs) : Steps p.tables e below (T.setTop (mkF m pc Ls (.int z :: rest))) (T.setFrames fs) :=
  retOut X hx hret rfl (Or.inl ⟨rfl, Or.inl rfl, z, rfl⟩) hd hl
theorem own_retJ (X : Stand p l e R s m args below meth c T locs cells slots) (hx : p.tables.exec = Jvm.exec) {pc : Nat} {Ls : Array Slot} {z : Int64} {rest : List Value} (hret : meth.sig.returnType = some .long) (hd : decode c.code pc = .ok (.lreturn, 1)) {fs : List Frame}
    (hl : ∀ (f : JFrame) (acts : List Action), f.method = m → f.locked = none → f.entered = [] → (doReturn e (T.setTop f) acts (some (.long z))).1 = T.setFrames fs) : Steps p.tables e below (T.setTop (mkF m pc Ls (.long z :: rest))) (T.setFrames fs) :=
  retOut X hx hret rfl (Or.inr (Or.inl ⟨rfl, rfl, z, rfl⟩)) hd hl
theorem own_retA (X : Stand p l e R s m args below meth c T locs cells slots) (hx : p.tables.exec = Jvm.exec) {pc : Nat} {Ls : Array Slot} {w : Value} {t : FieldType} {rest : List Value} (hret : meth.sig.returnType = some t) (hn : narrow t w = w) (ht : t.isReference = true) (hw : w.isRef = true) (hd : decode c.code pc = .ok (.areturn, 1)) {fs : List Frame}
    (hl : ∀ (f : JFrame) (acts : List Action), f.method = m → f.locked = none → f.entered = [] → (doReturn e (T.setTop f) acts (some w)).1 = T.setFrames fs) : Steps p.tables e below (T.setTop (mkF m pc Ls (w :: rest))) (T.setFrames fs) :=
  retOut X hx hret hn (Or.inr (Or.inr (Or.inr (Or.inr ⟨rfl, ht, hw⟩)))) hd hl
end New
abbrev OwnGo (tb : Tables) (e : Env) (below : List Frame) (K : State → Outcome → Prop) (st : State) : Prop := ∃ s₂ o, Steps tb e below st s₂ ∧ s₂.status = .running ∧ Ended s₂ below o ∧ K s₂ o
theorem OwnGo.back {tb : Tables} {e : Env} {below : List Frame} {K : State → Outcome → Prop} {st : State} (st' : State) (h : ∀ t, Steps tb e below st' t → Steps tb e below st t) (g : OwnGo tb e below K st') : OwnGo tb e below K st := by
  obtain ⟨s₂, o, h1, h2⟩ := g
  exact ⟨s₂, o, h _ h1, h2⟩
abbrev OwnMg (tb : Tables) (e : Env) (below : List Frame) (D : State → Prop) (st : State) : Prop := ∃ st', D st' ∧ ∀ t, Steps tb e below st' t → Steps tb e below st t
theorem OwnMg.back {tb : Tables} {e : Env} {below : List Frame} {D : State → Prop} {st : State} (st' : State) (h : ∀ t, Steps tb e below st' t → Steps tb e below st t) (g : OwnMg tb e below D st') : OwnMg tb e below D st := by
  obtain ⟨s₂, h1, h2⟩ := g
  exact ⟨s₂, h1, fun t k => h t (h2 t k)⟩
theorem own_not {P Q : Prop} (h : P ↔ Q) (n : ¬ Q) : ¬ P := fun q => n (h.mp q)
theorem own_ne {a b n : Nat} (h : a < n) (q : b = n) : a ≠ b := Nat.ne_of_lt (q ▸ h)
theorem own_ne' {a b n : Nat} (h : a < n) (q : n ≤ b) : a ≠ b := Nat.ne_of_lt (Nat.lt_of_lt_of_le h q)
end Jvm.RoadKit
namespace Jvm.Pilot.@@N@@
open Jvm Jvm.ClassFile Sem Op Lib Jvm.Free Jvm.Stand Jvm.LawKit Jvm.RoadKit Bundle Jvm.Pilot.@@N@@.Jvm.D
theorem own_pn0 : plainName "java/lang/Number" = true := by first | (simp [plainName, overriddenIn]; done) | decide +kernel
theorem own_d7_0 : decode jdk_18_method_1_code 0 = .ok (.aload_n 0, 1) := by decide +kernel
theorem own_d7_1 : decode jdk_18_method_1_code 1 = .ok (.invokespecial 1, 3) := by decide +kernel
theorem own_d7_4 : decode jdk_18_method_1_code 4 = .ok (.return_, 1) := by decide +kernel
theorem own_pn1 : plainName "java/lang/Long" = true := by first | (simp [plainName, overriddenIn]; done) | decide +kernel
theorem own_d6_0 : decode jdk_35_method_26_code 0 = .ok (.aload_n 0, 1) := by decide +kernel
theorem own_d6_1 : decode jdk_35_method_26_code 1 = .ok (.invokespecial 270, 3) := by decide +kernel
theorem own_pd0 : parseMethodDescriptor "()V" = some ⟨[], none⟩ := by decide +kernel
theorem own_d6_4 : decode jdk_35_method_26_code 4 = .ok (.aload_n 0, 1) := by decide +kernel
theorem own_d6_5 : decode jdk_35_method_26_code 5 = .ok (.lload_n 1, 1) := by decide +kernel
theorem own_d6_6 : decode jdk_35_method_26_code 6 = .ok (.putfield 273, 3) := by decide +kernel
theorem own_d6_9 : decode jdk_35_method_26_code 9 = .ok (.return_, 1) := by decide +kernel
theorem own_d5_0 : decode jdk_35_method_24_code 0 = .ok (.sipush 128, 3) := by decide +kernel
theorem own_d5_3 : decode jdk_35_method_24_code 3 = .ok (.istore_n 2, 1) := by decide +kernel
theorem own_d5_4 : decode jdk_35_method_24_code 4 = .ok (.lload_n 0, 1) := by decide +kernel
theorem own_d5_5 : decode jdk_35_method_24_code 5 = .ok (.ldc2_w 230, 3) := by decide +kernel
theorem own_d5_8 : decode jdk_35_method_24_code 8 = .ok (.lcmp, 1) := by decide +kernel
theorem own_d5_9 : decode jdk_35_method_24_code 9 = .ok (.ifCond .lt 22, 3) := by decide +kernel
theorem own_d5_31 : decode jdk_35_method_24_code 31 = .ok (.new 1, 3) := by decide +kernel
theorem own_d5_34 : decode jdk_35_method_24_code 34 = .ok (.dup, 1) := by decide +kernel
theorem own_d5_35 : decode jdk_35_method_24_code 35 = .ok (.lload_n 0, 1) := by decide +kernel
theorem own_d5_36 : decode jdk_35_method_24_code 36 = .ok (.invokespecial 240, 3) := by decide +kernel
theorem own_pd1 : parseMethodDescriptor "(J)V" = some ⟨[.long], none⟩ := by decide +kernel
theorem own_d5_39 : decode jdk_35_method_24_code 39 = .ok (.areturn, 1) := by decide +kernel
theorem own_d5_12 : decode jdk_35_method_24_code 12 = .ok (.lload_n 0, 1) := by decide +kernel
theorem own_d5_13 : decode jdk_35_method_24_code 13 = .ok (.ldc2_w 232, 3) := by decide +kernel
theorem own_d5_16 : decode jdk_35_method_24_code 16 = .ok (.lcmp, 1) := by decide +kernel
theorem own_d5_17 : decode jdk_35_method_24_code 17 = .ok (.ifCond .gt 14, 3) := by decide +kernel
theorem own_d5_20 : decode jdk_35_method_24_code 20 = .ok (.getstatic 234, 3) := by decide +kernel
theorem own_d5_23 : decode jdk_35_method_24_code 23 = .ok (.lload_n 0, 1) := by decide +kernel
theorem own_d5_24 : decode jdk_35_method_24_code 24 = .ok (.l2i, 1) := by decide +kernel
theorem own_d5_25 : decode jdk_35_method_24_code 25 = .ok (.sipush 128, 3) := by decide +kernel
theorem own_d5_28 : decode jdk_35_method_24_code 28 = .ok (.iadd, 1) := by decide +kernel
theorem own_d5_29 : decode jdk_35_method_24_code 29 = .ok (.aaload, 1) := by decide +kernel
theorem own_d5_30 : decode jdk_35_method_24_code 30 = .ok (.areturn, 1) := by decide +kernel
theorem own_pn2 : plainName "java/lang/Record" = true := by first | (simp [plainName, overriddenIn]; done) | decide +kernel
theorem own_d2_0 : decode jdk_30_method_1_code 0 = .ok (.aload_n 0, 1) := by decide +kernel
theorem own_d2_1 : decode jdk_30_method_1_code 1 = .ok (.invokespecial 1, 3) := by decide +kernel
theorem own_d2_4 : decode jdk_30_method_1_code 4 = .ok (.return_, 1) := by decide +kernel
theorem own_pn3 : plainName "com/example/lienledger/lienledger/io/Checksum" = true := by first | (simp [plainName, overriddenIn]; done) | decide +kernel
theorem own_d1_0 : decode prog_17_method_1_code 0 = .ok (.aload_n 0, 1) := by decide +kernel
theorem own_d1_1 : decode prog_17_method_1_code 1 = .ok (.invokespecial 1, 3) := by decide +kernel
theorem own_d1_4 : decode prog_17_method_1_code 4 = .ok (.aload_n 0, 1) := by decide +kernel
theorem own_d1_5 : decode prog_17_method_1_code 5 = .ok (.lload_n 1, 1) := by decide +kernel
theorem own_d1_6 : decode prog_17_method_1_code 6 = .ok (.putfield 7, 3) := by decide +kernel
theorem own_d1_9 : decode prog_17_method_1_code 9 = .ok (.aload_n 0, 1) := by decide +kernel
theorem own_d1_10 : decode prog_17_method_1_code 10 = .ok (.lload_n 3, 1) := by decide +kernel
theorem own_d1_11 : decode prog_17_method_1_code 11 = .ok (.putfield 13, 3) := by decide +kernel
theorem own_d1_14 : decode prog_17_method_1_code 14 = .ok (.return_, 1) := by decide +kernel
theorem own_d4_0 : decode prog_17_method_3_code 0 = .ok (.aload_n 1, 1) := by decide +kernel
theorem own_d4_1 : decode prog_17_method_3_code 1 = .ok (.instanceof 8, 3) := by decide +kernel
theorem own_d4_4 : decode prog_17_method_3_code 4 = .ok (.ifCond .eq 36, 3) := by decide +kernel
theorem own_d4_40 : decode prog_17_method_3_code 40 = .ok (.iconst 0, 1) := by decide +kernel
theorem own_d4_41 : decode prog_17_method_3_code 41 = .ok (.ireturn, 1) := by decide +kernel
theorem own_d4_7 : decode prog_17_method_3_code 7 = .ok (.aload_n 1, 1) := by decide +kernel
theorem own_d4_8 : decode prog_17_method_3_code 8 = .ok (.checkcast 8, 3) := by decide +kernel
theorem own_d4_11 : decode prog_17_method_3_code 11 = .ok (.astore_n 2, 1) := by decide +kernel
theorem own_d4_12 : decode prog_17_method_3_code 12 = .ok (.aload_n 0, 1) := by decide +kernel
theorem own_d4_13 : decode prog_17_method_3_code 13 = .ok (.getfield 7, 3) := by decide +kernel
theorem own_d4_16 : decode prog_17_method_3_code 16 = .ok (.aload_n 2, 1) := by decide +kernel
theorem own_d4_17 : decode prog_17_method_3_code 17 = .ok (.getfield 7, 3) := by decide +kernel
theorem own_d4_20 : decode prog_17_method_3_code 20 = .ok (.lcmp, 1) := by decide +kernel
theorem own_d4_21 : decode prog_17_method_3_code 21 = .ok (.ifCond .ne 19, 3) := by decide +kernel
theorem own_d4_24 : decode prog_17_method_3_code 24 = .ok (.aload_n 0, 1) := by decide +kernel
theorem own_d4_25 : decode prog_17_method_3_code 25 = .ok (.getfield 13, 3) := by decide +kernel
theorem own_d4_28 : decode prog_17_method_3_code 28 = .ok (.aload_n 2, 1) := by decide +kernel
theorem own_d4_29 : decode prog_17_method_3_code 29 = .ok (.getfield 13, 3) := by decide +kernel
theorem own_d4_32 : decode prog_17_method_3_code 32 = .ok (.lcmp, 1) := by decide +kernel
theorem own_d4_33 : decode prog_17_method_3_code 33 = .ok (.ifCond .ne 7, 3) := by decide +kernel
theorem own_d4_36 : decode prog_17_method_3_code 36 = .ok (.iconst 1, 1) := by decide +kernel
theorem own_d4_37 : decode prog_17_method_3_code 37 = .ok (.goto 4, 3) := by decide +kernel
theorem own_pn4 : plainName "com/example/lienledger/lienledger/io/ChecksumEqualsPinLaw" = true := by first | (simp [plainName, overriddenIn]; done) | decide +kernel
theorem own_pd2 : parseMethodDescriptor "(JJ)V" = some ⟨[.long, .long], none⟩ := by decide +kernel
theorem own_pd3 : parseMethodDescriptor "(Ljava/lang/Object;)Z" = some ⟨[(.object "java/lang/Object")], some .boolean⟩ := by decide +kernel
theorem own_pd4 : parseMethodDescriptor "(J)Ljava/lang/Long;" = some ⟨[.long], some (.object "java/lang/Long")⟩ := by decide +kernel
theorem own_nsroot {Z : State} {a0 : Array Value} {O K : String} {n : Nat} (w : (Jvm.Cond.noSuperclass O).before a0 Z = true) (wk : (Jvm.Cond.instantiable K n).before a0 Z = true) (hn : O ≠ K) : NS Z O K := by
  obtain ⟨c, k, h1, h2, h3, -⟩ := Cond.noSuperclass_spec w
  obtain ⟨t, kt, g1, -⟩ := Cond.instantiable_spec wk
  refine ⟨c, t, h1, g1, fun fuel => ?_⟩
  cases fuel with
  | zero => rfl
  | succ f => simp [Vm.isSubclassAux, ids_ne h1 g1 hn, h2, h3]
theorem own_nsno {Z : State} {a0 : Array Value} {C S K : String} {n : Nat} (w : (Jvm.Cond.superclass C S).before a0 Z = true) (wk : (Jvm.Cond.instantiable K n).before a0 Z = true) (q : NS Z C K) (hn : C ≠ K) : ∃ c t, Z.vm.findClass C = some c ∧ Z.vm.findClass K = some t ∧ Z.vm.assignable c t = false := by
  obtain ⟨c, t, h0, g0, n3⟩ := q
  obtain ⟨p, k, kp, h1, h2, h3, h4, h5, -⟩ := Cond.superclass_spec h0 w
  obtain ⟨t', kt, g1, g2, g3, g4, -⟩ := Cond.instantiable_spec wk
  cases g0.symm.trans g1
  have gi : kt.isInterface = false := (Bool.or_eq_false_iff.mp g4).1
  refine ⟨c, t, h0, g0, ?_⟩
  show Z.vm.assignableAux (255 + 1) c t = false
  simp [Vm.assignableAux, ids_ne h0 g0 hn, h2, g2, h5, g3, gi, Vm.isSubclass, n3]
theorem own_eqI {args : Array Value} {first s : State} {o : Option Outcome} {idx : List Nat} {t : Term} {k : Int32} (h : (Jvm.Cond.eq t (.int k)).value args first o s idx = some true) : t.eval args first o idx s = some (.int k) := by
  obtain ⟨x, y, h1, h2, k1, k2⟩ := cmp_v (Or.inl h)
  have e : y = .int k := Option.some.inj (h2.symm.trans rfl)
  subst e
  obtain ⟨z, rfl⟩ := k2
  have q : z = k := by simpa [Cond.value, h1, h2] using h
  rw [h1, q]
theorem own_size {args : Array Value} {s : State} {t : Term} {a : Addr} {cl : Cell} {ty : FieldType} (ht : t.eval args s none [] s = some (.ref a)) (A : Arr s s.heap a cl ty) (h : (Jvm.Cond.eq (.length t) (.int 256)).value args s none s [] = some true) : cl.slots.size = 256 ∧ cl.slots.size < 2 ^ 31 := by
  have q := own_eqI h
  have h3 : cl.slots.size < 2 ^ 31 := by
    rcases Decidable.em (cl.slots.size < 2 ^ 31) with h' | h'
    · exact h'
    · simp [Term.eval, ht, A.fin (Vm.Alike.refl _), h'] at q
  have h4 := Value.int.inj (Option.some.inj ((len_f ht (A.fin (Vm.Alike.refl _)) h3).symm.trans q))
  have e := len_toInt h3
  rw [h4] at e
  have : (256 : Int32).toInt = 256 := rfl
  exact ⟨by omega, h3⟩
/-- an array of boxes that stood at the start: its length, and that each place holds an object of that class -/
def own_Box (Z : State) (ca : Addr) (B : String) : Prop := ∃ cl : Cell, Arr Z Z.heap ca cl (.object B) ∧ cl.slots.size = 256 ∧ ∀ j : Int32, ¬ (j < 0 ∨ cl.slots.size ≤ j.toNatClampNeg) → ∃ y, cl.slots[j.toNatClampNeg]? = some (.ref y) ∧ Exa Z Z.heap y B
theorem own_box {args : Array Value} {s : State} {t : Term} {B : String} {X : Jvm.Cond} {ca : Addr} (ht : ∀ idx, t.eval args s none idx s = some (.ref ca)) (h1 : (Jvm.Cond.arrayOf t (.object B)).value args s none s [] = some true) (h2 : (Jvm.Cond.eq (.length t) (.int 256)).value args s none s [] = some true)
    (h3 : (Jvm.Cond.all t (.and (.exactly (.elem t (.index 0)) B) X)).value args s none s [] = some true) : own_Box s ca B := by
  obtain ⟨cl, A⟩ := Arr.start (ht []) h1
  have hA := A.fin (Vm.Alike.refl _)
  have hz := (own_size (ht []) A h2).1
  refine ⟨cl, A, hz, fun j hj => ?_⟩
  have q := (and_e (Cond.all_elim (ht []) hA h3 j.toNatClampNeg (Nat.lt_of_not_le fun u => hj (Or.inr u)))).1
  obtain ⟨y, ey⟩ := exa_v q
  have E := exa_at ey q
  rw [elem_f (ht _) (idx_at (fun u => hj (Or.inl u))) hA (fun u => hj (Or.inl u))] at ey
  exact ⟨y, ey, E⟩
theorem own_lidx {x : Int64} (h1 : ¬ x < (-128 : Int64)) (h2 : ¬ (127 : Int64) < x) : ¬ ((x.toInt32) + (128 : Int32) < 0 ∨ 256 ≤ ((x.toInt32) + (128 : Int32)).toNatClampNeg) := by
  have a := c_l2i x
  have r := rng32 x.toInt32
  have s := c_iadd x.toInt32 128
  have r2 := rng32 (x.toInt32 + 128)
  have rx := rng64 x
  have e : ((x.toInt32) + (128 : Int32)).toNatClampNeg = ((x.toInt32) + (128 : Int32)).toInt.toNat := rfl
  simp only [Int64.lt_iff_toInt_lt, Int32.lt_iff_toInt_lt, Int64.reduceToInt, Int32.reduceToInt] at *
  omega
theorem own_num_ef (m : MethodId) (x0 : Addr) : entryFrame m #[(.ref x0)] 1 = mkF m 0 #[.val (.ref x0)] [] := by first | (simp [entryFrame, mkF, argsToLocals, Value.category]; done) | rfl
def own_num_Q (Z : State) (a : Addr) (h0 : Heap) (n0 : Nat) (rv : Option Value) (hN : Heap) (LL : List Loc) : Prop := rv = none ∧ Fr n0 LL ∧ hN = h0
set_option maxRecDepth 65536 in
set_option maxHeartbeats 40000000 in
theorem own_num (l : Launch) (Z : State) (a0 : Array Value) (hw : ∀ d ∈ tables_1, d.before a0 Z = true) (ws : List Jvm.Cond) (a : Addr) (h0 : Heap) (n0 : Nat) (Z0 : n0 ≤ h0.size) :
    MetFree l (⟨"java/lang/Number", "<init>", "()V"⟩ : MethodName) (head1 (Jvm.Cond.code (⟨"java/lang/Number", "<init>", "()V"⟩ : MethodName) jdk_18_method_1_code 1 none :: ws) ({ frames := 1, cells := 0, slots := 0, locals := 12 } : Room)) (fun aa UU => aa = #[(.ref a)] ∧ Z.Warmed39 UU.vm ∧ UU.heap = h0) (fun _ _ _ _ _ => True) (fun _ UU oo UU' => ∃ rv LL, oo = .returned rv ∧ own_num_Q Z a h0 n0 rv UU'.heap LL ∧ FrameEnd UU oo UU' LL ({ frames := 1, cells := 0, slots := 0, locals := 12 } : Room).cells ({ frames := 1, cells := 0, slots := 0, locals := 12 } : Room).slots) := by
  refine MetFree.of_bodySF (plainFor_of_name own_pn0) hisR ?_
  intro p e s m args below meth c s₁ Bd hml0 hP hK
  obtain ⟨rfl, hZ, hh⟩ := hP
  have hx := Bd.exec
  have hby := Bd.bytes
  have hml : c.maxLocals = 1 := hml0
  have hown : s.vm.findClass "java/lang/Number" = some m.cls := findClass_of_methodNamed Bd.named
  have hnm := (name_of_methodNamed Bd.named Bd.method).1
  have X0 : Stand p l e ({ frames := 1, cells := 0, slots := 0, locals := 12 } : Room) s m #[(.ref a)] below meth c s₁ [] 0 0 := Stand.of_body Bd
  have e0 : s₁.heap = h0 := by rw [← hh, Bd.state]; rfl
  have N0 := Fr.nil n0
  have K0 : Keep h0 h0 [] := Keep.refl h0 _
  refine (?_ : OwnGo p.tables e below (fun UU' oo => ∃ rv LL, oo = .returned rv ∧ own_num_Q Z a h0 n0 rv UU'.heap LL ∧ FrameEnd s oo UU' LL ({ frames := 1, cells := 0, slots := 0, locals := 12 } : Room).cells ({ frames := 1, cells := 0, slots := 0, locals := 12 } : Room).slots) _)
  refine OwnGo.back (s₁.setTop (mkF m 0 #[.val (.ref a)] [])) (fun tg kk => castTop (own_num_ef m a) kk) ?_
  refine OwnGo.back (s₁.setTop (mkF m 1 #[.val (.ref a)] [(.ref a)])) (fun tg kk => XS.aloadN X0.here hx rfl (hb hby own_d7_0) rfl rfl kk) ?_
  obtain ⟨T1, X1, e1, st1⟩ := initO X0 hx hZ hown (hw _ (List.mem_of_getElem? (i := 43) rfl)) (hw _ (List.mem_of_getElem? (i := 12) rfl)) (hw _ (List.mem_of_getElem? (i := 13) rfl)) e0 (g := (mkF m 1 #[.val (.ref a)] [(.ref a)])) rfl (by rw [hml]; rfl) rfl (hb hby own_d7_1) (by decide) (W := 0) (by show 2 * 0 + _ ≤ _; exact Nat.le_of_eq rfl) (by decide)
  refine OwnGo.back (T1.setTop (mkF m 4 #[.val (.ref a)] [])) (fun tg kk => st1 _ kk) ?_
  obtain ⟨fs, hr, hrun, hended, hW, hsame⟩ := X1.leave (v := none) (fun _ => rfl)
  refine ⟨_, _, ?_, hrun, hended, _, _, rfl, ?_, ⟨_, rfl⟩, hW, hsame.mono (by decide) (by decide)⟩
  · exact X1.returnOut hx Bd.returns (hb hby own_d7_4) hr
  · show own_num_Q Z a h0 n0 _ T1.heap _
    rw [e1]
    exact ⟨rfl, N0, rfl⟩
theorem own_lini_ef (m : MethodId) (x0 : Addr) (x1 : Int64) : entryFrame m #[(.ref x0), (.long x1)] 3 = mkF m 0 #[.val (.ref x0), .val (.long x1), .second] [] := by first | (simp [entryFrame, mkF, argsToLocals, Value.category]; done) | rfl
def own_lini_Q (Z : State) (a : Addr) (x : Int64) (h0 : Heap) (n0 : Nat) (rv : Option Value) (hN : Heap) (LL : List Loc) : Prop := rv = none ∧ Fr n0 LL ∧ Keep h0 hN [a] ∧ Exa Z hN a "java/lang/Long" ∧ Fld Z hN a "java/lang/Long" "value" "J" (.long x)
set_option maxRecDepth 65536 in
set_option maxHeartbeats 40000000 in
theorem own_lini (l : Launch) (Z : State) (a0 : Array Value) (hw : ∀ d ∈ tables_1, d.before a0 Z = true) (ws : List Jvm.Cond) (a : Addr) (x : Int64) (h0 : Heap) (n0 : Nat) (Z0 : n0 ≤ h0.size) (E : Exa Z h0 a "java/lang/Long") (F : Fld Z h0 a "java/lang/Long" "value" "J" (.long (0 : Int64))) (g : n0 ≤ a) :
    MetFree l (⟨"java/lang/Long", "<init>", "(J)V"⟩ : MethodName) (head1 (Jvm.Cond.code (⟨"java/lang/Long", "<init>", "(J)V"⟩ : MethodName) jdk_35_method_26_code 3 none :: ws) ({ frames := 2, cells := 0, slots := 0, locals := 24 } : Room)) (fun aa UU => aa = #[(.ref a), (.long x)] ∧ Z.Warmed39 UU.vm ∧ UU.heap = h0) (fun _ _ _ _ _ => True) (fun _ UU oo UU' => ∃ rv LL, oo = .returned rv ∧ own_lini_Q Z a x h0 n0 rv UU'.heap LL ∧ FrameEnd UU oo UU' LL ({ frames := 2, cells := 0, slots := 0, locals := 24 } : Room).cells ({ frames := 2, cells := 0, slots := 0, locals := 24 } : Room).slots) := by
  refine MetFree.of_bodySF (plainFor_of_name own_pn1) hisR ?_
  intro p e s m args below meth c s₁ Bd hml0 hP hK
  obtain ⟨rfl, hZ, hh⟩ := hP
  have hx := Bd.exec
  have hby := Bd.bytes
  have hml : c.maxLocals = 3 := hml0
  have hown : s.vm.findClass "java/lang/Long" = some m.cls := findClass_of_methodNamed Bd.named
  have hnm := (name_of_methodNamed Bd.named Bd.method).1
  have X0 : Stand p l e ({ frames := 2, cells := 0, slots := 0, locals := 24 } : Room) s m #[(.ref a), (.long x)] below meth c s₁ [] 0 0 := Stand.of_body Bd
  have e0 : s₁.heap = h0 := by rw [← hh, Bd.state]; rfl
  have N0 := Fr.nil n0
  have K0 : Keep h0 h0 [a] := Keep.refl h0 _
  refine (?_ : OwnGo p.tables e below (fun UU' oo => ∃ rv LL, oo = .returned rv ∧ own_lini_Q Z a x h0 n0 rv UU'.heap LL ∧ FrameEnd s oo UU' LL ({ frames := 2, cells := 0, slots := 0, locals := 24 } : Room).cells ({ frames := 2, cells := 0, slots := 0, locals := 24 } : Room).slots) _)
  refine OwnGo.back (s₁.setTop (mkF m 0 #[.val (.ref a), .val (.long x), .second] [])) (fun tg kk => castTop (own_lini_ef m a x) kk) ?_
  refine OwnGo.back (s₁.setTop (mkF m 1 #[.val (.ref a), .val (.long x), .second] [(.ref a)])) (fun tg kk => XS.aloadN X0.here hx rfl (hb hby own_d6_0) rfl rfl kk) ?_
  obtain ⟨_, _, ⟨T1, L1, k1, n1⟩, -, X1, ⟨Lc1, hQ1, l1, y1, z1⟩, st1⟩ := X0.specialBack hx (y := (⟨"java/lang/Number", "<init>", "()V"⟩ : MethodName)) rfl hown (mvT hZ (hw _ (List.mem_of_getElem? (i := 37) rfl))) (mvT hZ (hw _ (List.mem_of_getElem? (i := 38) rfl))) (mvT hZ (hw _ (List.mem_of_getElem? (i := 42) rfl))) (by decide) (backOf (W := 0) (own_num l Z a0 hw [] a h0 n0 Z0 ) hZ (hw _ (List.mem_of_getElem? (i := 42) rfl)) (hw _ (List.mem_of_getElem? (i := 41) rfl)) (by decide) (by decide)) (g := (mkF m 1 #[.val (.ref a), .val (.long x), .second] [(.ref a)])) rfl (by rw [hml]; rfl) (Steps.refl _) (a := a) (argsL := []) (rest := []) (lenOf own_pd0 rfl) rfl (by show 2 * 0 + _ ≤ _; exact Nat.le_of_eq rfl) (hb hby own_d6_1) (fun _ _ => ⟨rfl, e0, (by decide : 0 + 0 ≤ _), (by decide : 0 + 0 ≤ _)⟩)
  dsimp only [Pt.U, Pt.locs, Pt.cells, Pt.slots] at X1 l1 y1 z1 st1 hQ1
  subst l1 y1 z1
  obtain ⟨rfl, N1q, e1⟩ := hQ1
  have N1 := Fr.app N0 N1q
  refine OwnGo.back (T1.setTop (mkF m 4 #[.val (.ref a), .val (.long x), .second] [])) (fun tg kk => st1.trans kk) ?_
  refine OwnGo.back (T1.setTop (mkF m 5 #[.val (.ref a), .val (.long x), .second] [(.ref a)])) (fun tg kk => XS.aloadN X1.here hx rfl (hb hby own_d6_4) rfl rfl kk) ?_
  refine OwnGo.back (T1.setTop (mkF m 6 #[.val (.ref a), .val (.long x), .second] [(.long x), (.ref a)])) (fun tg kk => XS.lloadN X1.here hx rfl (hb hby own_d6_5) rfl kk) ?_
  obtain ⟨T2, h2, X2, e2, W2, st2⟩ := putF X1 hx hZ hown (host := "") (Or.inl (hw _ (List.mem_of_getElem? (i := 44) rfl))) Via.refl e1 F E (Or.inr ⟨(hw _ (List.mem_of_getElem? (i := 45) rfl)), rfl, hnm⟩) (hw _ (List.mem_of_getElem? (i := 32) rfl)) (ty := .long) (by decide) rfl rfl (g := (mkF m 6 #[.val (.ref a), .val (.long x), .second] [(.long x), (.ref a)])) rfl rfl (hb hby own_d6_6)
  have f3 : Fld Z h2 a "java/lang/Long" "value" "J" (.long x) := F.same W2
  have f4 : Exa Z h2 a "java/lang/Long" := E.wr W2
  have K5 : Keep h0 h2 [a] := K0.wr W2 (Or.inl (List.mem_of_getElem? (i := 0) rfl))
  have Z6 : n0 ≤ h2.size := Nat.le_trans Z0 (Keep.of_wr W2).1
  have N7 := Fr.snoc X2 N1 g
  refine OwnGo.back (T2.setTop (mkF m 9 #[.val (.ref a), .val (.long x), .second] [])) (fun tg kk => st2 _ kk) ?_
  obtain ⟨fs, hr, hrun, hended, hW, hsame⟩ := X2.leave (v := none) (fun _ => rfl)
  refine ⟨_, _, ?_, hrun, hended, _, _, rfl, ?_, ⟨_, rfl⟩, hW, hsame.mono (by decide) (by decide)⟩
  · exact X2.returnOut hx Bd.returns (hb hby own_d6_9) hr
  · show own_lini_Q Z a x h0 n0 _ T2.heap _
    rw [e2]
    exact ⟨rfl, N7, K5, f4, f3⟩
theorem own_lval_ef (m : MethodId) (x0 : Int64) : entryFrame m #[(.long x0)] 3 = mkF m 0 #[.val (.long x0), .second, .unset] [] := by first | (simp [entryFrame, mkF, argsToLocals, Value.category]; done) | rfl
def own_lval_Q (Z : State) (x : Int64) (ca : Addr) (h0 : Heap) (n0 : Nat) (rv : Option Value) (hN : Heap) (LL : List Loc) : Prop := ∃ (b : Addr), rv = some (.ref b) ∧ Fr n0 LL ∧ Keep h0 hN [] ∧ Exa Z hN b "java/lang/Long"
set_option maxRecDepth 65536 in
set_option maxHeartbeats 40000000 in
theorem own_lval (l : Launch) (Z : State) (a0 : Array Value) (hw : ∀ d ∈ tables_1, d.before a0 Z = true) (ws : List Jvm.Cond) (x : Int64) (ca : Addr) (h0 : Heap) (n0 : Nat) (Z0 : n0 ≤ h0.size) (S : Sta Z Z.heap "java/lang/Long$LongCache" "cache" "[Ljava/lang/Long;" (.ref ca)) (old : Old Z n0 h0) (hB : own_Box Z ca "java/lang/Long") :
    MetFree l (⟨"java/lang/Long", "valueOf", "(J)Ljava/lang/Long;"⟩ : MethodName) (head1 (Jvm.Cond.code (⟨"java/lang/Long", "valueOf", "(J)Ljava/lang/Long;"⟩ : MethodName) jdk_35_method_24_code 3 (some (.object "java/lang/Long")) :: ws) ({ frames := 3, cells := 1, slots := 1, locals := 39 } : Room)) (fun aa UU => aa = #[(.long x)] ∧ Z.Warmed39 UU.vm ∧ UU.heap = h0) (fun _ _ _ _ _ => True) (fun _ UU oo UU' => ∃ rv LL, oo = .returned rv ∧ own_lval_Q Z x ca h0 n0 rv UU'.heap LL ∧ FrameEnd UU oo UU' LL ({ frames := 3, cells := 1, slots := 1, locals := 39 } : Room).cells ({ frames := 3, cells := 1, slots := 1, locals := 39 } : Room).slots) := by
  refine MetFree.of_bodySF (plainFor_of_name own_pn1) hisR ?_
  intro p e s m args below meth c s₁ Bd hml0 hP hK
  obtain ⟨rfl, hZ, hh⟩ := hP
  have hx := Bd.exec
  have hby := Bd.bytes
  have hml : c.maxLocals = 3 := hml0
  have hown : s.vm.findClass "java/lang/Long" = some m.cls := findClass_of_methodNamed Bd.named
  have hnm := (name_of_methodNamed Bd.named Bd.method).1
  have X0 : Stand p l e ({ frames := 3, cells := 1, slots := 1, locals := 39 } : Room) s m #[(.long x)] below meth c s₁ [] 0 0 := Stand.of_body Bd
  have e0 : s₁.heap = h0 := by rw [← hh, Bd.state]; rfl
  have N0 := Fr.nil n0
  have K0 : Keep h0 h0 [] := Keep.refl h0 _
  refine (?_ : OwnGo p.tables e below (fun UU' oo => ∃ rv LL, oo = .returned rv ∧ own_lval_Q Z x ca h0 n0 rv UU'.heap LL ∧ FrameEnd s oo UU' LL ({ frames := 3, cells := 1, slots := 1, locals := 39 } : Room).cells ({ frames := 3, cells := 1, slots := 1, locals := 39 } : Room).slots) _)
  refine OwnGo.back (s₁.setTop (mkF m 0 #[.val (.long x), .second, .unset] [])) (fun tg kk => castTop (own_lval_ef m x) kk) ?_
  refine OwnGo.back (s₁.setTop (mkF m 3 #[.val (.long x), .second, .unset] [(.int (128 : Int32))])) (fun tg kk => XS.sipush X0.here hx rfl (hb hby own_d5_0) kk) ?_
  refine OwnGo.back (s₁.setTop (mkF m 4 #[.val (.long x), .second, .val (.int (128 : Int32))] [])) (fun tg kk => XS.istoreN X0.here hx rfl (hb hby own_d5_3) rfl (l' := #[.val (.long x), .second, .val (.int (128 : Int32))]) rfl kk) ?_
  refine OwnGo.back (s₁.setTop (mkF m 5 #[.val (.long x), .second, .val (.int (128 : Int32))] [(.long x)])) (fun tg kk => XS.lloadN X0.here hx rfl (hb hby own_d5_4) rfl kk) ?_
  refine OwnGo.back (s₁.setTop (mkF m 8 #[.val (.long x), .second, .val (.int (128 : Int32))] [(.long (-128 : Int64)), (.long x)])) (fun tg kk => Jvm.Stand.ldc2J X0 hx hown (mvT hZ (hw _ (List.mem_of_getElem? (i := 29) rfl))) rfl (hb hby own_d5_5) kk) ?_
  refine OwnGo.back (s₁.setTop (mkF m 9 #[.val (.long x), .second, .val (.int (128 : Int32))] [(.int (lcmpW x (-128 : Int64)))])) (fun tg kk => XS.lcmp X0.here hx rfl (hb hby own_d5_8) rfl kk) ?_
  by_cases hc1 : x < (-128 : Int64)
  ·
    refine OwnGo.back (s₁.setTop (mkF m 31 #[.val (.long x), .second, .val (.int (128 : Int32))] [])) (fun tg kk => XS.ifYes X0.here hx rfl (pc0 := 9) (pc' := 31) rfl (hb hby own_d5_9) rfl ((if0 _ _).trans (tlt ((lw_lt _ _).mpr hc1)).1) (by decide) (by decide) kk) ?_
    obtain ⟨T2, h2, X2, e2, E2, A2, D2, -, st2⟩ := newO X0 hx hZ hown (hw _ (List.mem_of_getElem? (i := 31) rfl)) (hw _ (List.mem_of_getElem? (i := 32) rfl)) (hw _ (List.mem_of_getElem? (i := 27) rfl)) e0 (g := (mkF m 31 #[.val (.long x), .second, .val (.int (128 : Int32))] [])) rfl (hb hby own_d5_31) (by decide) (by decide)
    obtain ⟨b2, q2⟩ : ∃ z, z = h0.size := ⟨_, rfl⟩
    rw [← q2] at A2 D2 st2
    have g3 : n0 ≤ b2 := Nat.le_trans Z0 (Nat.le_of_eq q2.symm)
    have s4 : h0.size ≤ b2 := Nat.le_trans K0.1 (Nat.le_of_eq q2.symm)
    have f5 : Old Z n0 h2 := old.ext E2
    have K6 : Keep h0 h2 [] := K0.ext E2
    have Z7 : n0 ≤ h2.size := Nat.le_trans Z0 E2.1
    have f8 : Fld Z h2 b2 "java/lang/Long" "value" "J" (.long (0 : Int64)) := D2 (Or.inr (hw _ (List.mem_of_getElem? (i := 45) rfl))) (ty := .long) (by decide)
    refine OwnGo.back (T2.setTop (mkF m 34 #[.val (.long x), .second, .val (.int (128 : Int32))] [(.ref b2)])) (fun tg kk => st2 _ kk) ?_
    refine OwnGo.back (T2.setTop (mkF m 35 #[.val (.long x), .second, .val (.int (128 : Int32))] [(.ref b2), (.ref b2)])) (fun tg kk => XS.dup X2.here hx rfl (hb hby own_d5_34) rfl rfl kk) ?_
    refine OwnGo.back (T2.setTop (mkF m 36 #[.val (.long x), .second, .val (.int (128 : Int32))] [(.long x), (.ref b2), (.ref b2)])) (fun tg kk => XS.lloadN X2.here hx rfl (hb hby own_d5_35) rfl kk) ?_
    obtain ⟨_, _, ⟨T9, L9, k9, n9⟩, -, X9, ⟨Lc9, hQ9, l9, y9, z9⟩, st9⟩ := X2.specialBack hx (y := (⟨"java/lang/Long", "<init>", "(J)V"⟩ : MethodName)) rfl hown (mvT hZ (hw _ (List.mem_of_getElem? (i := 33) rfl))) (mvT hZ (hw _ (List.mem_of_getElem? (i := 34) rfl))) (mvT hZ (hw _ (List.mem_of_getElem? (i := 36) rfl))) (by decide) (backOf (W := 1) (own_lini l Z a0 hw [] b2 x h2 n0 Z7 A2 f8 g3) hZ (hw _ (List.mem_of_getElem? (i := 36) rfl)) (hw _ (List.mem_of_getElem? (i := 27) rfl)) (by decide) (by decide)) (g := (mkF m 36 #[.val (.long x), .second, .val (.int (128 : Int32))] [(.long x), (.ref b2), (.ref b2)])) rfl (by rw [hml]; rfl) (Steps.refl _) (a := b2) (argsL := [(.long x)]) (rest := [(.ref b2)]) (lenOf own_pd1 rfl) rfl (by show 2 * 0 + _ ≤ _; exact Nat.le_of_eq rfl) (hb hby own_d5_36) (fun _ _ => ⟨rfl, e2, (by decide : 1 + 0 ≤ _), (by decide : 1 + 0 ≤ _)⟩)
    dsimp only [Pt.U, Pt.locs, Pt.cells, Pt.slots] at X9 l9 y9 z9 st9 hQ9
    subst l9 y9 z9
    obtain ⟨rfl, N9q, Kc9, po10, po11⟩ := hQ9
    have N9 := Fr.app N0 N9q
    have f12 : Old Z n0 T9.heap := f5.keep Kc9 (allS g3 all0)
    have f13 : Exa Z T9.heap b2 "java/lang/Long" := A2.keep Kc9
    have K14 : Keep h0 T9.heap [] := K6.trans Kc9 (allS (Or.inr s4) all0)
    have Z15 : n0 ≤ T9.heap.size := Nat.le_trans Z7 Kc9.1
    refine OwnGo.back (T9.setTop (mkF m 39 #[.val (.long x), .second, .val (.int (128 : Int32))] [(.ref b2)])) (fun tg kk => st9.trans kk) ?_
    obtain ⟨fs, hr, hrun, hended, hW, hsame⟩ := X9.leave (v := some (.ref b2)) (fun h => by rw [Bd.returns] at h; cases h)
    refine ⟨_, _, ?_, hrun, hended, _, _, rfl, ?_, ⟨_, rfl⟩, hW, hsame.mono (by decide) (by decide)⟩
    · exact own_retA X9 hx Bd.returns rfl rfl rfl (hb hby own_d5_39) hr
    · show own_lval_Q Z x ca h0 n0 _ T9.heap _
      exact ⟨b2, rfl, N9, K14, po10⟩
  ·
    refine OwnGo.back (s₁.setTop (mkF m 12 #[.val (.long x), .second, .val (.int (128 : Int32))] [])) (fun tg kk => XS.ifNo X0.here hx rfl (hb hby own_d5_9) rfl ((if0 _ _).trans (flt (own_not (lw_lt _ _) hc1)).1) kk) ?_
    refine OwnGo.back (s₁.setTop (mkF m 13 #[.val (.long x), .second, .val (.int (128 : Int32))] [(.long x)])) (fun tg kk => XS.lloadN X0.here hx rfl (hb hby own_d5_12) rfl kk) ?_
    refine OwnGo.back (s₁.setTop (mkF m 16 #[.val (.long x), .second, .val (.int (128 : Int32))] [(.long (127 : Int64)), (.long x)])) (fun tg kk => Jvm.Stand.ldc2J X0 hx hown (mvT hZ (hw _ (List.mem_of_getElem? (i := 30) rfl))) rfl (hb hby own_d5_13) kk) ?_
    refine OwnGo.back (s₁.setTop (mkF m 17 #[.val (.long x), .second, .val (.int (128 : Int32))] [(.int (lcmpW x (127 : Int64)))])) (fun tg kk => XS.lcmp X0.here hx rfl (hb hby own_d5_16) rfl kk) ?_
    by_cases hc16 : (127 : Int64) < x
    ·
      refine OwnGo.back (s₁.setTop (mkF m 31 #[.val (.long x), .second, .val (.int (128 : Int32))] [])) (fun tg kk => XS.ifYes X0.here hx rfl (pc0 := 17) (pc' := 31) rfl (hb hby own_d5_17) rfl ((if0 _ _).trans (tlt ((lw_gt _ _).mpr hc16)).2.2.1) (by decide) (by decide) kk) ?_
      obtain ⟨T17, h17, X17, e17, E17, A17, D17, -, st17⟩ := newO X0 hx hZ hown (hw _ (List.mem_of_getElem? (i := 31) rfl)) (hw _ (List.mem_of_getElem? (i := 32) rfl)) (hw _ (List.mem_of_getElem? (i := 27) rfl)) e0 (g := (mkF m 31 #[.val (.long x), .second, .val (.int (128 : Int32))] [])) rfl (hb hby own_d5_31) (by decide) (by decide)
      obtain ⟨b17, q17⟩ : ∃ z, z = h0.size := ⟨_, rfl⟩
      rw [← q17] at A17 D17 st17
      have g18 : n0 ≤ b17 := Nat.le_trans Z0 (Nat.le_of_eq q17.symm)
      have s19 : h0.size ≤ b17 := Nat.le_trans K0.1 (Nat.le_of_eq q17.symm)
      have f20 : Old Z n0 h17 := old.ext E17
      have K21 : Keep h0 h17 [] := K0.ext E17
      have Z22 : n0 ≤ h17.size := Nat.le_trans Z0 E17.1
      have f23 : Fld Z h17 b17 "java/lang/Long" "value" "J" (.long (0 : Int64)) := D17 (Or.inr (hw _ (List.mem_of_getElem? (i := 45) rfl))) (ty := .long) (by decide)
      refine OwnGo.back (T17.setTop (mkF m 34 #[.val (.long x), .second, .val (.int (128 : Int32))] [(.ref b17)])) (fun tg kk => st17 _ kk) ?_
      refine OwnGo.back (T17.setTop (mkF m 35 #[.val (.long x), .second, .val (.int (128 : Int32))] [(.ref b17), (.ref b17)])) (fun tg kk => XS.dup X17.here hx rfl (hb hby own_d5_34) rfl rfl kk) ?_
      refine OwnGo.back (T17.setTop (mkF m 36 #[.val (.long x), .second, .val (.int (128 : Int32))] [(.long x), (.ref b17), (.ref b17)])) (fun tg kk => XS.lloadN X17.here hx rfl (hb hby own_d5_35) rfl kk) ?_
      obtain ⟨_, _, ⟨T24, L24, k24, n24⟩, -, X24, ⟨Lc24, hQ24, l24, y24, z24⟩, st24⟩ := X17.specialBack hx (y := (⟨"java/lang/Long", "<init>", "(J)V"⟩ : MethodName)) rfl hown (mvT hZ (hw _ (List.mem_of_getElem? (i := 33) rfl))) (mvT hZ (hw _ (List.mem_of_getElem? (i := 34) rfl))) (mvT hZ (hw _ (List.mem_of_getElem? (i := 36) rfl))) (by decide) (backOf (W := 1) (own_lini l Z a0 hw [] b17 x h17 n0 Z22 A17 f23 g18) hZ (hw _ (List.mem_of_getElem? (i := 36) rfl)) (hw _ (List.mem_of_getElem? (i := 27) rfl)) (by decide) (by decide)) (g := (mkF m 36 #[.val (.long x), .second, .val (.int (128 : Int32))] [(.long x), (.ref b17), (.ref b17)])) rfl (by rw [hml]; rfl) (Steps.refl _) (a := b17) (argsL := [(.long x)]) (rest := [(.ref b17)]) (lenOf own_pd1 rfl) rfl (by show 2 * 0 + _ ≤ _; exact Nat.le_of_eq rfl) (hb hby own_d5_36) (fun _ _ => ⟨rfl, e17, (by decide : 1 + 0 ≤ _), (by decide : 1 + 0 ≤ _)⟩)
      dsimp only [Pt.U, Pt.locs, Pt.cells, Pt.slots] at X24 l24 y24 z24 st24 hQ24
      subst l24 y24 z24
      obtain ⟨rfl, N24q, Kc24, po25, po26⟩ := hQ24
      have N24 := Fr.app N0 N24q
      have f27 : Old Z n0 T24.heap := f20.keep Kc24 (allS g18 all0)
      have f28 : Exa Z T24.heap b17 "java/lang/Long" := A17.keep Kc24
      have K29 : Keep h0 T24.heap [] := K21.trans Kc24 (allS (Or.inr s19) all0)
      have Z30 : n0 ≤ T24.heap.size := Nat.le_trans Z22 Kc24.1
      refine OwnGo.back (T24.setTop (mkF m 39 #[.val (.long x), .second, .val (.int (128 : Int32))] [(.ref b17)])) (fun tg kk => st24.trans kk) ?_
      obtain ⟨fs, hr, hrun, hended, hW, hsame⟩ := X24.leave (v := some (.ref b17)) (fun h => by rw [Bd.returns] at h; cases h)
      refine ⟨_, _, ?_, hrun, hended, _, _, rfl, ?_, ⟨_, rfl⟩, hW, hsame.mono (by decide) (by decide)⟩
      · exact own_retA X24 hx Bd.returns rfl rfl rfl (hb hby own_d5_39) hr
      · show own_lval_Q Z x ca h0 n0 _ T24.heap _
        exact ⟨b17, rfl, N24, K29, po25⟩
    ·
      refine OwnGo.back (s₁.setTop (mkF m 20 #[.val (.long x), .second, .val (.int (128 : Int32))] [])) (fun tg kk => XS.ifNo X0.here hx rfl (hb hby own_d5_17) rfl ((if0 _ _).trans (flt (own_not (lw_gt _ _) hc16)).2.2.1) kk) ?_
      obtain ⟨T31, X31, e31, st31⟩ := getS2 X0 hx hZ hown (host := "") (Or.inl (hw _ (List.mem_of_getElem? (i := 49) rfl))) Via.refl e0 (S.ext old.2) (g := (mkF m 20 #[.val (.long x), .second, .val (.int (128 : Int32))] [])) rfl (hb hby own_d5_20)
      refine OwnGo.back (T31.setTop (mkF m 23 #[.val (.long x), .second, .val (.int (128 : Int32))] [(.ref ca)])) (fun tg kk => st31 _ kk) ?_
      refine OwnGo.back (T31.setTop (mkF m 24 #[.val (.long x), .second, .val (.int (128 : Int32))] [(.long x), (.ref ca)])) (fun tg kk => XS.lloadN X31.here hx rfl (hb hby own_d5_23) rfl kk) ?_
      refine OwnGo.back (T31.setTop (mkF m 25 #[.val (.long x), .second, .val (.int (128 : Int32))] [(.int (x.toInt32)), (.ref ca)])) (fun tg kk => XS.l2i X31.here hx rfl (hb hby own_d5_24) rfl kk) ?_
      refine OwnGo.back (T31.setTop (mkF m 28 #[.val (.long x), .second, .val (.int (128 : Int32))] [(.int (128 : Int32)), (.int (x.toInt32)), (.ref ca)])) (fun tg kk => XS.sipush X31.here hx rfl (hb hby own_d5_25) kk) ?_
      refine OwnGo.back (T31.setTop (mkF m 29 #[.val (.long x), .second, .val (.int (128 : Int32))] [(.int ((x.toInt32) + (128 : Int32))), (.ref ca)])) (fun tg kk => XS.iadd X31.here hx rfl (hb hby own_d5_28) rfl kk) ?_
      obtain ⟨cl32, Ar32, sz32, el32⟩ := id hB
      have hin32 : ¬ (((x.toInt32) + (128 : Int32)) < 0 ∨ cl32.slots.size ≤ (((x.toInt32) + (128 : Int32))).toNatClampNeg) := by rw [sz32]; exact own_lidx hc1 hc16
      obtain ⟨y32, hat32, Ey32⟩ := el32 _ hin32
      have Ex32 : Exa Z h0 y32 "java/lang/Long" := Ey32.ext old.2
      have Ah32 := Ar32.ext old.2
      refine OwnGo.back (T31.setTop (mkF m 30 #[.val (.long x), .second, .val (.int (128 : Int32))] [(.ref y32)])) (fun tg kk => X31.aaload hx (j := ((x.toInt32) + (128 : Int32))) (v := (.ref y32)) (by rw [e31]; exact Ah32.1) (State.isArrayOf_alike hZ.alike Ah32.2.1) rfl Ah32.2.2 hin32 hat32 (g := (mkF m 29 #[.val (.long x), .second, .val (.int (128 : Int32))] [(.int ((x.toInt32) + (128 : Int32))), (.ref ca)])) rfl rfl (hb hby own_d5_29) _ kk) ?_
      obtain ⟨fs, hr, hrun, hended, hW, hsame⟩ := X31.leave (v := some (.ref y32)) (fun h => by rw [Bd.returns] at h; cases h)
      refine ⟨_, _, ?_, hrun, hended, _, _, rfl, ?_, ⟨_, rfl⟩, hW, hsame.mono (by decide) (by decide)⟩
      · exact own_retA X31 hx Bd.returns rfl rfl rfl (hb hby own_d5_30) hr
      · show own_lval_Q Z x ca h0 n0 _ T31.heap _
        rw [e31]
        exact ⟨y32, rfl, N0, K0, Ex32⟩
theorem own_rec_ef (m : MethodId) (x0 : Addr) : entryFrame m #[(.ref x0)] 1 = mkF m 0 #[.val (.ref x0)] [] := by first | (simp [entryFrame, mkF, argsToLocals, Value.category]; done) | rfl
def own_rec_Q (Z : State) (a : Addr) (h0 : Heap) (n0 : Nat) (rv : Option Value) (hN : Heap) (LL : List Loc) : Prop := rv = none ∧ Fr n0 LL ∧ hN = h0
set_option maxRecDepth 65536 in
set_option maxHeartbeats 40000000 in
theorem own_rec (l : Launch) (Z : State) (a0 : Array Value) (hw : ∀ d ∈ tables_1, d.before a0 Z = true) (ws : List Jvm.Cond) (a : Addr) (h0 : Heap) (n0 : Nat) (Z0 : n0 ≤ h0.size) :
    MetFree l (⟨"java/lang/Record", "<init>", "()V"⟩ : MethodName) (head1 (Jvm.Cond.code (⟨"java/lang/Record", "<init>", "()V"⟩ : MethodName) jdk_30_method_1_code 1 none :: ws) ({ frames := 1, cells := 0, slots := 0, locals := 12 } : Room)) (fun aa UU => aa = #[(.ref a)] ∧ Z.Warmed39 UU.vm ∧ UU.heap = h0) (fun _ _ _ _ _ => True) (fun _ UU oo UU' => ∃ rv LL, oo = .returned rv ∧ own_rec_Q Z a h0 n0 rv UU'.heap LL ∧ FrameEnd UU oo UU' LL ({ frames := 1, cells := 0, slots := 0, locals := 12 } : Room).cells ({ frames := 1, cells := 0, slots := 0, locals := 12 } : Room).slots) := by
  refine MetFree.of_bodySF (plainFor_of_name own_pn2) hisR ?_
  intro p e s m args below meth c s₁ Bd hml0 hP hK
  obtain ⟨rfl, hZ, hh⟩ := hP
  have hx := Bd.exec
  have hby := Bd.bytes
  have hml : c.maxLocals = 1 := hml0
  have hown : s.vm.findClass "java/lang/Record" = some m.cls := findClass_of_methodNamed Bd.named
  have hnm := (name_of_methodNamed Bd.named Bd.method).1
  have X0 : Stand p l e ({ frames := 1, cells := 0, slots := 0, locals := 12 } : Room) s m #[(.ref a)] below meth c s₁ [] 0 0 := Stand.of_body Bd
  have e0 : s₁.heap = h0 := by rw [← hh, Bd.state]; rfl
  have N0 := Fr.nil n0
  have K0 : Keep h0 h0 [] := Keep.refl h0 _
  refine (?_ : OwnGo p.tables e below (fun UU' oo => ∃ rv LL, oo = .returned rv ∧ own_rec_Q Z a h0 n0 rv UU'.heap LL ∧ FrameEnd s oo UU' LL ({ frames := 1, cells := 0, slots := 0, locals := 12 } : Room).cells ({ frames := 1, cells := 0, slots := 0, locals := 12 } : Room).slots) _)
  refine OwnGo.back (s₁.setTop (mkF m 0 #[.val (.ref a)] [])) (fun tg kk => castTop (own_rec_ef m a) kk) ?_
  refine OwnGo.back (s₁.setTop (mkF m 1 #[.val (.ref a)] [(.ref a)])) (fun tg kk => XS.aloadN X0.here hx rfl (hb hby own_d2_0) rfl rfl kk) ?_
  obtain ⟨T1, X1, e1, st1⟩ := initO X0 hx hZ hown (hw _ (List.mem_of_getElem? (i := 11) rfl)) (hw _ (List.mem_of_getElem? (i := 12) rfl)) (hw _ (List.mem_of_getElem? (i := 13) rfl)) e0 (g := (mkF m 1 #[.val (.ref a)] [(.ref a)])) rfl (by rw [hml]; rfl) rfl (hb hby own_d2_1) (by decide) (W := 0) (by show 2 * 0 + _ ≤ _; exact Nat.le_of_eq rfl) (by decide)
  refine OwnGo.back (T1.setTop (mkF m 4 #[.val (.ref a)] [])) (fun tg kk => st1 _ kk) ?_
  obtain ⟨fs, hr, hrun, hended, hW, hsame⟩ := X1.leave (v := none) (fun _ => rfl)
  refine ⟨_, _, ?_, hrun, hended, _, _, rfl, ?_, ⟨_, rfl⟩, hW, hsame.mono (by decide) (by decide)⟩
  · exact X1.returnOut hx Bd.returns (hb hby own_d2_4) hr
  · show own_rec_Q Z a h0 n0 _ T1.heap _
    rw [e1]
    exact ⟨rfl, N0, rfl⟩
theorem own_ck_ef (m : MethodId) (x0 : Addr) (x1 : Int64) (x2 : Int64) : entryFrame m #[(.ref x0), (.long x1), (.long x2)] 5 = mkF m 0 #[.val (.ref x0), .val (.long x1), .second, .val (.long x2), .second] [] := by first | (simp [entryFrame, mkF, argsToLocals, Value.category]; done) | rfl
def own_ck_Q (Z : State) (t : Addr) (v0 : Int64) (v1 : Int64) (h0 : Heap) (n0 : Nat) (rv : Option Value) (hN : Heap) (LL : List Loc) : Prop := rv = none ∧ Fr n0 LL ∧ Keep h0 hN [t] ∧ Exa Z hN t "com/example/lienledger/lienledger/io/Checksum" ∧ Fld Z hN t "com/example/lienledger/lienledger/io/Checksum" "crc32c" "J" (.long v0) ∧ Fld Z hN t "com/example/lienledger/lienledger/io/Checksum" "length" "J" (.long v1)
set_option maxRecDepth 65536 in
set_option maxHeartbeats 40000000 in
theorem own_ck (l : Launch) (Z : State) (a0 : Array Value) (hw : ∀ d ∈ tables_1, d.before a0 Z = true) (ws : List Jvm.Cond) (t : Addr) (v0 : Int64) (v1 : Int64) (h0 : Heap) (n0 : Nat) (Z0 : n0 ≤ h0.size) (H0 : Exa Z h0 t "com/example/lienledger/lienledger/io/Checksum") (H1 : Fld Z h0 t "com/example/lienledger/lienledger/io/Checksum" "crc32c" "J" (.long (0 : Int64))) (H2 : Fld Z h0 t "com/example/lienledger/lienledger/io/Checksum" "length" "J" (.long (0 : Int64))) (H3 : n0 ≤ t) :
    MetFree l (⟨"com/example/lienledger/lienledger/io/Checksum", "<init>", "(JJ)V"⟩ : MethodName) (head1 (Jvm.Cond.code (⟨"com/example/lienledger/lienledger/io/Checksum", "<init>", "(JJ)V"⟩ : MethodName) prog_17_method_1_code 5 none :: ws) ({ frames := 2, cells := 0, slots := 0, locals := 24 } : Room)) (fun aa UU => aa = #[(.ref t), (.long v0), (.long v1)] ∧ Z.Warmed39 UU.vm ∧ UU.heap = h0) (fun _ _ _ _ _ => True) (fun _ UU oo UU' => ∃ rv LL, oo = .returned rv ∧ own_ck_Q Z t v0 v1 h0 n0 rv UU'.heap LL ∧ FrameEnd UU oo UU' LL ({ frames := 2, cells := 0, slots := 0, locals := 24 } : Room).cells ({ frames := 2, cells := 0, slots := 0, locals := 24 } : Room).slots) := by
  refine MetFree.of_bodySF (plainFor_of_name own_pn3) hisR ?_
  intro p e s m args below meth c s₁ Bd hml0 hP hK
  obtain ⟨rfl, hZ, hh⟩ := hP
  have hx := Bd.exec
  have hby := Bd.bytes
  have hml : c.maxLocals = 5 := hml0
  have hown : s.vm.findClass "com/example/lienledger/lienledger/io/Checksum" = some m.cls := findClass_of_methodNamed Bd.named
  have hnm := (name_of_methodNamed Bd.named Bd.method).1
  have X0 : Stand p l e ({ frames := 2, cells := 0, slots := 0, locals := 24 } : Room) s m #[(.ref t), (.long v0), (.long v1)] below meth c s₁ [] 0 0 := Stand.of_body Bd
  have e0 : s₁.heap = h0 := by rw [← hh, Bd.state]; rfl
  have N0 := Fr.nil n0
  have K0 : Keep h0 h0 [t] := Keep.refl h0 _
  refine (?_ : OwnGo p.tables e below (fun UU' oo => ∃ rv LL, oo = .returned rv ∧ own_ck_Q Z t v0 v1 h0 n0 rv UU'.heap LL ∧ FrameEnd s oo UU' LL ({ frames := 2, cells := 0, slots := 0, locals := 24 } : Room).cells ({ frames := 2, cells := 0, slots := 0, locals := 24 } : Room).slots) _)
  refine OwnGo.back (s₁.setTop (mkF m 0 #[.val (.ref t), .val (.long v0), .second, .val (.long v1), .second] [])) (fun tg kk => castTop (own_ck_ef m t v0 v1) kk) ?_
  refine OwnGo.back (s₁.setTop (mkF m 1 #[.val (.ref t), .val (.long v0), .second, .val (.long v1), .second] [(.ref t)])) (fun tg kk => XS.aloadN X0.here hx rfl (hb hby own_d1_0) rfl rfl kk) ?_
  obtain ⟨_, _, ⟨T1, L1, k1, n1⟩, -, X1, ⟨Lc1, hQ1, l1, y1, z1⟩, st1⟩ := X0.specialBack hx (y := (⟨"java/lang/Record", "<init>", "()V"⟩ : MethodName)) rfl hown (mvT hZ (hw _ (List.mem_of_getElem? (i := 6) rfl))) (mvT hZ (hw _ (List.mem_of_getElem? (i := 7) rfl))) (mvT hZ (hw _ (List.mem_of_getElem? (i := 10) rfl))) (by decide) (backOf (W := 0) (own_rec l Z a0 hw [] t h0 n0 Z0 ) hZ (hw _ (List.mem_of_getElem? (i := 10) rfl)) (hw _ (List.mem_of_getElem? (i := 9) rfl)) (by decide) (by decide)) (g := (mkF m 1 #[.val (.ref t), .val (.long v0), .second, .val (.long v1), .second] [(.ref t)])) rfl (by rw [hml]; rfl) (Steps.refl _) (a := t) (argsL := []) (rest := []) (lenOf own_pd0 rfl) rfl (by show 2 * 0 + _ ≤ _; exact Nat.le_of_eq rfl) (hb hby own_d1_1) (fun _ _ => ⟨rfl, e0, (by decide : 0 + 0 ≤ _), (by decide : 0 + 0 ≤ _)⟩)
  dsimp only [Pt.U, Pt.locs, Pt.cells, Pt.slots] at X1 l1 y1 z1 st1 hQ1
  subst l1 y1 z1
  obtain ⟨rfl, N1q, e1⟩ := hQ1
  have N1 := Fr.app N0 N1q
  refine OwnGo.back (T1.setTop (mkF m 4 #[.val (.ref t), .val (.long v0), .second, .val (.long v1), .second] [])) (fun tg kk => st1.trans kk) ?_
  refine OwnGo.back (T1.setTop (mkF m 5 #[.val (.ref t), .val (.long v0), .second, .val (.long v1), .second] [(.ref t)])) (fun tg kk => XS.aloadN X1.here hx rfl (hb hby own_d1_4) rfl rfl kk) ?_
  refine OwnGo.back (T1.setTop (mkF m 6 #[.val (.ref t), .val (.long v0), .second, .val (.long v1), .second] [(.long v0), (.ref t)])) (fun tg kk => XS.lloadN X1.here hx rfl (hb hby own_d1_5) rfl kk) ?_
  obtain ⟨T2, h2, X2, e2, W2, st2⟩ := putF X1 hx hZ hown (host := "") (Or.inl (hw _ (List.mem_of_getElem? (i := 14) rfl))) Via.refl e1 H1 H0 (Or.inr ⟨(hw _ (List.mem_of_getElem? (i := 15) rfl)), rfl, hnm⟩) (hw _ (List.mem_of_getElem? (i := 1) rfl)) (ty := .long) (by decide) rfl rfl (g := (mkF m 6 #[.val (.ref t), .val (.long v0), .second, .val (.long v1), .second] [(.long v0), (.ref t)])) rfl rfl (hb hby own_d1_6)
  have f3 : Fld Z h2 t "com/example/lienledger/lienledger/io/Checksum" "crc32c" "J" (.long v0) := H1.same W2
  have f4 : Exa Z h2 t "com/example/lienledger/lienledger/io/Checksum" := H0.wr W2
  have f5 : Fld Z h2 t "com/example/lienledger/lienledger/io/Checksum" "length" "J" (.long (0 : Int64)) := H2.other W2 (Or.inr (slot_ne (Or.inr (hw _ (List.mem_of_getElem? (i := 17) rfl))) (Or.inr (hw _ (List.mem_of_getElem? (i := 15) rfl))) (by decide) (t := .long) (t' := .long) (by decide) (by decide)))
  have K6 : Keep h0 h2 [t] := K0.wr W2 (Or.inl (List.mem_of_getElem? (i := 0) rfl))
  have Z7 : n0 ≤ h2.size := Nat.le_trans Z0 (Keep.of_wr W2).1
  have N8 := Fr.snoc X2 N1 H3
  refine OwnGo.back (T2.setTop (mkF m 9 #[.val (.ref t), .val (.long v0), .second, .val (.long v1), .second] [])) (fun tg kk => st2 _ kk) ?_
  refine OwnGo.back (T2.setTop (mkF m 10 #[.val (.ref t), .val (.long v0), .second, .val (.long v1), .second] [(.ref t)])) (fun tg kk => XS.aloadN X2.here hx rfl (hb hby own_d1_9) rfl rfl kk) ?_
  refine OwnGo.back (T2.setTop (mkF m 11 #[.val (.ref t), .val (.long v0), .second, .val (.long v1), .second] [(.long v1), (.ref t)])) (fun tg kk => XS.lloadN X2.here hx rfl (hb hby own_d1_10) rfl kk) ?_
  obtain ⟨T9, h9, X9, e9, W9, st9⟩ := putF X2 hx hZ hown (host := "") (Or.inl (hw _ (List.mem_of_getElem? (i := 16) rfl))) Via.refl e2 f5 f4 (Or.inr ⟨(hw _ (List.mem_of_getElem? (i := 17) rfl)), rfl, hnm⟩) (hw _ (List.mem_of_getElem? (i := 1) rfl)) (ty := .long) (by decide) rfl rfl (g := (mkF m 11 #[.val (.ref t), .val (.long v0), .second, .val (.long v1), .second] [(.long v1), (.ref t)])) rfl rfl (hb hby own_d1_11)
  have f10 : Fld Z h9 t "com/example/lienledger/lienledger/io/Checksum" "length" "J" (.long v1) := f5.same W9
  have f11 : Exa Z h9 t "com/example/lienledger/lienledger/io/Checksum" := f4.wr W9
  have f12 : Fld Z h9 t "com/example/lienledger/lienledger/io/Checksum" "crc32c" "J" (.long v0) := f3.other W9 (Or.inr (slot_ne (Or.inr (hw _ (List.mem_of_getElem? (i := 15) rfl))) (Or.inr (hw _ (List.mem_of_getElem? (i := 17) rfl))) (by decide) (t := .long) (t' := .long) (by decide) (by decide)))
  have K13 : Keep h0 h9 [t] := K6.wr W9 (Or.inl (List.mem_of_getElem? (i := 0) rfl))
  have Z14 : n0 ≤ h9.size := Nat.le_trans Z7 (Keep.of_wr W9).1
  have N15 := Fr.snoc X9 N8 H3
  refine OwnGo.back (T9.setTop (mkF m 14 #[.val (.ref t), .val (.long v0), .second, .val (.long v1), .second] [])) (fun tg kk => st9 _ kk) ?_
  obtain ⟨fs, hr, hrun, hended, hW, hsame⟩ := X9.leave (v := none) (fun _ => rfl)
  refine ⟨_, _, ?_, hrun, hended, _, _, rfl, ?_, ⟨_, rfl⟩, hW, hsame.mono (by decide) (by decide)⟩
  · exact X9.returnOut hx Bd.returns (hb hby own_d1_14) hr
  · show own_ck_Q Z t v0 v1 h0 n0 _ T9.heap _
    rw [e9]
    exact ⟨rfl, N15, K13, f11, f12, f10⟩
theorem own_eqn_ef (m : MethodId) (x0 : Addr) : entryFrame m #[(.ref x0), .null] 3 = mkF m 0 #[.val (.ref x0), .val .null, .unset] [] := by first | (simp [entryFrame, mkF, argsToLocals, Value.category]; done) | rfl
def own_eqn_Q (Z : State) (t : Addr) (h0 : Heap) (n0 : Nat) (rv : Option Value) (hN : Heap) (LL : List Loc) : Prop := rv = some (.int (0 : Int32)) ∧ Fr n0 LL ∧ hN = h0
set_option maxRecDepth 65536 in
set_option maxHeartbeats 40000000 in
theorem own_eqn (l : Launch) (Z : State) (a0 : Array Value) (hw : ∀ d ∈ tables_1, d.before a0 Z = true) (ws : List Jvm.Cond) (t : Addr) (h0 : Heap) (n0 : Nat) (Z0 : n0 ≤ h0.size) :
    MetFree l (⟨"com/example/lienledger/lienledger/io/Checksum", "equals", "(Ljava/lang/Object;)Z"⟩ : MethodName) (head1 (Jvm.Cond.code (⟨"com/example/lienledger/lienledger/io/Checksum", "equals", "(Ljava/lang/Object;)Z"⟩ : MethodName) prog_17_method_3_code 3 (some .boolean) :: ws) ({ frames := 0, cells := 0, slots := 0, locals := 0 } : Room)) (fun aa UU => aa = #[(.ref t), .null] ∧ Z.Warmed39 UU.vm ∧ UU.heap = h0) (fun _ _ _ _ _ => True) (fun _ UU oo UU' => ∃ rv LL, oo = .returned rv ∧ own_eqn_Q Z t h0 n0 rv UU'.heap LL ∧ FrameEnd UU oo UU' LL ({ frames := 0, cells := 0, slots := 0, locals := 0 } : Room).cells ({ frames := 0, cells := 0, slots := 0, locals := 0 } : Room).slots) := by
  refine MetFree.of_bodySF (plainFor_of_name own_pn3) hisR ?_
  intro p e s m args below meth c s₁ Bd hml0 hP hK
  obtain ⟨rfl, hZ, hh⟩ := hP
  have hx := Bd.exec
  have hby := Bd.bytes
  have hml : c.maxLocals = 3 := hml0
  have hown : s.vm.findClass "com/example/lienledger/lienledger/io/Checksum" = some m.cls := findClass_of_methodNamed Bd.named
  have hnm := (name_of_methodNamed Bd.named Bd.method).1
  have X0 : Stand p l e ({ frames := 0, cells := 0, slots := 0, locals := 0 } : Room) s m #[(.ref t), .null] below meth c s₁ [] 0 0 := Stand.of_body Bd
  have e0 : s₁.heap = h0 := by rw [← hh, Bd.state]; rfl
  have N0 := Fr.nil n0
  have K0 : Keep h0 h0 [] := Keep.refl h0 _
  refine (?_ : OwnGo p.tables e below (fun UU' oo => ∃ rv LL, oo = .returned rv ∧ own_eqn_Q Z t h0 n0 rv UU'.heap LL ∧ FrameEnd s oo UU' LL ({ frames := 0, cells := 0, slots := 0, locals := 0 } : Room).cells ({ frames := 0, cells := 0, slots := 0, locals := 0 } : Room).slots) _)
  refine OwnGo.back (s₁.setTop (mkF m 0 #[.val (.ref t), .val .null, .unset] [])) (fun tg kk => castTop (own_eqn_ef m t) kk) ?_
  refine OwnGo.back (s₁.setTop (mkF m 1 #[.val (.ref t), .val .null, .unset] [.null])) (fun tg kk => XS.aloadN X0.here hx rfl (hb hby own_d4_0) rfl rfl kk) ?_
  refine OwnGo.back (s₁.setTop (mkF m 4 #[.val (.ref t), .val .null, .unset] [(.int (0 : Int32))])) (fun tg kk => X0.instanceofNull hx (g := (mkF m 1 #[.val (.ref t), .val .null, .unset] [.null])) rfl rfl (hb hby own_d4_1) _ kk) ?_
  refine OwnGo.back (s₁.setTop (mkF m 40 #[.val (.ref t), .val .null, .unset] [])) (fun tg kk => XS.ifYes X0.here hx rfl (pc0 := 4) (pc' := 40) rfl (hb hby own_d4_4) rfl ((if0 _ _).trans (teq (by decide : (0 : Int32) = (0 : Int32))).1) (by decide) (by decide) kk) ?_
  refine OwnGo.back (s₁.setTop (mkF m 41 #[.val (.ref t), .val .null, .unset] [(.int (0 : Int32))])) (fun tg kk => XS.iconst X0.here hx rfl (hb hby own_d4_40) kk) ?_
  obtain ⟨fs, hr, hrun, hended, hW, hsame⟩ := X0.leave (v := some (.int (0 : Int32))) (fun h => by rw [Bd.returns] at h; cases h)
  refine ⟨_, _, ?_, hrun, hended, _, _, rfl, ?_, ⟨_, rfl⟩, hW, hsame.mono (by decide) (by decide)⟩
  · exact retN X0 hx (t := .boolean) Bd.returns (by simp) (hb hby own_d4_41) hr
  · show own_eqn_Q Z t h0 n0 _ s₁.heap _
    rw [e0]
    exact ⟨rfl, N0, rfl⟩
theorem own_eql_ef (m : MethodId) (x0 : Addr) (x1 : Addr) : entryFrame m #[(.ref x0), (.ref x1)] 3 = mkF m 0 #[.val (.ref x0), .val (.ref x1), .unset] [] := by first | (simp [entryFrame, mkF, argsToLocals, Value.category]; done) | rfl
def own_eql_Q (Z : State) (t : Addr) (u : Addr) (h0 : Heap) (n0 : Nat) (rv : Option Value) (hN : Heap) (LL : List Loc) : Prop := rv = some (.int (0 : Int32)) ∧ Fr n0 LL ∧ hN = h0
set_option maxRecDepth 65536 in
set_option maxHeartbeats 40000000 in
theorem own_eql (l : Launch) (Z : State) (a0 : Array Value) (hw : ∀ d ∈ tables_1, d.before a0 Z = true) (ws : List Jvm.Cond) (t : Addr) (u : Addr) (h0 : Heap) (n0 : Nat) (Z0 : n0 ≤ h0.size) (H0 : Exa Z h0 u "java/lang/Long") :
    MetFree l (⟨"com/example/lienledger/lienledger/io/Checksum", "equals", "(Ljava/lang/Object;)Z"⟩ : MethodName) (head1 (Jvm.Cond.code (⟨"com/example/lienledger/lienledger/io/Checksum", "equals", "(Ljava/lang/Object;)Z"⟩ : MethodName) prog_17_method_3_code 3 (some .boolean) :: ws) ({ frames := 0, cells := 0, slots := 0, locals := 0 } : Room)) (fun aa UU => aa = #[(.ref t), (.ref u)] ∧ Z.Warmed39 UU.vm ∧ UU.heap = h0) (fun _ _ _ _ _ => True) (fun _ UU oo UU' => ∃ rv LL, oo = .returned rv ∧ own_eql_Q Z t u h0 n0 rv UU'.heap LL ∧ FrameEnd UU oo UU' LL ({ frames := 0, cells := 0, slots := 0, locals := 0 } : Room).cells ({ frames := 0, cells := 0, slots := 0, locals := 0 } : Room).slots) := by
  refine MetFree.of_bodySF (plainFor_of_name own_pn3) hisR ?_
  intro p e s m args below meth c s₁ Bd hml0 hP hK
  obtain ⟨rfl, hZ, hh⟩ := hP
  have hx := Bd.exec
  have hby := Bd.bytes
  have hml : c.maxLocals = 3 := hml0
  have hown : s.vm.findClass "com/example/lienledger/lienledger/io/Checksum" = some m.cls := findClass_of_methodNamed Bd.named
  have hnm := (name_of_methodNamed Bd.named Bd.method).1
  have X0 : Stand p l e ({ frames := 0, cells := 0, slots := 0, locals := 0 } : Room) s m #[(.ref t), (.ref u)] below meth c s₁ [] 0 0 := Stand.of_body Bd
  have e0 : s₁.heap = h0 := by rw [← hh, Bd.state]; rfl
  have N0 := Fr.nil n0
  have K0 : Keep h0 h0 [] := Keep.refl h0 _
  refine (?_ : OwnGo p.tables e below (fun UU' oo => ∃ rv LL, oo = .returned rv ∧ own_eql_Q Z t u h0 n0 rv UU'.heap LL ∧ FrameEnd s oo UU' LL ({ frames := 0, cells := 0, slots := 0, locals := 0 } : Room).cells ({ frames := 0, cells := 0, slots := 0, locals := 0 } : Room).slots) _)
  refine OwnGo.back (s₁.setTop (mkF m 0 #[.val (.ref t), .val (.ref u), .unset] [])) (fun tg kk => castTop (own_eql_ef m t u) kk) ?_
  refine OwnGo.back (s₁.setTop (mkF m 1 #[.val (.ref t), .val (.ref u), .unset] [(.ref u)])) (fun tg kk => XS.aloadN X0.here hx rfl (hb hby own_d4_0) rfl rfl kk) ?_
  obtain ⟨T1, X1, e1, st1⟩ := instNo X0 hx hZ hown (hw _ (List.mem_of_getElem? (i := 23) rfl)) e0 H0 (own_nsno (hw _ (List.mem_of_getElem? (i := 46) rfl)) (hw _ (List.mem_of_getElem? (i := 1) rfl)) (NS.step (hw _ (List.mem_of_getElem? (i := 46) rfl)) (NS.step (hw _ (List.mem_of_getElem? (i := 47) rfl)) (own_nsroot (hw _ (List.mem_of_getElem? (i := 48) rfl)) (hw _ (List.mem_of_getElem? (i := 1) rfl)) (by decide)) (by decide)) (by decide)) (by decide)) (g := (mkF m 1 #[.val (.ref t), .val (.ref u), .unset] [(.ref u)])) rfl rfl (hb hby own_d4_1)
  refine OwnGo.back (T1.setTop (mkF m 4 #[.val (.ref t), .val (.ref u), .unset] [(.int (0 : Int32))])) (fun tg kk => st1 _ kk) ?_
  refine OwnGo.back (T1.setTop (mkF m 40 #[.val (.ref t), .val (.ref u), .unset] [])) (fun tg kk => XS.ifYes X1.here hx rfl (pc0 := 4) (pc' := 40) rfl (hb hby own_d4_4) rfl ((if0 _ _).trans (teq (by decide : (0 : Int32) = (0 : Int32))).1) (by decide) (by decide) kk) ?_
  refine OwnGo.back (T1.setTop (mkF m 41 #[.val (.ref t), .val (.ref u), .unset] [(.int (0 : Int32))])) (fun tg kk => XS.iconst X1.here hx rfl (hb hby own_d4_40) kk) ?_
  obtain ⟨fs, hr, hrun, hended, hW, hsame⟩ := X1.leave (v := some (.int (0 : Int32))) (fun h => by rw [Bd.returns] at h; cases h)
  refine ⟨_, _, ?_, hrun, hended, _, _, rfl, ?_, ⟨_, rfl⟩, hW, hsame.mono (by decide) (by decide)⟩
  · exact retN X1 hx (t := .boolean) Bd.returns (by simp) (hb hby own_d4_41) hr
  · show own_eql_Q Z t u h0 n0 _ T1.heap _
    rw [e1]
    exact ⟨rfl, N0, rfl⟩
theorem own_eqs_ef (m : MethodId) (x0 : Addr) (x1 : Addr) : entryFrame m #[(.ref x0), (.ref x1)] 3 = mkF m 0 #[.val (.ref x0), .val (.ref x1), .unset] [] := by first | (simp [entryFrame, mkF, argsToLocals, Value.category]; done) | rfl
def own_eqs_Q (Z : State) (t : Addr) (v0 : Int64) (v1 : Int64) (h0 : Heap) (n0 : Nat) (rv : Option Value) (hN : Heap) (LL : List Loc) : Prop := rv = some (.int (1 : Int32)) ∧ Fr n0 LL ∧ hN = h0
set_option maxRecDepth 65536 in
set_option maxHeartbeats 40000000 in
theorem own_eqs (l : Launch) (Z : State) (a0 : Array Value) (hw : ∀ d ∈ tables_1, d.before a0 Z = true) (ws : List Jvm.Cond) (t : Addr) (v0 : Int64) (v1 : Int64) (h0 : Heap) (n0 : Nat) (Z0 : n0 ≤ h0.size) (H0 : Exa Z h0 t "com/example/lienledger/lienledger/io/Checksum") (H1 : Fld Z h0 t "com/example/lienledger/lienledger/io/Checksum" "crc32c" "J" (.long v0)) (H2 : Fld Z h0 t "com/example/lienledger/lienledger/io/Checksum" "length" "J" (.long v1)) :
    MetFree l (⟨"com/example/lienledger/lienledger/io/Checksum", "equals", "(Ljava/lang/Object;)Z"⟩ : MethodName) (head1 (Jvm.Cond.code (⟨"com/example/lienledger/lienledger/io/Checksum", "equals", "(Ljava/lang/Object;)Z"⟩ : MethodName) prog_17_method_3_code 3 (some .boolean) :: ws) ({ frames := 0, cells := 0, slots := 0, locals := 0 } : Room)) (fun aa UU => aa = #[(.ref t), (.ref t)] ∧ Z.Warmed39 UU.vm ∧ UU.heap = h0) (fun _ _ _ _ _ => True) (fun _ UU oo UU' => ∃ rv LL, oo = .returned rv ∧ own_eqs_Q Z t v0 v1 h0 n0 rv UU'.heap LL ∧ FrameEnd UU oo UU' LL ({ frames := 0, cells := 0, slots := 0, locals := 0 } : Room).cells ({ frames := 0, cells := 0, slots := 0, locals := 0 } : Room).slots) := by
  refine MetFree.of_bodySF (plainFor_of_name own_pn3) hisR ?_
  intro p e s m args below meth c s₁ Bd hml0 hP hK
  obtain ⟨rfl, hZ, hh⟩ := hP
  have hx := Bd.exec
  have hby := Bd.bytes
  have hml : c.maxLocals = 3 := hml0
  have hown : s.vm.findClass "com/example/lienledger/lienledger/io/Checksum" = some m.cls := findClass_of_methodNamed Bd.named
  have hnm := (name_of_methodNamed Bd.named Bd.method).1
  have X0 : Stand p l e ({ frames := 0, cells := 0, slots := 0, locals := 0 } : Room) s m #[(.ref t), (.ref t)] below meth c s₁ [] 0 0 := Stand.of_body Bd
  have e0 : s₁.heap = h0 := by rw [← hh, Bd.state]; rfl
  have N0 := Fr.nil n0
  have K0 : Keep h0 h0 [] := Keep.refl h0 _
  refine (?_ : OwnGo p.tables e below (fun UU' oo => ∃ rv LL, oo = .returned rv ∧ own_eqs_Q Z t v0 v1 h0 n0 rv UU'.heap LL ∧ FrameEnd s oo UU' LL ({ frames := 0, cells := 0, slots := 0, locals := 0 } : Room).cells ({ frames := 0, cells := 0, slots := 0, locals := 0 } : Room).slots) _)
  refine OwnGo.back (s₁.setTop (mkF m 0 #[.val (.ref t), .val (.ref t), .unset] [])) (fun tg kk => castTop (own_eqs_ef m t t) kk) ?_
  refine OwnGo.back (s₁.setTop (mkF m 1 #[.val (.ref t), .val (.ref t), .unset] [(.ref t)])) (fun tg kk => XS.aloadN X0.here hx rfl (hb hby own_d4_0) rfl rfl kk) ?_
  obtain ⟨T1, X1, e1, st1⟩ := instY X0 hx hZ hown (hw _ (List.mem_of_getElem? (i := 23) rfl)) e0 (Ins.self H0) (g := (mkF m 1 #[.val (.ref t), .val (.ref t), .unset] [(.ref t)])) rfl rfl (hb hby own_d4_1)
  refine OwnGo.back (T1.setTop (mkF m 4 #[.val (.ref t), .val (.ref t), .unset] [(.int (1 : Int32))])) (fun tg kk => st1 _ kk) ?_
  refine OwnGo.back (T1.setTop (mkF m 7 #[.val (.ref t), .val (.ref t), .unset] [])) (fun tg kk => XS.ifNo X1.here hx rfl (hb hby own_d4_4) rfl ((if0 _ _).trans (feq (by decide : ¬ ((1 : Int32) = (0 : Int32)))).1) kk) ?_
  refine OwnGo.back (T1.setTop (mkF m 8 #[.val (.ref t), .val (.ref t), .unset] [(.ref t)])) (fun tg kk => XS.aloadN X1.here hx rfl (hb hby own_d4_7) rfl rfl kk) ?_
  obtain ⟨T2, X2, e2, st2⟩ := castY X1 hx hZ hown (hw _ (List.mem_of_getElem? (i := 23) rfl)) e1 (Ins.self H0) (g := (mkF m 8 #[.val (.ref t), .val (.ref t), .unset] [(.ref t)])) rfl rfl (hb hby own_d4_8)
  refine OwnGo.back (T2.setTop (mkF m 11 #[.val (.ref t), .val (.ref t), .unset] [(.ref t)])) (fun tg kk => st2 _ kk) ?_
  refine OwnGo.back (T2.setTop (mkF m 12 #[.val (.ref t), .val (.ref t), .val (.ref t)] [])) (fun tg kk => XS.astoreN X2.here hx rfl (hb hby own_d4_11) rfl rfl (l' := #[.val (.ref t), .val (.ref t), .val (.ref t)]) rfl kk) ?_
  refine OwnGo.back (T2.setTop (mkF m 13 #[.val (.ref t), .val (.ref t), .val (.ref t)] [(.ref t)])) (fun tg kk => XS.aloadN X2.here hx rfl (hb hby own_d4_12) rfl rfl kk) ?_
  obtain ⟨T3, X3, e3, st3⟩ := getF X2 hx hZ hown (host := "") (Or.inl (hw _ (List.mem_of_getElem? (i := 14) rfl))) Via.refl e2 H1 (g := (mkF m 13 #[.val (.ref t), .val (.ref t), .val (.ref t)] [(.ref t)])) rfl rfl (hb hby own_d4_13)
  refine OwnGo.back (T3.setTop (mkF m 16 #[.val (.ref t), .val (.ref t), .val (.ref t)] [(.long v0)])) (fun tg kk => st3 _ kk) ?_
  refine OwnGo.back (T3.setTop (mkF m 17 #[.val (.ref t), .val (.ref t), .val (.ref t)] [(.ref t), (.long v0)])) (fun tg kk => XS.aloadN X3.here hx rfl (hb hby own_d4_16) rfl rfl kk) ?_
  obtain ⟨T4, X4, e4, st4⟩ := getF X3 hx hZ hown (host := "") (Or.inl (hw _ (List.mem_of_getElem? (i := 14) rfl))) Via.refl e3 H1 (g := (mkF m 17 #[.val (.ref t), .val (.ref t), .val (.ref t)] [(.ref t), (.long v0)])) rfl rfl (hb hby own_d4_17)
  refine OwnGo.back (T4.setTop (mkF m 20 #[.val (.ref t), .val (.ref t), .val (.ref t)] [(.long v0), (.long v0)])) (fun tg kk => st4 _ kk) ?_
  refine OwnGo.back (T4.setTop (mkF m 21 #[.val (.ref t), .val (.ref t), .val (.ref t)] [(.int (lcmpW v0 v0))])) (fun tg kk => XS.lcmp X4.here hx rfl (hb hby own_d4_20) rfl kk) ?_
  refine OwnGo.back (T4.setTop (mkF m 24 #[.val (.ref t), .val (.ref t), .val (.ref t)] [])) (fun tg kk => XS.ifNo X4.here hx rfl (hb hby own_d4_21) rfl ((if0 _ _).trans (teq ((lw_eq _ _).mpr (rfl : v0 = v0))).2) kk) ?_
  refine OwnGo.back (T4.setTop (mkF m 25 #[.val (.ref t), .val (.ref t), .val (.ref t)] [(.ref t)])) (fun tg kk => XS.aloadN X4.here hx rfl (hb hby own_d4_24) rfl rfl kk) ?_
  obtain ⟨T5, X5, e5, st5⟩ := getF X4 hx hZ hown (host := "") (Or.inl (hw _ (List.mem_of_getElem? (i := 16) rfl))) Via.refl e4 H2 (g := (mkF m 25 #[.val (.ref t), .val (.ref t), .val (.ref t)] [(.ref t)])) rfl rfl (hb hby own_d4_25)
  refine OwnGo.back (T5.setTop (mkF m 28 #[.val (.ref t), .val (.ref t), .val (.ref t)] [(.long v1)])) (fun tg kk => st5 _ kk) ?_
  refine OwnGo.back (T5.setTop (mkF m 29 #[.val (.ref t), .val (.ref t), .val (.ref t)] [(.ref t), (.long v1)])) (fun tg kk => XS.aloadN X5.here hx rfl (hb hby own_d4_28) rfl rfl kk) ?_
  obtain ⟨T6, X6, e6, st6⟩ := getF X5 hx hZ hown (host := "") (Or.inl (hw _ (List.mem_of_getElem? (i := 16) rfl))) Via.refl e5 H2 (g := (mkF m 29 #[.val (.ref t), .val (.ref t), .val (.ref t)] [(.ref t), (.long v1)])) rfl rfl (hb hby own_d4_29)
  refine OwnGo.back (T6.setTop (mkF m 32 #[.val (.ref t), .val (.ref t), .val (.ref t)] [(.long v1), (.long v1)])) (fun tg kk => st6 _ kk) ?_
  refine OwnGo.back (T6.setTop (mkF m 33 #[.val (.ref t), .val (.ref t), .val (.ref t)] [(.int (lcmpW v1 v1))])) (fun tg kk => XS.lcmp X6.here hx rfl (hb hby own_d4_32) rfl kk) ?_
  refine OwnGo.back (T6.setTop (mkF m 36 #[.val (.ref t), .val (.ref t), .val (.ref t)] [])) (fun tg kk => XS.ifNo X6.here hx rfl (hb hby own_d4_33) rfl ((if0 _ _).trans (teq ((lw_eq _ _).mpr (rfl : v1 = v1))).2) kk) ?_
  refine OwnGo.back (T6.setTop (mkF m 37 #[.val (.ref t), .val (.ref t), .val (.ref t)] [(.int (1 : Int32))])) (fun tg kk => XS.iconst X6.here hx rfl (hb hby own_d4_36) kk) ?_
  refine OwnGo.back (T6.setTop (mkF m 41 #[.val (.ref t), .val (.ref t), .val (.ref t)] [(.int (1 : Int32))])) (fun tg kk => XS.goto X6.here hx rfl (pc0 := 37) (pc' := 41) rfl (hb hby own_d4_37) (by decide) (by decide) kk) ?_
  obtain ⟨fs, hr, hrun, hended, hW, hsame⟩ := X6.leave (v := some (.int (1 : Int32))) (fun h => by rw [Bd.returns] at h; cases h)
  refine ⟨_, _, ?_, hrun, hended, _, _, rfl, ?_, ⟨_, rfl⟩, hW, hsame.mono (by decide) (by decide)⟩
  · exact retN X6 hx (t := .boolean) Bd.returns (by simp) (hb hby own_d4_41) hr
  · show own_eqs_Q Z t v0 v1 h0 n0 _ T6.heap _
    rw [e6]
    exact ⟨rfl, N0, rfl⟩
theorem own_eqt_ef (m : MethodId) (x0 : Addr) (x1 : Addr) : entryFrame m #[(.ref x0), (.ref x1)] 3 = mkF m 0 #[.val (.ref x0), .val (.ref x1), .unset] [] := by first | (simp [entryFrame, mkF, argsToLocals, Value.category]; done) | rfl
def own_eqt_Q (Z : State) (t : Addr) (u : Addr) (v0 : Int64) (v1 : Int64) (w0 : Int64) (w1 : Int64) (h0 : Heap) (n0 : Nat) (rv : Option Value) (hN : Heap) (LL : List Loc) : Prop := ∃ (r : Int32), rv = some (.int r) ∧ Fr n0 LL ∧ hN = h0 ∧ ((r = 1 ∧ v0 = w0 ∧ v1 = w1) ∨ (r = 0 ∧ ¬ (v0 = w0 ∧ v1 = w1)))
set_option maxRecDepth 65536 in
set_option maxHeartbeats 40000000 in
theorem own_eqt (l : Launch) (Z : State) (a0 : Array Value) (hw : ∀ d ∈ tables_1, d.before a0 Z = true) (ws : List Jvm.Cond) (t : Addr) (u : Addr) (v0 : Int64) (v1 : Int64) (w0 : Int64) (w1 : Int64) (h0 : Heap) (n0 : Nat) (Z0 : n0 ≤ h0.size) (H0 : Exa Z h0 u "com/example/lienledger/lienledger/io/Checksum") (H1 : Fld Z h0 t "com/example/lienledger/lienledger/io/Checksum" "crc32c" "J" (.long v0)) (H2 : Fld Z h0 t "com/example/lienledger/lienledger/io/Checksum" "length" "J" (.long v1)) (H3 : Fld Z h0 u "com/example/lienledger/lienledger/io/Checksum" "crc32c" "J" (.long w0)) (H4 : Fld Z h0 u "com/example/lienledger/lienledger/io/Checksum" "length" "J" (.long w1)) :
    MetFree l (⟨"com/example/lienledger/lienledger/io/Checksum", "equals", "(Ljava/lang/Object;)Z"⟩ : MethodName) (head1 (Jvm.Cond.code (⟨"com/example/lienledger/lienledger/io/Checksum", "equals", "(Ljava/lang/Object;)Z"⟩ : MethodName) prog_17_method_3_code 3 (some .boolean) :: ws) ({ frames := 0, cells := 0, slots := 0, locals := 0 } : Room)) (fun aa UU => aa = #[(.ref t), (.ref u)] ∧ Z.Warmed39 UU.vm ∧ UU.heap = h0) (fun _ _ _ _ _ => True) (fun _ UU oo UU' => ∃ rv LL, oo = .returned rv ∧ own_eqt_Q Z t u v0 v1 w0 w1 h0 n0 rv UU'.heap LL ∧ FrameEnd UU oo UU' LL ({ frames := 0, cells := 0, slots := 0, locals := 0 } : Room).cells ({ frames := 0, cells := 0, slots := 0, locals := 0 } : Room).slots) := by
  refine MetFree.of_bodySF (plainFor_of_name own_pn3) hisR ?_
  intro p e s m args below meth c s₁ Bd hml0 hP hK
  obtain ⟨rfl, hZ, hh⟩ := hP
  have hx := Bd.exec
  have hby := Bd.bytes
  have hml : c.maxLocals = 3 := hml0
  have hown : s.vm.findClass "com/example/lienledger/lienledger/io/Checksum" = some m.cls := findClass_of_methodNamed Bd.named
  have hnm := (name_of_methodNamed Bd.named Bd.method).1
  have X0 : Stand p l e ({ frames := 0, cells := 0, slots := 0, locals := 0 } : Room) s m #[(.ref t), (.ref u)] below meth c s₁ [] 0 0 := Stand.of_body Bd
  have e0 : s₁.heap = h0 := by rw [← hh, Bd.state]; rfl
  have N0 := Fr.nil n0
  have K0 : Keep h0 h0 [] := Keep.refl h0 _
  refine (?_ : OwnGo p.tables e below (fun UU' oo => ∃ rv LL, oo = .returned rv ∧ own_eqt_Q Z t u v0 v1 w0 w1 h0 n0 rv UU'.heap LL ∧ FrameEnd s oo UU' LL ({ frames := 0, cells := 0, slots := 0, locals := 0 } : Room).cells ({ frames := 0, cells := 0, slots := 0, locals := 0 } : Room).slots) _)
  refine OwnGo.back (s₁.setTop (mkF m 0 #[.val (.ref t), .val (.ref u), .unset] [])) (fun tg kk => castTop (own_eqt_ef m t u) kk) ?_
  refine OwnGo.back (s₁.setTop (mkF m 1 #[.val (.ref t), .val (.ref u), .unset] [(.ref u)])) (fun tg kk => XS.aloadN X0.here hx rfl (hb hby own_d4_0) rfl rfl kk) ?_
  obtain ⟨T1, X1, e1, st1⟩ := instY X0 hx hZ hown (hw _ (List.mem_of_getElem? (i := 23) rfl)) e0 (Ins.self H0) (g := (mkF m 1 #[.val (.ref t), .val (.ref u), .unset] [(.ref u)])) rfl rfl (hb hby own_d4_1)
  refine OwnGo.back (T1.setTop (mkF m 4 #[.val (.ref t), .val (.ref u), .unset] [(.int (1 : Int32))])) (fun tg kk => st1 _ kk) ?_
  refine OwnGo.back (T1.setTop (mkF m 7 #[.val (.ref t), .val (.ref u), .unset] [])) (fun tg kk => XS.ifNo X1.here hx rfl (hb hby own_d4_4) rfl ((if0 _ _).trans (feq (by decide : ¬ ((1 : Int32) = (0 : Int32)))).1) kk) ?_
  refine OwnGo.back (T1.setTop (mkF m 8 #[.val (.ref t), .val (.ref u), .unset] [(.ref u)])) (fun tg kk => XS.aloadN X1.here hx rfl (hb hby own_d4_7) rfl rfl kk) ?_
  obtain ⟨T2, X2, e2, st2⟩ := castY X1 hx hZ hown (hw _ (List.mem_of_getElem? (i := 23) rfl)) e1 (Ins.self H0) (g := (mkF m 8 #[.val (.ref t), .val (.ref u), .unset] [(.ref u)])) rfl rfl (hb hby own_d4_8)
  refine OwnGo.back (T2.setTop (mkF m 11 #[.val (.ref t), .val (.ref u), .unset] [(.ref u)])) (fun tg kk => st2 _ kk) ?_
  refine OwnGo.back (T2.setTop (mkF m 12 #[.val (.ref t), .val (.ref u), .val (.ref u)] [])) (fun tg kk => XS.astoreN X2.here hx rfl (hb hby own_d4_11) rfl rfl (l' := #[.val (.ref t), .val (.ref u), .val (.ref u)]) rfl kk) ?_
  refine OwnGo.back (T2.setTop (mkF m 13 #[.val (.ref t), .val (.ref u), .val (.ref u)] [(.ref t)])) (fun tg kk => XS.aloadN X2.here hx rfl (hb hby own_d4_12) rfl rfl kk) ?_
  obtain ⟨T3, X3, e3, st3⟩ := getF X2 hx hZ hown (host := "") (Or.inl (hw _ (List.mem_of_getElem? (i := 14) rfl))) Via.refl e2 H1 (g := (mkF m 13 #[.val (.ref t), .val (.ref u), .val (.ref u)] [(.ref t)])) rfl rfl (hb hby own_d4_13)
  refine OwnGo.back (T3.setTop (mkF m 16 #[.val (.ref t), .val (.ref u), .val (.ref u)] [(.long v0)])) (fun tg kk => st3 _ kk) ?_
  refine OwnGo.back (T3.setTop (mkF m 17 #[.val (.ref t), .val (.ref u), .val (.ref u)] [(.ref u), (.long v0)])) (fun tg kk => XS.aloadN X3.here hx rfl (hb hby own_d4_16) rfl rfl kk) ?_
  obtain ⟨T4, X4, e4, st4⟩ := getF X3 hx hZ hown (host := "") (Or.inl (hw _ (List.mem_of_getElem? (i := 14) rfl))) Via.refl e3 H3 (g := (mkF m 17 #[.val (.ref t), .val (.ref u), .val (.ref u)] [(.ref u), (.long v0)])) rfl rfl (hb hby own_d4_17)
  refine OwnGo.back (T4.setTop (mkF m 20 #[.val (.ref t), .val (.ref u), .val (.ref u)] [(.long w0), (.long v0)])) (fun tg kk => st4 _ kk) ?_
  refine OwnGo.back (T4.setTop (mkF m 21 #[.val (.ref t), .val (.ref u), .val (.ref u)] [(.int (lcmpW v0 w0))])) (fun tg kk => XS.lcmp X4.here hx rfl (hb hby own_d4_20) rfl kk) ?_
  by_cases hc5 : v0 = w0
  ·
    refine OwnGo.back (T4.setTop (mkF m 24 #[.val (.ref t), .val (.ref u), .val (.ref u)] [])) (fun tg kk => XS.ifNo X4.here hx rfl (hb hby own_d4_21) rfl ((if0 _ _).trans (teq ((lw_eq _ _).mpr hc5)).2) kk) ?_
    refine OwnGo.back (T4.setTop (mkF m 25 #[.val (.ref t), .val (.ref u), .val (.ref u)] [(.ref t)])) (fun tg kk => XS.aloadN X4.here hx rfl (hb hby own_d4_24) rfl rfl kk) ?_
    obtain ⟨T6, X6, e6, st6⟩ := getF X4 hx hZ hown (host := "") (Or.inl (hw _ (List.mem_of_getElem? (i := 16) rfl))) Via.refl e4 H2 (g := (mkF m 25 #[.val (.ref t), .val (.ref u), .val (.ref u)] [(.ref t)])) rfl rfl (hb hby own_d4_25)
    refine OwnGo.back (T6.setTop (mkF m 28 #[.val (.ref t), .val (.ref u), .val (.ref u)] [(.long v1)])) (fun tg kk => st6 _ kk) ?_
    refine OwnGo.back (T6.setTop (mkF m 29 #[.val (.ref t), .val (.ref u), .val (.ref u)] [(.ref u), (.long v1)])) (fun tg kk => XS.aloadN X6.here hx rfl (hb hby own_d4_28) rfl rfl kk) ?_
    obtain ⟨T7, X7, e7, st7⟩ := getF X6 hx hZ hown (host := "") (Or.inl (hw _ (List.mem_of_getElem? (i := 16) rfl))) Via.refl e6 H4 (g := (mkF m 29 #[.val (.ref t), .val (.ref u), .val (.ref u)] [(.ref u), (.long v1)])) rfl rfl (hb hby own_d4_29)
    refine OwnGo.back (T7.setTop (mkF m 32 #[.val (.ref t), .val (.ref u), .val (.ref u)] [(.long w1), (.long v1)])) (fun tg kk => st7 _ kk) ?_
    refine OwnGo.back (T7.setTop (mkF m 33 #[.val (.ref t), .val (.ref u), .val (.ref u)] [(.int (lcmpW v1 w1))])) (fun tg kk => XS.lcmp X7.here hx rfl (hb hby own_d4_32) rfl kk) ?_
    by_cases hc8 : v1 = w1
    ·
      refine OwnGo.back (T7.setTop (mkF m 36 #[.val (.ref t), .val (.ref u), .val (.ref u)] [])) (fun tg kk => XS.ifNo X7.here hx rfl (hb hby own_d4_33) rfl ((if0 _ _).trans (teq ((lw_eq _ _).mpr hc8)).2) kk) ?_
      refine OwnGo.back (T7.setTop (mkF m 37 #[.val (.ref t), .val (.ref u), .val (.ref u)] [(.int (1 : Int32))])) (fun tg kk => XS.iconst X7.here hx rfl (hb hby own_d4_36) kk) ?_
      refine OwnGo.back (T7.setTop (mkF m 41 #[.val (.ref t), .val (.ref u), .val (.ref u)] [(.int (1 : Int32))])) (fun tg kk => XS.goto X7.here hx rfl (pc0 := 37) (pc' := 41) rfl (hb hby own_d4_37) (by decide) (by decide) kk) ?_
      obtain ⟨fs, hr, hrun, hended, hW, hsame⟩ := X7.leave (v := some (.int (1 : Int32))) (fun h => by rw [Bd.returns] at h; cases h)
      refine ⟨_, _, ?_, hrun, hended, _, _, rfl, ?_, ⟨_, rfl⟩, hW, hsame.mono (by decide) (by decide)⟩
      · exact retN X7 hx (t := .boolean) Bd.returns (by simp) (hb hby own_d4_41) hr
      · show own_eqt_Q Z t u v0 v1 w0 w1 h0 n0 _ T7.heap _
        rw [e7]
        exact ⟨(1 : Int32), rfl, N0, rfl, (by (simp only [true_and, and_true, false_and, and_false, or_false, false_or, or_true, true_or, not_true_eq_false, not_false_eq_true, eq_self, Int32.lt_iff_toInt_lt, Int32.le_iff_toInt_le, ← Int32.toInt_inj, Int32.reduceToInt, Int64.lt_iff_toInt_lt, Int64.le_iff_toInt_le, ← Int64.toInt_inj, Int64.reduceToInt] at hc5 hc8 ⊢) <;> omega)⟩
    ·
      refine OwnGo.back (T7.setTop (mkF m 40 #[.val (.ref t), .val (.ref u), .val (.ref u)] [])) (fun tg kk => XS.ifYes X7.here hx rfl (pc0 := 33) (pc' := 40) rfl (hb hby own_d4_33) rfl ((if0 _ _).trans (feq (own_not (lw_eq _ _) hc8)).2) (by decide) (by decide) kk) ?_
      refine OwnGo.back (T7.setTop (mkF m 41 #[.val (.ref t), .val (.ref u), .val (.ref u)] [(.int (0 : Int32))])) (fun tg kk => XS.iconst X7.here hx rfl (hb hby own_d4_40) kk) ?_
      obtain ⟨fs, hr, hrun, hended, hW, hsame⟩ := X7.leave (v := some (.int (0 : Int32))) (fun h => by rw [Bd.returns] at h; cases h)
      refine ⟨_, _, ?_, hrun, hended, _, _, rfl, ?_, ⟨_, rfl⟩, hW, hsame.mono (by decide) (by decide)⟩
      · exact retN X7 hx (t := .boolean) Bd.returns (by simp) (hb hby own_d4_41) hr
      · show own_eqt_Q Z t u v0 v1 w0 w1 h0 n0 _ T7.heap _
        rw [e7]
        exact ⟨(0 : Int32), rfl, N0, rfl, (by (simp only [true_and, and_true, false_and, and_false, or_false, false_or, or_true, true_or, not_true_eq_false, not_false_eq_true, eq_self, Int32.lt_iff_toInt_lt, Int32.le_iff_toInt_le, ← Int32.toInt_inj, Int32.reduceToInt, Int64.lt_iff_toInt_lt, Int64.le_iff_toInt_le, ← Int64.toInt_inj, Int64.reduceToInt] at hc5 hc8 ⊢) <;> omega)⟩
  ·
    refine OwnGo.back (T4.setTop (mkF m 40 #[.val (.ref t), .val (.ref u), .val (.ref u)] [])) (fun tg kk => XS.ifYes X4.here hx rfl (pc0 := 21) (pc' := 40) rfl (hb hby own_d4_21) rfl ((if0 _ _).trans (feq (own_not (lw_eq _ _) hc5)).2) (by decide) (by decide) kk) ?_
    refine OwnGo.back (T4.setTop (mkF m 41 #[.val (.ref t), .val (.ref u), .val (.ref u)] [(.int (0 : Int32))])) (fun tg kk => XS.iconst X4.here hx rfl (hb hby own_d4_40) kk) ?_
    obtain ⟨fs, hr, hrun, hended, hW, hsame⟩ := X4.leave (v := some (.int (0 : Int32))) (fun h => by rw [Bd.returns] at h; cases h)
    refine ⟨_, _, ?_, hrun, hended, _, _, rfl, ?_, ⟨_, rfl⟩, hW, hsame.mono (by decide) (by decide)⟩
    · exact retN X4 hx (t := .boolean) Bd.returns (by simp) (hb hby own_d4_41) hr
    · show own_eqt_Q Z t u v0 v1 w0 w1 h0 n0 _ T4.heap _
      rw [e4]
      exact ⟨(0 : Int32), rfl, N0, rfl, (by (simp only [true_and, and_true, false_and, and_false, or_false, false_or, or_true, true_or, not_true_eq_false, not_false_eq_true, eq_self, Int32.lt_iff_toInt_lt, Int32.le_iff_toInt_le, ← Int32.toInt_inj, Int32.reduceToInt, Int64.lt_iff_toInt_lt, Int64.le_iff_toInt_le, ← Int64.toInt_inj, Int64.reduceToInt] at hc5 ⊢) <;> omega)⟩
theorem own_law_ef (m : MethodId) (x0 : Int64) (x1 : Int64) (x2 : Int64) (x3 : Int64) (x4 : Int32) : entryFrame m #[(.long x0), (.long x1), (.long x2), (.long x3), (.int x4)] maxLocals = mkF m 0 #[.val (.long x0), .second, .val (.long x1), .second, .val (.long x2), .second, .val (.long x3), .second, .val (.int x4), .unset, .unset, .unset, .unset, .unset, .unset] [] := by first | (simp [entryFrame, mkF, argsToLocals, Value.category, maxLocals]; done) | rfl
def own_law_Q (Z : State) (p1 : Int64) (p2 : Int64) (p3 : Int64) (p4 : Int64) (p5 : Int32) (ca : Addr) (h0 : Heap) (n0 : Nat) (rv : Option Value) (hN : Heap) (LL : List Loc) : Prop := rv = some (.int (1 : Int32)) ∧ Fr n0 LL ∧ Keep h0 hN []
set_option maxRecDepth 65536 in
set_option maxHeartbeats 40000000 in
theorem own_law (l : Launch) (Z : State) (a0 : Array Value) (hw : ∀ d ∈ tables_1, d.before a0 Z = true) (ws : List Jvm.Cond) (p1 : Int64) (p2 : Int64) (p3 : Int64) (p4 : Int64) (p5 : Int32) (ca : Addr) (h0 : Heap) (n0 : Nat) (Z0 : n0 ≤ h0.size) (S : Sta Z Z.heap "java/lang/Long$LongCache" "cache" "[Ljava/lang/Long;" (.ref ca)) (old : Old Z n0 h0) (hB : own_Box Z ca "java/lang/Long") :
    MetFree l x (head1 (Jvm.Cond.code x code maxLocals ret :: ws) room_1) (fun aa UU => aa = #[(.long p1), (.long p2), (.long p3), (.long p4), (.int p5)] ∧ Z.Warmed39 UU.vm ∧ UU.heap = h0) (fun _ _ _ _ _ => True) (fun _ UU oo UU' => ∃ rv LL, oo = .returned rv ∧ own_law_Q Z p1 p2 p3 p4 p5 ca h0 n0 rv UU'.heap LL ∧ FrameEnd UU oo UU' LL room_1.cells room_1.slots) := by
  refine MetFree.of_bodySF (plainFor_of_name own_pn4) hisR ?_
  intro p e s m args below meth c s₁ Bd hml0 hP hK
  obtain ⟨rfl, hZ, hh⟩ := hP
  have hx := Bd.exec
  have hby := Bd.bytes
  have hml : c.maxLocals = 15 := hml0
  have hown : s.vm.findClass "com/example/lienledger/lienledger/io/ChecksumEqualsPinLaw" = some m.cls := findClass_of_methodNamed Bd.named
  have hnm := (name_of_methodNamed Bd.named Bd.method).1
  have X0 : Stand p l e room_1 s m #[(.long p1), (.long p2), (.long p3), (.long p4), (.int p5)] below meth c s₁ [] 0 0 := Stand.of_body Bd
  have e0 : s₁.heap = h0 := by rw [← hh, Bd.state]; rfl
  have N0 := Fr.nil n0
  have K0 : Keep h0 h0 [] := Keep.refl h0 _
  refine (?_ : OwnGo p.tables e below (fun UU' oo => ∃ rv LL, oo = .returned rv ∧ own_law_Q Z p1 p2 p3 p4 p5 ca h0 n0 rv UU'.heap LL ∧ FrameEnd s oo UU' LL room_1.cells room_1.slots) _)
  refine OwnGo.back (s₁.setTop (mkF m 0 #[.val (.long p1), .second, .val (.long p2), .second, .val (.long p3), .second, .val (.long p4), .second, .val (.int p5), .unset, .unset, .unset, .unset, .unset, .unset] [])) (fun tg kk => castTop (own_law_ef m p1 p2 p3 p4 p5) kk) ?_
  obtain ⟨T1, h1, X1, e1, E1, A1, D1, -, st1⟩ := newO X0 hx hZ hown (hw _ (List.mem_of_getElem? (i := 0) rfl)) (hw _ (List.mem_of_getElem? (i := 1) rfl)) (hw _ (List.mem_of_getElem? (i := 2) rfl)) e0 (g := (mkF m 0 #[.val (.long p1), .second, .val (.long p2), .second, .val (.long p3), .second, .val (.long p4), .second, .val (.int p5), .unset, .unset, .unset, .unset, .unset, .unset] [])) rfl (hb hby at_0) (by decide) (by decide)
  obtain ⟨b1, q1⟩ : ∃ z, z = h0.size := ⟨_, rfl⟩
  rw [← q1] at A1 D1 st1
  have g2 : n0 ≤ b1 := Nat.le_trans Z0 (Nat.le_of_eq q1.symm)
  have s3 : h0.size ≤ b1 := Nat.le_trans K0.1 (Nat.le_of_eq q1.symm)
  have f4 : Old Z n0 h1 := old.ext E1
  have K5 : Keep h0 h1 [] := K0.ext E1
  have Z6 : n0 ≤ h1.size := Nat.le_trans Z0 E1.1
  have f7 : Fld Z h1 b1 "com/example/lienledger/lienledger/io/Checksum" "crc32c" "J" (.long (0 : Int64)) := D1 (Or.inr (hw _ (List.mem_of_getElem? (i := 15) rfl))) (ty := .long) (by decide)
  have f8 : Fld Z h1 b1 "com/example/lienledger/lienledger/io/Checksum" "length" "J" (.long (0 : Int64)) := D1 (Or.inr (hw _ (List.mem_of_getElem? (i := 17) rfl))) (ty := .long) (by decide)
  refine OwnGo.back (T1.setTop (mkF m 3 #[.val (.long p1), .second, .val (.long p2), .second, .val (.long p3), .second, .val (.long p4), .second, .val (.int p5), .unset, .unset, .unset, .unset, .unset, .unset] [(.ref b1)])) (fun tg kk => st1 _ kk) ?_
  refine OwnGo.back (T1.setTop (mkF m 4 #[.val (.long p1), .second, .val (.long p2), .second, .val (.long p3), .second, .val (.long p4), .second, .val (.int p5), .unset, .unset, .unset, .unset, .unset, .unset] [(.ref b1), (.ref b1)])) (fun tg kk => XS.dup X1.here hx rfl (hb hby at_3) rfl rfl kk) ?_
  refine OwnGo.back (T1.setTop (mkF m 5 #[.val (.long p1), .second, .val (.long p2), .second, .val (.long p3), .second, .val (.long p4), .second, .val (.int p5), .unset, .unset, .unset, .unset, .unset, .unset] [(.long p1), (.ref b1), (.ref b1)])) (fun tg kk => XS.lloadN X1.here hx rfl (hb hby at_4) rfl kk) ?_
  refine OwnGo.back (T1.setTop (mkF m 6 #[.val (.long p1), .second, .val (.long p2), .second, .val (.long p3), .second, .val (.long p4), .second, .val (.int p5), .unset, .unset, .unset, .unset, .unset, .unset] [(.long p2), (.long p1), (.ref b1), (.ref b1)])) (fun tg kk => XS.lloadN X1.here hx rfl (hb hby at_5) rfl kk) ?_
  obtain ⟨_, _, ⟨T9, L9, k9, n9⟩, -, X9, ⟨Lc9, hQ9, l9, y9, z9⟩, st9⟩ := X1.specialBack hx (y := (⟨"com/example/lienledger/lienledger/io/Checksum", "<init>", "(JJ)V"⟩ : MethodName)) rfl hown (mvT hZ (hw _ (List.mem_of_getElem? (i := 3) rfl))) (mvT hZ (hw _ (List.mem_of_getElem? (i := 4) rfl))) (mvT hZ (hw _ (List.mem_of_getElem? (i := 5) rfl))) (by decide) (backOf (W := 1) (own_ck l Z a0 hw [] b1 p1 p2 h1 n0 Z6 A1 f7 f8 g2) hZ (hw _ (List.mem_of_getElem? (i := 5) rfl)) (hw _ (List.mem_of_getElem? (i := 2) rfl)) (by decide) (by decide)) (g := (mkF m 6 #[.val (.long p1), .second, .val (.long p2), .second, .val (.long p3), .second, .val (.long p4), .second, .val (.int p5), .unset, .unset, .unset, .unset, .unset, .unset] [(.long p2), (.long p1), (.ref b1), (.ref b1)])) rfl (by rw [hml]; rfl) (Steps.refl _) (a := b1) (argsL := [(.long p1), (.long p2)]) (rest := [(.ref b1)]) (lenOf own_pd2 rfl) rfl (by show 2 * 0 + _ ≤ _; exact Nat.le_of_eq rfl) (hb hby at_6) (fun _ _ => ⟨rfl, e1, (by decide : 1 + 0 ≤ _), (by decide : 2 + 0 ≤ _)⟩)
  dsimp only [Pt.U, Pt.locs, Pt.cells, Pt.slots] at X9 l9 y9 z9 st9 hQ9
  subst l9 y9 z9
  obtain ⟨rfl, N9q, Kc9, po10, po11, po12⟩ := hQ9
  have N9 := Fr.app N0 N9q
  have f13 : Old Z n0 T9.heap := f4.keep Kc9 (allS g2 all0)
  have f14 : Exa Z T9.heap b1 "com/example/lienledger/lienledger/io/Checksum" := A1.keep Kc9
  have K15 : Keep h0 T9.heap [] := K5.trans Kc9 (allS (Or.inr s3) all0)
  have Z16 : n0 ≤ T9.heap.size := Nat.le_trans Z6 Kc9.1
  refine OwnGo.back (T9.setTop (mkF m 9 #[.val (.long p1), .second, .val (.long p2), .second, .val (.long p3), .second, .val (.long p4), .second, .val (.int p5), .unset, .unset, .unset, .unset, .unset, .unset] [(.ref b1)])) (fun tg kk => st9.trans kk) ?_
  refine OwnGo.back (T9.setTop (mkF m 11 #[.val (.long p1), .second, .val (.long p2), .second, .val (.long p3), .second, .val (.long p4), .second, .val (.int p5), .val (.ref b1), .unset, .unset, .unset, .unset, .unset] [])) (fun tg kk => XS.astore X9.here hx rfl (hb hby at_9) rfl rfl (l' := #[.val (.long p1), .second, .val (.long p2), .second, .val (.long p3), .second, .val (.long p4), .second, .val (.int p5), .val (.ref b1), .unset, .unset, .unset, .unset, .unset]) rfl kk) ?_
  refine OwnGo.back (T9.setTop (mkF m 13 #[.val (.long p1), .second, .val (.long p2), .second, .val (.long p3), .second, .val (.long p4), .second, .val (.int p5), .val (.ref b1), .unset, .unset, .unset, .unset, .unset] [(.int p5)])) (fun tg kk => XS.iload X9.here hx rfl (hb hby at_11) rfl kk) ?_
  refine OwnGo.back (T9.setTop (mkF m 15 #[.val (.long p1), .second, .val (.long p2), .second, .val (.long p3), .second, .val (.long p4), .second, .val (.int p5), .val (.ref b1), .unset, .unset, .unset, .unset, .unset] [(.int (7 : Int32)), (.int p5)])) (fun tg kk => XS.bipush X9.here hx rfl (hb hby at_13) kk) ?_
  refine OwnGo.back (T9.setTop (mkF m 16 #[.val (.long p1), .second, .val (.long p2), .second, .val (.long p3), .second, .val (.long p4), .second, .val (.int p5), .val (.ref b1), .unset, .unset, .unset, .unset, .unset] [(.int (p5 &&& (7 : Int32)))])) (fun tg kk => XS.iand X9.here hx rfl (hb hby at_15) rfl kk) ?_
  refine OwnGo.back (T9.setTop (mkF m 18 #[.val (.long p1), .second, .val (.long p2), .second, .val (.long p3), .second, .val (.long p4), .second, .val (.int p5), .val (.ref b1), .val (.int (p5 &&& (7 : Int32))), .unset, .unset, .unset, .unset] [])) (fun tg kk => XS.istore X9.here hx rfl (hb hby at_16) rfl (l' := #[.val (.long p1), .second, .val (.long p2), .second, .val (.long p3), .second, .val (.long p4), .second, .val (.int p5), .val (.ref b1), .val (.int (p5 &&& (7 : Int32))), .unset, .unset, .unset, .unset]) rfl kk) ?_
  refine OwnGo.back (T9.setTop (mkF m 20 #[.val (.long p1), .second, .val (.long p2), .second, .val (.long p3), .second, .val (.long p4), .second, .val (.int p5), .val (.ref b1), .val (.int (p5 &&& (7 : Int32))), .unset, .unset, .unset, .unset] [(.int (p5 &&& (7 : Int32)))])) (fun tg kk => XS.iload X9.here hx rfl (hb hby at_18) rfl kk) ?_
  by_cases hc17 : (p5 &&& (7 : Int32)) = (0 : Int32)
  ·
    refine OwnGo.back (T9.setTop (mkF m 23 #[.val (.long p1), .second, .val (.long p2), .second, .val (.long p3), .second, .val (.long p4), .second, .val (.int p5), .val (.ref b1), .val (.int (p5 &&& (7 : Int32))), .unset, .unset, .unset, .unset] [])) (fun tg kk => XS.ifNo X9.here hx rfl (hb hby at_20) rfl ((if0 _ _).trans (teq hc17).2) kk) ?_
    obtain ⟨T18, h18, X18, e18, E18, A18, D18, -, st18⟩ := newO X9 hx hZ hown (hw _ (List.mem_of_getElem? (i := 0) rfl)) (hw _ (List.mem_of_getElem? (i := 1) rfl)) (hw _ (List.mem_of_getElem? (i := 2) rfl)) rfl (g := (mkF m 23 #[.val (.long p1), .second, .val (.long p2), .second, .val (.long p3), .second, .val (.long p4), .second, .val (.int p5), .val (.ref b1), .val (.int (p5 &&& (7 : Int32))), .unset, .unset, .unset, .unset] [])) rfl (hb hby at_23) (by decide) (by decide)
    obtain ⟨b18, q18⟩ : ∃ z, z = T9.heap.size := ⟨_, rfl⟩
    rw [← q18] at A18 D18 st18
    have n19 : b1 ≠ b18 := own_ne po10.lt q18
    have g20 : n0 ≤ b18 := Nat.le_trans Z16 (Nat.le_of_eq q18.symm)
    have s21 : h0.size ≤ b18 := Nat.le_trans K15.1 (Nat.le_of_eq q18.symm)
    have f22 : Old Z n0 h18 := f13.ext E18
    have f23 : Exa Z h18 b1 "com/example/lienledger/lienledger/io/Checksum" := po10.ext E18
    have f24 : Fld Z h18 b1 "com/example/lienledger/lienledger/io/Checksum" "crc32c" "J" (.long p1) := po11.ext E18
    have f25 : Fld Z h18 b1 "com/example/lienledger/lienledger/io/Checksum" "length" "J" (.long p2) := po12.ext E18
    have K26 : Keep h0 h18 [] := K15.ext E18
    have Z27 : n0 ≤ h18.size := Nat.le_trans Z16 E18.1
    have f28 : Fld Z h18 b18 "com/example/lienledger/lienledger/io/Checksum" "crc32c" "J" (.long (0 : Int64)) := D18 (Or.inr (hw _ (List.mem_of_getElem? (i := 15) rfl))) (ty := .long) (by decide)
    have f29 : Fld Z h18 b18 "com/example/lienledger/lienledger/io/Checksum" "length" "J" (.long (0 : Int64)) := D18 (Or.inr (hw _ (List.mem_of_getElem? (i := 17) rfl))) (ty := .long) (by decide)
    refine OwnGo.back (T18.setTop (mkF m 26 #[.val (.long p1), .second, .val (.long p2), .second, .val (.long p3), .second, .val (.long p4), .second, .val (.int p5), .val (.ref b1), .val (.int (p5 &&& (7 : Int32))), .unset, .unset, .unset, .unset] [(.ref b18)])) (fun tg kk => st18 _ kk) ?_
    refine OwnGo.back (T18.setTop (mkF m 27 #[.val (.long p1), .second, .val (.long p2), .second, .val (.long p3), .second, .val (.long p4), .second, .val (.int p5), .val (.ref b1), .val (.int (p5 &&& (7 : Int32))), .unset, .unset, .unset, .unset] [(.ref b18), (.ref b18)])) (fun tg kk => XS.dup X18.here hx rfl (hb hby at_26) rfl rfl kk) ?_
    refine OwnGo.back (T18.setTop (mkF m 28 #[.val (.long p1), .second, .val (.long p2), .second, .val (.long p3), .second, .val (.long p4), .second, .val (.int p5), .val (.ref b1), .val (.int (p5 &&& (7 : Int32))), .unset, .unset, .unset, .unset] [(.long p1), (.ref b18), (.ref b18)])) (fun tg kk => XS.lloadN X18.here hx rfl (hb hby at_27) rfl kk) ?_
    refine OwnGo.back (T18.setTop (mkF m 29 #[.val (.long p1), .second, .val (.long p2), .second, .val (.long p3), .second, .val (.long p4), .second, .val (.int p5), .val (.ref b1), .val (.int (p5 &&& (7 : Int32))), .unset, .unset, .unset, .unset] [(.long p2), (.long p1), (.ref b18), (.ref b18)])) (fun tg kk => XS.lloadN X18.here hx rfl (hb hby at_28) rfl kk) ?_
    obtain ⟨_, _, ⟨T30, L30, k30, n30⟩, -, X30, ⟨Lc30, hQ30, l30, y30, z30⟩, st30⟩ := X18.specialBack hx (y := (⟨"com/example/lienledger/lienledger/io/Checksum", "<init>", "(JJ)V"⟩ : MethodName)) rfl hown (mvT hZ (hw _ (List.mem_of_getElem? (i := 3) rfl))) (mvT hZ (hw _ (List.mem_of_getElem? (i := 4) rfl))) (mvT hZ (hw _ (List.mem_of_getElem? (i := 5) rfl))) (by decide) (backOf (W := 1) (own_ck l Z a0 hw [] b18 p1 p2 h18 n0 Z27 A18 f28 f29 g20) hZ (hw _ (List.mem_of_getElem? (i := 5) rfl)) (hw _ (List.mem_of_getElem? (i := 2) rfl)) (by decide) (by decide)) (g := (mkF m 29 #[.val (.long p1), .second, .val (.long p2), .second, .val (.long p3), .second, .val (.long p4), .second, .val (.int p5), .val (.ref b1), .val (.int (p5 &&& (7 : Int32))), .unset, .unset, .unset, .unset] [(.long p2), (.long p1), (.ref b18), (.ref b18)])) rfl (by rw [hml]; rfl) (Steps.refl _) (a := b18) (argsL := [(.long p1), (.long p2)]) (rest := [(.ref b18)]) (lenOf own_pd2 rfl) rfl (by show 2 * 0 + _ ≤ _; exact Nat.le_of_eq rfl) (hb hby at_29) (fun _ _ => ⟨rfl, e18, (by decide : 2 + 0 ≤ _), (by decide : 4 + 0 ≤ _)⟩)
    dsimp only [Pt.U, Pt.locs, Pt.cells, Pt.slots] at X30 l30 y30 z30 st30 hQ30
    subst l30 y30 z30
    obtain ⟨rfl, N30q, Kc30, po31, po32, po33⟩ := hQ30
    have N30 := Fr.app N9 N30q
    have f34 : Old Z n0 T30.heap := f22.keep Kc30 (allS g20 all0)
    have f35 : Exa Z T30.heap b1 "com/example/lienledger/lienledger/io/Checksum" := f23.keep Kc30
    have f36 : Fld Z T30.heap b1 "com/example/lienledger/lienledger/io/Checksum" "crc32c" "J" (.long p1) := f24.keep Kc30 (ninS n19 nin0)
    have f37 : Fld Z T30.heap b1 "com/example/lienledger/lienledger/io/Checksum" "length" "J" (.long p2) := f25.keep Kc30 (ninS n19 nin0)
    have f38 : Exa Z T30.heap b18 "com/example/lienledger/lienledger/io/Checksum" := A18.keep Kc30
    have K39 : Keep h0 T30.heap [] := K26.trans Kc30 (allS (Or.inr s21) all0)
    have Z40 : n0 ≤ T30.heap.size := Nat.le_trans Z27 Kc30.1
    refine OwnGo.back (T30.setTop (mkF m 32 #[.val (.long p1), .second, .val (.long p2), .second, .val (.long p3), .second, .val (.long p4), .second, .val (.int p5), .val (.ref b1), .val (.int (p5 &&& (7 : Int32))), .unset, .unset, .unset, .unset] [(.ref b18)])) (fun tg kk => st30.trans kk) ?_
    refine OwnGo.back (T30.setTop (mkF m 34 #[.val (.long p1), .second, .val (.long p2), .second, .val (.long p3), .second, .val (.long p4), .second, .val (.int p5), .val (.ref b1), .val (.int (p5 &&& (7 : Int32))), .unset, .val (.ref b18), .unset, .unset] [])) (fun tg kk => XS.astore X30.here hx rfl (hb hby at_32) rfl rfl (l' := #[.val (.long p1), .second, .val (.long p2), .second, .val (.long p3), .second, .val (.long p4), .second, .val (.int p5), .val (.ref b1), .val (.int (p5 &&& (7 : Int32))), .unset, .val (.ref b18), .unset, .unset]) rfl kk) ?_
    refine OwnGo.back (T30.setTop (mkF m 36 #[.val (.long p1), .second, .val (.long p2), .second, .val (.long p3), .second, .val (.long p4), .second, .val (.int p5), .val (.ref b1), .val (.int (p5 &&& (7 : Int32))), .unset, .val (.ref b18), .unset, .unset] [(.ref b18)])) (fun tg kk => XS.aload X30.here hx rfl (hb hby at_34) rfl rfl kk) ?_
    refine OwnGo.back (T30.setTop (mkF m 38 #[.val (.long p1), .second, .val (.long p2), .second, .val (.long p3), .second, .val (.long p4), .second, .val (.int p5), .val (.ref b1), .val (.int (p5 &&& (7 : Int32))), .val (.ref b18), .val (.ref b18), .unset, .unset] [])) (fun tg kk => XS.astore X30.here hx rfl (hb hby at_36) rfl rfl (l' := #[.val (.long p1), .second, .val (.long p2), .second, .val (.long p3), .second, .val (.long p4), .second, .val (.int p5), .val (.ref b1), .val (.int (p5 &&& (7 : Int32))), .val (.ref b18), .val (.ref b18), .unset, .unset]) rfl kk) ?_
    refine OwnGo.back (T30.setTop (mkF m 39 #[.val (.long p1), .second, .val (.long p2), .second, .val (.long p3), .second, .val (.long p4), .second, .val (.int p5), .val (.ref b1), .val (.int (p5 &&& (7 : Int32))), .val (.ref b18), .val (.ref b18), .unset, .unset] [(.int (1 : Int32))])) (fun tg kk => XS.iconst X30.here hx rfl (hb hby at_38) kk) ?_
    refine OwnGo.back (T30.setTop (mkF m 41 #[.val (.long p1), .second, .val (.long p2), .second, .val (.long p3), .second, .val (.long p4), .second, .val (.int p5), .val (.ref b1), .val (.int (p5 &&& (7 : Int32))), .val (.ref b18), .val (.ref b18), .val (.int (1 : Int32)), .unset] [])) (fun tg kk => XS.istore X30.here hx rfl (hb hby at_39) rfl (l' := #[.val (.long p1), .second, .val (.long p2), .second, .val (.long p3), .second, .val (.long p4), .second, .val (.int p5), .val (.ref b1), .val (.int (p5 &&& (7 : Int32))), .val (.ref b18), .val (.ref b18), .val (.int (1 : Int32)), .unset]) rfl kk) ?_
    refine OwnGo.back (T30.setTop (mkF m 257 #[.val (.long p1), .second, .val (.long p2), .second, .val (.long p3), .second, .val (.long p4), .second, .val (.int p5), .val (.ref b1), .val (.int (p5 &&& (7 : Int32))), .val (.ref b18), .val (.ref b18), .val (.int (1 : Int32)), .unset] [])) (fun tg kk => XS.goto X30.here hx rfl (pc0 := 41) (pc' := 257) rfl (hb hby at_41) (by decide) (by decide) kk) ?_
    refine OwnGo.back (T30.setTop (mkF m 259 #[.val (.long p1), .second, .val (.long p2), .second, .val (.long p3), .second, .val (.long p4), .second, .val (.int p5), .val (.ref b1), .val (.int (p5 &&& (7 : Int32))), .val (.ref b18), .val (.ref b18), .val (.int (1 : Int32)), .unset] [(.ref b1)])) (fun tg kk => XS.aload X30.here hx rfl (hb hby at_257) rfl rfl kk) ?_
    refine OwnGo.back (T30.setTop (mkF m 261 #[.val (.long p1), .second, .val (.long p2), .second, .val (.long p3), .second, .val (.long p4), .second, .val (.int p5), .val (.ref b1), .val (.int (p5 &&& (7 : Int32))), .val (.ref b18), .val (.ref b18), .val (.int (1 : Int32)), .unset] [(.ref b18), (.ref b1)])) (fun tg kk => XS.aload X30.here hx rfl (hb hby at_259) rfl rfl kk) ?_
    obtain ⟨cq41, kq41, q41a, q41b, q41c⟩ := isOf hZ rfl f35
    obtain ⟨_, _, ⟨T41, L41, k41, n41⟩, -, X41, ⟨Lc41, hQ41, l41, y41, z41⟩, st41⟩ := X30.virtualBack hx (y := (⟨"com/example/lienledger/lienledger/io/Checksum", "equals", "(Ljava/lang/Object;)Z"⟩ : MethodName)) (z := (⟨"com/example/lienledger/lienledger/io/Checksum", "equals", "(Ljava/lang/Object;)Z"⟩ : MethodName)) hown (mvT hZ (hw _ (List.mem_of_getElem? (i := 18) rfl))) (mvT hZ (hw _ (List.mem_of_getElem? (i := 19) rfl))) (notFace_of_selects (args := #[]) (mvT hZ (hw _ (List.mem_of_getElem? (i := 21) rfl)))) (mvT hZ (hw _ (List.mem_of_getElem? (i := 21) rfl))) (mvT hZ (hw _ (List.mem_of_getElem? (i := 20) rfl))) (by decide) (backOf (W := 0) (own_eqt l Z a0 hw [] b1 b18 p1 p2 p1 p2 T30.heap n0 Z40 po31 f36 f37 po32 po33) hZ (hw _ (List.mem_of_getElem? (i := 22) rfl)) (hw _ (List.mem_of_getElem? (i := 2) rfl)) (by decide) (by decide)) q41a q41c (g := (mkF m 261 #[.val (.long p1), .second, .val (.long p2), .second, .val (.long p3), .second, .val (.long p4), .second, .val (.int p5), .val (.ref b1), .val (.int (p5 &&& (7 : Int32))), .val (.ref b18), .val (.ref b18), .val (.int (1 : Int32)), .unset] [(.ref b18), (.ref b1)])) rfl (by rw [hml]; rfl) (Steps.refl _) (argsL := [(.ref b18)]) (rest := []) (lenOf own_pd3 rfl) rfl (by show 2 * 0 + _ ≤ _; exact Nat.le_of_eq rfl) (hb hby at_261) (fun _ _ => ⟨rfl, rfl, (by decide : 2 + 0 ≤ _), (by decide : 4 + 0 ≤ _)⟩)
    dsimp only [Pt.U, Pt.locs, Pt.cells, Pt.slots] at X41 l41 y41 z41 st41 hQ41
    subst l41 y41 z41
    obtain ⟨r_42, rfl, N41q, e41, po43⟩ := hQ41
    have N41 := Fr.app N30 N41q
    refine OwnGo.back (T41.setTop (mkF m 264 #[.val (.long p1), .second, .val (.long p2), .second, .val (.long p3), .second, .val (.long p4), .second, .val (.int p5), .val (.ref b1), .val (.int (p5 &&& (7 : Int32))), .val (.ref b18), .val (.ref b18), .val (.int (1 : Int32)), .unset] [(.int r_42)])) (fun tg kk => st41.trans kk) ?_
    refine OwnGo.back (T41.setTop (mkF m 266 #[.val (.long p1), .second, .val (.long p2), .second, .val (.long p3), .second, .val (.long p4), .second, .val (.int p5), .val (.ref b1), .val (.int (p5 &&& (7 : Int32))), .val (.ref b18), .val (.ref b18), .val (.int (1 : Int32)), .val (.int r_42)] [])) (fun tg kk => XS.istore X41.here hx rfl (hb hby at_264) rfl (l' := #[.val (.long p1), .second, .val (.long p2), .second, .val (.long p3), .second, .val (.long p4), .second, .val (.int p5), .val (.ref b1), .val (.int (p5 &&& (7 : Int32))), .val (.ref b18), .val (.ref b18), .val (.int (1 : Int32)), .val (.int r_42)]) rfl kk) ?_
    refine OwnGo.back (T41.setTop (mkF m 268 #[.val (.long p1), .second, .val (.long p2), .second, .val (.long p3), .second, .val (.long p4), .second, .val (.int p5), .val (.ref b1), .val (.int (p5 &&& (7 : Int32))), .val (.ref b18), .val (.ref b18), .val (.int (1 : Int32)), .val (.int r_42)] [(.int r_42)])) (fun tg kk => XS.iload X41.here hx rfl (hb hby at_266) rfl kk) ?_
    refine OwnGo.back (T41.setTop (mkF m 270 #[.val (.long p1), .second, .val (.long p2), .second, .val (.long p3), .second, .val (.long p4), .second, .val (.int p5), .val (.ref b1), .val (.int (p5 &&& (7 : Int32))), .val (.ref b18), .val (.ref b18), .val (.int (1 : Int32)), .val (.int r_42)] [(.int (1 : Int32)), (.int r_42)])) (fun tg kk => XS.iload X41.here hx rfl (hb hby at_268) rfl kk) ?_
    refine OwnGo.back (T41.setTop (mkF m 275 #[.val (.long p1), .second, .val (.long p2), .second, .val (.long p3), .second, .val (.long p4), .second, .val (.int p5), .val (.ref b1), .val (.int (p5 &&& (7 : Int32))), .val (.ref b18), .val (.ref b18), .val (.int (1 : Int32)), .val (.int r_42)] [])) (fun tg kk => XS.icmpYes X41.here hx rfl (pc0 := 270) (pc' := 275) rfl (hb hby at_270) rfl (teq (by (simp only [true_and, and_true, false_and, and_false, or_false, false_or, or_true, true_or, not_true_eq_false, not_false_eq_true, eq_self, Int32.lt_iff_toInt_lt, Int32.le_iff_toInt_le, ← Int32.toInt_inj, Int32.reduceToInt, Int64.lt_iff_toInt_lt, Int64.le_iff_toInt_le, ← Int64.toInt_inj, Int64.reduceToInt] at hc17 hB po43 ⊢) <;> omega : r_42 = (1 : Int32))).1 (by decide) (by decide) kk) ?_
    refine OwnGo.back (T41.setTop (mkF m 277 #[.val (.long p1), .second, .val (.long p2), .second, .val (.long p3), .second, .val (.long p4), .second, .val (.int p5), .val (.ref b1), .val (.int (p5 &&& (7 : Int32))), .val (.ref b18), .val (.ref b18), .val (.int (1 : Int32)), .val (.int r_42)] [(.ref b18)])) (fun tg kk => XS.aload X41.here hx rfl (hb hby at_275) rfl rfl kk) ?_
    refine OwnGo.back (T41.setTop (mkF m 280 #[.val (.long p1), .second, .val (.long p2), .second, .val (.long p3), .second, .val (.long p4), .second, .val (.int p5), .val (.ref b1), .val (.int (p5 &&& (7 : Int32))), .val (.ref b18), .val (.ref b18), .val (.int (1 : Int32)), .val (.int r_42)] [])) (fun tg kk => XS.ifnullNo X41.here hx rfl (hb hby at_277) rfl kk) ?_
    refine OwnGo.back (T41.setTop (mkF m 282 #[.val (.long p1), .second, .val (.long p2), .second, .val (.long p3), .second, .val (.long p4), .second, .val (.int p5), .val (.ref b1), .val (.int (p5 &&& (7 : Int32))), .val (.ref b18), .val (.ref b18), .val (.int (1 : Int32)), .val (.int r_42)] [(.ref b18)])) (fun tg kk => XS.aload X41.here hx rfl (hb hby at_280) rfl rfl kk) ?_
    refine OwnGo.back (T41.setTop (mkF m 284 #[.val (.long p1), .second, .val (.long p2), .second, .val (.long p3), .second, .val (.long p4), .second, .val (.int p5), .val (.ref b1), .val (.int (p5 &&& (7 : Int32))), .val (.ref b18), .val (.ref b18), .val (.int (1 : Int32)), .val (.int r_42)] [(.ref b1), (.ref b18)])) (fun tg kk => XS.aload X41.here hx rfl (hb hby at_282) rfl rfl kk) ?_
    obtain ⟨cq44, kq44, q44a, q44b, q44c⟩ := isOf hZ e41 po31
    obtain ⟨_, _, ⟨T44, L44, k44, n44⟩, -, X44, ⟨Lc44, hQ44, l44, y44, z44⟩, st44⟩ := X41.virtualBack hx (y := (⟨"com/example/lienledger/lienledger/io/Checksum", "equals", "(Ljava/lang/Object;)Z"⟩ : MethodName)) (z := (⟨"com/example/lienledger/lienledger/io/Checksum", "equals", "(Ljava/lang/Object;)Z"⟩ : MethodName)) hown (mvT hZ (hw _ (List.mem_of_getElem? (i := 18) rfl))) (mvT hZ (hw _ (List.mem_of_getElem? (i := 19) rfl))) (notFace_of_selects (args := #[]) (mvT hZ (hw _ (List.mem_of_getElem? (i := 21) rfl)))) (mvT hZ (hw _ (List.mem_of_getElem? (i := 21) rfl))) (mvT hZ (hw _ (List.mem_of_getElem? (i := 20) rfl))) (by decide) (backOf (W := 0) (own_eqt l Z a0 hw [] b18 b1 p1 p2 p1 p2 T30.heap n0 Z40 f35 po32 po33 f36 f37) hZ (hw _ (List.mem_of_getElem? (i := 22) rfl)) (hw _ (List.mem_of_getElem? (i := 2) rfl)) (by decide) (by decide)) q44a q44c (g := (mkF m 284 #[.val (.long p1), .second, .val (.long p2), .second, .val (.long p3), .second, .val (.long p4), .second, .val (.int p5), .val (.ref b1), .val (.int (p5 &&& (7 : Int32))), .val (.ref b18), .val (.ref b18), .val (.int (1 : Int32)), .val (.int r_42)] [(.ref b1), (.ref b18)])) rfl (by rw [hml]; rfl) (Steps.refl _) (argsL := [(.ref b1)]) (rest := []) (lenOf own_pd3 rfl) rfl (by show 2 * 0 + _ ≤ _; exact Nat.le_of_eq rfl) (hb hby at_284) (fun _ _ => ⟨rfl, e41, (by decide : 2 + 0 ≤ _), (by decide : 4 + 0 ≤ _)⟩)
    dsimp only [Pt.U, Pt.locs, Pt.cells, Pt.slots] at X44 l44 y44 z44 st44 hQ44
    subst l44 y44 z44
    obtain ⟨r_45, rfl, N44q, e44, po46⟩ := hQ44
    have N44 := Fr.app N41 N44q
    refine OwnGo.back (T44.setTop (mkF m 287 #[.val (.long p1), .second, .val (.long p2), .second, .val (.long p3), .second, .val (.long p4), .second, .val (.int p5), .val (.ref b1), .val (.int (p5 &&& (7 : Int32))), .val (.ref b18), .val (.ref b18), .val (.int (1 : Int32)), .val (.int r_42)] [(.int r_45)])) (fun tg kk => st44.trans kk) ?_
    refine OwnGo.back (T44.setTop (mkF m 289 #[.val (.long p1), .second, .val (.long p2), .second, .val (.long p3), .second, .val (.long p4), .second, .val (.int p5), .val (.ref b1), .val (.int (p5 &&& (7 : Int32))), .val (.ref b18), .val (.ref b18), .val (.int (1 : Int32)), .val (.int r_42)] [(.int (1 : Int32)), (.int r_45)])) (fun tg kk => XS.iload X44.here hx rfl (hb hby at_287) rfl kk) ?_
    refine OwnGo.back (T44.setTop (mkF m 294 #[.val (.long p1), .second, .val (.long p2), .second, .val (.long p3), .second, .val (.long p4), .second, .val (.int p5), .val (.ref b1), .val (.int (p5 &&& (7 : Int32))), .val (.ref b18), .val (.ref b18), .val (.int (1 : Int32)), .val (.int r_42)] [])) (fun tg kk => XS.icmpYes X44.here hx rfl (pc0 := 289) (pc' := 294) rfl (hb hby at_289) rfl (teq (by (simp only [true_and, and_true, false_and, and_false, or_false, false_or, or_true, true_or, not_true_eq_false, not_false_eq_true, eq_self, Int32.lt_iff_toInt_lt, Int32.le_iff_toInt_le, ← Int32.toInt_inj, Int32.reduceToInt, Int64.lt_iff_toInt_lt, Int64.le_iff_toInt_le, ← Int64.toInt_inj, Int64.reduceToInt] at hc17 hB po43 po46 ⊢) <;> omega : r_45 = (1 : Int32))).1 (by decide) (by decide) kk) ?_
    refine OwnGo.back (T44.setTop (mkF m 295 #[.val (.long p1), .second, .val (.long p2), .second, .val (.long p3), .second, .val (.long p4), .second, .val (.int p5), .val (.ref b1), .val (.int (p5 &&& (7 : Int32))), .val (.ref b18), .val (.ref b18), .val (.int (1 : Int32)), .val (.int r_42)] [(.int (1 : Int32))])) (fun tg kk => XS.iconst X44.here hx rfl (hb hby at_294) kk) ?_
    obtain ⟨fs, hr, hrun, hended, hW, hsame⟩ := X44.leave (v := some (.int (1 : Int32))) (fun h => by rw [Bd.returns] at h; cases h)
    refine ⟨_, _, ?_, hrun, hended, _, _, rfl, ?_, ⟨_, rfl⟩, hW, hsame.mono (by decide) (by decide)⟩
    · exact retN X44 hx (t := .boolean) Bd.returns (by simp) (hb hby at_295) hr
    · show own_law_Q Z p1 p2 p3 p4 p5 ca h0 n0 _ T44.heap _
      rw [e44]
      exact ⟨rfl, N44, K39⟩
  ·
    refine OwnGo.back (T9.setTop (mkF m 44 #[.val (.long p1), .second, .val (.long p2), .second, .val (.long p3), .second, .val (.long p4), .second, .val (.int p5), .val (.ref b1), .val (.int (p5 &&& (7 : Int32))), .unset, .unset, .unset, .unset] [])) (fun tg kk => XS.ifYes X9.here hx rfl (pc0 := 20) (pc' := 44) rfl (hb hby at_20) rfl ((if0 _ _).trans (feq hc17).2) (by decide) (by decide) kk) ?_
    refine OwnGo.back (T9.setTop (mkF m 46 #[.val (.long p1), .second, .val (.long p2), .second, .val (.long p3), .second, .val (.long p4), .second, .val (.int p5), .val (.ref b1), .val (.int (p5 &&& (7 : Int32))), .unset, .unset, .unset, .unset] [(.int (p5 &&& (7 : Int32)))])) (fun tg kk => XS.iload X9.here hx rfl (hb hby at_44) rfl kk) ?_
    refine OwnGo.back (T9.setTop (mkF m 47 #[.val (.long p1), .second, .val (.long p2), .second, .val (.long p3), .second, .val (.long p4), .second, .val (.int p5), .val (.ref b1), .val (.int (p5 &&& (7 : Int32))), .unset, .unset, .unset, .unset] [(.int (1 : Int32)), (.int (p5 &&& (7 : Int32)))])) (fun tg kk => XS.iconst X9.here hx rfl (hb hby at_46) kk) ?_
    by_cases hc47 : (p5 &&& (7 : Int32)) = (1 : Int32)
    ·
      refine OwnGo.back (T9.setTop (mkF m 50 #[.val (.long p1), .second, .val (.long p2), .second, .val (.long p3), .second, .val (.long p4), .second, .val (.int p5), .val (.ref b1), .val (.int (p5 &&& (7 : Int32))), .unset, .unset, .unset, .unset] [])) (fun tg kk => XS.icmpNo X9.here hx rfl (hb hby at_47) rfl (teq hc47).2 kk) ?_
      obtain ⟨T48, h48, X48, e48, E48, A48, D48, -, st48⟩ := newO X9 hx hZ hown (hw _ (List.mem_of_getElem? (i := 0) rfl)) (hw _ (List.mem_of_getElem? (i := 1) rfl)) (hw _ (List.mem_of_getElem? (i := 2) rfl)) rfl (g := (mkF m 50 #[.val (.long p1), .second, .val (.long p2), .second, .val (.long p3), .second, .val (.long p4), .second, .val (.int p5), .val (.ref b1), .val (.int (p5 &&& (7 : Int32))), .unset, .unset, .unset, .unset] [])) rfl (hb hby at_50) (by decide) (by decide)
      obtain ⟨b48, q48⟩ : ∃ z, z = T9.heap.size := ⟨_, rfl⟩
      rw [← q48] at A48 D48 st48
      have n49 : b1 ≠ b48 := own_ne po10.lt q48
      have g50 : n0 ≤ b48 := Nat.le_trans Z16 (Nat.le_of_eq q48.symm)
      have s51 : h0.size ≤ b48 := Nat.le_trans K15.1 (Nat.le_of_eq q48.symm)
      have f52 : Old Z n0 h48 := f13.ext E48
      have f53 : Exa Z h48 b1 "com/example/lienledger/lienledger/io/Checksum" := po10.ext E48
      have f54 : Fld Z h48 b1 "com/example/lienledger/lienledger/io/Checksum" "crc32c" "J" (.long p1) := po11.ext E48
      have f55 : Fld Z h48 b1 "com/example/lienledger/lienledger/io/Checksum" "length" "J" (.long p2) := po12.ext E48
      have K56 : Keep h0 h48 [] := K15.ext E48
      have Z57 : n0 ≤ h48.size := Nat.le_trans Z16 E48.1
      have f58 : Fld Z h48 b48 "com/example/lienledger/lienledger/io/Checksum" "crc32c" "J" (.long (0 : Int64)) := D48 (Or.inr (hw _ (List.mem_of_getElem? (i := 15) rfl))) (ty := .long) (by decide)
      have f59 : Fld Z h48 b48 "com/example/lienledger/lienledger/io/Checksum" "length" "J" (.long (0 : Int64)) := D48 (Or.inr (hw _ (List.mem_of_getElem? (i := 17) rfl))) (ty := .long) (by decide)
      refine OwnGo.back (T48.setTop (mkF m 53 #[.val (.long p1), .second, .val (.long p2), .second, .val (.long p3), .second, .val (.long p4), .second, .val (.int p5), .val (.ref b1), .val (.int (p5 &&& (7 : Int32))), .unset, .unset, .unset, .unset] [(.ref b48)])) (fun tg kk => st48 _ kk) ?_
      refine OwnGo.back (T48.setTop (mkF m 54 #[.val (.long p1), .second, .val (.long p2), .second, .val (.long p3), .second, .val (.long p4), .second, .val (.int p5), .val (.ref b1), .val (.int (p5 &&& (7 : Int32))), .unset, .unset, .unset, .unset] [(.ref b48), (.ref b48)])) (fun tg kk => XS.dup X48.here hx rfl (hb hby at_53) rfl rfl kk) ?_
      refine OwnGo.back (T48.setTop (mkF m 55 #[.val (.long p1), .second, .val (.long p2), .second, .val (.long p3), .second, .val (.long p4), .second, .val (.int p5), .val (.ref b1), .val (.int (p5 &&& (7 : Int32))), .unset, .unset, .unset, .unset] [(.long p1), (.ref b48), (.ref b48)])) (fun tg kk => XS.lloadN X48.here hx rfl (hb hby at_54) rfl kk) ?_
      refine OwnGo.back (T48.setTop (mkF m 57 #[.val (.long p1), .second, .val (.long p2), .second, .val (.long p3), .second, .val (.long p4), .second, .val (.int p5), .val (.ref b1), .val (.int (p5 &&& (7 : Int32))), .unset, .unset, .unset, .unset] [(.long p4), (.long p1), (.ref b48), (.ref b48)])) (fun tg kk => XS.lload X48.here hx rfl (hb hby at_55) rfl kk) ?_
      obtain ⟨_, _, ⟨T60, L60, k60, n60⟩, -, X60, ⟨Lc60, hQ60, l60, y60, z60⟩, st60⟩ := X48.specialBack hx (y := (⟨"com/example/lienledger/lienledger/io/Checksum", "<init>", "(JJ)V"⟩ : MethodName)) rfl hown (mvT hZ (hw _ (List.mem_of_getElem? (i := 3) rfl))) (mvT hZ (hw _ (List.mem_of_getElem? (i := 4) rfl))) (mvT hZ (hw _ (List.mem_of_getElem? (i := 5) rfl))) (by decide) (backOf (W := 1) (own_ck l Z a0 hw [] b48 p1 p4 h48 n0 Z57 A48 f58 f59 g50) hZ (hw _ (List.mem_of_getElem? (i := 5) rfl)) (hw _ (List.mem_of_getElem? (i := 2) rfl)) (by decide) (by decide)) (g := (mkF m 57 #[.val (.long p1), .second, .val (.long p2), .second, .val (.long p3), .second, .val (.long p4), .second, .val (.int p5), .val (.ref b1), .val (.int (p5 &&& (7 : Int32))), .unset, .unset, .unset, .unset] [(.long p4), (.long p1), (.ref b48), (.ref b48)])) rfl (by rw [hml]; rfl) (Steps.refl _) (a := b48) (argsL := [(.long p1), (.long p4)]) (rest := [(.ref b48)]) (lenOf own_pd2 rfl) rfl (by show 2 * 0 + _ ≤ _; exact Nat.le_of_eq rfl) (hb hby at_57) (fun _ _ => ⟨rfl, e48, (by decide : 2 + 0 ≤ _), (by decide : 4 + 0 ≤ _)⟩)
      dsimp only [Pt.U, Pt.locs, Pt.cells, Pt.slots] at X60 l60 y60 z60 st60 hQ60
      subst l60 y60 z60
      obtain ⟨rfl, N60q, Kc60, po61, po62, po63⟩ := hQ60
      have N60 := Fr.app N9 N60q
      have f64 : Old Z n0 T60.heap := f52.keep Kc60 (allS g50 all0)
      have f65 : Exa Z T60.heap b1 "com/example/lienledger/lienledger/io/Checksum" := f53.keep Kc60
      have f66 : Fld Z T60.heap b1 "com/example/lienledger/lienledger/io/Checksum" "crc32c" "J" (.long p1) := f54.keep Kc60 (ninS n49 nin0)
      have f67 : Fld Z T60.heap b1 "com/example/lienledger/lienledger/io/Checksum" "length" "J" (.long p2) := f55.keep Kc60 (ninS n49 nin0)
      have f68 : Exa Z T60.heap b48 "com/example/lienledger/lienledger/io/Checksum" := A48.keep Kc60
      have K69 : Keep h0 T60.heap [] := K56.trans Kc60 (allS (Or.inr s51) all0)
      have Z70 : n0 ≤ T60.heap.size := Nat.le_trans Z57 Kc60.1
      refine OwnGo.back (T60.setTop (mkF m 60 #[.val (.long p1), .second, .val (.long p2), .second, .val (.long p3), .second, .val (.long p4), .second, .val (.int p5), .val (.ref b1), .val (.int (p5 &&& (7 : Int32))), .unset, .unset, .unset, .unset] [(.ref b48)])) (fun tg kk => st60.trans kk) ?_
      refine OwnGo.back (T60.setTop (mkF m 62 #[.val (.long p1), .second, .val (.long p2), .second, .val (.long p3), .second, .val (.long p4), .second, .val (.int p5), .val (.ref b1), .val (.int (p5 &&& (7 : Int32))), .unset, .val (.ref b48), .unset, .unset] [])) (fun tg kk => XS.astore X60.here hx rfl (hb hby at_60) rfl rfl (l' := #[.val (.long p1), .second, .val (.long p2), .second, .val (.long p3), .second, .val (.long p4), .second, .val (.int p5), .val (.ref b1), .val (.int (p5 &&& (7 : Int32))), .unset, .val (.ref b48), .unset, .unset]) rfl kk) ?_
      refine OwnGo.back (T60.setTop (mkF m 64 #[.val (.long p1), .second, .val (.long p2), .second, .val (.long p3), .second, .val (.long p4), .second, .val (.int p5), .val (.ref b1), .val (.int (p5 &&& (7 : Int32))), .unset, .val (.ref b48), .unset, .unset] [(.ref b48)])) (fun tg kk => XS.aload X60.here hx rfl (hb hby at_62) rfl rfl kk) ?_
      refine OwnGo.back (T60.setTop (mkF m 66 #[.val (.long p1), .second, .val (.long p2), .second, .val (.long p3), .second, .val (.long p4), .second, .val (.int p5), .val (.ref b1), .val (.int (p5 &&& (7 : Int32))), .val (.ref b48), .val (.ref b48), .unset, .unset] [])) (fun tg kk => XS.astore X60.here hx rfl (hb hby at_64) rfl rfl (l' := #[.val (.long p1), .second, .val (.long p2), .second, .val (.long p3), .second, .val (.long p4), .second, .val (.int p5), .val (.ref b1), .val (.int (p5 &&& (7 : Int32))), .val (.ref b48), .val (.ref b48), .unset, .unset]) rfl kk) ?_
      refine OwnGo.back (T60.setTop (mkF m 67 #[.val (.long p1), .second, .val (.long p2), .second, .val (.long p3), .second, .val (.long p4), .second, .val (.int p5), .val (.ref b1), .val (.int (p5 &&& (7 : Int32))), .val (.ref b48), .val (.ref b48), .unset, .unset] [(.long p2)])) (fun tg kk => XS.lloadN X60.here hx rfl (hb hby at_66) rfl kk) ?_
      refine OwnGo.back (T60.setTop (mkF m 69 #[.val (.long p1), .second, .val (.long p2), .second, .val (.long p3), .second, .val (.long p4), .second, .val (.int p5), .val (.ref b1), .val (.int (p5 &&& (7 : Int32))), .val (.ref b48), .val (.ref b48), .unset, .unset] [(.long p4), (.long p2)])) (fun tg kk => XS.lload X60.here hx rfl (hb hby at_67) rfl kk) ?_
      refine OwnGo.back (T60.setTop (mkF m 70 #[.val (.long p1), .second, .val (.long p2), .second, .val (.long p3), .second, .val (.long p4), .second, .val (.int p5), .val (.ref b1), .val (.int (p5 &&& (7 : Int32))), .val (.ref b48), .val (.ref b48), .unset, .unset] [(.int (lcmpW p2 p4))])) (fun tg kk => XS.lcmp X60.here hx rfl (hb hby at_69) rfl kk) ?_
      by_cases hc71 : p2 = p4
      ·
        refine OwnGo.back (T60.setTop (mkF m 73 #[.val (.long p1), .second, .val (.long p2), .second, .val (.long p3), .second, .val (.long p4), .second, .val (.int p5), .val (.ref b1), .val (.int (p5 &&& (7 : Int32))), .val (.ref b48), .val (.ref b48), .unset, .unset] [])) (fun tg kk => XS.ifNo X60.here hx rfl (hb hby at_70) rfl ((if0 _ _).trans (teq ((lw_eq _ _).mpr hc71)).2) kk) ?_
        refine OwnGo.back (T60.setTop (mkF m 74 #[.val (.long p1), .second, .val (.long p2), .second, .val (.long p3), .second, .val (.long p4), .second, .val (.int p5), .val (.ref b1), .val (.int (p5 &&& (7 : Int32))), .val (.ref b48), .val (.ref b48), .unset, .unset] [(.int (1 : Int32))])) (fun tg kk => XS.iconst X60.here hx rfl (hb hby at_73) kk) ?_
        refine OwnGo.back (T60.setTop (mkF m 78 #[.val (.long p1), .second, .val (.long p2), .second, .val (.long p3), .second, .val (.long p4), .second, .val (.int p5), .val (.ref b1), .val (.int (p5 &&& (7 : Int32))), .val (.ref b48), .val (.ref b48), .unset, .unset] [(.int (1 : Int32))])) (fun tg kk => XS.goto X60.here hx rfl (pc0 := 74) (pc' := 78) rfl (hb hby at_74) (by decide) (by decide) kk) ?_
        refine OwnGo.back (T60.setTop (mkF m 80 #[.val (.long p1), .second, .val (.long p2), .second, .val (.long p3), .second, .val (.long p4), .second, .val (.int p5), .val (.ref b1), .val (.int (p5 &&& (7 : Int32))), .val (.ref b48), .val (.ref b48), .val (.int (1 : Int32)), .unset] [])) (fun tg kk => XS.istore X60.here hx rfl (hb hby at_78) rfl (l' := #[.val (.long p1), .second, .val (.long p2), .second, .val (.long p3), .second, .val (.long p4), .second, .val (.int p5), .val (.ref b1), .val (.int (p5 &&& (7 : Int32))), .val (.ref b48), .val (.ref b48), .val (.int (1 : Int32)), .unset]) rfl kk) ?_
        refine OwnGo.back (T60.setTop (mkF m 257 #[.val (.long p1), .second, .val (.long p2), .second, .val (.long p3), .second, .val (.long p4), .second, .val (.int p5), .val (.ref b1), .val (.int (p5 &&& (7 : Int32))), .val (.ref b48), .val (.ref b48), .val (.int (1 : Int32)), .unset] [])) (fun tg kk => XS.goto X60.here hx rfl (pc0 := 80) (pc' := 257) rfl (hb hby at_80) (by decide) (by decide) kk) ?_
        refine OwnGo.back (T60.setTop (mkF m 259 #[.val (.long p1), .second, .val (.long p2), .second, .val (.long p3), .second, .val (.long p4), .second, .val (.int p5), .val (.ref b1), .val (.int (p5 &&& (7 : Int32))), .val (.ref b48), .val (.ref b48), .val (.int (1 : Int32)), .unset] [(.ref b1)])) (fun tg kk => XS.aload X60.here hx rfl (hb hby at_257) rfl rfl kk) ?_
        refine OwnGo.back (T60.setTop (mkF m 261 #[.val (.long p1), .second, .val (.long p2), .second, .val (.long p3), .second, .val (.long p4), .second, .val (.int p5), .val (.ref b1), .val (.int (p5 &&& (7 : Int32))), .val (.ref b48), .val (.ref b48), .val (.int (1 : Int32)), .unset] [(.ref b48), (.ref b1)])) (fun tg kk => XS.aload X60.here hx rfl (hb hby at_259) rfl rfl kk) ?_
        obtain ⟨cq72, kq72, q72a, q72b, q72c⟩ := isOf hZ rfl f65
        obtain ⟨_, _, ⟨T72, L72, k72, n72⟩, -, X72, ⟨Lc72, hQ72, l72, y72, z72⟩, st72⟩ := X60.virtualBack hx (y := (⟨"com/example/lienledger/lienledger/io/Checksum", "equals", "(Ljava/lang/Object;)Z"⟩ : MethodName)) (z := (⟨"com/example/lienledger/lienledger/io/Checksum", "equals", "(Ljava/lang/Object;)Z"⟩ : MethodName)) hown (mvT hZ (hw _ (List.mem_of_getElem? (i := 18) rfl))) (mvT hZ (hw _ (List.mem_of_getElem? (i := 19) rfl))) (notFace_of_selects (args := #[]) (mvT hZ (hw _ (List.mem_of_getElem? (i := 21) rfl)))) (mvT hZ (hw _ (List.mem_of_getElem? (i := 21) rfl))) (mvT hZ (hw _ (List.mem_of_getElem? (i := 20) rfl))) (by decide) (backOf (W := 0) (own_eqt l Z a0 hw [] b1 b48 p1 p2 p1 p4 T60.heap n0 Z70 po61 f66 f67 po62 po63) hZ (hw _ (List.mem_of_getElem? (i := 22) rfl)) (hw _ (List.mem_of_getElem? (i := 2) rfl)) (by decide) (by decide)) q72a q72c (g := (mkF m 261 #[.val (.long p1), .second, .val (.long p2), .second, .val (.long p3), .second, .val (.long p4), .second, .val (.int p5), .val (.ref b1), .val (.int (p5 &&& (7 : Int32))), .val (.ref b48), .val (.ref b48), .val (.int (1 : Int32)), .unset] [(.ref b48), (.ref b1)])) rfl (by rw [hml]; rfl) (Steps.refl _) (argsL := [(.ref b48)]) (rest := []) (lenOf own_pd3 rfl) rfl (by show 2 * 0 + _ ≤ _; exact Nat.le_of_eq rfl) (hb hby at_261) (fun _ _ => ⟨rfl, rfl, (by decide : 2 + 0 ≤ _), (by decide : 4 + 0 ≤ _)⟩)
        dsimp only [Pt.U, Pt.locs, Pt.cells, Pt.slots] at X72 l72 y72 z72 st72 hQ72
        subst l72 y72 z72
        obtain ⟨r_73, rfl, N72q, e72, po74⟩ := hQ72
        have N72 := Fr.app N60 N72q
        refine OwnGo.back (T72.setTop (mkF m 264 #[.val (.long p1), .second, .val (.long p2), .second, .val (.long p3), .second, .val (.long p4), .second, .val (.int p5), .val (.ref b1), .val (.int (p5 &&& (7 : Int32))), .val (.ref b48), .val (.ref b48), .val (.int (1 : Int32)), .unset] [(.int r_73)])) (fun tg kk => st72.trans kk) ?_
        refine OwnGo.back (T72.setTop (mkF m 266 #[.val (.long p1), .second, .val (.long p2), .second, .val (.long p3), .second, .val (.long p4), .second, .val (.int p5), .val (.ref b1), .val (.int (p5 &&& (7 : Int32))), .val (.ref b48), .val (.ref b48), .val (.int (1 : Int32)), .val (.int r_73)] [])) (fun tg kk => XS.istore X72.here hx rfl (hb hby at_264) rfl (l' := #[.val (.long p1), .second, .val (.long p2), .second, .val (.long p3), .second, .val (.long p4), .second, .val (.int p5), .val (.ref b1), .val (.int (p5 &&& (7 : Int32))), .val (.ref b48), .val (.ref b48), .val (.int (1 : Int32)), .val (.int r_73)]) rfl kk) ?_
        refine OwnGo.back (T72.setTop (mkF m 268 #[.val (.long p1), .second, .val (.long p2), .second, .val (.long p3), .second, .val (.long p4), .second, .val (.int p5), .val (.ref b1), .val (.int (p5 &&& (7 : Int32))), .val (.ref b48), .val (.ref b48), .val (.int (1 : Int32)), .val (.int r_73)] [(.int r_73)])) (fun tg kk => XS.iload X72.here hx rfl (hb hby at_266) rfl kk) ?_
        refine OwnGo.back (T72.setTop (mkF m 270 #[.val (.long p1), .second, .val (.long p2), .second, .val (.long p3), .second, .val (.long p4), .second, .val (.int p5), .val (.ref b1), .val (.int (p5 &&& (7 : Int32))), .val (.ref b48), .val (.ref b48), .val (.int (1 : Int32)), .val (.int r_73)] [(.int (1 : Int32)), (.int r_73)])) (fun tg kk => XS.iload X72.here hx rfl (hb hby at_268) rfl kk) ?_
        refine OwnGo.back (T72.setTop (mkF m 275 #[.val (.long p1), .second, .val (.long p2), .second, .val (.long p3), .second, .val (.long p4), .second, .val (.int p5), .val (.ref b1), .val (.int (p5 &&& (7 : Int32))), .val (.ref b48), .val (.ref b48), .val (.int (1 : Int32)), .val (.int r_73)] [])) (fun tg kk => XS.icmpYes X72.here hx rfl (pc0 := 270) (pc' := 275) rfl (hb hby at_270) rfl (teq (by (simp only [true_and, and_true, false_and, and_false, or_false, false_or, or_true, true_or, not_true_eq_false, not_false_eq_true, eq_self, Int32.lt_iff_toInt_lt, Int32.le_iff_toInt_le, ← Int32.toInt_inj, Int32.reduceToInt, Int64.lt_iff_toInt_lt, Int64.le_iff_toInt_le, ← Int64.toInt_inj, Int64.reduceToInt] at hc17 hc47 hc71 hB po74 ⊢) <;> omega : r_73 = (1 : Int32))).1 (by decide) (by decide) kk) ?_
        refine OwnGo.back (T72.setTop (mkF m 277 #[.val (.long p1), .second, .val (.long p2), .second, .val (.long p3), .second, .val (.long p4), .second, .val (.int p5), .val (.ref b1), .val (.int (p5 &&& (7 : Int32))), .val (.ref b48), .val (.ref b48), .val (.int (1 : Int32)), .val (.int r_73)] [(.ref b48)])) (fun tg kk => XS.aload X72.here hx rfl (hb hby at_275) rfl rfl kk) ?_
        refine OwnGo.back (T72.setTop (mkF m 280 #[.val (.long p1), .second, .val (.long p2), .second, .val (.long p3), .second, .val (.long p4), .second, .val (.int p5), .val (.ref b1), .val (.int (p5 &&& (7 : Int32))), .val (.ref b48), .val (.ref b48), .val (.int (1 : Int32)), .val (.int r_73)] [])) (fun tg kk => XS.ifnullNo X72.here hx rfl (hb hby at_277) rfl kk) ?_
        refine OwnGo.back (T72.setTop (mkF m 282 #[.val (.long p1), .second, .val (.long p2), .second, .val (.long p3), .second, .val (.long p4), .second, .val (.int p5), .val (.ref b1), .val (.int (p5 &&& (7 : Int32))), .val (.ref b48), .val (.ref b48), .val (.int (1 : Int32)), .val (.int r_73)] [(.ref b48)])) (fun tg kk => XS.aload X72.here hx rfl (hb hby at_280) rfl rfl kk) ?_
        refine OwnGo.back (T72.setTop (mkF m 284 #[.val (.long p1), .second, .val (.long p2), .second, .val (.long p3), .second, .val (.long p4), .second, .val (.int p5), .val (.ref b1), .val (.int (p5 &&& (7 : Int32))), .val (.ref b48), .val (.ref b48), .val (.int (1 : Int32)), .val (.int r_73)] [(.ref b1), (.ref b48)])) (fun tg kk => XS.aload X72.here hx rfl (hb hby at_282) rfl rfl kk) ?_
        obtain ⟨cq75, kq75, q75a, q75b, q75c⟩ := isOf hZ e72 po61
        obtain ⟨_, _, ⟨T75, L75, k75, n75⟩, -, X75, ⟨Lc75, hQ75, l75, y75, z75⟩, st75⟩ := X72.virtualBack hx (y := (⟨"com/example/lienledger/lienledger/io/Checksum", "equals", "(Ljava/lang/Object;)Z"⟩ : MethodName)) (z := (⟨"com/example/lienledger/lienledger/io/Checksum", "equals", "(Ljava/lang/Object;)Z"⟩ : MethodName)) hown (mvT hZ (hw _ (List.mem_of_getElem? (i := 18) rfl))) (mvT hZ (hw _ (List.mem_of_getElem? (i := 19) rfl))) (notFace_of_selects (args := #[]) (mvT hZ (hw _ (List.mem_of_getElem? (i := 21) rfl)))) (mvT hZ (hw _ (List.mem_of_getElem? (i := 21) rfl))) (mvT hZ (hw _ (List.mem_of_getElem? (i := 20) rfl))) (by decide) (backOf (W := 0) (own_eqt l Z a0 hw [] b48 b1 p1 p4 p1 p2 T60.heap n0 Z70 f65 po62 po63 f66 f67) hZ (hw _ (List.mem_of_getElem? (i := 22) rfl)) (hw _ (List.mem_of_getElem? (i := 2) rfl)) (by decide) (by decide)) q75a q75c (g := (mkF m 284 #[.val (.long p1), .second, .val (.long p2), .second, .val (.long p3), .second, .val (.long p4), .second, .val (.int p5), .val (.ref b1), .val (.int (p5 &&& (7 : Int32))), .val (.ref b48), .val (.ref b48), .val (.int (1 : Int32)), .val (.int r_73)] [(.ref b1), (.ref b48)])) rfl (by rw [hml]; rfl) (Steps.refl _) (argsL := [(.ref b1)]) (rest := []) (lenOf own_pd3 rfl) rfl (by show 2 * 0 + _ ≤ _; exact Nat.le_of_eq rfl) (hb hby at_284) (fun _ _ => ⟨rfl, e72, (by decide : 2 + 0 ≤ _), (by decide : 4 + 0 ≤ _)⟩)
        dsimp only [Pt.U, Pt.locs, Pt.cells, Pt.slots] at X75 l75 y75 z75 st75 hQ75
        subst l75 y75 z75
        obtain ⟨r_76, rfl, N75q, e75, po77⟩ := hQ75
        have N75 := Fr.app N72 N75q
        refine OwnGo.back (T75.setTop (mkF m 287 #[.val (.long p1), .second, .val (.long p2), .second, .val (.long p3), .second, .val (.long p4), .second, .val (.int p5), .val (.ref b1), .val (.int (p5 &&& (7 : Int32))), .val (.ref b48), .val (.ref b48), .val (.int (1 : Int32)), .val (.int r_73)] [(.int r_76)])) (fun tg kk => st75.trans kk) ?_
        refine OwnGo.back (T75.setTop (mkF m 289 #[.val (.long p1), .second, .val (.long p2), .second, .val (.long p3), .second, .val (.long p4), .second, .val (.int p5), .val (.ref b1), .val (.int (p5 &&& (7 : Int32))), .val (.ref b48), .val (.ref b48), .val (.int (1 : Int32)), .val (.int r_73)] [(.int (1 : Int32)), (.int r_76)])) (fun tg kk => XS.iload X75.here hx rfl (hb hby at_287) rfl kk) ?_
        refine OwnGo.back (T75.setTop (mkF m 294 #[.val (.long p1), .second, .val (.long p2), .second, .val (.long p3), .second, .val (.long p4), .second, .val (.int p5), .val (.ref b1), .val (.int (p5 &&& (7 : Int32))), .val (.ref b48), .val (.ref b48), .val (.int (1 : Int32)), .val (.int r_73)] [])) (fun tg kk => XS.icmpYes X75.here hx rfl (pc0 := 289) (pc' := 294) rfl (hb hby at_289) rfl (teq (by (simp only [true_and, and_true, false_and, and_false, or_false, false_or, or_true, true_or, not_true_eq_false, not_false_eq_true, eq_self, Int32.lt_iff_toInt_lt, Int32.le_iff_toInt_le, ← Int32.toInt_inj, Int32.reduceToInt, Int64.lt_iff_toInt_lt, Int64.le_iff_toInt_le, ← Int64.toInt_inj, Int64.reduceToInt] at hc17 hc47 hc71 hB po74 po77 ⊢) <;> omega : r_76 = (1 : Int32))).1 (by decide) (by decide) kk) ?_
        refine OwnGo.back (T75.setTop (mkF m 295 #[.val (.long p1), .second, .val (.long p2), .second, .val (.long p3), .second, .val (.long p4), .second, .val (.int p5), .val (.ref b1), .val (.int (p5 &&& (7 : Int32))), .val (.ref b48), .val (.ref b48), .val (.int (1 : Int32)), .val (.int r_73)] [(.int (1 : Int32))])) (fun tg kk => XS.iconst X75.here hx rfl (hb hby at_294) kk) ?_
        obtain ⟨fs, hr, hrun, hended, hW, hsame⟩ := X75.leave (v := some (.int (1 : Int32))) (fun h => by rw [Bd.returns] at h; cases h)
        refine ⟨_, _, ?_, hrun, hended, _, _, rfl, ?_, ⟨_, rfl⟩, hW, hsame.mono (by decide) (by decide)⟩
        · exact retN X75 hx (t := .boolean) Bd.returns (by simp) (hb hby at_295) hr
        · show own_law_Q Z p1 p2 p3 p4 p5 ca h0 n0 _ T75.heap _
          rw [e75]
          exact ⟨rfl, N75, K69⟩
      ·
        refine OwnGo.back (T60.setTop (mkF m 77 #[.val (.long p1), .second, .val (.long p2), .second, .val (.long p3), .second, .val (.long p4), .second, .val (.int p5), .val (.ref b1), .val (.int (p5 &&& (7 : Int32))), .val (.ref b48), .val (.ref b48), .unset, .unset] [])) (fun tg kk => XS.ifYes X60.here hx rfl (pc0 := 70) (pc' := 77) rfl (hb hby at_70) rfl ((if0 _ _).trans (feq (own_not (lw_eq _ _) hc71)).2) (by decide) (by decide) kk) ?_
        refine OwnGo.back (T60.setTop (mkF m 78 #[.val (.long p1), .second, .val (.long p2), .second, .val (.long p3), .second, .val (.long p4), .second, .val (.int p5), .val (.ref b1), .val (.int (p5 &&& (7 : Int32))), .val (.ref b48), .val (.ref b48), .unset, .unset] [(.int (0 : Int32))])) (fun tg kk => XS.iconst X60.here hx rfl (hb hby at_77) kk) ?_
        refine OwnGo.back (T60.setTop (mkF m 80 #[.val (.long p1), .second, .val (.long p2), .second, .val (.long p3), .second, .val (.long p4), .second, .val (.int p5), .val (.ref b1), .val (.int (p5 &&& (7 : Int32))), .val (.ref b48), .val (.ref b48), .val (.int (0 : Int32)), .unset] [])) (fun tg kk => XS.istore X60.here hx rfl (hb hby at_78) rfl (l' := #[.val (.long p1), .second, .val (.long p2), .second, .val (.long p3), .second, .val (.long p4), .second, .val (.int p5), .val (.ref b1), .val (.int (p5 &&& (7 : Int32))), .val (.ref b48), .val (.ref b48), .val (.int (0 : Int32)), .unset]) rfl kk) ?_
        refine OwnGo.back (T60.setTop (mkF m 257 #[.val (.long p1), .second, .val (.long p2), .second, .val (.long p3), .second, .val (.long p4), .second, .val (.int p5), .val (.ref b1), .val (.int (p5 &&& (7 : Int32))), .val (.ref b48), .val (.ref b48), .val (.int (0 : Int32)), .unset] [])) (fun tg kk => XS.goto X60.here hx rfl (pc0 := 80) (pc' := 257) rfl (hb hby at_80) (by decide) (by decide) kk) ?_
        refine OwnGo.back (T60.setTop (mkF m 259 #[.val (.long p1), .second, .val (.long p2), .second, .val (.long p3), .second, .val (.long p4), .second, .val (.int p5), .val (.ref b1), .val (.int (p5 &&& (7 : Int32))), .val (.ref b48), .val (.ref b48), .val (.int (0 : Int32)), .unset] [(.ref b1)])) (fun tg kk => XS.aload X60.here hx rfl (hb hby at_257) rfl rfl kk) ?_
        refine OwnGo.back (T60.setTop (mkF m 261 #[.val (.long p1), .second, .val (.long p2), .second, .val (.long p3), .second, .val (.long p4), .second, .val (.int p5), .val (.ref b1), .val (.int (p5 &&& (7 : Int32))), .val (.ref b48), .val (.ref b48), .val (.int (0 : Int32)), .unset] [(.ref b48), (.ref b1)])) (fun tg kk => XS.aload X60.here hx rfl (hb hby at_259) rfl rfl kk) ?_
        obtain ⟨cq78, kq78, q78a, q78b, q78c⟩ := isOf hZ rfl f65
        obtain ⟨_, _, ⟨T78, L78, k78, n78⟩, -, X78, ⟨Lc78, hQ78, l78, y78, z78⟩, st78⟩ := X60.virtualBack hx (y := (⟨"com/example/lienledger/lienledger/io/Checksum", "equals", "(Ljava/lang/Object;)Z"⟩ : MethodName)) (z := (⟨"com/example/lienledger/lienledger/io/Checksum", "equals", "(Ljava/lang/Object;)Z"⟩ : MethodName)) hown (mvT hZ (hw _ (List.mem_of_getElem? (i := 18) rfl))) (mvT hZ (hw _ (List.mem_of_getElem? (i := 19) rfl))) (notFace_of_selects (args := #[]) (mvT hZ (hw _ (List.mem_of_getElem? (i := 21) rfl)))) (mvT hZ (hw _ (List.mem_of_getElem? (i := 21) rfl))) (mvT hZ (hw _ (List.mem_of_getElem? (i := 20) rfl))) (by decide) (backOf (W := 0) (own_eqt l Z a0 hw [] b1 b48 p1 p2 p1 p4 T60.heap n0 Z70 po61 f66 f67 po62 po63) hZ (hw _ (List.mem_of_getElem? (i := 22) rfl)) (hw _ (List.mem_of_getElem? (i := 2) rfl)) (by decide) (by decide)) q78a q78c (g := (mkF m 261 #[.val (.long p1), .second, .val (.long p2), .second, .val (.long p3), .second, .val (.long p4), .second, .val (.int p5), .val (.ref b1), .val (.int (p5 &&& (7 : Int32))), .val (.ref b48), .val (.ref b48), .val (.int (0 : Int32)), .unset] [(.ref b48), (.ref b1)])) rfl (by rw [hml]; rfl) (Steps.refl _) (argsL := [(.ref b48)]) (rest := []) (lenOf own_pd3 rfl) rfl (by show 2 * 0 + _ ≤ _; exact Nat.le_of_eq rfl) (hb hby at_261) (fun _ _ => ⟨rfl, rfl, (by decide : 2 + 0 ≤ _), (by decide : 4 + 0 ≤ _)⟩)
        dsimp only [Pt.U, Pt.locs, Pt.cells, Pt.slots] at X78 l78 y78 z78 st78 hQ78
        subst l78 y78 z78
        obtain ⟨r_79, rfl, N78q, e78, po80⟩ := hQ78
        have N78 := Fr.app N60 N78q
        refine OwnGo.back (T78.setTop (mkF m 264 #[.val (.long p1), .second, .val (.long p2), .second, .val (.long p3), .second, .val (.long p4), .second, .val (.int p5), .val (.ref b1), .val (.int (p5 &&& (7 : Int32))), .val (.ref b48), .val (.ref b48), .val (.int (0 : Int32)), .unset] [(.int r_79)])) (fun tg kk => st78.trans kk) ?_
        refine OwnGo.back (T78.setTop (mkF m 266 #[.val (.long p1), .second, .val (.long p2), .second, .val (.long p3), .second, .val (.long p4), .second, .val (.int p5), .val (.ref b1), .val (.int (p5 &&& (7 : Int32))), .val (.ref b48), .val (.ref b48), .val (.int (0 : Int32)), .val (.int r_79)] [])) (fun tg kk => XS.istore X78.here hx rfl (hb hby at_264) rfl (l' := #[.val (.long p1), .second, .val (.long p2), .second, .val (.long p3), .second, .val (.long p4), .second, .val (.int p5), .val (.ref b1), .val (.int (p5 &&& (7 : Int32))), .val (.ref b48), .val (.ref b48), .val (.int (0 : Int32)), .val (.int r_79)]) rfl kk) ?_
        refine OwnGo.back (T78.setTop (mkF m 268 #[.val (.long p1), .second, .val (.long p2), .second, .val (.long p3), .second, .val (.long p4), .second, .val (.int p5), .val (.ref b1), .val (.int (p5 &&& (7 : Int32))), .val (.ref b48), .val (.ref b48), .val (.int (0 : Int32)), .val (.int r_79)] [(.int r_79)])) (fun tg kk => XS.iload X78.here hx rfl (hb hby at_266) rfl kk) ?_
        refine OwnGo.back (T78.setTop (mkF m 270 #[.val (.long p1), .second, .val (.long p2), .second, .val (.long p3), .second, .val (.long p4), .second, .val (.int p5), .val (.ref b1), .val (.int (p5 &&& (7 : Int32))), .val (.ref b48), .val (.ref b48), .val (.int (0 : Int32)), .val (.int r_79)] [(.int (0 : Int32)), (.int r_79)])) (fun tg kk => XS.iload X78.here hx rfl (hb hby at_268) rfl kk) ?_
        refine OwnGo.back (T78.setTop (mkF m 275 #[.val (.long p1), .second, .val (.long p2), .second, .val (.long p3), .second, .val (.long p4), .second, .val (.int p5), .val (.ref b1), .val (.int (p5 &&& (7 : Int32))), .val (.ref b48), .val (.ref b48), .val (.int (0 : Int32)), .val (.int r_79)] [])) (fun tg kk => XS.icmpYes X78.here hx rfl (pc0 := 270) (pc' := 275) rfl (hb hby at_270) rfl (teq (by (simp only [true_and, and_true, false_and, and_false, or_false, false_or, or_true, true_or, not_true_eq_false, not_false_eq_true, eq_self, Int32.lt_iff_toInt_lt, Int32.le_iff_toInt_le, ← Int32.toInt_inj, Int32.reduceToInt, Int64.lt_iff_toInt_lt, Int64.le_iff_toInt_le, ← Int64.toInt_inj, Int64.reduceToInt] at hc17 hc47 hc71 hB po80 ⊢) <;> omega : r_79 = (0 : Int32))).1 (by decide) (by decide) kk) ?_
        refine OwnGo.back (T78.setTop (mkF m 277 #[.val (.long p1), .second, .val (.long p2), .second, .val (.long p3), .second, .val (.long p4), .second, .val (.int p5), .val (.ref b1), .val (.int (p5 &&& (7 : Int32))), .val (.ref b48), .val (.ref b48), .val (.int (0 : Int32)), .val (.int r_79)] [(.ref b48)])) (fun tg kk => XS.aload X78.here hx rfl (hb hby at_275) rfl rfl kk) ?_
        refine OwnGo.back (T78.setTop (mkF m 280 #[.val (.long p1), .second, .val (.long p2), .second, .val (.long p3), .second, .val (.long p4), .second, .val (.int p5), .val (.ref b1), .val (.int (p5 &&& (7 : Int32))), .val (.ref b48), .val (.ref b48), .val (.int (0 : Int32)), .val (.int r_79)] [])) (fun tg kk => XS.ifnullNo X78.here hx rfl (hb hby at_277) rfl kk) ?_
        refine OwnGo.back (T78.setTop (mkF m 282 #[.val (.long p1), .second, .val (.long p2), .second, .val (.long p3), .second, .val (.long p4), .second, .val (.int p5), .val (.ref b1), .val (.int (p5 &&& (7 : Int32))), .val (.ref b48), .val (.ref b48), .val (.int (0 : Int32)), .val (.int r_79)] [(.ref b48)])) (fun tg kk => XS.aload X78.here hx rfl (hb hby at_280) rfl rfl kk) ?_
        refine OwnGo.back (T78.setTop (mkF m 284 #[.val (.long p1), .second, .val (.long p2), .second, .val (.long p3), .second, .val (.long p4), .second, .val (.int p5), .val (.ref b1), .val (.int (p5 &&& (7 : Int32))), .val (.ref b48), .val (.ref b48), .val (.int (0 : Int32)), .val (.int r_79)] [(.ref b1), (.ref b48)])) (fun tg kk => XS.aload X78.here hx rfl (hb hby at_282) rfl rfl kk) ?_
        obtain ⟨cq81, kq81, q81a, q81b, q81c⟩ := isOf hZ e78 po61
        obtain ⟨_, _, ⟨T81, L81, k81, n81⟩, -, X81, ⟨Lc81, hQ81, l81, y81, z81⟩, st81⟩ := X78.virtualBack hx (y := (⟨"com/example/lienledger/lienledger/io/Checksum", "equals", "(Ljava/lang/Object;)Z"⟩ : MethodName)) (z := (⟨"com/example/lienledger/lienledger/io/Checksum", "equals", "(Ljava/lang/Object;)Z"⟩ : MethodName)) hown (mvT hZ (hw _ (List.mem_of_getElem? (i := 18) rfl))) (mvT hZ (hw _ (List.mem_of_getElem? (i := 19) rfl))) (notFace_of_selects (args := #[]) (mvT hZ (hw _ (List.mem_of_getElem? (i := 21) rfl)))) (mvT hZ (hw _ (List.mem_of_getElem? (i := 21) rfl))) (mvT hZ (hw _ (List.mem_of_getElem? (i := 20) rfl))) (by decide) (backOf (W := 0) (own_eqt l Z a0 hw [] b48 b1 p1 p4 p1 p2 T60.heap n0 Z70 f65 po62 po63 f66 f67) hZ (hw _ (List.mem_of_getElem? (i := 22) rfl)) (hw _ (List.mem_of_getElem? (i := 2) rfl)) (by decide) (by decide)) q81a q81c (g := (mkF m 284 #[.val (.long p1), .second, .val (.long p2), .second, .val (.long p3), .second, .val (.long p4), .second, .val (.int p5), .val (.ref b1), .val (.int (p5 &&& (7 : Int32))), .val (.ref b48), .val (.ref b48), .val (.int (0 : Int32)), .val (.int r_79)] [(.ref b1), (.ref b48)])) rfl (by rw [hml]; rfl) (Steps.refl _) (argsL := [(.ref b1)]) (rest := []) (lenOf own_pd3 rfl) rfl (by show 2 * 0 + _ ≤ _; exact Nat.le_of_eq rfl) (hb hby at_284) (fun _ _ => ⟨rfl, e78, (by decide : 2 + 0 ≤ _), (by decide : 4 + 0 ≤ _)⟩)
        dsimp only [Pt.U, Pt.locs, Pt.cells, Pt.slots] at X81 l81 y81 z81 st81 hQ81
        subst l81 y81 z81
        obtain ⟨r_82, rfl, N81q, e81, po83⟩ := hQ81
        have N81 := Fr.app N78 N81q
        refine OwnGo.back (T81.setTop (mkF m 287 #[.val (.long p1), .second, .val (.long p2), .second, .val (.long p3), .second, .val (.long p4), .second, .val (.int p5), .val (.ref b1), .val (.int (p5 &&& (7 : Int32))), .val (.ref b48), .val (.ref b48), .val (.int (0 : Int32)), .val (.int r_79)] [(.int r_82)])) (fun tg kk => st81.trans kk) ?_
        refine OwnGo.back (T81.setTop (mkF m 289 #[.val (.long p1), .second, .val (.long p2), .second, .val (.long p3), .second, .val (.long p4), .second, .val (.int p5), .val (.ref b1), .val (.int (p5 &&& (7 : Int32))), .val (.ref b48), .val (.ref b48), .val (.int (0 : Int32)), .val (.int r_79)] [(.int (0 : Int32)), (.int r_82)])) (fun tg kk => XS.iload X81.here hx rfl (hb hby at_287) rfl kk) ?_
        refine OwnGo.back (T81.setTop (mkF m 294 #[.val (.long p1), .second, .val (.long p2), .second, .val (.long p3), .second, .val (.long p4), .second, .val (.int p5), .val (.ref b1), .val (.int (p5 &&& (7 : Int32))), .val (.ref b48), .val (.ref b48), .val (.int (0 : Int32)), .val (.int r_79)] [])) (fun tg kk => XS.icmpYes X81.here hx rfl (pc0 := 289) (pc' := 294) rfl (hb hby at_289) rfl (teq (by (simp only [true_and, and_true, false_and, and_false, or_false, false_or, or_true, true_or, not_true_eq_false, not_false_eq_true, eq_self, Int32.lt_iff_toInt_lt, Int32.le_iff_toInt_le, ← Int32.toInt_inj, Int32.reduceToInt, Int64.lt_iff_toInt_lt, Int64.le_iff_toInt_le, ← Int64.toInt_inj, Int64.reduceToInt] at hc17 hc47 hc71 hB po80 po83 ⊢) <;> omega : r_82 = (0 : Int32))).1 (by decide) (by decide) kk) ?_
        refine OwnGo.back (T81.setTop (mkF m 295 #[.val (.long p1), .second, .val (.long p2), .second, .val (.long p3), .second, .val (.long p4), .second, .val (.int p5), .val (.ref b1), .val (.int (p5 &&& (7 : Int32))), .val (.ref b48), .val (.ref b48), .val (.int (0 : Int32)), .val (.int r_79)] [(.int (1 : Int32))])) (fun tg kk => XS.iconst X81.here hx rfl (hb hby at_294) kk) ?_
        obtain ⟨fs, hr, hrun, hended, hW, hsame⟩ := X81.leave (v := some (.int (1 : Int32))) (fun h => by rw [Bd.returns] at h; cases h)
        refine ⟨_, _, ?_, hrun, hended, _, _, rfl, ?_, ⟨_, rfl⟩, hW, hsame.mono (by decide) (by decide)⟩
        · exact retN X81 hx (t := .boolean) Bd.returns (by simp) (hb hby at_295) hr
        · show own_law_Q Z p1 p2 p3 p4 p5 ca h0 n0 _ T81.heap _
          rw [e81]
          exact ⟨rfl, N81, K69⟩
    ·
      refine OwnGo.back (T9.setTop (mkF m 83 #[.val (.long p1), .second, .val (.long p2), .second, .val (.long p3), .second, .val (.long p4), .second, .val (.int p5), .val (.ref b1), .val (.int (p5 &&& (7 : Int32))), .unset, .unset, .unset, .unset] [])) (fun tg kk => XS.icmpYes X9.here hx rfl (pc0 := 47) (pc' := 83) rfl (hb hby at_47) rfl (feq hc47).2 (by decide) (by decide) kk) ?_
      refine OwnGo.back (T9.setTop (mkF m 85 #[.val (.long p1), .second, .val (.long p2), .second, .val (.long p3), .second, .val (.long p4), .second, .val (.int p5), .val (.ref b1), .val (.int (p5 &&& (7 : Int32))), .unset, .unset, .unset, .unset] [(.int (p5 &&& (7 : Int32)))])) (fun tg kk => XS.iload X9.here hx rfl (hb hby at_83) rfl kk) ?_
      refine OwnGo.back (T9.setTop (mkF m 86 #[.val (.long p1), .second, .val (.long p2), .second, .val (.long p3), .second, .val (.long p4), .second, .val (.int p5), .val (.ref b1), .val (.int (p5 &&& (7 : Int32))), .unset, .unset, .unset, .unset] [(.int (2 : Int32)), (.int (p5 &&& (7 : Int32)))])) (fun tg kk => XS.iconst X9.here hx rfl (hb hby at_85) kk) ?_
      by_cases hc84 : (p5 &&& (7 : Int32)) = (2 : Int32)
      ·
        refine OwnGo.back (T9.setTop (mkF m 89 #[.val (.long p1), .second, .val (.long p2), .second, .val (.long p3), .second, .val (.long p4), .second, .val (.int p5), .val (.ref b1), .val (.int (p5 &&& (7 : Int32))), .unset, .unset, .unset, .unset] [])) (fun tg kk => XS.icmpNo X9.here hx rfl (hb hby at_86) rfl (teq hc84).2 kk) ?_
        obtain ⟨T85, h85, X85, e85, E85, A85, D85, -, st85⟩ := newO X9 hx hZ hown (hw _ (List.mem_of_getElem? (i := 0) rfl)) (hw _ (List.mem_of_getElem? (i := 1) rfl)) (hw _ (List.mem_of_getElem? (i := 2) rfl)) rfl (g := (mkF m 89 #[.val (.long p1), .second, .val (.long p2), .second, .val (.long p3), .second, .val (.long p4), .second, .val (.int p5), .val (.ref b1), .val (.int (p5 &&& (7 : Int32))), .unset, .unset, .unset, .unset] [])) rfl (hb hby at_89) (by decide) (by decide)
        obtain ⟨b85, q85⟩ : ∃ z, z = T9.heap.size := ⟨_, rfl⟩
        rw [← q85] at A85 D85 st85
        have n86 : b1 ≠ b85 := own_ne po10.lt q85
        have g87 : n0 ≤ b85 := Nat.le_trans Z16 (Nat.le_of_eq q85.symm)
        have s88 : h0.size ≤ b85 := Nat.le_trans K15.1 (Nat.le_of_eq q85.symm)
        have f89 : Old Z n0 h85 := f13.ext E85
        have f90 : Exa Z h85 b1 "com/example/lienledger/lienledger/io/Checksum" := po10.ext E85
        have f91 : Fld Z h85 b1 "com/example/lienledger/lienledger/io/Checksum" "crc32c" "J" (.long p1) := po11.ext E85
        have f92 : Fld Z h85 b1 "com/example/lienledger/lienledger/io/Checksum" "length" "J" (.long p2) := po12.ext E85
        have K93 : Keep h0 h85 [] := K15.ext E85
        have Z94 : n0 ≤ h85.size := Nat.le_trans Z16 E85.1
        have f95 : Fld Z h85 b85 "com/example/lienledger/lienledger/io/Checksum" "crc32c" "J" (.long (0 : Int64)) := D85 (Or.inr (hw _ (List.mem_of_getElem? (i := 15) rfl))) (ty := .long) (by decide)
        have f96 : Fld Z h85 b85 "com/example/lienledger/lienledger/io/Checksum" "length" "J" (.long (0 : Int64)) := D85 (Or.inr (hw _ (List.mem_of_getElem? (i := 17) rfl))) (ty := .long) (by decide)
        refine OwnGo.back (T85.setTop (mkF m 92 #[.val (.long p1), .second, .val (.long p2), .second, .val (.long p3), .second, .val (.long p4), .second, .val (.int p5), .val (.ref b1), .val (.int (p5 &&& (7 : Int32))), .unset, .unset, .unset, .unset] [(.ref b85)])) (fun tg kk => st85 _ kk) ?_
        refine OwnGo.back (T85.setTop (mkF m 93 #[.val (.long p1), .second, .val (.long p2), .second, .val (.long p3), .second, .val (.long p4), .second, .val (.int p5), .val (.ref b1), .val (.int (p5 &&& (7 : Int32))), .unset, .unset, .unset, .unset] [(.ref b85), (.ref b85)])) (fun tg kk => XS.dup X85.here hx rfl (hb hby at_92) rfl rfl kk) ?_
        refine OwnGo.back (T85.setTop (mkF m 95 #[.val (.long p1), .second, .val (.long p2), .second, .val (.long p3), .second, .val (.long p4), .second, .val (.int p5), .val (.ref b1), .val (.int (p5 &&& (7 : Int32))), .unset, .unset, .unset, .unset] [(.long p3), (.ref b85), (.ref b85)])) (fun tg kk => XS.lload X85.here hx rfl (hb hby at_93) rfl kk) ?_
        refine OwnGo.back (T85.setTop (mkF m 96 #[.val (.long p1), .second, .val (.long p2), .second, .val (.long p3), .second, .val (.long p4), .second, .val (.int p5), .val (.ref b1), .val (.int (p5 &&& (7 : Int32))), .unset, .unset, .unset, .unset] [(.long p2), (.long p3), (.ref b85), (.ref b85)])) (fun tg kk => XS.lloadN X85.here hx rfl (hb hby at_95) rfl kk) ?_
        obtain ⟨_, _, ⟨T97, L97, k97, n97⟩, -, X97, ⟨Lc97, hQ97, l97, y97, z97⟩, st97⟩ := X85.specialBack hx (y := (⟨"com/example/lienledger/lienledger/io/Checksum", "<init>", "(JJ)V"⟩ : MethodName)) rfl hown (mvT hZ (hw _ (List.mem_of_getElem? (i := 3) rfl))) (mvT hZ (hw _ (List.mem_of_getElem? (i := 4) rfl))) (mvT hZ (hw _ (List.mem_of_getElem? (i := 5) rfl))) (by decide) (backOf (W := 1) (own_ck l Z a0 hw [] b85 p3 p2 h85 n0 Z94 A85 f95 f96 g87) hZ (hw _ (List.mem_of_getElem? (i := 5) rfl)) (hw _ (List.mem_of_getElem? (i := 2) rfl)) (by decide) (by decide)) (g := (mkF m 96 #[.val (.long p1), .second, .val (.long p2), .second, .val (.long p3), .second, .val (.long p4), .second, .val (.int p5), .val (.ref b1), .val (.int (p5 &&& (7 : Int32))), .unset, .unset, .unset, .unset] [(.long p2), (.long p3), (.ref b85), (.ref b85)])) rfl (by rw [hml]; rfl) (Steps.refl _) (a := b85) (argsL := [(.long p3), (.long p2)]) (rest := [(.ref b85)]) (lenOf own_pd2 rfl) rfl (by show 2 * 0 + _ ≤ _; exact Nat.le_of_eq rfl) (hb hby at_96) (fun _ _ => ⟨rfl, e85, (by decide : 2 + 0 ≤ _), (by decide : 4 + 0 ≤ _)⟩)
        dsimp only [Pt.U, Pt.locs, Pt.cells, Pt.slots] at X97 l97 y97 z97 st97 hQ97
        subst l97 y97 z97
        obtain ⟨rfl, N97q, Kc97, po98, po99, po100⟩ := hQ97
        have N97 := Fr.app N9 N97q
        have f101 : Old Z n0 T97.heap := f89.keep Kc97 (allS g87 all0)
        have f102 : Exa Z T97.heap b1 "com/example/lienledger/lienledger/io/Checksum" := f90.keep Kc97
        have f103 : Fld Z T97.heap b1 "com/example/lienledger/lienledger/io/Checksum" "crc32c" "J" (.long p1) := f91.keep Kc97 (ninS n86 nin0)
        have f104 : Fld Z T97.heap b1 "com/example/lienledger/lienledger/io/Checksum" "length" "J" (.long p2) := f92.keep Kc97 (ninS n86 nin0)
        have f105 : Exa Z T97.heap b85 "com/example/lienledger/lienledger/io/Checksum" := A85.keep Kc97
        have K106 : Keep h0 T97.heap [] := K93.trans Kc97 (allS (Or.inr s88) all0)
        have Z107 : n0 ≤ T97.heap.size := Nat.le_trans Z94 Kc97.1
        refine OwnGo.back (T97.setTop (mkF m 99 #[.val (.long p1), .second, .val (.long p2), .second, .val (.long p3), .second, .val (.long p4), .second, .val (.int p5), .val (.ref b1), .val (.int (p5 &&& (7 : Int32))), .unset, .unset, .unset, .unset] [(.ref b85)])) (fun tg kk => st97.trans kk) ?_
        refine OwnGo.back (T97.setTop (mkF m 101 #[.val (.long p1), .second, .val (.long p2), .second, .val (.long p3), .second, .val (.long p4), .second, .val (.int p5), .val (.ref b1), .val (.int (p5 &&& (7 : Int32))), .unset, .val (.ref b85), .unset, .unset] [])) (fun tg kk => XS.astore X97.here hx rfl (hb hby at_99) rfl rfl (l' := #[.val (.long p1), .second, .val (.long p2), .second, .val (.long p3), .second, .val (.long p4), .second, .val (.int p5), .val (.ref b1), .val (.int (p5 &&& (7 : Int32))), .unset, .val (.ref b85), .unset, .unset]) rfl kk) ?_
        refine OwnGo.back (T97.setTop (mkF m 103 #[.val (.long p1), .second, .val (.long p2), .second, .val (.long p3), .second, .val (.long p4), .second, .val (.int p5), .val (.ref b1), .val (.int (p5 &&& (7 : Int32))), .unset, .val (.ref b85), .unset, .unset] [(.ref b85)])) (fun tg kk => XS.aload X97.here hx rfl (hb hby at_101) rfl rfl kk) ?_
        refine OwnGo.back (T97.setTop (mkF m 105 #[.val (.long p1), .second, .val (.long p2), .second, .val (.long p3), .second, .val (.long p4), .second, .val (.int p5), .val (.ref b1), .val (.int (p5 &&& (7 : Int32))), .val (.ref b85), .val (.ref b85), .unset, .unset] [])) (fun tg kk => XS.astore X97.here hx rfl (hb hby at_103) rfl rfl (l' := #[.val (.long p1), .second, .val (.long p2), .second, .val (.long p3), .second, .val (.long p4), .second, .val (.int p5), .val (.ref b1), .val (.int (p5 &&& (7 : Int32))), .val (.ref b85), .val (.ref b85), .unset, .unset]) rfl kk) ?_
        refine OwnGo.back (T97.setTop (mkF m 106 #[.val (.long p1), .second, .val (.long p2), .second, .val (.long p3), .second, .val (.long p4), .second, .val (.int p5), .val (.ref b1), .val (.int (p5 &&& (7 : Int32))), .val (.ref b85), .val (.ref b85), .unset, .unset] [(.long p1)])) (fun tg kk => XS.lloadN X97.here hx rfl (hb hby at_105) rfl kk) ?_
        refine OwnGo.back (T97.setTop (mkF m 108 #[.val (.long p1), .second, .val (.long p2), .second, .val (.long p3), .second, .val (.long p4), .second, .val (.int p5), .val (.ref b1), .val (.int (p5 &&& (7 : Int32))), .val (.ref b85), .val (.ref b85), .unset, .unset] [(.long p3), (.long p1)])) (fun tg kk => XS.lload X97.here hx rfl (hb hby at_106) rfl kk) ?_
        refine OwnGo.back (T97.setTop (mkF m 109 #[.val (.long p1), .second, .val (.long p2), .second, .val (.long p3), .second, .val (.long p4), .second, .val (.int p5), .val (.ref b1), .val (.int (p5 &&& (7 : Int32))), .val (.ref b85), .val (.ref b85), .unset, .unset] [(.int (lcmpW p1 p3))])) (fun tg kk => XS.lcmp X97.here hx rfl (hb hby at_108) rfl kk) ?_
        by_cases hc108 : p1 = p3
        ·
          refine OwnGo.back (T97.setTop (mkF m 112 #[.val (.long p1), .second, .val (.long p2), .second, .val (.long p3), .second, .val (.long p4), .second, .val (.int p5), .val (.ref b1), .val (.int (p5 &&& (7 : Int32))), .val (.ref b85), .val (.ref b85), .unset, .unset] [])) (fun tg kk => XS.ifNo X97.here hx rfl (hb hby at_109) rfl ((if0 _ _).trans (teq ((lw_eq _ _).mpr hc108)).2) kk) ?_
          refine OwnGo.back (T97.setTop (mkF m 113 #[.val (.long p1), .second, .val (.long p2), .second, .val (.long p3), .second, .val (.long p4), .second, .val (.int p5), .val (.ref b1), .val (.int (p5 &&& (7 : Int32))), .val (.ref b85), .val (.ref b85), .unset, .unset] [(.int (1 : Int32))])) (fun tg kk => XS.iconst X97.here hx rfl (hb hby at_112) kk) ?_
          refine OwnGo.back (T97.setTop (mkF m 117 #[.val (.long p1), .second, .val (.long p2), .second, .val (.long p3), .second, .val (.long p4), .second, .val (.int p5), .val (.ref b1), .val (.int (p5 &&& (7 : Int32))), .val (.ref b85), .val (.ref b85), .unset, .unset] [(.int (1 : Int32))])) (fun tg kk => XS.goto X97.here hx rfl (pc0 := 113) (pc' := 117) rfl (hb hby at_113) (by decide) (by decide) kk) ?_
          refine OwnGo.back (T97.setTop (mkF m 119 #[.val (.long p1), .second, .val (.long p2), .second, .val (.long p3), .second, .val (.long p4), .second, .val (.int p5), .val (.ref b1), .val (.int (p5 &&& (7 : Int32))), .val (.ref b85), .val (.ref b85), .val (.int (1 : Int32)), .unset] [])) (fun tg kk => XS.istore X97.here hx rfl (hb hby at_117) rfl (l' := #[.val (.long p1), .second, .val (.long p2), .second, .val (.long p3), .second, .val (.long p4), .second, .val (.int p5), .val (.ref b1), .val (.int (p5 &&& (7 : Int32))), .val (.ref b85), .val (.ref b85), .val (.int (1 : Int32)), .unset]) rfl kk) ?_
          refine OwnGo.back (T97.setTop (mkF m 257 #[.val (.long p1), .second, .val (.long p2), .second, .val (.long p3), .second, .val (.long p4), .second, .val (.int p5), .val (.ref b1), .val (.int (p5 &&& (7 : Int32))), .val (.ref b85), .val (.ref b85), .val (.int (1 : Int32)), .unset] [])) (fun tg kk => XS.goto X97.here hx rfl (pc0 := 119) (pc' := 257) rfl (hb hby at_119) (by decide) (by decide) kk) ?_
          refine OwnGo.back (T97.setTop (mkF m 259 #[.val (.long p1), .second, .val (.long p2), .second, .val (.long p3), .second, .val (.long p4), .second, .val (.int p5), .val (.ref b1), .val (.int (p5 &&& (7 : Int32))), .val (.ref b85), .val (.ref b85), .val (.int (1 : Int32)), .unset] [(.ref b1)])) (fun tg kk => XS.aload X97.here hx rfl (hb hby at_257) rfl rfl kk) ?_
          refine OwnGo.back (T97.setTop (mkF m 261 #[.val (.long p1), .second, .val (.long p2), .second, .val (.long p3), .second, .val (.long p4), .second, .val (.int p5), .val (.ref b1), .val (.int (p5 &&& (7 : Int32))), .val (.ref b85), .val (.ref b85), .val (.int (1 : Int32)), .unset] [(.ref b85), (.ref b1)])) (fun tg kk => XS.aload X97.here hx rfl (hb hby at_259) rfl rfl kk) ?_
          obtain ⟨cq109, kq109, q109a, q109b, q109c⟩ := isOf hZ rfl f102
          obtain ⟨_, _, ⟨T109, L109, k109, n109⟩, -, X109, ⟨Lc109, hQ109, l109, y109, z109⟩, st109⟩ := X97.virtualBack hx (y := (⟨"com/example/lienledger/lienledger/io/Checksum", "equals", "(Ljava/lang/Object;)Z"⟩ : MethodName)) (z := (⟨"com/example/lienledger/lienledger/io/Checksum", "equals", "(Ljava/lang/Object;)Z"⟩ : MethodName)) hown (mvT hZ (hw _ (List.mem_of_getElem? (i := 18) rfl))) (mvT hZ (hw _ (List.mem_of_getElem? (i := 19) rfl))) (notFace_of_selects (args := #[]) (mvT hZ (hw _ (List.mem_of_getElem? (i := 21) rfl)))) (mvT hZ (hw _ (List.mem_of_getElem? (i := 21) rfl))) (mvT hZ (hw _ (List.mem_of_getElem? (i := 20) rfl))) (by decide) (backOf (W := 0) (own_eqt l Z a0 hw [] b1 b85 p1 p2 p3 p2 T97.heap n0 Z107 po98 f103 f104 po99 po100) hZ (hw _ (List.mem_of_getElem? (i := 22) rfl)) (hw _ (List.mem_of_getElem? (i := 2) rfl)) (by decide) (by decide)) q109a q109c (g := (mkF m 261 #[.val (.long p1), .second, .val (.long p2), .second, .val (.long p3), .second, .val (.long p4), .second, .val (.int p5), .val (.ref b1), .val (.int (p5 &&& (7 : Int32))), .val (.ref b85), .val (.ref b85), .val (.int (1 : Int32)), .unset] [(.ref b85), (.ref b1)])) rfl (by rw [hml]; rfl) (Steps.refl _) (argsL := [(.ref b85)]) (rest := []) (lenOf own_pd3 rfl) rfl (by show 2 * 0 + _ ≤ _; exact Nat.le_of_eq rfl) (hb hby at_261) (fun _ _ => ⟨rfl, rfl, (by decide : 2 + 0 ≤ _), (by decide : 4 + 0 ≤ _)⟩)
          dsimp only [Pt.U, Pt.locs, Pt.cells, Pt.slots] at X109 l109 y109 z109 st109 hQ109
          subst l109 y109 z109
          obtain ⟨r_110, rfl, N109q, e109, po111⟩ := hQ109
          have N109 := Fr.app N97 N109q
          refine OwnGo.back (T109.setTop (mkF m 264 #[.val (.long p1), .second, .val (.long p2), .second, .val (.long p3), .second, .val (.long p4), .second, .val (.int p5), .val (.ref b1), .val (.int (p5 &&& (7 : Int32))), .val (.ref b85), .val (.ref b85), .val (.int (1 : Int32)), .unset] [(.int r_110)])) (fun tg kk => st109.trans kk) ?_
          refine OwnGo.back (T109.setTop (mkF m 266 #[.val (.long p1), .second, .val (.long p2), .second, .val (.long p3), .second, .val (.long p4), .second, .val (.int p5), .val (.ref b1), .val (.int (p5 &&& (7 : Int32))), .val (.ref b85), .val (.ref b85), .val (.int (1 : Int32)), .val (.int r_110)] [])) (fun tg kk => XS.istore X109.here hx rfl (hb hby at_264) rfl (l' := #[.val (.long p1), .second, .val (.long p2), .second, .val (.long p3), .second, .val (.long p4), .second, .val (.int p5), .val (.ref b1), .val (.int (p5 &&& (7 : Int32))), .val (.ref b85), .val (.ref b85), .val (.int (1 : Int32)), .val (.int r_110)]) rfl kk) ?_
          refine OwnGo.back (T109.setTop (mkF m 268 #[.val (.long p1), .second, .val (.long p2), .second, .val (.long p3), .second, .val (.long p4), .second, .val (.int p5), .val (.ref b1), .val (.int (p5 &&& (7 : Int32))), .val (.ref b85), .val (.ref b85), .val (.int (1 : Int32)), .val (.int r_110)] [(.int r_110)])) (fun tg kk => XS.iload X109.here hx rfl (hb hby at_266) rfl kk) ?_
          refine OwnGo.back (T109.setTop (mkF m 270 #[.val (.long p1), .second, .val (.long p2), .second, .val (.long p3), .second, .val (.long p4), .second, .val (.int p5), .val (.ref b1), .val (.int (p5 &&& (7 : Int32))), .val (.ref b85), .val (.ref b85), .val (.int (1 : Int32)), .val (.int r_110)] [(.int (1 : Int32)), (.int r_110)])) (fun tg kk => XS.iload X109.here hx rfl (hb hby at_268) rfl kk) ?_
          refine OwnGo.back (T109.setTop (mkF m 275 #[.val (.long p1), .second, .val (.long p2), .second, .val (.long p3), .second, .val (.long p4), .second, .val (.int p5), .val (.ref b1), .val (.int (p5 &&& (7 : Int32))), .val (.ref b85), .val (.ref b85), .val (.int (1 : Int32)), .val (.int r_110)] [])) (fun tg kk => XS.icmpYes X109.here hx rfl (pc0 := 270) (pc' := 275) rfl (hb hby at_270) rfl (teq (by (simp only [true_and, and_true, false_and, and_false, or_false, false_or, or_true, true_or, not_true_eq_false, not_false_eq_true, eq_self, Int32.lt_iff_toInt_lt, Int32.le_iff_toInt_le, ← Int32.toInt_inj, Int32.reduceToInt, Int64.lt_iff_toInt_lt, Int64.le_iff_toInt_le, ← Int64.toInt_inj, Int64.reduceToInt] at hc17 hc47 hc84 hc108 hB po111 ⊢) <;> omega : r_110 = (1 : Int32))).1 (by decide) (by decide) kk) ?_
          refine OwnGo.back (T109.setTop (mkF m 277 #[.val (.long p1), .second, .val (.long p2), .second, .val (.long p3), .second, .val (.long p4), .second, .val (.int p5), .val (.ref b1), .val (.int (p5 &&& (7 : Int32))), .val (.ref b85), .val (.ref b85), .val (.int (1 : Int32)), .val (.int r_110)] [(.ref b85)])) (fun tg kk => XS.aload X109.here hx rfl (hb hby at_275) rfl rfl kk) ?_
          refine OwnGo.back (T109.setTop (mkF m 280 #[.val (.long p1), .second, .val (.long p2), .second, .val (.long p3), .second, .val (.long p4), .second, .val (.int p5), .val (.ref b1), .val (.int (p5 &&& (7 : Int32))), .val (.ref b85), .val (.ref b85), .val (.int (1 : Int32)), .val (.int r_110)] [])) (fun tg kk => XS.ifnullNo X109.here hx rfl (hb hby at_277) rfl kk) ?_
          refine OwnGo.back (T109.setTop (mkF m 282 #[.val (.long p1), .second, .val (.long p2), .second, .val (.long p3), .second, .val (.long p4), .second, .val (.int p5), .val (.ref b1), .val (.int (p5 &&& (7 : Int32))), .val (.ref b85), .val (.ref b85), .val (.int (1 : Int32)), .val (.int r_110)] [(.ref b85)])) (fun tg kk => XS.aload X109.here hx rfl (hb hby at_280) rfl rfl kk) ?_
          refine OwnGo.back (T109.setTop (mkF m 284 #[.val (.long p1), .second, .val (.long p2), .second, .val (.long p3), .second, .val (.long p4), .second, .val (.int p5), .val (.ref b1), .val (.int (p5 &&& (7 : Int32))), .val (.ref b85), .val (.ref b85), .val (.int (1 : Int32)), .val (.int r_110)] [(.ref b1), (.ref b85)])) (fun tg kk => XS.aload X109.here hx rfl (hb hby at_282) rfl rfl kk) ?_
          obtain ⟨cq112, kq112, q112a, q112b, q112c⟩ := isOf hZ e109 po98
          obtain ⟨_, _, ⟨T112, L112, k112, n112⟩, -, X112, ⟨Lc112, hQ112, l112, y112, z112⟩, st112⟩ := X109.virtualBack hx (y := (⟨"com/example/lienledger/lienledger/io/Checksum", "equals", "(Ljava/lang/Object;)Z"⟩ : MethodName)) (z := (⟨"com/example/lienledger/lienledger/io/Checksum", "equals", "(Ljava/lang/Object;)Z"⟩ : MethodName)) hown (mvT hZ (hw _ (List.mem_of_getElem? (i := 18) rfl))) (mvT hZ (hw _ (List.mem_of_getElem? (i := 19) rfl))) (notFace_of_selects (args := #[]) (mvT hZ (hw _ (List.mem_of_getElem? (i := 21) rfl)))) (mvT hZ (hw _ (List.mem_of_getElem? (i := 21) rfl))) (mvT hZ (hw _ (List.mem_of_getElem? (i := 20) rfl))) (by decide) (backOf (W := 0) (own_eqt l Z a0 hw [] b85 b1 p3 p2 p1 p2 T97.heap n0 Z107 f102 po99 po100 f103 f104) hZ (hw _ (List.mem_of_getElem? (i := 22) rfl)) (hw _ (List.mem_of_getElem? (i := 2) rfl)) (by decide) (by decide)) q112a q112c (g := (mkF m 284 #[.val (.long p1), .second, .val (.long p2), .second, .val (.long p3), .second, .val (.long p4), .second, .val (.int p5), .val (.ref b1), .val (.int (p5 &&& (7 : Int32))), .val (.ref b85), .val (.ref b85), .val (.int (1 : Int32)), .val (.int r_110)] [(.ref b1), (.ref b85)])) rfl (by rw [hml]; rfl) (Steps.refl _) (argsL := [(.ref b1)]) (rest := []) (lenOf own_pd3 rfl) rfl (by show 2 * 0 + _ ≤ _; exact Nat.le_of_eq rfl) (hb hby at_284) (fun _ _ => ⟨rfl, e109, (by decide : 2 + 0 ≤ _), (by decide : 4 + 0 ≤ _)⟩)
          dsimp only [Pt.U, Pt.locs, Pt.cells, Pt.slots] at X112 l112 y112 z112 st112 hQ112
          subst l112 y112 z112
          obtain ⟨r_113, rfl, N112q, e112, po114⟩ := hQ112
          have N112 := Fr.app N109 N112q
          refine OwnGo.back (T112.setTop (mkF m 287 #[.val (.long p1), .second, .val (.long p2), .second, .val (.long p3), .second, .val (.long p4), .second, .val (.int p5), .val (.ref b1), .val (.int (p5 &&& (7 : Int32))), .val (.ref b85), .val (.ref b85), .val (.int (1 : Int32)), .val (.int r_110)] [(.int r_113)])) (fun tg kk => st112.trans kk) ?_
          refine OwnGo.back (T112.setTop (mkF m 289 #[.val (.long p1), .second, .val (.long p2), .second, .val (.long p3), .second, .val (.long p4), .second, .val (.int p5), .val (.ref b1), .val (.int (p5 &&& (7 : Int32))), .val (.ref b85), .val (.ref b85), .val (.int (1 : Int32)), .val (.int r_110)] [(.int (1 : Int32)), (.int r_113)])) (fun tg kk => XS.iload X112.here hx rfl (hb hby at_287) rfl kk) ?_
          refine OwnGo.back (T112.setTop (mkF m 294 #[.val (.long p1), .second, .val (.long p2), .second, .val (.long p3), .second, .val (.long p4), .second, .val (.int p5), .val (.ref b1), .val (.int (p5 &&& (7 : Int32))), .val (.ref b85), .val (.ref b85), .val (.int (1 : Int32)), .val (.int r_110)] [])) (fun tg kk => XS.icmpYes X112.here hx rfl (pc0 := 289) (pc' := 294) rfl (hb hby at_289) rfl (teq (by (simp only [true_and, and_true, false_and, and_false, or_false, false_or, or_true, true_or, not_true_eq_false, not_false_eq_true, eq_self, Int32.lt_iff_toInt_lt, Int32.le_iff_toInt_le, ← Int32.toInt_inj, Int32.reduceToInt, Int64.lt_iff_toInt_lt, Int64.le_iff_toInt_le, ← Int64.toInt_inj, Int64.reduceToInt] at hc17 hc47 hc84 hc108 hB po111 po114 ⊢) <;> omega : r_113 = (1 : Int32))).1 (by decide) (by decide) kk) ?_
          refine OwnGo.back (T112.setTop (mkF m 295 #[.val (.long p1), .second, .val (.long p2), .second, .val (.long p3), .second, .val (.long p4), .second, .val (.int p5), .val (.ref b1), .val (.int (p5 &&& (7 : Int32))), .val (.ref b85), .val (.ref b85), .val (.int (1 : Int32)), .val (.int r_110)] [(.int (1 : Int32))])) (fun tg kk => XS.iconst X112.here hx rfl (hb hby at_294) kk) ?_
          obtain ⟨fs, hr, hrun, hended, hW, hsame⟩ := X112.leave (v := some (.int (1 : Int32))) (fun h => by rw [Bd.returns] at h; cases h)
          refine ⟨_, _, ?_, hrun, hended, _, _, rfl, ?_, ⟨_, rfl⟩, hW, hsame.mono (by decide) (by decide)⟩
          · exact retN X112 hx (t := .boolean) Bd.returns (by simp) (hb hby at_295) hr
          · show own_law_Q Z p1 p2 p3 p4 p5 ca h0 n0 _ T112.heap _
            rw [e112]
            exact ⟨rfl, N112, K106⟩
        ·
          refine OwnGo.back (T97.setTop (mkF m 116 #[.val (.long p1), .second, .val (.long p2), .second, .val (.long p3), .second, .val (.long p4), .second, .val (.int p5), .val (.ref b1), .val (.int (p5 &&& (7 : Int32))), .val (.ref b85), .val (.ref b85), .unset, .unset] [])) (fun tg kk => XS.ifYes X97.here hx rfl (pc0 := 109) (pc' := 116) rfl (hb hby at_109) rfl ((if0 _ _).trans (feq (own_not (lw_eq _ _) hc108)).2) (by decide) (by decide) kk) ?_
          refine OwnGo.back (T97.setTop (mkF m 117 #[.val (.long p1), .second, .val (.long p2), .second, .val (.long p3), .second, .val (.long p4), .second, .val (.int p5), .val (.ref b1), .val (.int (p5 &&& (7 : Int32))), .val (.ref b85), .val (.ref b85), .unset, .unset] [(.int (0 : Int32))])) (fun tg kk => XS.iconst X97.here hx rfl (hb hby at_116) kk) ?_
          refine OwnGo.back (T97.setTop (mkF m 119 #[.val (.long p1), .second, .val (.long p2), .second, .val (.long p3), .second, .val (.long p4), .second, .val (.int p5), .val (.ref b1), .val (.int (p5 &&& (7 : Int32))), .val (.ref b85), .val (.ref b85), .val (.int (0 : Int32)), .unset] [])) (fun tg kk => XS.istore X97.here hx rfl (hb hby at_117) rfl (l' := #[.val (.long p1), .second, .val (.long p2), .second, .val (.long p3), .second, .val (.long p4), .second, .val (.int p5), .val (.ref b1), .val (.int (p5 &&& (7 : Int32))), .val (.ref b85), .val (.ref b85), .val (.int (0 : Int32)), .unset]) rfl kk) ?_
          refine OwnGo.back (T97.setTop (mkF m 257 #[.val (.long p1), .second, .val (.long p2), .second, .val (.long p3), .second, .val (.long p4), .second, .val (.int p5), .val (.ref b1), .val (.int (p5 &&& (7 : Int32))), .val (.ref b85), .val (.ref b85), .val (.int (0 : Int32)), .unset] [])) (fun tg kk => XS.goto X97.here hx rfl (pc0 := 119) (pc' := 257) rfl (hb hby at_119) (by decide) (by decide) kk) ?_
          refine OwnGo.back (T97.setTop (mkF m 259 #[.val (.long p1), .second, .val (.long p2), .second, .val (.long p3), .second, .val (.long p4), .second, .val (.int p5), .val (.ref b1), .val (.int (p5 &&& (7 : Int32))), .val (.ref b85), .val (.ref b85), .val (.int (0 : Int32)), .unset] [(.ref b1)])) (fun tg kk => XS.aload X97.here hx rfl (hb hby at_257) rfl rfl kk) ?_
          refine OwnGo.back (T97.setTop (mkF m 261 #[.val (.long p1), .second, .val (.long p2), .second, .val (.long p3), .second, .val (.long p4), .second, .val (.int p5), .val (.ref b1), .val (.int (p5 &&& (7 : Int32))), .val (.ref b85), .val (.ref b85), .val (.int (0 : Int32)), .unset] [(.ref b85), (.ref b1)])) (fun tg kk => XS.aload X97.here hx rfl (hb hby at_259) rfl rfl kk) ?_
          obtain ⟨cq115, kq115, q115a, q115b, q115c⟩ := isOf hZ rfl f102
          obtain ⟨_, _, ⟨T115, L115, k115, n115⟩, -, X115, ⟨Lc115, hQ115, l115, y115, z115⟩, st115⟩ := X97.virtualBack hx (y := (⟨"com/example/lienledger/lienledger/io/Checksum", "equals", "(Ljava/lang/Object;)Z"⟩ : MethodName)) (z := (⟨"com/example/lienledger/lienledger/io/Checksum", "equals", "(Ljava/lang/Object;)Z"⟩ : MethodName)) hown (mvT hZ (hw _ (List.mem_of_getElem? (i := 18) rfl))) (mvT hZ (hw _ (List.mem_of_getElem? (i := 19) rfl))) (notFace_of_selects (args := #[]) (mvT hZ (hw _ (List.mem_of_getElem? (i := 21) rfl)))) (mvT hZ (hw _ (List.mem_of_getElem? (i := 21) rfl))) (mvT hZ (hw _ (List.mem_of_getElem? (i := 20) rfl))) (by decide) (backOf (W := 0) (own_eqt l Z a0 hw [] b1 b85 p1 p2 p3 p2 T97.heap n0 Z107 po98 f103 f104 po99 po100) hZ (hw _ (List.mem_of_getElem? (i := 22) rfl)) (hw _ (List.mem_of_getElem? (i := 2) rfl)) (by decide) (by decide)) q115a q115c (g := (mkF m 261 #[.val (.long p1), .second, .val (.long p2), .second, .val (.long p3), .second, .val (.long p4), .second, .val (.int p5), .val (.ref b1), .val (.int (p5 &&& (7 : Int32))), .val (.ref b85), .val (.ref b85), .val (.int (0 : Int32)), .unset] [(.ref b85), (.ref b1)])) rfl (by rw [hml]; rfl) (Steps.refl _) (argsL := [(.ref b85)]) (rest := []) (lenOf own_pd3 rfl) rfl (by show 2 * 0 + _ ≤ _; exact Nat.le_of_eq rfl) (hb hby at_261) (fun _ _ => ⟨rfl, rfl, (by decide : 2 + 0 ≤ _), (by decide : 4 + 0 ≤ _)⟩)
          dsimp only [Pt.U, Pt.locs, Pt.cells, Pt.slots] at X115 l115 y115 z115 st115 hQ115
          subst l115 y115 z115
          obtain ⟨r_116, rfl, N115q, e115, po117⟩ := hQ115
          have N115 := Fr.app N97 N115q
          refine OwnGo.back (T115.setTop (mkF m 264 #[.val (.long p1), .second, .val (.long p2), .second, .val (.long p3), .second, .val (.long p4), .second, .val (.int p5), .val (.ref b1), .val (.int (p5 &&& (7 : Int32))), .val (.ref b85), .val (.ref b85), .val (.int (0 : Int32)), .unset] [(.int r_116)])) (fun tg kk => st115.trans kk) ?_
          refine OwnGo.back (T115.setTop (mkF m 266 #[.val (.long p1), .second, .val (.long p2), .second, .val (.long p3), .second, .val (.long p4), .second, .val (.int p5), .val (.ref b1), .val (.int (p5 &&& (7 : Int32))), .val (.ref b85), .val (.ref b85), .val (.int (0 : Int32)), .val (.int r_116)] [])) (fun tg kk => XS.istore X115.here hx rfl (hb hby at_264) rfl (l' := #[.val (.long p1), .second, .val (.long p2), .second, .val (.long p3), .second, .val (.long p4), .second, .val (.int p5), .val (.ref b1), .val (.int (p5 &&& (7 : Int32))), .val (.ref b85), .val (.ref b85), .val (.int (0 : Int32)), .val (.int r_116)]) rfl kk) ?_
          refine OwnGo.back (T115.setTop (mkF m 268 #[.val (.long p1), .second, .val (.long p2), .second, .val (.long p3), .second, .val (.long p4), .second, .val (.int p5), .val (.ref b1), .val (.int (p5 &&& (7 : Int32))), .val (.ref b85), .val (.ref b85), .val (.int (0 : Int32)), .val (.int r_116)] [(.int r_116)])) (fun tg kk => XS.iload X115.here hx rfl (hb hby at_266) rfl kk) ?_
          refine OwnGo.back (T115.setTop (mkF m 270 #[.val (.long p1), .second, .val (.long p2), .second, .val (.long p3), .second, .val (.long p4), .second, .val (.int p5), .val (.ref b1), .val (.int (p5 &&& (7 : Int32))), .val (.ref b85), .val (.ref b85), .val (.int (0 : Int32)), .val (.int r_116)] [(.int (0 : Int32)), (.int r_116)])) (fun tg kk => XS.iload X115.here hx rfl (hb hby at_268) rfl kk) ?_
          refine OwnGo.back (T115.setTop (mkF m 275 #[.val (.long p1), .second, .val (.long p2), .second, .val (.long p3), .second, .val (.long p4), .second, .val (.int p5), .val (.ref b1), .val (.int (p5 &&& (7 : Int32))), .val (.ref b85), .val (.ref b85), .val (.int (0 : Int32)), .val (.int r_116)] [])) (fun tg kk => XS.icmpYes X115.here hx rfl (pc0 := 270) (pc' := 275) rfl (hb hby at_270) rfl (teq (by (simp only [true_and, and_true, false_and, and_false, or_false, false_or, or_true, true_or, not_true_eq_false, not_false_eq_true, eq_self, Int32.lt_iff_toInt_lt, Int32.le_iff_toInt_le, ← Int32.toInt_inj, Int32.reduceToInt, Int64.lt_iff_toInt_lt, Int64.le_iff_toInt_le, ← Int64.toInt_inj, Int64.reduceToInt] at hc17 hc47 hc84 hc108 hB po117 ⊢) <;> omega : r_116 = (0 : Int32))).1 (by decide) (by decide) kk) ?_
          refine OwnGo.back (T115.setTop (mkF m 277 #[.val (.long p1), .second, .val (.long p2), .second, .val (.long p3), .second, .val (.long p4), .second, .val (.int p5), .val (.ref b1), .val (.int (p5 &&& (7 : Int32))), .val (.ref b85), .val (.ref b85), .val (.int (0 : Int32)), .val (.int r_116)] [(.ref b85)])) (fun tg kk => XS.aload X115.here hx rfl (hb hby at_275) rfl rfl kk) ?_
          refine OwnGo.back (T115.setTop (mkF m 280 #[.val (.long p1), .second, .val (.long p2), .second, .val (.long p3), .second, .val (.long p4), .second, .val (.int p5), .val (.ref b1), .val (.int (p5 &&& (7 : Int32))), .val (.ref b85), .val (.ref b85), .val (.int (0 : Int32)), .val (.int r_116)] [])) (fun tg kk => XS.ifnullNo X115.here hx rfl (hb hby at_277) rfl kk) ?_
          refine OwnGo.back (T115.setTop (mkF m 282 #[.val (.long p1), .second, .val (.long p2), .second, .val (.long p3), .second, .val (.long p4), .second, .val (.int p5), .val (.ref b1), .val (.int (p5 &&& (7 : Int32))), .val (.ref b85), .val (.ref b85), .val (.int (0 : Int32)), .val (.int r_116)] [(.ref b85)])) (fun tg kk => XS.aload X115.here hx rfl (hb hby at_280) rfl rfl kk) ?_
          refine OwnGo.back (T115.setTop (mkF m 284 #[.val (.long p1), .second, .val (.long p2), .second, .val (.long p3), .second, .val (.long p4), .second, .val (.int p5), .val (.ref b1), .val (.int (p5 &&& (7 : Int32))), .val (.ref b85), .val (.ref b85), .val (.int (0 : Int32)), .val (.int r_116)] [(.ref b1), (.ref b85)])) (fun tg kk => XS.aload X115.here hx rfl (hb hby at_282) rfl rfl kk) ?_
          obtain ⟨cq118, kq118, q118a, q118b, q118c⟩ := isOf hZ e115 po98
          obtain ⟨_, _, ⟨T118, L118, k118, n118⟩, -, X118, ⟨Lc118, hQ118, l118, y118, z118⟩, st118⟩ := X115.virtualBack hx (y := (⟨"com/example/lienledger/lienledger/io/Checksum", "equals", "(Ljava/lang/Object;)Z"⟩ : MethodName)) (z := (⟨"com/example/lienledger/lienledger/io/Checksum", "equals", "(Ljava/lang/Object;)Z"⟩ : MethodName)) hown (mvT hZ (hw _ (List.mem_of_getElem? (i := 18) rfl))) (mvT hZ (hw _ (List.mem_of_getElem? (i := 19) rfl))) (notFace_of_selects (args := #[]) (mvT hZ (hw _ (List.mem_of_getElem? (i := 21) rfl)))) (mvT hZ (hw _ (List.mem_of_getElem? (i := 21) rfl))) (mvT hZ (hw _ (List.mem_of_getElem? (i := 20) rfl))) (by decide) (backOf (W := 0) (own_eqt l Z a0 hw [] b85 b1 p3 p2 p1 p2 T97.heap n0 Z107 f102 po99 po100 f103 f104) hZ (hw _ (List.mem_of_getElem? (i := 22) rfl)) (hw _ (List.mem_of_getElem? (i := 2) rfl)) (by decide) (by decide)) q118a q118c (g := (mkF m 284 #[.val (.long p1), .second, .val (.long p2), .second, .val (.long p3), .second, .val (.long p4), .second, .val (.int p5), .val (.ref b1), .val (.int (p5 &&& (7 : Int32))), .val (.ref b85), .val (.ref b85), .val (.int (0 : Int32)), .val (.int r_116)] [(.ref b1), (.ref b85)])) rfl (by rw [hml]; rfl) (Steps.refl _) (argsL := [(.ref b1)]) (rest := []) (lenOf own_pd3 rfl) rfl (by show 2 * 0 + _ ≤ _; exact Nat.le_of_eq rfl) (hb hby at_284) (fun _ _ => ⟨rfl, e115, (by decide : 2 + 0 ≤ _), (by decide : 4 + 0 ≤ _)⟩)
          dsimp only [Pt.U, Pt.locs, Pt.cells, Pt.slots] at X118 l118 y118 z118 st118 hQ118
          subst l118 y118 z118
          obtain ⟨r_119, rfl, N118q, e118, po120⟩ := hQ118
          have N118 := Fr.app N115 N118q
          refine OwnGo.back (T118.setTop (mkF m 287 #[.val (.long p1), .second, .val (.long p2), .second, .val (.long p3), .second, .val (.long p4), .second, .val (.int p5), .val (.ref b1), .val (.int (p5 &&& (7 : Int32))), .val (.ref b85), .val (.ref b85), .val (.int (0 : Int32)), .val (.int r_116)] [(.int r_119)])) (fun tg kk => st118.trans kk) ?_
          refine OwnGo.back (T118.setTop (mkF m 289 #[.val (.long p1), .second, .val (.long p2), .second, .val (.long p3), .second, .val (.long p4), .second, .val (.int p5), .val (.ref b1), .val (.int (p5 &&& (7 : Int32))), .val (.ref b85), .val (.ref b85), .val (.int (0 : Int32)), .val (.int r_116)] [(.int (0 : Int32)), (.int r_119)])) (fun tg kk => XS.iload X118.here hx rfl (hb hby at_287) rfl kk) ?_
          refine OwnGo.back (T118.setTop (mkF m 294 #[.val (.long p1), .second, .val (.long p2), .second, .val (.long p3), .second, .val (.long p4), .second, .val (.int p5), .val (.ref b1), .val (.int (p5 &&& (7 : Int32))), .val (.ref b85), .val (.ref b85), .val (.int (0 : Int32)), .val (.int r_116)] [])) (fun tg kk => XS.icmpYes X118.here hx rfl (pc0 := 289) (pc' := 294) rfl (hb hby at_289) rfl (teq (by (simp only [true_and, and_true, false_and, and_false, or_false, false_or, or_true, true_or, not_true_eq_false, not_false_eq_true, eq_self, Int32.lt_iff_toInt_lt, Int32.le_iff_toInt_le, ← Int32.toInt_inj, Int32.reduceToInt, Int64.lt_iff_toInt_lt, Int64.le_iff_toInt_le, ← Int64.toInt_inj, Int64.reduceToInt] at hc17 hc47 hc84 hc108 hB po117 po120 ⊢) <;> omega : r_119 = (0 : Int32))).1 (by decide) (by decide) kk) ?_
          refine OwnGo.back (T118.setTop (mkF m 295 #[.val (.long p1), .second, .val (.long p2), .second, .val (.long p3), .second, .val (.long p4), .second, .val (.int p5), .val (.ref b1), .val (.int (p5 &&& (7 : Int32))), .val (.ref b85), .val (.ref b85), .val (.int (0 : Int32)), .val (.int r_116)] [(.int (1 : Int32))])) (fun tg kk => XS.iconst X118.here hx rfl (hb hby at_294) kk) ?_
          obtain ⟨fs, hr, hrun, hended, hW, hsame⟩ := X118.leave (v := some (.int (1 : Int32))) (fun h => by rw [Bd.returns] at h; cases h)
          refine ⟨_, _, ?_, hrun, hended, _, _, rfl, ?_, ⟨_, rfl⟩, hW, hsame.mono (by decide) (by decide)⟩
          · exact retN X118 hx (t := .boolean) Bd.returns (by simp) (hb hby at_295) hr
          · show own_law_Q Z p1 p2 p3 p4 p5 ca h0 n0 _ T118.heap _
            rw [e118]
            exact ⟨rfl, N118, K106⟩
      ·
        refine OwnGo.back (T9.setTop (mkF m 122 #[.val (.long p1), .second, .val (.long p2), .second, .val (.long p3), .second, .val (.long p4), .second, .val (.int p5), .val (.ref b1), .val (.int (p5 &&& (7 : Int32))), .unset, .unset, .unset, .unset] [])) (fun tg kk => XS.icmpYes X9.here hx rfl (pc0 := 86) (pc' := 122) rfl (hb hby at_86) rfl (feq hc84).2 (by decide) (by decide) kk) ?_
        refine OwnGo.back (T9.setTop (mkF m 124 #[.val (.long p1), .second, .val (.long p2), .second, .val (.long p3), .second, .val (.long p4), .second, .val (.int p5), .val (.ref b1), .val (.int (p5 &&& (7 : Int32))), .unset, .unset, .unset, .unset] [(.int (p5 &&& (7 : Int32)))])) (fun tg kk => XS.iload X9.here hx rfl (hb hby at_122) rfl kk) ?_
        refine OwnGo.back (T9.setTop (mkF m 125 #[.val (.long p1), .second, .val (.long p2), .second, .val (.long p3), .second, .val (.long p4), .second, .val (.int p5), .val (.ref b1), .val (.int (p5 &&& (7 : Int32))), .unset, .unset, .unset, .unset] [(.int (3 : Int32)), (.int (p5 &&& (7 : Int32)))])) (fun tg kk => XS.iconst X9.here hx rfl (hb hby at_124) kk) ?_
        by_cases hc121 : (p5 &&& (7 : Int32)) = (3 : Int32)
        ·
          refine OwnGo.back (T9.setTop (mkF m 128 #[.val (.long p1), .second, .val (.long p2), .second, .val (.long p3), .second, .val (.long p4), .second, .val (.int p5), .val (.ref b1), .val (.int (p5 &&& (7 : Int32))), .unset, .unset, .unset, .unset] [])) (fun tg kk => XS.icmpNo X9.here hx rfl (hb hby at_125) rfl (teq hc121).2 kk) ?_
          obtain ⟨T122, h122, X122, e122, E122, A122, D122, -, st122⟩ := newO X9 hx hZ hown (hw _ (List.mem_of_getElem? (i := 0) rfl)) (hw _ (List.mem_of_getElem? (i := 1) rfl)) (hw _ (List.mem_of_getElem? (i := 2) rfl)) rfl (g := (mkF m 128 #[.val (.long p1), .second, .val (.long p2), .second, .val (.long p3), .second, .val (.long p4), .second, .val (.int p5), .val (.ref b1), .val (.int (p5 &&& (7 : Int32))), .unset, .unset, .unset, .unset] [])) rfl (hb hby at_128) (by decide) (by decide)
          obtain ⟨b122, q122⟩ : ∃ z, z = T9.heap.size := ⟨_, rfl⟩
          rw [← q122] at A122 D122 st122
          have n123 : b1 ≠ b122 := own_ne po10.lt q122
          have g124 : n0 ≤ b122 := Nat.le_trans Z16 (Nat.le_of_eq q122.symm)
          have s125 : h0.size ≤ b122 := Nat.le_trans K15.1 (Nat.le_of_eq q122.symm)
          have f126 : Old Z n0 h122 := f13.ext E122
          have f127 : Exa Z h122 b1 "com/example/lienledger/lienledger/io/Checksum" := po10.ext E122
          have f128 : Fld Z h122 b1 "com/example/lienledger/lienledger/io/Checksum" "crc32c" "J" (.long p1) := po11.ext E122
          have f129 : Fld Z h122 b1 "com/example/lienledger/lienledger/io/Checksum" "length" "J" (.long p2) := po12.ext E122
          have K130 : Keep h0 h122 [] := K15.ext E122
          have Z131 : n0 ≤ h122.size := Nat.le_trans Z16 E122.1
          have f132 : Fld Z h122 b122 "com/example/lienledger/lienledger/io/Checksum" "crc32c" "J" (.long (0 : Int64)) := D122 (Or.inr (hw _ (List.mem_of_getElem? (i := 15) rfl))) (ty := .long) (by decide)
          have f133 : Fld Z h122 b122 "com/example/lienledger/lienledger/io/Checksum" "length" "J" (.long (0 : Int64)) := D122 (Or.inr (hw _ (List.mem_of_getElem? (i := 17) rfl))) (ty := .long) (by decide)
          refine OwnGo.back (T122.setTop (mkF m 131 #[.val (.long p1), .second, .val (.long p2), .second, .val (.long p3), .second, .val (.long p4), .second, .val (.int p5), .val (.ref b1), .val (.int (p5 &&& (7 : Int32))), .unset, .unset, .unset, .unset] [(.ref b122)])) (fun tg kk => st122 _ kk) ?_
          refine OwnGo.back (T122.setTop (mkF m 132 #[.val (.long p1), .second, .val (.long p2), .second, .val (.long p3), .second, .val (.long p4), .second, .val (.int p5), .val (.ref b1), .val (.int (p5 &&& (7 : Int32))), .unset, .unset, .unset, .unset] [(.ref b122), (.ref b122)])) (fun tg kk => XS.dup X122.here hx rfl (hb hby at_131) rfl rfl kk) ?_
          refine OwnGo.back (T122.setTop (mkF m 134 #[.val (.long p1), .second, .val (.long p2), .second, .val (.long p3), .second, .val (.long p4), .second, .val (.int p5), .val (.ref b1), .val (.int (p5 &&& (7 : Int32))), .unset, .unset, .unset, .unset] [(.long p3), (.ref b122), (.ref b122)])) (fun tg kk => XS.lload X122.here hx rfl (hb hby at_132) rfl kk) ?_
          refine OwnGo.back (T122.setTop (mkF m 136 #[.val (.long p1), .second, .val (.long p2), .second, .val (.long p3), .second, .val (.long p4), .second, .val (.int p5), .val (.ref b1), .val (.int (p5 &&& (7 : Int32))), .unset, .unset, .unset, .unset] [(.long p4), (.long p3), (.ref b122), (.ref b122)])) (fun tg kk => XS.lload X122.here hx rfl (hb hby at_134) rfl kk) ?_
          obtain ⟨_, _, ⟨T134, L134, k134, n134⟩, -, X134, ⟨Lc134, hQ134, l134, y134, z134⟩, st134⟩ := X122.specialBack hx (y := (⟨"com/example/lienledger/lienledger/io/Checksum", "<init>", "(JJ)V"⟩ : MethodName)) rfl hown (mvT hZ (hw _ (List.mem_of_getElem? (i := 3) rfl))) (mvT hZ (hw _ (List.mem_of_getElem? (i := 4) rfl))) (mvT hZ (hw _ (List.mem_of_getElem? (i := 5) rfl))) (by decide) (backOf (W := 1) (own_ck l Z a0 hw [] b122 p3 p4 h122 n0 Z131 A122 f132 f133 g124) hZ (hw _ (List.mem_of_getElem? (i := 5) rfl)) (hw _ (List.mem_of_getElem? (i := 2) rfl)) (by decide) (by decide)) (g := (mkF m 136 #[.val (.long p1), .second, .val (.long p2), .second, .val (.long p3), .second, .val (.long p4), .second, .val (.int p5), .val (.ref b1), .val (.int (p5 &&& (7 : Int32))), .unset, .unset, .unset, .unset] [(.long p4), (.long p3), (.ref b122), (.ref b122)])) rfl (by rw [hml]; rfl) (Steps.refl _) (a := b122) (argsL := [(.long p3), (.long p4)]) (rest := [(.ref b122)]) (lenOf own_pd2 rfl) rfl (by show 2 * 0 + _ ≤ _; exact Nat.le_of_eq rfl) (hb hby at_136) (fun _ _ => ⟨rfl, e122, (by decide : 2 + 0 ≤ _), (by decide : 4 + 0 ≤ _)⟩)
          dsimp only [Pt.U, Pt.locs, Pt.cells, Pt.slots] at X134 l134 y134 z134 st134 hQ134
          subst l134 y134 z134
          obtain ⟨rfl, N134q, Kc134, po135, po136, po137⟩ := hQ134
          have N134 := Fr.app N9 N134q
          have f138 : Old Z n0 T134.heap := f126.keep Kc134 (allS g124 all0)
          have f139 : Exa Z T134.heap b1 "com/example/lienledger/lienledger/io/Checksum" := f127.keep Kc134
          have f140 : Fld Z T134.heap b1 "com/example/lienledger/lienledger/io/Checksum" "crc32c" "J" (.long p1) := f128.keep Kc134 (ninS n123 nin0)
          have f141 : Fld Z T134.heap b1 "com/example/lienledger/lienledger/io/Checksum" "length" "J" (.long p2) := f129.keep Kc134 (ninS n123 nin0)
          have f142 : Exa Z T134.heap b122 "com/example/lienledger/lienledger/io/Checksum" := A122.keep Kc134
          have K143 : Keep h0 T134.heap [] := K130.trans Kc134 (allS (Or.inr s125) all0)
          have Z144 : n0 ≤ T134.heap.size := Nat.le_trans Z131 Kc134.1
          refine OwnGo.back (T134.setTop (mkF m 139 #[.val (.long p1), .second, .val (.long p2), .second, .val (.long p3), .second, .val (.long p4), .second, .val (.int p5), .val (.ref b1), .val (.int (p5 &&& (7 : Int32))), .unset, .unset, .unset, .unset] [(.ref b122)])) (fun tg kk => st134.trans kk) ?_
          refine OwnGo.back (T134.setTop (mkF m 141 #[.val (.long p1), .second, .val (.long p2), .second, .val (.long p3), .second, .val (.long p4), .second, .val (.int p5), .val (.ref b1), .val (.int (p5 &&& (7 : Int32))), .unset, .val (.ref b122), .unset, .unset] [])) (fun tg kk => XS.astore X134.here hx rfl (hb hby at_139) rfl rfl (l' := #[.val (.long p1), .second, .val (.long p2), .second, .val (.long p3), .second, .val (.long p4), .second, .val (.int p5), .val (.ref b1), .val (.int (p5 &&& (7 : Int32))), .unset, .val (.ref b122), .unset, .unset]) rfl kk) ?_
          refine OwnGo.back (T134.setTop (mkF m 143 #[.val (.long p1), .second, .val (.long p2), .second, .val (.long p3), .second, .val (.long p4), .second, .val (.int p5), .val (.ref b1), .val (.int (p5 &&& (7 : Int32))), .unset, .val (.ref b122), .unset, .unset] [(.ref b122)])) (fun tg kk => XS.aload X134.here hx rfl (hb hby at_141) rfl rfl kk) ?_
          refine OwnGo.back (T134.setTop (mkF m 145 #[.val (.long p1), .second, .val (.long p2), .second, .val (.long p3), .second, .val (.long p4), .second, .val (.int p5), .val (.ref b1), .val (.int (p5 &&& (7 : Int32))), .val (.ref b122), .val (.ref b122), .unset, .unset] [])) (fun tg kk => XS.astore X134.here hx rfl (hb hby at_143) rfl rfl (l' := #[.val (.long p1), .second, .val (.long p2), .second, .val (.long p3), .second, .val (.long p4), .second, .val (.int p5), .val (.ref b1), .val (.int (p5 &&& (7 : Int32))), .val (.ref b122), .val (.ref b122), .unset, .unset]) rfl kk) ?_
          refine OwnGo.back (T134.setTop (mkF m 146 #[.val (.long p1), .second, .val (.long p2), .second, .val (.long p3), .second, .val (.long p4), .second, .val (.int p5), .val (.ref b1), .val (.int (p5 &&& (7 : Int32))), .val (.ref b122), .val (.ref b122), .unset, .unset] [(.long p1)])) (fun tg kk => XS.lloadN X134.here hx rfl (hb hby at_145) rfl kk) ?_
          refine OwnGo.back (T134.setTop (mkF m 148 #[.val (.long p1), .second, .val (.long p2), .second, .val (.long p3), .second, .val (.long p4), .second, .val (.int p5), .val (.ref b1), .val (.int (p5 &&& (7 : Int32))), .val (.ref b122), .val (.ref b122), .unset, .unset] [(.long p3), (.long p1)])) (fun tg kk => XS.lload X134.here hx rfl (hb hby at_146) rfl kk) ?_
          refine OwnGo.back (T134.setTop (mkF m 149 #[.val (.long p1), .second, .val (.long p2), .second, .val (.long p3), .second, .val (.long p4), .second, .val (.int p5), .val (.ref b1), .val (.int (p5 &&& (7 : Int32))), .val (.ref b122), .val (.ref b122), .unset, .unset] [(.int (lcmpW p1 p3))])) (fun tg kk => XS.lcmp X134.here hx rfl (hb hby at_148) rfl kk) ?_
          by_cases hc145 : p1 = p3
          ·
            refine OwnGo.back (T134.setTop (mkF m 152 #[.val (.long p1), .second, .val (.long p2), .second, .val (.long p3), .second, .val (.long p4), .second, .val (.int p5), .val (.ref b1), .val (.int (p5 &&& (7 : Int32))), .val (.ref b122), .val (.ref b122), .unset, .unset] [])) (fun tg kk => XS.ifNo X134.here hx rfl (hb hby at_149) rfl ((if0 _ _).trans (teq ((lw_eq _ _).mpr hc145)).2) kk) ?_
            refine OwnGo.back (T134.setTop (mkF m 153 #[.val (.long p1), .second, .val (.long p2), .second, .val (.long p3), .second, .val (.long p4), .second, .val (.int p5), .val (.ref b1), .val (.int (p5 &&& (7 : Int32))), .val (.ref b122), .val (.ref b122), .unset, .unset] [(.long p2)])) (fun tg kk => XS.lloadN X134.here hx rfl (hb hby at_152) rfl kk) ?_
            refine OwnGo.back (T134.setTop (mkF m 155 #[.val (.long p1), .second, .val (.long p2), .second, .val (.long p3), .second, .val (.long p4), .second, .val (.int p5), .val (.ref b1), .val (.int (p5 &&& (7 : Int32))), .val (.ref b122), .val (.ref b122), .unset, .unset] [(.long p4), (.long p2)])) (fun tg kk => XS.lload X134.here hx rfl (hb hby at_153) rfl kk) ?_
            refine OwnGo.back (T134.setTop (mkF m 156 #[.val (.long p1), .second, .val (.long p2), .second, .val (.long p3), .second, .val (.long p4), .second, .val (.int p5), .val (.ref b1), .val (.int (p5 &&& (7 : Int32))), .val (.ref b122), .val (.ref b122), .unset, .unset] [(.int (lcmpW p2 p4))])) (fun tg kk => XS.lcmp X134.here hx rfl (hb hby at_155) rfl kk) ?_
            by_cases hc146 : p2 = p4
            ·
              refine OwnGo.back (T134.setTop (mkF m 159 #[.val (.long p1), .second, .val (.long p2), .second, .val (.long p3), .second, .val (.long p4), .second, .val (.int p5), .val (.ref b1), .val (.int (p5 &&& (7 : Int32))), .val (.ref b122), .val (.ref b122), .unset, .unset] [])) (fun tg kk => XS.ifNo X134.here hx rfl (hb hby at_156) rfl ((if0 _ _).trans (teq ((lw_eq _ _).mpr hc146)).2) kk) ?_
              refine OwnGo.back (T134.setTop (mkF m 160 #[.val (.long p1), .second, .val (.long p2), .second, .val (.long p3), .second, .val (.long p4), .second, .val (.int p5), .val (.ref b1), .val (.int (p5 &&& (7 : Int32))), .val (.ref b122), .val (.ref b122), .unset, .unset] [(.int (1 : Int32))])) (fun tg kk => XS.iconst X134.here hx rfl (hb hby at_159) kk) ?_
              refine OwnGo.back (T134.setTop (mkF m 164 #[.val (.long p1), .second, .val (.long p2), .second, .val (.long p3), .second, .val (.long p4), .second, .val (.int p5), .val (.ref b1), .val (.int (p5 &&& (7 : Int32))), .val (.ref b122), .val (.ref b122), .unset, .unset] [(.int (1 : Int32))])) (fun tg kk => XS.goto X134.here hx rfl (pc0 := 160) (pc' := 164) rfl (hb hby at_160) (by decide) (by decide) kk) ?_
              refine OwnGo.back (T134.setTop (mkF m 166 #[.val (.long p1), .second, .val (.long p2), .second, .val (.long p3), .second, .val (.long p4), .second, .val (.int p5), .val (.ref b1), .val (.int (p5 &&& (7 : Int32))), .val (.ref b122), .val (.ref b122), .val (.int (1 : Int32)), .unset] [])) (fun tg kk => XS.istore X134.here hx rfl (hb hby at_164) rfl (l' := #[.val (.long p1), .second, .val (.long p2), .second, .val (.long p3), .second, .val (.long p4), .second, .val (.int p5), .val (.ref b1), .val (.int (p5 &&& (7 : Int32))), .val (.ref b122), .val (.ref b122), .val (.int (1 : Int32)), .unset]) rfl kk) ?_
              refine OwnGo.back (T134.setTop (mkF m 257 #[.val (.long p1), .second, .val (.long p2), .second, .val (.long p3), .second, .val (.long p4), .second, .val (.int p5), .val (.ref b1), .val (.int (p5 &&& (7 : Int32))), .val (.ref b122), .val (.ref b122), .val (.int (1 : Int32)), .unset] [])) (fun tg kk => XS.goto X134.here hx rfl (pc0 := 166) (pc' := 257) rfl (hb hby at_166) (by decide) (by decide) kk) ?_
              refine OwnGo.back (T134.setTop (mkF m 259 #[.val (.long p1), .second, .val (.long p2), .second, .val (.long p3), .second, .val (.long p4), .second, .val (.int p5), .val (.ref b1), .val (.int (p5 &&& (7 : Int32))), .val (.ref b122), .val (.ref b122), .val (.int (1 : Int32)), .unset] [(.ref b1)])) (fun tg kk => XS.aload X134.here hx rfl (hb hby at_257) rfl rfl kk) ?_
              refine OwnGo.back (T134.setTop (mkF m 261 #[.val (.long p1), .second, .val (.long p2), .second, .val (.long p3), .second, .val (.long p4), .second, .val (.int p5), .val (.ref b1), .val (.int (p5 &&& (7 : Int32))), .val (.ref b122), .val (.ref b122), .val (.int (1 : Int32)), .unset] [(.ref b122), (.ref b1)])) (fun tg kk => XS.aload X134.here hx rfl (hb hby at_259) rfl rfl kk) ?_
              obtain ⟨cq147, kq147, q147a, q147b, q147c⟩ := isOf hZ rfl f139
              obtain ⟨_, _, ⟨T147, L147, k147, n147⟩, -, X147, ⟨Lc147, hQ147, l147, y147, z147⟩, st147⟩ := X134.virtualBack hx (y := (⟨"com/example/lienledger/lienledger/io/Checksum", "equals", "(Ljava/lang/Object;)Z"⟩ : MethodName)) (z := (⟨"com/example/lienledger/lienledger/io/Checksum", "equals", "(Ljava/lang/Object;)Z"⟩ : MethodName)) hown (mvT hZ (hw _ (List.mem_of_getElem? (i := 18) rfl))) (mvT hZ (hw _ (List.mem_of_getElem? (i := 19) rfl))) (notFace_of_selects (args := #[]) (mvT hZ (hw _ (List.mem_of_getElem? (i := 21) rfl)))) (mvT hZ (hw _ (List.mem_of_getElem? (i := 21) rfl))) (mvT hZ (hw _ (List.mem_of_getElem? (i := 20) rfl))) (by decide) (backOf (W := 0) (own_eqt l Z a0 hw [] b1 b122 p1 p2 p3 p4 T134.heap n0 Z144 po135 f140 f141 po136 po137) hZ (hw _ (List.mem_of_getElem? (i := 22) rfl)) (hw _ (List.mem_of_getElem? (i := 2) rfl)) (by decide) (by decide)) q147a q147c (g := (mkF m 261 #[.val (.long p1), .second, .val (.long p2), .second, .val (.long p3), .second, .val (.long p4), .second, .val (.int p5), .val (.ref b1), .val (.int (p5 &&& (7 : Int32))), .val (.ref b122), .val (.ref b122), .val (.int (1 : Int32)), .unset] [(.ref b122), (.ref b1)])) rfl (by rw [hml]; rfl) (Steps.refl _) (argsL := [(.ref b122)]) (rest := []) (lenOf own_pd3 rfl) rfl (by show 2 * 0 + _ ≤ _; exact Nat.le_of_eq rfl) (hb hby at_261) (fun _ _ => ⟨rfl, rfl, (by decide : 2 + 0 ≤ _), (by decide : 4 + 0 ≤ _)⟩)
              dsimp only [Pt.U, Pt.locs, Pt.cells, Pt.slots] at X147 l147 y147 z147 st147 hQ147
              subst l147 y147 z147
              obtain ⟨r_148, rfl, N147q, e147, po149⟩ := hQ147
              have N147 := Fr.app N134 N147q
              refine OwnGo.back (T147.setTop (mkF m 264 #[.val (.long p1), .second, .val (.long p2), .second, .val (.long p3), .second, .val (.long p4), .second, .val (.int p5), .val (.ref b1), .val (.int (p5 &&& (7 : Int32))), .val (.ref b122), .val (.ref b122), .val (.int (1 : Int32)), .unset] [(.int r_148)])) (fun tg kk => st147.trans kk) ?_
              refine OwnGo.back (T147.setTop (mkF m 266 #[.val (.long p1), .second, .val (.long p2), .second, .val (.long p3), .second, .val (.long p4), .second, .val (.int p5), .val (.ref b1), .val (.int (p5 &&& (7 : Int32))), .val (.ref b122), .val (.ref b122), .val (.int (1 : Int32)), .val (.int r_148)] [])) (fun tg kk => XS.istore X147.here hx rfl (hb hby at_264) rfl (l' := #[.val (.long p1), .second, .val (.long p2), .second, .val (.long p3), .second, .val (.long p4), .second, .val (.int p5), .val (.ref b1), .val (.int (p5 &&& (7 : Int32))), .val (.ref b122), .val (.ref b122), .val (.int (1 : Int32)), .val (.int r_148)]) rfl kk) ?_
              refine OwnGo.back (T147.setTop (mkF m 268 #[.val (.long p1), .second, .val (.long p2), .second, .val (.long p3), .second, .val (.long p4), .second, .val (.int p5), .val (.ref b1), .val (.int (p5 &&& (7 : Int32))), .val (.ref b122), .val (.ref b122), .val (.int (1 : Int32)), .val (.int r_148)] [(.int r_148)])) (fun tg kk => XS.iload X147.here hx rfl (hb hby at_266) rfl kk) ?_
              refine OwnGo.back (T147.setTop (mkF m 270 #[.val (.long p1), .second, .val (.long p2), .second, .val (.long p3), .second, .val (.long p4), .second, .val (.int p5), .val (.ref b1), .val (.int (p5 &&& (7 : Int32))), .val (.ref b122), .val (.ref b122), .val (.int (1 : Int32)), .val (.int r_148)] [(.int (1 : Int32)), (.int r_148)])) (fun tg kk => XS.iload X147.here hx rfl (hb hby at_268) rfl kk) ?_
              refine OwnGo.back (T147.setTop (mkF m 275 #[.val (.long p1), .second, .val (.long p2), .second, .val (.long p3), .second, .val (.long p4), .second, .val (.int p5), .val (.ref b1), .val (.int (p5 &&& (7 : Int32))), .val (.ref b122), .val (.ref b122), .val (.int (1 : Int32)), .val (.int r_148)] [])) (fun tg kk => XS.icmpYes X147.here hx rfl (pc0 := 270) (pc' := 275) rfl (hb hby at_270) rfl (teq (by (simp only [true_and, and_true, false_and, and_false, or_false, false_or, or_true, true_or, not_true_eq_false, not_false_eq_true, eq_self, Int32.lt_iff_toInt_lt, Int32.le_iff_toInt_le, ← Int32.toInt_inj, Int32.reduceToInt, Int64.lt_iff_toInt_lt, Int64.le_iff_toInt_le, ← Int64.toInt_inj, Int64.reduceToInt] at hc17 hc47 hc84 hc121 hc145 hc146 hB po149 ⊢) <;> omega : r_148 = (1 : Int32))).1 (by decide) (by decide) kk) ?_
              refine OwnGo.back (T147.setTop (mkF m 277 #[.val (.long p1), .second, .val (.long p2), .second, .val (.long p3), .second, .val (.long p4), .second, .val (.int p5), .val (.ref b1), .val (.int (p5 &&& (7 : Int32))), .val (.ref b122), .val (.ref b122), .val (.int (1 : Int32)), .val (.int r_148)] [(.ref b122)])) (fun tg kk => XS.aload X147.here hx rfl (hb hby at_275) rfl rfl kk) ?_
              refine OwnGo.back (T147.setTop (mkF m 280 #[.val (.long p1), .second, .val (.long p2), .second, .val (.long p3), .second, .val (.long p4), .second, .val (.int p5), .val (.ref b1), .val (.int (p5 &&& (7 : Int32))), .val (.ref b122), .val (.ref b122), .val (.int (1 : Int32)), .val (.int r_148)] [])) (fun tg kk => XS.ifnullNo X147.here hx rfl (hb hby at_277) rfl kk) ?_
              refine OwnGo.back (T147.setTop (mkF m 282 #[.val (.long p1), .second, .val (.long p2), .second, .val (.long p3), .second, .val (.long p4), .second, .val (.int p5), .val (.ref b1), .val (.int (p5 &&& (7 : Int32))), .val (.ref b122), .val (.ref b122), .val (.int (1 : Int32)), .val (.int r_148)] [(.ref b122)])) (fun tg kk => XS.aload X147.here hx rfl (hb hby at_280) rfl rfl kk) ?_
              refine OwnGo.back (T147.setTop (mkF m 284 #[.val (.long p1), .second, .val (.long p2), .second, .val (.long p3), .second, .val (.long p4), .second, .val (.int p5), .val (.ref b1), .val (.int (p5 &&& (7 : Int32))), .val (.ref b122), .val (.ref b122), .val (.int (1 : Int32)), .val (.int r_148)] [(.ref b1), (.ref b122)])) (fun tg kk => XS.aload X147.here hx rfl (hb hby at_282) rfl rfl kk) ?_
              obtain ⟨cq150, kq150, q150a, q150b, q150c⟩ := isOf hZ e147 po135
              obtain ⟨_, _, ⟨T150, L150, k150, n150⟩, -, X150, ⟨Lc150, hQ150, l150, y150, z150⟩, st150⟩ := X147.virtualBack hx (y := (⟨"com/example/lienledger/lienledger/io/Checksum", "equals", "(Ljava/lang/Object;)Z"⟩ : MethodName)) (z := (⟨"com/example/lienledger/lienledger/io/Checksum", "equals", "(Ljava/lang/Object;)Z"⟩ : MethodName)) hown (mvT hZ (hw _ (List.mem_of_getElem? (i := 18) rfl))) (mvT hZ (hw _ (List.mem_of_getElem? (i := 19) rfl))) (notFace_of_selects (args := #[]) (mvT hZ (hw _ (List.mem_of_getElem? (i := 21) rfl)))) (mvT hZ (hw _ (List.mem_of_getElem? (i := 21) rfl))) (mvT hZ (hw _ (List.mem_of_getElem? (i := 20) rfl))) (by decide) (backOf (W := 0) (own_eqt l Z a0 hw [] b122 b1 p3 p4 p1 p2 T134.heap n0 Z144 f139 po136 po137 f140 f141) hZ (hw _ (List.mem_of_getElem? (i := 22) rfl)) (hw _ (List.mem_of_getElem? (i := 2) rfl)) (by decide) (by decide)) q150a q150c (g := (mkF m 284 #[.val (.long p1), .second, .val (.long p2), .second, .val (.long p3), .second, .val (.long p4), .second, .val (.int p5), .val (.ref b1), .val (.int (p5 &&& (7 : Int32))), .val (.ref b122), .val (.ref b122), .val (.int (1 : Int32)), .val (.int r_148)] [(.ref b1), (.ref b122)])) rfl (by rw [hml]; rfl) (Steps.refl _) (argsL := [(.ref b1)]) (rest := []) (lenOf own_pd3 rfl) rfl (by show 2 * 0 + _ ≤ _; exact Nat.le_of_eq rfl) (hb hby at_284) (fun _ _ => ⟨rfl, e147, (by decide : 2 + 0 ≤ _), (by decide : 4 + 0 ≤ _)⟩)
              dsimp only [Pt.U, Pt.locs, Pt.cells, Pt.slots] at X150 l150 y150 z150 st150 hQ150
              subst l150 y150 z150
              obtain ⟨r_151, rfl, N150q, e150, po152⟩ := hQ150
              have N150 := Fr.app N147 N150q
              refine OwnGo.back (T150.setTop (mkF m 287 #[.val (.long p1), .second, .val (.long p2), .second, .val (.long p3), .second, .val (.long p4), .second, .val (.int p5), .val (.ref b1), .val (.int (p5 &&& (7 : Int32))), .val (.ref b122), .val (.ref b122), .val (.int (1 : Int32)), .val (.int r_148)] [(.int r_151)])) (fun tg kk => st150.trans kk) ?_
              refine OwnGo.back (T150.setTop (mkF m 289 #[.val (.long p1), .second, .val (.long p2), .second, .val (.long p3), .second, .val (.long p4), .second, .val (.int p5), .val (.ref b1), .val (.int (p5 &&& (7 : Int32))), .val (.ref b122), .val (.ref b122), .val (.int (1 : Int32)), .val (.int r_148)] [(.int (1 : Int32)), (.int r_151)])) (fun tg kk => XS.iload X150.here hx rfl (hb hby at_287) rfl kk) ?_
              refine OwnGo.back (T150.setTop (mkF m 294 #[.val (.long p1), .second, .val (.long p2), .second, .val (.long p3), .second, .val (.long p4), .second, .val (.int p5), .val (.ref b1), .val (.int (p5 &&& (7 : Int32))), .val (.ref b122), .val (.ref b122), .val (.int (1 : Int32)), .val (.int r_148)] [])) (fun tg kk => XS.icmpYes X150.here hx rfl (pc0 := 289) (pc' := 294) rfl (hb hby at_289) rfl (teq (by (simp only [true_and, and_true, false_and, and_false, or_false, false_or, or_true, true_or, not_true_eq_false, not_false_eq_true, eq_self, Int32.lt_iff_toInt_lt, Int32.le_iff_toInt_le, ← Int32.toInt_inj, Int32.reduceToInt, Int64.lt_iff_toInt_lt, Int64.le_iff_toInt_le, ← Int64.toInt_inj, Int64.reduceToInt] at hc17 hc47 hc84 hc121 hc145 hc146 hB po149 po152 ⊢) <;> omega : r_151 = (1 : Int32))).1 (by decide) (by decide) kk) ?_
              refine OwnGo.back (T150.setTop (mkF m 295 #[.val (.long p1), .second, .val (.long p2), .second, .val (.long p3), .second, .val (.long p4), .second, .val (.int p5), .val (.ref b1), .val (.int (p5 &&& (7 : Int32))), .val (.ref b122), .val (.ref b122), .val (.int (1 : Int32)), .val (.int r_148)] [(.int (1 : Int32))])) (fun tg kk => XS.iconst X150.here hx rfl (hb hby at_294) kk) ?_
              obtain ⟨fs, hr, hrun, hended, hW, hsame⟩ := X150.leave (v := some (.int (1 : Int32))) (fun h => by rw [Bd.returns] at h; cases h)
              refine ⟨_, _, ?_, hrun, hended, _, _, rfl, ?_, ⟨_, rfl⟩, hW, hsame.mono (by decide) (by decide)⟩
              · exact retN X150 hx (t := .boolean) Bd.returns (by simp) (hb hby at_295) hr
              · show own_law_Q Z p1 p2 p3 p4 p5 ca h0 n0 _ T150.heap _
                rw [e150]
                exact ⟨rfl, N150, K143⟩
            ·
              refine OwnGo.back (T134.setTop (mkF m 163 #[.val (.long p1), .second, .val (.long p2), .second, .val (.long p3), .second, .val (.long p4), .second, .val (.int p5), .val (.ref b1), .val (.int (p5 &&& (7 : Int32))), .val (.ref b122), .val (.ref b122), .unset, .unset] [])) (fun tg kk => XS.ifYes X134.here hx rfl (pc0 := 156) (pc' := 163) rfl (hb hby at_156) rfl ((if0 _ _).trans (feq (own_not (lw_eq _ _) hc146)).2) (by decide) (by decide) kk) ?_
              refine OwnGo.back (T134.setTop (mkF m 164 #[.val (.long p1), .second, .val (.long p2), .second, .val (.long p3), .second, .val (.long p4), .second, .val (.int p5), .val (.ref b1), .val (.int (p5 &&& (7 : Int32))), .val (.ref b122), .val (.ref b122), .unset, .unset] [(.int (0 : Int32))])) (fun tg kk => XS.iconst X134.here hx rfl (hb hby at_163) kk) ?_
              refine OwnGo.back (T134.setTop (mkF m 166 #[.val (.long p1), .second, .val (.long p2), .second, .val (.long p3), .second, .val (.long p4), .second, .val (.int p5), .val (.ref b1), .val (.int (p5 &&& (7 : Int32))), .val (.ref b122), .val (.ref b122), .val (.int (0 : Int32)), .unset] [])) (fun tg kk => XS.istore X134.here hx rfl (hb hby at_164) rfl (l' := #[.val (.long p1), .second, .val (.long p2), .second, .val (.long p3), .second, .val (.long p4), .second, .val (.int p5), .val (.ref b1), .val (.int (p5 &&& (7 : Int32))), .val (.ref b122), .val (.ref b122), .val (.int (0 : Int32)), .unset]) rfl kk) ?_
              refine OwnGo.back (T134.setTop (mkF m 257 #[.val (.long p1), .second, .val (.long p2), .second, .val (.long p3), .second, .val (.long p4), .second, .val (.int p5), .val (.ref b1), .val (.int (p5 &&& (7 : Int32))), .val (.ref b122), .val (.ref b122), .val (.int (0 : Int32)), .unset] [])) (fun tg kk => XS.goto X134.here hx rfl (pc0 := 166) (pc' := 257) rfl (hb hby at_166) (by decide) (by decide) kk) ?_
              refine OwnGo.back (T134.setTop (mkF m 259 #[.val (.long p1), .second, .val (.long p2), .second, .val (.long p3), .second, .val (.long p4), .second, .val (.int p5), .val (.ref b1), .val (.int (p5 &&& (7 : Int32))), .val (.ref b122), .val (.ref b122), .val (.int (0 : Int32)), .unset] [(.ref b1)])) (fun tg kk => XS.aload X134.here hx rfl (hb hby at_257) rfl rfl kk) ?_
              refine OwnGo.back (T134.setTop (mkF m 261 #[.val (.long p1), .second, .val (.long p2), .second, .val (.long p3), .second, .val (.long p4), .second, .val (.int p5), .val (.ref b1), .val (.int (p5 &&& (7 : Int32))), .val (.ref b122), .val (.ref b122), .val (.int (0 : Int32)), .unset] [(.ref b122), (.ref b1)])) (fun tg kk => XS.aload X134.here hx rfl (hb hby at_259) rfl rfl kk) ?_
              obtain ⟨cq153, kq153, q153a, q153b, q153c⟩ := isOf hZ rfl f139
              obtain ⟨_, _, ⟨T153, L153, k153, n153⟩, -, X153, ⟨Lc153, hQ153, l153, y153, z153⟩, st153⟩ := X134.virtualBack hx (y := (⟨"com/example/lienledger/lienledger/io/Checksum", "equals", "(Ljava/lang/Object;)Z"⟩ : MethodName)) (z := (⟨"com/example/lienledger/lienledger/io/Checksum", "equals", "(Ljava/lang/Object;)Z"⟩ : MethodName)) hown (mvT hZ (hw _ (List.mem_of_getElem? (i := 18) rfl))) (mvT hZ (hw _ (List.mem_of_getElem? (i := 19) rfl))) (notFace_of_selects (args := #[]) (mvT hZ (hw _ (List.mem_of_getElem? (i := 21) rfl)))) (mvT hZ (hw _ (List.mem_of_getElem? (i := 21) rfl))) (mvT hZ (hw _ (List.mem_of_getElem? (i := 20) rfl))) (by decide) (backOf (W := 0) (own_eqt l Z a0 hw [] b1 b122 p1 p2 p3 p4 T134.heap n0 Z144 po135 f140 f141 po136 po137) hZ (hw _ (List.mem_of_getElem? (i := 22) rfl)) (hw _ (List.mem_of_getElem? (i := 2) rfl)) (by decide) (by decide)) q153a q153c (g := (mkF m 261 #[.val (.long p1), .second, .val (.long p2), .second, .val (.long p3), .second, .val (.long p4), .second, .val (.int p5), .val (.ref b1), .val (.int (p5 &&& (7 : Int32))), .val (.ref b122), .val (.ref b122), .val (.int (0 : Int32)), .unset] [(.ref b122), (.ref b1)])) rfl (by rw [hml]; rfl) (Steps.refl _) (argsL := [(.ref b122)]) (rest := []) (lenOf own_pd3 rfl) rfl (by show 2 * 0 + _ ≤ _; exact Nat.le_of_eq rfl) (hb hby at_261) (fun _ _ => ⟨rfl, rfl, (by decide : 2 + 0 ≤ _), (by decide : 4 + 0 ≤ _)⟩)
              dsimp only [Pt.U, Pt.locs, Pt.cells, Pt.slots] at X153 l153 y153 z153 st153 hQ153
              subst l153 y153 z153
              obtain ⟨r_154, rfl, N153q, e153, po155⟩ := hQ153
              have N153 := Fr.app N134 N153q
              refine OwnGo.back (T153.setTop (mkF m 264 #[.val (.long p1), .second, .val (.long p2), .second, .val (.long p3), .second, .val (.long p4), .second, .val (.int p5), .val (.ref b1), .val (.int (p5 &&& (7 : Int32))), .val (.ref b122), .val (.ref b122), .val (.int (0 : Int32)), .unset] [(.int r_154)])) (fun tg kk => st153.trans kk) ?_
              refine OwnGo.back (T153.setTop (mkF m 266 #[.val (.long p1), .second, .val (.long p2), .second, .val (.long p3), .second, .val (.long p4), .second, .val (.int p5), .val (.ref b1), .val (.int (p5 &&& (7 : Int32))), .val (.ref b122), .val (.ref b122), .val (.int (0 : Int32)), .val (.int r_154)] [])) (fun tg kk => XS.istore X153.here hx rfl (hb hby at_264) rfl (l' := #[.val (.long p1), .second, .val (.long p2), .second, .val (.long p3), .second, .val (.long p4), .second, .val (.int p5), .val (.ref b1), .val (.int (p5 &&& (7 : Int32))), .val (.ref b122), .val (.ref b122), .val (.int (0 : Int32)), .val (.int r_154)]) rfl kk) ?_
              refine OwnGo.back (T153.setTop (mkF m 268 #[.val (.long p1), .second, .val (.long p2), .second, .val (.long p3), .second, .val (.long p4), .second, .val (.int p5), .val (.ref b1), .val (.int (p5 &&& (7 : Int32))), .val (.ref b122), .val (.ref b122), .val (.int (0 : Int32)), .val (.int r_154)] [(.int r_154)])) (fun tg kk => XS.iload X153.here hx rfl (hb hby at_266) rfl kk) ?_
              refine OwnGo.back (T153.setTop (mkF m 270 #[.val (.long p1), .second, .val (.long p2), .second, .val (.long p3), .second, .val (.long p4), .second, .val (.int p5), .val (.ref b1), .val (.int (p5 &&& (7 : Int32))), .val (.ref b122), .val (.ref b122), .val (.int (0 : Int32)), .val (.int r_154)] [(.int (0 : Int32)), (.int r_154)])) (fun tg kk => XS.iload X153.here hx rfl (hb hby at_268) rfl kk) ?_
              refine OwnGo.back (T153.setTop (mkF m 275 #[.val (.long p1), .second, .val (.long p2), .second, .val (.long p3), .second, .val (.long p4), .second, .val (.int p5), .val (.ref b1), .val (.int (p5 &&& (7 : Int32))), .val (.ref b122), .val (.ref b122), .val (.int (0 : Int32)), .val (.int r_154)] [])) (fun tg kk => XS.icmpYes X153.here hx rfl (pc0 := 270) (pc' := 275) rfl (hb hby at_270) rfl (teq (by (simp only [true_and, and_true, false_and, and_false, or_false, false_or, or_true, true_or, not_true_eq_false, not_false_eq_true, eq_self, Int32.lt_iff_toInt_lt, Int32.le_iff_toInt_le, ← Int32.toInt_inj, Int32.reduceToInt, Int64.lt_iff_toInt_lt, Int64.le_iff_toInt_le, ← Int64.toInt_inj, Int64.reduceToInt] at hc17 hc47 hc84 hc121 hc145 hc146 hB po155 ⊢) <;> omega : r_154 = (0 : Int32))).1 (by decide) (by decide) kk) ?_
              refine OwnGo.back (T153.setTop (mkF m 277 #[.val (.long p1), .second, .val (.long p2), .second, .val (.long p3), .second, .val (.long p4), .second, .val (.int p5), .val (.ref b1), .val (.int (p5 &&& (7 : Int32))), .val (.ref b122), .val (.ref b122), .val (.int (0 : Int32)), .val (.int r_154)] [(.ref b122)])) (fun tg kk => XS.aload X153.here hx rfl (hb hby at_275) rfl rfl kk) ?_
              refine OwnGo.back (T153.setTop (mkF m 280 #[.val (.long p1), .second, .val (.long p2), .second, .val (.long p3), .second, .val (.long p4), .second, .val (.int p5), .val (.ref b1), .val (.int (p5 &&& (7 : Int32))), .val (.ref b122), .val (.ref b122), .val (.int (0 : Int32)), .val (.int r_154)] [])) (fun tg kk => XS.ifnullNo X153.here hx rfl (hb hby at_277) rfl kk) ?_
              refine OwnGo.back (T153.setTop (mkF m 282 #[.val (.long p1), .second, .val (.long p2), .second, .val (.long p3), .second, .val (.long p4), .second, .val (.int p5), .val (.ref b1), .val (.int (p5 &&& (7 : Int32))), .val (.ref b122), .val (.ref b122), .val (.int (0 : Int32)), .val (.int r_154)] [(.ref b122)])) (fun tg kk => XS.aload X153.here hx rfl (hb hby at_280) rfl rfl kk) ?_
              refine OwnGo.back (T153.setTop (mkF m 284 #[.val (.long p1), .second, .val (.long p2), .second, .val (.long p3), .second, .val (.long p4), .second, .val (.int p5), .val (.ref b1), .val (.int (p5 &&& (7 : Int32))), .val (.ref b122), .val (.ref b122), .val (.int (0 : Int32)), .val (.int r_154)] [(.ref b1), (.ref b122)])) (fun tg kk => XS.aload X153.here hx rfl (hb hby at_282) rfl rfl kk) ?_
              obtain ⟨cq156, kq156, q156a, q156b, q156c⟩ := isOf hZ e153 po135
              obtain ⟨_, _, ⟨T156, L156, k156, n156⟩, -, X156, ⟨Lc156, hQ156, l156, y156, z156⟩, st156⟩ := X153.virtualBack hx (y := (⟨"com/example/lienledger/lienledger/io/Checksum", "equals", "(Ljava/lang/Object;)Z"⟩ : MethodName)) (z := (⟨"com/example/lienledger/lienledger/io/Checksum", "equals", "(Ljava/lang/Object;)Z"⟩ : MethodName)) hown (mvT hZ (hw _ (List.mem_of_getElem? (i := 18) rfl))) (mvT hZ (hw _ (List.mem_of_getElem? (i := 19) rfl))) (notFace_of_selects (args := #[]) (mvT hZ (hw _ (List.mem_of_getElem? (i := 21) rfl)))) (mvT hZ (hw _ (List.mem_of_getElem? (i := 21) rfl))) (mvT hZ (hw _ (List.mem_of_getElem? (i := 20) rfl))) (by decide) (backOf (W := 0) (own_eqt l Z a0 hw [] b122 b1 p3 p4 p1 p2 T134.heap n0 Z144 f139 po136 po137 f140 f141) hZ (hw _ (List.mem_of_getElem? (i := 22) rfl)) (hw _ (List.mem_of_getElem? (i := 2) rfl)) (by decide) (by decide)) q156a q156c (g := (mkF m 284 #[.val (.long p1), .second, .val (.long p2), .second, .val (.long p3), .second, .val (.long p4), .second, .val (.int p5), .val (.ref b1), .val (.int (p5 &&& (7 : Int32))), .val (.ref b122), .val (.ref b122), .val (.int (0 : Int32)), .val (.int r_154)] [(.ref b1), (.ref b122)])) rfl (by rw [hml]; rfl) (Steps.refl _) (argsL := [(.ref b1)]) (rest := []) (lenOf own_pd3 rfl) rfl (by show 2 * 0 + _ ≤ _; exact Nat.le_of_eq rfl) (hb hby at_284) (fun _ _ => ⟨rfl, e153, (by decide : 2 + 0 ≤ _), (by decide : 4 + 0 ≤ _)⟩)
              dsimp only [Pt.U, Pt.locs, Pt.cells, Pt.slots] at X156 l156 y156 z156 st156 hQ156
              subst l156 y156 z156
              obtain ⟨r_157, rfl, N156q, e156, po158⟩ := hQ156
              have N156 := Fr.app N153 N156q
              refine OwnGo.back (T156.setTop (mkF m 287 #[.val (.long p1), .second, .val (.long p2), .second, .val (.long p3), .second, .val (.long p4), .second, .val (.int p5), .val (.ref b1), .val (.int (p5 &&& (7 : Int32))), .val (.ref b122), .val (.ref b122), .val (.int (0 : Int32)), .val (.int r_154)] [(.int r_157)])) (fun tg kk => st156.trans kk) ?_
              refine OwnGo.back (T156.setTop (mkF m 289 #[.val (.long p1), .second, .val (.long p2), .second, .val (.long p3), .second, .val (.long p4), .second, .val (.int p5), .val (.ref b1), .val (.int (p5 &&& (7 : Int32))), .val (.ref b122), .val (.ref b122), .val (.int (0 : Int32)), .val (.int r_154)] [(.int (0 : Int32)), (.int r_157)])) (fun tg kk => XS.iload X156.here hx rfl (hb hby at_287) rfl kk) ?_
              refine OwnGo.back (T156.setTop (mkF m 294 #[.val (.long p1), .second, .val (.long p2), .second, .val (.long p3), .second, .val (.long p4), .second, .val (.int p5), .val (.ref b1), .val (.int (p5 &&& (7 : Int32))), .val (.ref b122), .val (.ref b122), .val (.int (0 : Int32)), .val (.int r_154)] [])) (fun tg kk => XS.icmpYes X156.here hx rfl (pc0 := 289) (pc' := 294) rfl (hb hby at_289) rfl (teq (by (simp only [true_and, and_true, false_and, and_false, or_false, false_or, or_true, true_or, not_true_eq_false, not_false_eq_true, eq_self, Int32.lt_iff_toInt_lt, Int32.le_iff_toInt_le, ← Int32.toInt_inj, Int32.reduceToInt, Int64.lt_iff_toInt_lt, Int64.le_iff_toInt_le, ← Int64.toInt_inj, Int64.reduceToInt] at hc17 hc47 hc84 hc121 hc145 hc146 hB po155 po158 ⊢) <;> omega : r_157 = (0 : Int32))).1 (by decide) (by decide) kk) ?_
              refine OwnGo.back (T156.setTop (mkF m 295 #[.val (.long p1), .second, .val (.long p2), .second, .val (.long p3), .second, .val (.long p4), .second, .val (.int p5), .val (.ref b1), .val (.int (p5 &&& (7 : Int32))), .val (.ref b122), .val (.ref b122), .val (.int (0 : Int32)), .val (.int r_154)] [(.int (1 : Int32))])) (fun tg kk => XS.iconst X156.here hx rfl (hb hby at_294) kk) ?_
              obtain ⟨fs, hr, hrun, hended, hW, hsame⟩ := X156.leave (v := some (.int (1 : Int32))) (fun h => by rw [Bd.returns] at h; cases h)
              refine ⟨_, _, ?_, hrun, hended, _, _, rfl, ?_, ⟨_, rfl⟩, hW, hsame.mono (by decide) (by decide)⟩
              · exact retN X156 hx (t := .boolean) Bd.returns (by simp) (hb hby at_295) hr
              · show own_law_Q Z p1 p2 p3 p4 p5 ca h0 n0 _ T156.heap _
                rw [e156]
                exact ⟨rfl, N156, K143⟩
          ·
            refine OwnGo.back (T134.setTop (mkF m 163 #[.val (.long p1), .second, .val (.long p2), .second, .val (.long p3), .second, .val (.long p4), .second, .val (.int p5), .val (.ref b1), .val (.int (p5 &&& (7 : Int32))), .val (.ref b122), .val (.ref b122), .unset, .unset] [])) (fun tg kk => XS.ifYes X134.here hx rfl (pc0 := 149) (pc' := 163) rfl (hb hby at_149) rfl ((if0 _ _).trans (feq (own_not (lw_eq _ _) hc145)).2) (by decide) (by decide) kk) ?_
            refine OwnGo.back (T134.setTop (mkF m 164 #[.val (.long p1), .second, .val (.long p2), .second, .val (.long p3), .second, .val (.long p4), .second, .val (.int p5), .val (.ref b1), .val (.int (p5 &&& (7 : Int32))), .val (.ref b122), .val (.ref b122), .unset, .unset] [(.int (0 : Int32))])) (fun tg kk => XS.iconst X134.here hx rfl (hb hby at_163) kk) ?_
            refine OwnGo.back (T134.setTop (mkF m 166 #[.val (.long p1), .second, .val (.long p2), .second, .val (.long p3), .second, .val (.long p4), .second, .val (.int p5), .val (.ref b1), .val (.int (p5 &&& (7 : Int32))), .val (.ref b122), .val (.ref b122), .val (.int (0 : Int32)), .unset] [])) (fun tg kk => XS.istore X134.here hx rfl (hb hby at_164) rfl (l' := #[.val (.long p1), .second, .val (.long p2), .second, .val (.long p3), .second, .val (.long p4), .second, .val (.int p5), .val (.ref b1), .val (.int (p5 &&& (7 : Int32))), .val (.ref b122), .val (.ref b122), .val (.int (0 : Int32)), .unset]) rfl kk) ?_
            refine OwnGo.back (T134.setTop (mkF m 257 #[.val (.long p1), .second, .val (.long p2), .second, .val (.long p3), .second, .val (.long p4), .second, .val (.int p5), .val (.ref b1), .val (.int (p5 &&& (7 : Int32))), .val (.ref b122), .val (.ref b122), .val (.int (0 : Int32)), .unset] [])) (fun tg kk => XS.goto X134.here hx rfl (pc0 := 166) (pc' := 257) rfl (hb hby at_166) (by decide) (by decide) kk) ?_
            refine OwnGo.back (T134.setTop (mkF m 259 #[.val (.long p1), .second, .val (.long p2), .second, .val (.long p3), .second, .val (.long p4), .second, .val (.int p5), .val (.ref b1), .val (.int (p5 &&& (7 : Int32))), .val (.ref b122), .val (.ref b122), .val (.int (0 : Int32)), .unset] [(.ref b1)])) (fun tg kk => XS.aload X134.here hx rfl (hb hby at_257) rfl rfl kk) ?_
            refine OwnGo.back (T134.setTop (mkF m 261 #[.val (.long p1), .second, .val (.long p2), .second, .val (.long p3), .second, .val (.long p4), .second, .val (.int p5), .val (.ref b1), .val (.int (p5 &&& (7 : Int32))), .val (.ref b122), .val (.ref b122), .val (.int (0 : Int32)), .unset] [(.ref b122), (.ref b1)])) (fun tg kk => XS.aload X134.here hx rfl (hb hby at_259) rfl rfl kk) ?_
            obtain ⟨cq159, kq159, q159a, q159b, q159c⟩ := isOf hZ rfl f139
            obtain ⟨_, _, ⟨T159, L159, k159, n159⟩, -, X159, ⟨Lc159, hQ159, l159, y159, z159⟩, st159⟩ := X134.virtualBack hx (y := (⟨"com/example/lienledger/lienledger/io/Checksum", "equals", "(Ljava/lang/Object;)Z"⟩ : MethodName)) (z := (⟨"com/example/lienledger/lienledger/io/Checksum", "equals", "(Ljava/lang/Object;)Z"⟩ : MethodName)) hown (mvT hZ (hw _ (List.mem_of_getElem? (i := 18) rfl))) (mvT hZ (hw _ (List.mem_of_getElem? (i := 19) rfl))) (notFace_of_selects (args := #[]) (mvT hZ (hw _ (List.mem_of_getElem? (i := 21) rfl)))) (mvT hZ (hw _ (List.mem_of_getElem? (i := 21) rfl))) (mvT hZ (hw _ (List.mem_of_getElem? (i := 20) rfl))) (by decide) (backOf (W := 0) (own_eqt l Z a0 hw [] b1 b122 p1 p2 p3 p4 T134.heap n0 Z144 po135 f140 f141 po136 po137) hZ (hw _ (List.mem_of_getElem? (i := 22) rfl)) (hw _ (List.mem_of_getElem? (i := 2) rfl)) (by decide) (by decide)) q159a q159c (g := (mkF m 261 #[.val (.long p1), .second, .val (.long p2), .second, .val (.long p3), .second, .val (.long p4), .second, .val (.int p5), .val (.ref b1), .val (.int (p5 &&& (7 : Int32))), .val (.ref b122), .val (.ref b122), .val (.int (0 : Int32)), .unset] [(.ref b122), (.ref b1)])) rfl (by rw [hml]; rfl) (Steps.refl _) (argsL := [(.ref b122)]) (rest := []) (lenOf own_pd3 rfl) rfl (by show 2 * 0 + _ ≤ _; exact Nat.le_of_eq rfl) (hb hby at_261) (fun _ _ => ⟨rfl, rfl, (by decide : 2 + 0 ≤ _), (by decide : 4 + 0 ≤ _)⟩)
            dsimp only [Pt.U, Pt.locs, Pt.cells, Pt.slots] at X159 l159 y159 z159 st159 hQ159
            subst l159 y159 z159
            obtain ⟨r_160, rfl, N159q, e159, po161⟩ := hQ159
            have N159 := Fr.app N134 N159q
            refine OwnGo.back (T159.setTop (mkF m 264 #[.val (.long p1), .second, .val (.long p2), .second, .val (.long p3), .second, .val (.long p4), .second, .val (.int p5), .val (.ref b1), .val (.int (p5 &&& (7 : Int32))), .val (.ref b122), .val (.ref b122), .val (.int (0 : Int32)), .unset] [(.int r_160)])) (fun tg kk => st159.trans kk) ?_
            refine OwnGo.back (T159.setTop (mkF m 266 #[.val (.long p1), .second, .val (.long p2), .second, .val (.long p3), .second, .val (.long p4), .second, .val (.int p5), .val (.ref b1), .val (.int (p5 &&& (7 : Int32))), .val (.ref b122), .val (.ref b122), .val (.int (0 : Int32)), .val (.int r_160)] [])) (fun tg kk => XS.istore X159.here hx rfl (hb hby at_264) rfl (l' := #[.val (.long p1), .second, .val (.long p2), .second, .val (.long p3), .second, .val (.long p4), .second, .val (.int p5), .val (.ref b1), .val (.int (p5 &&& (7 : Int32))), .val (.ref b122), .val (.ref b122), .val (.int (0 : Int32)), .val (.int r_160)]) rfl kk) ?_
            refine OwnGo.back (T159.setTop (mkF m 268 #[.val (.long p1), .second, .val (.long p2), .second, .val (.long p3), .second, .val (.long p4), .second, .val (.int p5), .val (.ref b1), .val (.int (p5 &&& (7 : Int32))), .val (.ref b122), .val (.ref b122), .val (.int (0 : Int32)), .val (.int r_160)] [(.int r_160)])) (fun tg kk => XS.iload X159.here hx rfl (hb hby at_266) rfl kk) ?_
            refine OwnGo.back (T159.setTop (mkF m 270 #[.val (.long p1), .second, .val (.long p2), .second, .val (.long p3), .second, .val (.long p4), .second, .val (.int p5), .val (.ref b1), .val (.int (p5 &&& (7 : Int32))), .val (.ref b122), .val (.ref b122), .val (.int (0 : Int32)), .val (.int r_160)] [(.int (0 : Int32)), (.int r_160)])) (fun tg kk => XS.iload X159.here hx rfl (hb hby at_268) rfl kk) ?_
            refine OwnGo.back (T159.setTop (mkF m 275 #[.val (.long p1), .second, .val (.long p2), .second, .val (.long p3), .second, .val (.long p4), .second, .val (.int p5), .val (.ref b1), .val (.int (p5 &&& (7 : Int32))), .val (.ref b122), .val (.ref b122), .val (.int (0 : Int32)), .val (.int r_160)] [])) (fun tg kk => XS.icmpYes X159.here hx rfl (pc0 := 270) (pc' := 275) rfl (hb hby at_270) rfl (teq (by (simp only [true_and, and_true, false_and, and_false, or_false, false_or, or_true, true_or, not_true_eq_false, not_false_eq_true, eq_self, Int32.lt_iff_toInt_lt, Int32.le_iff_toInt_le, ← Int32.toInt_inj, Int32.reduceToInt, Int64.lt_iff_toInt_lt, Int64.le_iff_toInt_le, ← Int64.toInt_inj, Int64.reduceToInt] at hc17 hc47 hc84 hc121 hc145 hB po161 ⊢) <;> omega : r_160 = (0 : Int32))).1 (by decide) (by decide) kk) ?_
            refine OwnGo.back (T159.setTop (mkF m 277 #[.val (.long p1), .second, .val (.long p2), .second, .val (.long p3), .second, .val (.long p4), .second, .val (.int p5), .val (.ref b1), .val (.int (p5 &&& (7 : Int32))), .val (.ref b122), .val (.ref b122), .val (.int (0 : Int32)), .val (.int r_160)] [(.ref b122)])) (fun tg kk => XS.aload X159.here hx rfl (hb hby at_275) rfl rfl kk) ?_
            refine OwnGo.back (T159.setTop (mkF m 280 #[.val (.long p1), .second, .val (.long p2), .second, .val (.long p3), .second, .val (.long p4), .second, .val (.int p5), .val (.ref b1), .val (.int (p5 &&& (7 : Int32))), .val (.ref b122), .val (.ref b122), .val (.int (0 : Int32)), .val (.int r_160)] [])) (fun tg kk => XS.ifnullNo X159.here hx rfl (hb hby at_277) rfl kk) ?_
            refine OwnGo.back (T159.setTop (mkF m 282 #[.val (.long p1), .second, .val (.long p2), .second, .val (.long p3), .second, .val (.long p4), .second, .val (.int p5), .val (.ref b1), .val (.int (p5 &&& (7 : Int32))), .val (.ref b122), .val (.ref b122), .val (.int (0 : Int32)), .val (.int r_160)] [(.ref b122)])) (fun tg kk => XS.aload X159.here hx rfl (hb hby at_280) rfl rfl kk) ?_
            refine OwnGo.back (T159.setTop (mkF m 284 #[.val (.long p1), .second, .val (.long p2), .second, .val (.long p3), .second, .val (.long p4), .second, .val (.int p5), .val (.ref b1), .val (.int (p5 &&& (7 : Int32))), .val (.ref b122), .val (.ref b122), .val (.int (0 : Int32)), .val (.int r_160)] [(.ref b1), (.ref b122)])) (fun tg kk => XS.aload X159.here hx rfl (hb hby at_282) rfl rfl kk) ?_
            obtain ⟨cq162, kq162, q162a, q162b, q162c⟩ := isOf hZ e159 po135
            obtain ⟨_, _, ⟨T162, L162, k162, n162⟩, -, X162, ⟨Lc162, hQ162, l162, y162, z162⟩, st162⟩ := X159.virtualBack hx (y := (⟨"com/example/lienledger/lienledger/io/Checksum", "equals", "(Ljava/lang/Object;)Z"⟩ : MethodName)) (z := (⟨"com/example/lienledger/lienledger/io/Checksum", "equals", "(Ljava/lang/Object;)Z"⟩ : MethodName)) hown (mvT hZ (hw _ (List.mem_of_getElem? (i := 18) rfl))) (mvT hZ (hw _ (List.mem_of_getElem? (i := 19) rfl))) (notFace_of_selects (args := #[]) (mvT hZ (hw _ (List.mem_of_getElem? (i := 21) rfl)))) (mvT hZ (hw _ (List.mem_of_getElem? (i := 21) rfl))) (mvT hZ (hw _ (List.mem_of_getElem? (i := 20) rfl))) (by decide) (backOf (W := 0) (own_eqt l Z a0 hw [] b122 b1 p3 p4 p1 p2 T134.heap n0 Z144 f139 po136 po137 f140 f141) hZ (hw _ (List.mem_of_getElem? (i := 22) rfl)) (hw _ (List.mem_of_getElem? (i := 2) rfl)) (by decide) (by decide)) q162a q162c (g := (mkF m 284 #[.val (.long p1), .second, .val (.long p2), .second, .val (.long p3), .second, .val (.long p4), .second, .val (.int p5), .val (.ref b1), .val (.int (p5 &&& (7 : Int32))), .val (.ref b122), .val (.ref b122), .val (.int (0 : Int32)), .val (.int r_160)] [(.ref b1), (.ref b122)])) rfl (by rw [hml]; rfl) (Steps.refl _) (argsL := [(.ref b1)]) (rest := []) (lenOf own_pd3 rfl) rfl (by show 2 * 0 + _ ≤ _; exact Nat.le_of_eq rfl) (hb hby at_284) (fun _ _ => ⟨rfl, e159, (by decide : 2 + 0 ≤ _), (by decide : 4 + 0 ≤ _)⟩)
            dsimp only [Pt.U, Pt.locs, Pt.cells, Pt.slots] at X162 l162 y162 z162 st162 hQ162
            subst l162 y162 z162
            obtain ⟨r_163, rfl, N162q, e162, po164⟩ := hQ162
            have N162 := Fr.app N159 N162q
            refine OwnGo.back (T162.setTop (mkF m 287 #[.val (.long p1), .second, .val (.long p2), .second, .val (.long p3), .second, .val (.long p4), .second, .val (.int p5), .val (.ref b1), .val (.int (p5 &&& (7 : Int32))), .val (.ref b122), .val (.ref b122), .val (.int (0 : Int32)), .val (.int r_160)] [(.int r_163)])) (fun tg kk => st162.trans kk) ?_
            refine OwnGo.back (T162.setTop (mkF m 289 #[.val (.long p1), .second, .val (.long p2), .second, .val (.long p3), .second, .val (.long p4), .second, .val (.int p5), .val (.ref b1), .val (.int (p5 &&& (7 : Int32))), .val (.ref b122), .val (.ref b122), .val (.int (0 : Int32)), .val (.int r_160)] [(.int (0 : Int32)), (.int r_163)])) (fun tg kk => XS.iload X162.here hx rfl (hb hby at_287) rfl kk) ?_
            refine OwnGo.back (T162.setTop (mkF m 294 #[.val (.long p1), .second, .val (.long p2), .second, .val (.long p3), .second, .val (.long p4), .second, .val (.int p5), .val (.ref b1), .val (.int (p5 &&& (7 : Int32))), .val (.ref b122), .val (.ref b122), .val (.int (0 : Int32)), .val (.int r_160)] [])) (fun tg kk => XS.icmpYes X162.here hx rfl (pc0 := 289) (pc' := 294) rfl (hb hby at_289) rfl (teq (by (simp only [true_and, and_true, false_and, and_false, or_false, false_or, or_true, true_or, not_true_eq_false, not_false_eq_true, eq_self, Int32.lt_iff_toInt_lt, Int32.le_iff_toInt_le, ← Int32.toInt_inj, Int32.reduceToInt, Int64.lt_iff_toInt_lt, Int64.le_iff_toInt_le, ← Int64.toInt_inj, Int64.reduceToInt] at hc17 hc47 hc84 hc121 hc145 hB po161 po164 ⊢) <;> omega : r_163 = (0 : Int32))).1 (by decide) (by decide) kk) ?_
            refine OwnGo.back (T162.setTop (mkF m 295 #[.val (.long p1), .second, .val (.long p2), .second, .val (.long p3), .second, .val (.long p4), .second, .val (.int p5), .val (.ref b1), .val (.int (p5 &&& (7 : Int32))), .val (.ref b122), .val (.ref b122), .val (.int (0 : Int32)), .val (.int r_160)] [(.int (1 : Int32))])) (fun tg kk => XS.iconst X162.here hx rfl (hb hby at_294) kk) ?_
            obtain ⟨fs, hr, hrun, hended, hW, hsame⟩ := X162.leave (v := some (.int (1 : Int32))) (fun h => by rw [Bd.returns] at h; cases h)
            refine ⟨_, _, ?_, hrun, hended, _, _, rfl, ?_, ⟨_, rfl⟩, hW, hsame.mono (by decide) (by decide)⟩
            · exact retN X162 hx (t := .boolean) Bd.returns (by simp) (hb hby at_295) hr
            · show own_law_Q Z p1 p2 p3 p4 p5 ca h0 n0 _ T162.heap _
              rw [e162]
              exact ⟨rfl, N162, K143⟩
        ·
          refine OwnGo.back (T9.setTop (mkF m 169 #[.val (.long p1), .second, .val (.long p2), .second, .val (.long p3), .second, .val (.long p4), .second, .val (.int p5), .val (.ref b1), .val (.int (p5 &&& (7 : Int32))), .unset, .unset, .unset, .unset] [])) (fun tg kk => XS.icmpYes X9.here hx rfl (pc0 := 125) (pc' := 169) rfl (hb hby at_125) rfl (feq hc121).2 (by decide) (by decide) kk) ?_
          refine OwnGo.back (T9.setTop (mkF m 171 #[.val (.long p1), .second, .val (.long p2), .second, .val (.long p3), .second, .val (.long p4), .second, .val (.int p5), .val (.ref b1), .val (.int (p5 &&& (7 : Int32))), .unset, .unset, .unset, .unset] [(.int (p5 &&& (7 : Int32)))])) (fun tg kk => XS.iload X9.here hx rfl (hb hby at_169) rfl kk) ?_
          refine OwnGo.back (T9.setTop (mkF m 172 #[.val (.long p1), .second, .val (.long p2), .second, .val (.long p3), .second, .val (.long p4), .second, .val (.int p5), .val (.ref b1), .val (.int (p5 &&& (7 : Int32))), .unset, .unset, .unset, .unset] [(.int (4 : Int32)), (.int (p5 &&& (7 : Int32)))])) (fun tg kk => XS.iconst X9.here hx rfl (hb hby at_171) kk) ?_
          by_cases hc165 : (p5 &&& (7 : Int32)) = (4 : Int32)
          ·
            refine OwnGo.back (T9.setTop (mkF m 175 #[.val (.long p1), .second, .val (.long p2), .second, .val (.long p3), .second, .val (.long p4), .second, .val (.int p5), .val (.ref b1), .val (.int (p5 &&& (7 : Int32))), .unset, .unset, .unset, .unset] [])) (fun tg kk => XS.icmpNo X9.here hx rfl (hb hby at_172) rfl (teq hc165).2 kk) ?_
            obtain ⟨T166, h166, X166, e166, E166, A166, D166, -, st166⟩ := newO X9 hx hZ hown (hw _ (List.mem_of_getElem? (i := 0) rfl)) (hw _ (List.mem_of_getElem? (i := 1) rfl)) (hw _ (List.mem_of_getElem? (i := 2) rfl)) rfl (g := (mkF m 175 #[.val (.long p1), .second, .val (.long p2), .second, .val (.long p3), .second, .val (.long p4), .second, .val (.int p5), .val (.ref b1), .val (.int (p5 &&& (7 : Int32))), .unset, .unset, .unset, .unset] [])) rfl (hb hby at_175) (by decide) (by decide)
            obtain ⟨b166, q166⟩ : ∃ z, z = T9.heap.size := ⟨_, rfl⟩
            rw [← q166] at A166 D166 st166
            have n167 : b1 ≠ b166 := own_ne po10.lt q166
            have g168 : n0 ≤ b166 := Nat.le_trans Z16 (Nat.le_of_eq q166.symm)
            have s169 : h0.size ≤ b166 := Nat.le_trans K15.1 (Nat.le_of_eq q166.symm)
            have f170 : Old Z n0 h166 := f13.ext E166
            have f171 : Exa Z h166 b1 "com/example/lienledger/lienledger/io/Checksum" := po10.ext E166
            have f172 : Fld Z h166 b1 "com/example/lienledger/lienledger/io/Checksum" "crc32c" "J" (.long p1) := po11.ext E166
            have f173 : Fld Z h166 b1 "com/example/lienledger/lienledger/io/Checksum" "length" "J" (.long p2) := po12.ext E166
            have K174 : Keep h0 h166 [] := K15.ext E166
            have Z175 : n0 ≤ h166.size := Nat.le_trans Z16 E166.1
            have f176 : Fld Z h166 b166 "com/example/lienledger/lienledger/io/Checksum" "crc32c" "J" (.long (0 : Int64)) := D166 (Or.inr (hw _ (List.mem_of_getElem? (i := 15) rfl))) (ty := .long) (by decide)
            have f177 : Fld Z h166 b166 "com/example/lienledger/lienledger/io/Checksum" "length" "J" (.long (0 : Int64)) := D166 (Or.inr (hw _ (List.mem_of_getElem? (i := 17) rfl))) (ty := .long) (by decide)
            refine OwnGo.back (T166.setTop (mkF m 178 #[.val (.long p1), .second, .val (.long p2), .second, .val (.long p3), .second, .val (.long p4), .second, .val (.int p5), .val (.ref b1), .val (.int (p5 &&& (7 : Int32))), .unset, .unset, .unset, .unset] [(.ref b166)])) (fun tg kk => st166 _ kk) ?_
            refine OwnGo.back (T166.setTop (mkF m 179 #[.val (.long p1), .second, .val (.long p2), .second, .val (.long p3), .second, .val (.long p4), .second, .val (.int p5), .val (.ref b1), .val (.int (p5 &&& (7 : Int32))), .unset, .unset, .unset, .unset] [(.ref b166), (.ref b166)])) (fun tg kk => XS.dup X166.here hx rfl (hb hby at_178) rfl rfl kk) ?_
            refine OwnGo.back (T166.setTop (mkF m 180 #[.val (.long p1), .second, .val (.long p2), .second, .val (.long p3), .second, .val (.long p4), .second, .val (.int p5), .val (.ref b1), .val (.int (p5 &&& (7 : Int32))), .unset, .unset, .unset, .unset] [(.long p2), (.ref b166), (.ref b166)])) (fun tg kk => XS.lloadN X166.here hx rfl (hb hby at_179) rfl kk) ?_
            refine OwnGo.back (T166.setTop (mkF m 181 #[.val (.long p1), .second, .val (.long p2), .second, .val (.long p3), .second, .val (.long p4), .second, .val (.int p5), .val (.ref b1), .val (.int (p5 &&& (7 : Int32))), .unset, .unset, .unset, .unset] [(.long p1), (.long p2), (.ref b166), (.ref b166)])) (fun tg kk => XS.lloadN X166.here hx rfl (hb hby at_180) rfl kk) ?_
            obtain ⟨_, _, ⟨T178, L178, k178, n178⟩, -, X178, ⟨Lc178, hQ178, l178, y178, z178⟩, st178⟩ := X166.specialBack hx (y := (⟨"com/example/lienledger/lienledger/io/Checksum", "<init>", "(JJ)V"⟩ : MethodName)) rfl hown (mvT hZ (hw _ (List.mem_of_getElem? (i := 3) rfl))) (mvT hZ (hw _ (List.mem_of_getElem? (i := 4) rfl))) (mvT hZ (hw _ (List.mem_of_getElem? (i := 5) rfl))) (by decide) (backOf (W := 1) (own_ck l Z a0 hw [] b166 p2 p1 h166 n0 Z175 A166 f176 f177 g168) hZ (hw _ (List.mem_of_getElem? (i := 5) rfl)) (hw _ (List.mem_of_getElem? (i := 2) rfl)) (by decide) (by decide)) (g := (mkF m 181 #[.val (.long p1), .second, .val (.long p2), .second, .val (.long p3), .second, .val (.long p4), .second, .val (.int p5), .val (.ref b1), .val (.int (p5 &&& (7 : Int32))), .unset, .unset, .unset, .unset] [(.long p1), (.long p2), (.ref b166), (.ref b166)])) rfl (by rw [hml]; rfl) (Steps.refl _) (a := b166) (argsL := [(.long p2), (.long p1)]) (rest := [(.ref b166)]) (lenOf own_pd2 rfl) rfl (by show 2 * 0 + _ ≤ _; exact Nat.le_of_eq rfl) (hb hby at_181) (fun _ _ => ⟨rfl, e166, (by decide : 2 + 0 ≤ _), (by decide : 4 + 0 ≤ _)⟩)
            dsimp only [Pt.U, Pt.locs, Pt.cells, Pt.slots] at X178 l178 y178 z178 st178 hQ178
            subst l178 y178 z178
            obtain ⟨rfl, N178q, Kc178, po179, po180, po181⟩ := hQ178
            have N178 := Fr.app N9 N178q
            have f182 : Old Z n0 T178.heap := f170.keep Kc178 (allS g168 all0)
            have f183 : Exa Z T178.heap b1 "com/example/lienledger/lienledger/io/Checksum" := f171.keep Kc178
            have f184 : Fld Z T178.heap b1 "com/example/lienledger/lienledger/io/Checksum" "crc32c" "J" (.long p1) := f172.keep Kc178 (ninS n167 nin0)
            have f185 : Fld Z T178.heap b1 "com/example/lienledger/lienledger/io/Checksum" "length" "J" (.long p2) := f173.keep Kc178 (ninS n167 nin0)
            have f186 : Exa Z T178.heap b166 "com/example/lienledger/lienledger/io/Checksum" := A166.keep Kc178
            have K187 : Keep h0 T178.heap [] := K174.trans Kc178 (allS (Or.inr s169) all0)
            have Z188 : n0 ≤ T178.heap.size := Nat.le_trans Z175 Kc178.1
            refine OwnGo.back (T178.setTop (mkF m 184 #[.val (.long p1), .second, .val (.long p2), .second, .val (.long p3), .second, .val (.long p4), .second, .val (.int p5), .val (.ref b1), .val (.int (p5 &&& (7 : Int32))), .unset, .unset, .unset, .unset] [(.ref b166)])) (fun tg kk => st178.trans kk) ?_
            refine OwnGo.back (T178.setTop (mkF m 186 #[.val (.long p1), .second, .val (.long p2), .second, .val (.long p3), .second, .val (.long p4), .second, .val (.int p5), .val (.ref b1), .val (.int (p5 &&& (7 : Int32))), .unset, .val (.ref b166), .unset, .unset] [])) (fun tg kk => XS.astore X178.here hx rfl (hb hby at_184) rfl rfl (l' := #[.val (.long p1), .second, .val (.long p2), .second, .val (.long p3), .second, .val (.long p4), .second, .val (.int p5), .val (.ref b1), .val (.int (p5 &&& (7 : Int32))), .unset, .val (.ref b166), .unset, .unset]) rfl kk) ?_
            refine OwnGo.back (T178.setTop (mkF m 188 #[.val (.long p1), .second, .val (.long p2), .second, .val (.long p3), .second, .val (.long p4), .second, .val (.int p5), .val (.ref b1), .val (.int (p5 &&& (7 : Int32))), .unset, .val (.ref b166), .unset, .unset] [(.ref b166)])) (fun tg kk => XS.aload X178.here hx rfl (hb hby at_186) rfl rfl kk) ?_
            refine OwnGo.back (T178.setTop (mkF m 190 #[.val (.long p1), .second, .val (.long p2), .second, .val (.long p3), .second, .val (.long p4), .second, .val (.int p5), .val (.ref b1), .val (.int (p5 &&& (7 : Int32))), .val (.ref b166), .val (.ref b166), .unset, .unset] [])) (fun tg kk => XS.astore X178.here hx rfl (hb hby at_188) rfl rfl (l' := #[.val (.long p1), .second, .val (.long p2), .second, .val (.long p3), .second, .val (.long p4), .second, .val (.int p5), .val (.ref b1), .val (.int (p5 &&& (7 : Int32))), .val (.ref b166), .val (.ref b166), .unset, .unset]) rfl kk) ?_
            refine OwnGo.back (T178.setTop (mkF m 191 #[.val (.long p1), .second, .val (.long p2), .second, .val (.long p3), .second, .val (.long p4), .second, .val (.int p5), .val (.ref b1), .val (.int (p5 &&& (7 : Int32))), .val (.ref b166), .val (.ref b166), .unset, .unset] [(.long p1)])) (fun tg kk => XS.lloadN X178.here hx rfl (hb hby at_190) rfl kk) ?_
            refine OwnGo.back (T178.setTop (mkF m 192 #[.val (.long p1), .second, .val (.long p2), .second, .val (.long p3), .second, .val (.long p4), .second, .val (.int p5), .val (.ref b1), .val (.int (p5 &&& (7 : Int32))), .val (.ref b166), .val (.ref b166), .unset, .unset] [(.long p2), (.long p1)])) (fun tg kk => XS.lloadN X178.here hx rfl (hb hby at_191) rfl kk) ?_
            refine OwnGo.back (T178.setTop (mkF m 193 #[.val (.long p1), .second, .val (.long p2), .second, .val (.long p3), .second, .val (.long p4), .second, .val (.int p5), .val (.ref b1), .val (.int (p5 &&& (7 : Int32))), .val (.ref b166), .val (.ref b166), .unset, .unset] [(.int (lcmpW p1 p2))])) (fun tg kk => XS.lcmp X178.here hx rfl (hb hby at_192) rfl kk) ?_
            by_cases hc189 : p1 = p2
            ·
              refine OwnGo.back (T178.setTop (mkF m 196 #[.val (.long p1), .second, .val (.long p2), .second, .val (.long p3), .second, .val (.long p4), .second, .val (.int p5), .val (.ref b1), .val (.int (p5 &&& (7 : Int32))), .val (.ref b166), .val (.ref b166), .unset, .unset] [])) (fun tg kk => XS.ifNo X178.here hx rfl (hb hby at_193) rfl ((if0 _ _).trans (teq ((lw_eq _ _).mpr hc189)).2) kk) ?_
              refine OwnGo.back (T178.setTop (mkF m 197 #[.val (.long p1), .second, .val (.long p2), .second, .val (.long p3), .second, .val (.long p4), .second, .val (.int p5), .val (.ref b1), .val (.int (p5 &&& (7 : Int32))), .val (.ref b166), .val (.ref b166), .unset, .unset] [(.int (1 : Int32))])) (fun tg kk => XS.iconst X178.here hx rfl (hb hby at_196) kk) ?_
              refine OwnGo.back (T178.setTop (mkF m 201 #[.val (.long p1), .second, .val (.long p2), .second, .val (.long p3), .second, .val (.long p4), .second, .val (.int p5), .val (.ref b1), .val (.int (p5 &&& (7 : Int32))), .val (.ref b166), .val (.ref b166), .unset, .unset] [(.int (1 : Int32))])) (fun tg kk => XS.goto X178.here hx rfl (pc0 := 197) (pc' := 201) rfl (hb hby at_197) (by decide) (by decide) kk) ?_
              refine OwnGo.back (T178.setTop (mkF m 203 #[.val (.long p1), .second, .val (.long p2), .second, .val (.long p3), .second, .val (.long p4), .second, .val (.int p5), .val (.ref b1), .val (.int (p5 &&& (7 : Int32))), .val (.ref b166), .val (.ref b166), .val (.int (1 : Int32)), .unset] [])) (fun tg kk => XS.istore X178.here hx rfl (hb hby at_201) rfl (l' := #[.val (.long p1), .second, .val (.long p2), .second, .val (.long p3), .second, .val (.long p4), .second, .val (.int p5), .val (.ref b1), .val (.int (p5 &&& (7 : Int32))), .val (.ref b166), .val (.ref b166), .val (.int (1 : Int32)), .unset]) rfl kk) ?_
              refine OwnGo.back (T178.setTop (mkF m 257 #[.val (.long p1), .second, .val (.long p2), .second, .val (.long p3), .second, .val (.long p4), .second, .val (.int p5), .val (.ref b1), .val (.int (p5 &&& (7 : Int32))), .val (.ref b166), .val (.ref b166), .val (.int (1 : Int32)), .unset] [])) (fun tg kk => XS.goto X178.here hx rfl (pc0 := 203) (pc' := 257) rfl (hb hby at_203) (by decide) (by decide) kk) ?_
              refine OwnGo.back (T178.setTop (mkF m 259 #[.val (.long p1), .second, .val (.long p2), .second, .val (.long p3), .second, .val (.long p4), .second, .val (.int p5), .val (.ref b1), .val (.int (p5 &&& (7 : Int32))), .val (.ref b166), .val (.ref b166), .val (.int (1 : Int32)), .unset] [(.ref b1)])) (fun tg kk => XS.aload X178.here hx rfl (hb hby at_257) rfl rfl kk) ?_
              refine OwnGo.back (T178.setTop (mkF m 261 #[.val (.long p1), .second, .val (.long p2), .second, .val (.long p3), .second, .val (.long p4), .second, .val (.int p5), .val (.ref b1), .val (.int (p5 &&& (7 : Int32))), .val (.ref b166), .val (.ref b166), .val (.int (1 : Int32)), .unset] [(.ref b166), (.ref b1)])) (fun tg kk => XS.aload X178.here hx rfl (hb hby at_259) rfl rfl kk) ?_
              obtain ⟨cq190, kq190, q190a, q190b, q190c⟩ := isOf hZ rfl f183
              obtain ⟨_, _, ⟨T190, L190, k190, n190⟩, -, X190, ⟨Lc190, hQ190, l190, y190, z190⟩, st190⟩ := X178.virtualBack hx (y := (⟨"com/example/lienledger/lienledger/io/Checksum", "equals", "(Ljava/lang/Object;)Z"⟩ : MethodName)) (z := (⟨"com/example/lienledger/lienledger/io/Checksum", "equals", "(Ljava/lang/Object;)Z"⟩ : MethodName)) hown (mvT hZ (hw _ (List.mem_of_getElem? (i := 18) rfl))) (mvT hZ (hw _ (List.mem_of_getElem? (i := 19) rfl))) (notFace_of_selects (args := #[]) (mvT hZ (hw _ (List.mem_of_getElem? (i := 21) rfl)))) (mvT hZ (hw _ (List.mem_of_getElem? (i := 21) rfl))) (mvT hZ (hw _ (List.mem_of_getElem? (i := 20) rfl))) (by decide) (backOf (W := 0) (own_eqt l Z a0 hw [] b1 b166 p1 p2 p2 p1 T178.heap n0 Z188 po179 f184 f185 po180 po181) hZ (hw _ (List.mem_of_getElem? (i := 22) rfl)) (hw _ (List.mem_of_getElem? (i := 2) rfl)) (by decide) (by decide)) q190a q190c (g := (mkF m 261 #[.val (.long p1), .second, .val (.long p2), .second, .val (.long p3), .second, .val (.long p4), .second, .val (.int p5), .val (.ref b1), .val (.int (p5 &&& (7 : Int32))), .val (.ref b166), .val (.ref b166), .val (.int (1 : Int32)), .unset] [(.ref b166), (.ref b1)])) rfl (by rw [hml]; rfl) (Steps.refl _) (argsL := [(.ref b166)]) (rest := []) (lenOf own_pd3 rfl) rfl (by show 2 * 0 + _ ≤ _; exact Nat.le_of_eq rfl) (hb hby at_261) (fun _ _ => ⟨rfl, rfl, (by decide : 2 + 0 ≤ _), (by decide : 4 + 0 ≤ _)⟩)
              dsimp only [Pt.U, Pt.locs, Pt.cells, Pt.slots] at X190 l190 y190 z190 st190 hQ190
              subst l190 y190 z190
              obtain ⟨r_191, rfl, N190q, e190, po192⟩ := hQ190
              have N190 := Fr.app N178 N190q
              refine OwnGo.back (T190.setTop (mkF m 264 #[.val (.long p1), .second, .val (.long p2), .second, .val (.long p3), .second, .val (.long p4), .second, .val (.int p5), .val (.ref b1), .val (.int (p5 &&& (7 : Int32))), .val (.ref b166), .val (.ref b166), .val (.int (1 : Int32)), .unset] [(.int r_191)])) (fun tg kk => st190.trans kk) ?_
              refine OwnGo.back (T190.setTop (mkF m 266 #[.val (.long p1), .second, .val (.long p2), .second, .val (.long p3), .second, .val (.long p4), .second, .val (.int p5), .val (.ref b1), .val (.int (p5 &&& (7 : Int32))), .val (.ref b166), .val (.ref b166), .val (.int (1 : Int32)), .val (.int r_191)] [])) (fun tg kk => XS.istore X190.here hx rfl (hb hby at_264) rfl (l' := #[.val (.long p1), .second, .val (.long p2), .second, .val (.long p3), .second, .val (.long p4), .second, .val (.int p5), .val (.ref b1), .val (.int (p5 &&& (7 : Int32))), .val (.ref b166), .val (.ref b166), .val (.int (1 : Int32)), .val (.int r_191)]) rfl kk) ?_
              refine OwnGo.back (T190.setTop (mkF m 268 #[.val (.long p1), .second, .val (.long p2), .second, .val (.long p3), .second, .val (.long p4), .second, .val (.int p5), .val (.ref b1), .val (.int (p5 &&& (7 : Int32))), .val (.ref b166), .val (.ref b166), .val (.int (1 : Int32)), .val (.int r_191)] [(.int r_191)])) (fun tg kk => XS.iload X190.here hx rfl (hb hby at_266) rfl kk) ?_
              refine OwnGo.back (T190.setTop (mkF m 270 #[.val (.long p1), .second, .val (.long p2), .second, .val (.long p3), .second, .val (.long p4), .second, .val (.int p5), .val (.ref b1), .val (.int (p5 &&& (7 : Int32))), .val (.ref b166), .val (.ref b166), .val (.int (1 : Int32)), .val (.int r_191)] [(.int (1 : Int32)), (.int r_191)])) (fun tg kk => XS.iload X190.here hx rfl (hb hby at_268) rfl kk) ?_
              refine OwnGo.back (T190.setTop (mkF m 275 #[.val (.long p1), .second, .val (.long p2), .second, .val (.long p3), .second, .val (.long p4), .second, .val (.int p5), .val (.ref b1), .val (.int (p5 &&& (7 : Int32))), .val (.ref b166), .val (.ref b166), .val (.int (1 : Int32)), .val (.int r_191)] [])) (fun tg kk => XS.icmpYes X190.here hx rfl (pc0 := 270) (pc' := 275) rfl (hb hby at_270) rfl (teq (by (simp only [true_and, and_true, false_and, and_false, or_false, false_or, or_true, true_or, not_true_eq_false, not_false_eq_true, eq_self, Int32.lt_iff_toInt_lt, Int32.le_iff_toInt_le, ← Int32.toInt_inj, Int32.reduceToInt, Int64.lt_iff_toInt_lt, Int64.le_iff_toInt_le, ← Int64.toInt_inj, Int64.reduceToInt] at hc17 hc47 hc84 hc121 hc165 hc189 hB po192 ⊢) <;> omega : r_191 = (1 : Int32))).1 (by decide) (by decide) kk) ?_
              refine OwnGo.back (T190.setTop (mkF m 277 #[.val (.long p1), .second, .val (.long p2), .second, .val (.long p3), .second, .val (.long p4), .second, .val (.int p5), .val (.ref b1), .val (.int (p5 &&& (7 : Int32))), .val (.ref b166), .val (.ref b166), .val (.int (1 : Int32)), .val (.int r_191)] [(.ref b166)])) (fun tg kk => XS.aload X190.here hx rfl (hb hby at_275) rfl rfl kk) ?_
              refine OwnGo.back (T190.setTop (mkF m 280 #[.val (.long p1), .second, .val (.long p2), .second, .val (.long p3), .second, .val (.long p4), .second, .val (.int p5), .val (.ref b1), .val (.int (p5 &&& (7 : Int32))), .val (.ref b166), .val (.ref b166), .val (.int (1 : Int32)), .val (.int r_191)] [])) (fun tg kk => XS.ifnullNo X190.here hx rfl (hb hby at_277) rfl kk) ?_
              refine OwnGo.back (T190.setTop (mkF m 282 #[.val (.long p1), .second, .val (.long p2), .second, .val (.long p3), .second, .val (.long p4), .second, .val (.int p5), .val (.ref b1), .val (.int (p5 &&& (7 : Int32))), .val (.ref b166), .val (.ref b166), .val (.int (1 : Int32)), .val (.int r_191)] [(.ref b166)])) (fun tg kk => XS.aload X190.here hx rfl (hb hby at_280) rfl rfl kk) ?_
              refine OwnGo.back (T190.setTop (mkF m 284 #[.val (.long p1), .second, .val (.long p2), .second, .val (.long p3), .second, .val (.long p4), .second, .val (.int p5), .val (.ref b1), .val (.int (p5 &&& (7 : Int32))), .val (.ref b166), .val (.ref b166), .val (.int (1 : Int32)), .val (.int r_191)] [(.ref b1), (.ref b166)])) (fun tg kk => XS.aload X190.here hx rfl (hb hby at_282) rfl rfl kk) ?_
              obtain ⟨cq193, kq193, q193a, q193b, q193c⟩ := isOf hZ e190 po179
              obtain ⟨_, _, ⟨T193, L193, k193, n193⟩, -, X193, ⟨Lc193, hQ193, l193, y193, z193⟩, st193⟩ := X190.virtualBack hx (y := (⟨"com/example/lienledger/lienledger/io/Checksum", "equals", "(Ljava/lang/Object;)Z"⟩ : MethodName)) (z := (⟨"com/example/lienledger/lienledger/io/Checksum", "equals", "(Ljava/lang/Object;)Z"⟩ : MethodName)) hown (mvT hZ (hw _ (List.mem_of_getElem? (i := 18) rfl))) (mvT hZ (hw _ (List.mem_of_getElem? (i := 19) rfl))) (notFace_of_selects (args := #[]) (mvT hZ (hw _ (List.mem_of_getElem? (i := 21) rfl)))) (mvT hZ (hw _ (List.mem_of_getElem? (i := 21) rfl))) (mvT hZ (hw _ (List.mem_of_getElem? (i := 20) rfl))) (by decide) (backOf (W := 0) (own_eqt l Z a0 hw [] b166 b1 p2 p1 p1 p2 T178.heap n0 Z188 f183 po180 po181 f184 f185) hZ (hw _ (List.mem_of_getElem? (i := 22) rfl)) (hw _ (List.mem_of_getElem? (i := 2) rfl)) (by decide) (by decide)) q193a q193c (g := (mkF m 284 #[.val (.long p1), .second, .val (.long p2), .second, .val (.long p3), .second, .val (.long p4), .second, .val (.int p5), .val (.ref b1), .val (.int (p5 &&& (7 : Int32))), .val (.ref b166), .val (.ref b166), .val (.int (1 : Int32)), .val (.int r_191)] [(.ref b1), (.ref b166)])) rfl (by rw [hml]; rfl) (Steps.refl _) (argsL := [(.ref b1)]) (rest := []) (lenOf own_pd3 rfl) rfl (by show 2 * 0 + _ ≤ _; exact Nat.le_of_eq rfl) (hb hby at_284) (fun _ _ => ⟨rfl, e190, (by decide : 2 + 0 ≤ _), (by decide : 4 + 0 ≤ _)⟩)
              dsimp only [Pt.U, Pt.locs, Pt.cells, Pt.slots] at X193 l193 y193 z193 st193 hQ193
              subst l193 y193 z193
              obtain ⟨r_194, rfl, N193q, e193, po195⟩ := hQ193
              have N193 := Fr.app N190 N193q
              refine OwnGo.back (T193.setTop (mkF m 287 #[.val (.long p1), .second, .val (.long p2), .second, .val (.long p3), .second, .val (.long p4), .second, .val (.int p5), .val (.ref b1), .val (.int (p5 &&& (7 : Int32))), .val (.ref b166), .val (.ref b166), .val (.int (1 : Int32)), .val (.int r_191)] [(.int r_194)])) (fun tg kk => st193.trans kk) ?_
              refine OwnGo.back (T193.setTop (mkF m 289 #[.val (.long p1), .second, .val (.long p2), .second, .val (.long p3), .second, .val (.long p4), .second, .val (.int p5), .val (.ref b1), .val (.int (p5 &&& (7 : Int32))), .val (.ref b166), .val (.ref b166), .val (.int (1 : Int32)), .val (.int r_191)] [(.int (1 : Int32)), (.int r_194)])) (fun tg kk => XS.iload X193.here hx rfl (hb hby at_287) rfl kk) ?_
              refine OwnGo.back (T193.setTop (mkF m 294 #[.val (.long p1), .second, .val (.long p2), .second, .val (.long p3), .second, .val (.long p4), .second, .val (.int p5), .val (.ref b1), .val (.int (p5 &&& (7 : Int32))), .val (.ref b166), .val (.ref b166), .val (.int (1 : Int32)), .val (.int r_191)] [])) (fun tg kk => XS.icmpYes X193.here hx rfl (pc0 := 289) (pc' := 294) rfl (hb hby at_289) rfl (teq (by (simp only [true_and, and_true, false_and, and_false, or_false, false_or, or_true, true_or, not_true_eq_false, not_false_eq_true, eq_self, Int32.lt_iff_toInt_lt, Int32.le_iff_toInt_le, ← Int32.toInt_inj, Int32.reduceToInt, Int64.lt_iff_toInt_lt, Int64.le_iff_toInt_le, ← Int64.toInt_inj, Int64.reduceToInt] at hc17 hc47 hc84 hc121 hc165 hc189 hB po192 po195 ⊢) <;> omega : r_194 = (1 : Int32))).1 (by decide) (by decide) kk) ?_
              refine OwnGo.back (T193.setTop (mkF m 295 #[.val (.long p1), .second, .val (.long p2), .second, .val (.long p3), .second, .val (.long p4), .second, .val (.int p5), .val (.ref b1), .val (.int (p5 &&& (7 : Int32))), .val (.ref b166), .val (.ref b166), .val (.int (1 : Int32)), .val (.int r_191)] [(.int (1 : Int32))])) (fun tg kk => XS.iconst X193.here hx rfl (hb hby at_294) kk) ?_
              obtain ⟨fs, hr, hrun, hended, hW, hsame⟩ := X193.leave (v := some (.int (1 : Int32))) (fun h => by rw [Bd.returns] at h; cases h)
              refine ⟨_, _, ?_, hrun, hended, _, _, rfl, ?_, ⟨_, rfl⟩, hW, hsame.mono (by decide) (by decide)⟩
              · exact retN X193 hx (t := .boolean) Bd.returns (by simp) (hb hby at_295) hr
              · show own_law_Q Z p1 p2 p3 p4 p5 ca h0 n0 _ T193.heap _
                rw [e193]
                exact ⟨rfl, N193, K187⟩
            ·
              refine OwnGo.back (T178.setTop (mkF m 200 #[.val (.long p1), .second, .val (.long p2), .second, .val (.long p3), .second, .val (.long p4), .second, .val (.int p5), .val (.ref b1), .val (.int (p5 &&& (7 : Int32))), .val (.ref b166), .val (.ref b166), .unset, .unset] [])) (fun tg kk => XS.ifYes X178.here hx rfl (pc0 := 193) (pc' := 200) rfl (hb hby at_193) rfl ((if0 _ _).trans (feq (own_not (lw_eq _ _) hc189)).2) (by decide) (by decide) kk) ?_
              refine OwnGo.back (T178.setTop (mkF m 201 #[.val (.long p1), .second, .val (.long p2), .second, .val (.long p3), .second, .val (.long p4), .second, .val (.int p5), .val (.ref b1), .val (.int (p5 &&& (7 : Int32))), .val (.ref b166), .val (.ref b166), .unset, .unset] [(.int (0 : Int32))])) (fun tg kk => XS.iconst X178.here hx rfl (hb hby at_200) kk) ?_
              refine OwnGo.back (T178.setTop (mkF m 203 #[.val (.long p1), .second, .val (.long p2), .second, .val (.long p3), .second, .val (.long p4), .second, .val (.int p5), .val (.ref b1), .val (.int (p5 &&& (7 : Int32))), .val (.ref b166), .val (.ref b166), .val (.int (0 : Int32)), .unset] [])) (fun tg kk => XS.istore X178.here hx rfl (hb hby at_201) rfl (l' := #[.val (.long p1), .second, .val (.long p2), .second, .val (.long p3), .second, .val (.long p4), .second, .val (.int p5), .val (.ref b1), .val (.int (p5 &&& (7 : Int32))), .val (.ref b166), .val (.ref b166), .val (.int (0 : Int32)), .unset]) rfl kk) ?_
              refine OwnGo.back (T178.setTop (mkF m 257 #[.val (.long p1), .second, .val (.long p2), .second, .val (.long p3), .second, .val (.long p4), .second, .val (.int p5), .val (.ref b1), .val (.int (p5 &&& (7 : Int32))), .val (.ref b166), .val (.ref b166), .val (.int (0 : Int32)), .unset] [])) (fun tg kk => XS.goto X178.here hx rfl (pc0 := 203) (pc' := 257) rfl (hb hby at_203) (by decide) (by decide) kk) ?_
              refine OwnGo.back (T178.setTop (mkF m 259 #[.val (.long p1), .second, .val (.long p2), .second, .val (.long p3), .second, .val (.long p4), .second, .val (.int p5), .val (.ref b1), .val (.int (p5 &&& (7 : Int32))), .val (.ref b166), .val (.ref b166), .val (.int (0 : Int32)), .unset] [(.ref b1)])) (fun tg kk => XS.aload X178.here hx rfl (hb hby at_257) rfl rfl kk) ?_
              refine OwnGo.back (T178.setTop (mkF m 261 #[.val (.long p1), .second, .val (.long p2), .second, .val (.long p3), .second, .val (.long p4), .second, .val (.int p5), .val (.ref b1), .val (.int (p5 &&& (7 : Int32))), .val (.ref b166), .val (.ref b166), .val (.int (0 : Int32)), .unset] [(.ref b166), (.ref b1)])) (fun tg kk => XS.aload X178.here hx rfl (hb hby at_259) rfl rfl kk) ?_
              obtain ⟨cq196, kq196, q196a, q196b, q196c⟩ := isOf hZ rfl f183
              obtain ⟨_, _, ⟨T196, L196, k196, n196⟩, -, X196, ⟨Lc196, hQ196, l196, y196, z196⟩, st196⟩ := X178.virtualBack hx (y := (⟨"com/example/lienledger/lienledger/io/Checksum", "equals", "(Ljava/lang/Object;)Z"⟩ : MethodName)) (z := (⟨"com/example/lienledger/lienledger/io/Checksum", "equals", "(Ljava/lang/Object;)Z"⟩ : MethodName)) hown (mvT hZ (hw _ (List.mem_of_getElem? (i := 18) rfl))) (mvT hZ (hw _ (List.mem_of_getElem? (i := 19) rfl))) (notFace_of_selects (args := #[]) (mvT hZ (hw _ (List.mem_of_getElem? (i := 21) rfl)))) (mvT hZ (hw _ (List.mem_of_getElem? (i := 21) rfl))) (mvT hZ (hw _ (List.mem_of_getElem? (i := 20) rfl))) (by decide) (backOf (W := 0) (own_eqt l Z a0 hw [] b1 b166 p1 p2 p2 p1 T178.heap n0 Z188 po179 f184 f185 po180 po181) hZ (hw _ (List.mem_of_getElem? (i := 22) rfl)) (hw _ (List.mem_of_getElem? (i := 2) rfl)) (by decide) (by decide)) q196a q196c (g := (mkF m 261 #[.val (.long p1), .second, .val (.long p2), .second, .val (.long p3), .second, .val (.long p4), .second, .val (.int p5), .val (.ref b1), .val (.int (p5 &&& (7 : Int32))), .val (.ref b166), .val (.ref b166), .val (.int (0 : Int32)), .unset] [(.ref b166), (.ref b1)])) rfl (by rw [hml]; rfl) (Steps.refl _) (argsL := [(.ref b166)]) (rest := []) (lenOf own_pd3 rfl) rfl (by show 2 * 0 + _ ≤ _; exact Nat.le_of_eq rfl) (hb hby at_261) (fun _ _ => ⟨rfl, rfl, (by decide : 2 + 0 ≤ _), (by decide : 4 + 0 ≤ _)⟩)
              dsimp only [Pt.U, Pt.locs, Pt.cells, Pt.slots] at X196 l196 y196 z196 st196 hQ196
              subst l196 y196 z196
              obtain ⟨r_197, rfl, N196q, e196, po198⟩ := hQ196
              have N196 := Fr.app N178 N196q
              refine OwnGo.back (T196.setTop (mkF m 264 #[.val (.long p1), .second, .val (.long p2), .second, .val (.long p3), .second, .val (.long p4), .second, .val (.int p5), .val (.ref b1), .val (.int (p5 &&& (7 : Int32))), .val (.ref b166), .val (.ref b166), .val (.int (0 : Int32)), .unset] [(.int r_197)])) (fun tg kk => st196.trans kk) ?_
              refine OwnGo.back (T196.setTop (mkF m 266 #[.val (.long p1), .second, .val (.long p2), .second, .val (.long p3), .second, .val (.long p4), .second, .val (.int p5), .val (.ref b1), .val (.int (p5 &&& (7 : Int32))), .val (.ref b166), .val (.ref b166), .val (.int (0 : Int32)), .val (.int r_197)] [])) (fun tg kk => XS.istore X196.here hx rfl (hb hby at_264) rfl (l' := #[.val (.long p1), .second, .val (.long p2), .second, .val (.long p3), .second, .val (.long p4), .second, .val (.int p5), .val (.ref b1), .val (.int (p5 &&& (7 : Int32))), .val (.ref b166), .val (.ref b166), .val (.int (0 : Int32)), .val (.int r_197)]) rfl kk) ?_
              refine OwnGo.back (T196.setTop (mkF m 268 #[.val (.long p1), .second, .val (.long p2), .second, .val (.long p3), .second, .val (.long p4), .second, .val (.int p5), .val (.ref b1), .val (.int (p5 &&& (7 : Int32))), .val (.ref b166), .val (.ref b166), .val (.int (0 : Int32)), .val (.int r_197)] [(.int r_197)])) (fun tg kk => XS.iload X196.here hx rfl (hb hby at_266) rfl kk) ?_
              refine OwnGo.back (T196.setTop (mkF m 270 #[.val (.long p1), .second, .val (.long p2), .second, .val (.long p3), .second, .val (.long p4), .second, .val (.int p5), .val (.ref b1), .val (.int (p5 &&& (7 : Int32))), .val (.ref b166), .val (.ref b166), .val (.int (0 : Int32)), .val (.int r_197)] [(.int (0 : Int32)), (.int r_197)])) (fun tg kk => XS.iload X196.here hx rfl (hb hby at_268) rfl kk) ?_
              refine OwnGo.back (T196.setTop (mkF m 275 #[.val (.long p1), .second, .val (.long p2), .second, .val (.long p3), .second, .val (.long p4), .second, .val (.int p5), .val (.ref b1), .val (.int (p5 &&& (7 : Int32))), .val (.ref b166), .val (.ref b166), .val (.int (0 : Int32)), .val (.int r_197)] [])) (fun tg kk => XS.icmpYes X196.here hx rfl (pc0 := 270) (pc' := 275) rfl (hb hby at_270) rfl (teq (by (simp only [true_and, and_true, false_and, and_false, or_false, false_or, or_true, true_or, not_true_eq_false, not_false_eq_true, eq_self, Int32.lt_iff_toInt_lt, Int32.le_iff_toInt_le, ← Int32.toInt_inj, Int32.reduceToInt, Int64.lt_iff_toInt_lt, Int64.le_iff_toInt_le, ← Int64.toInt_inj, Int64.reduceToInt] at hc17 hc47 hc84 hc121 hc165 hc189 hB po198 ⊢) <;> omega : r_197 = (0 : Int32))).1 (by decide) (by decide) kk) ?_
              refine OwnGo.back (T196.setTop (mkF m 277 #[.val (.long p1), .second, .val (.long p2), .second, .val (.long p3), .second, .val (.long p4), .second, .val (.int p5), .val (.ref b1), .val (.int (p5 &&& (7 : Int32))), .val (.ref b166), .val (.ref b166), .val (.int (0 : Int32)), .val (.int r_197)] [(.ref b166)])) (fun tg kk => XS.aload X196.here hx rfl (hb hby at_275) rfl rfl kk) ?_
              refine OwnGo.back (T196.setTop (mkF m 280 #[.val (.long p1), .second, .val (.long p2), .second, .val (.long p3), .second, .val (.long p4), .second, .val (.int p5), .val (.ref b1), .val (.int (p5 &&& (7 : Int32))), .val (.ref b166), .val (.ref b166), .val (.int (0 : Int32)), .val (.int r_197)] [])) (fun tg kk => XS.ifnullNo X196.here hx rfl (hb hby at_277) rfl kk) ?_
              refine OwnGo.back (T196.setTop (mkF m 282 #[.val (.long p1), .second, .val (.long p2), .second, .val (.long p3), .second, .val (.long p4), .second, .val (.int p5), .val (.ref b1), .val (.int (p5 &&& (7 : Int32))), .val (.ref b166), .val (.ref b166), .val (.int (0 : Int32)), .val (.int r_197)] [(.ref b166)])) (fun tg kk => XS.aload X196.here hx rfl (hb hby at_280) rfl rfl kk) ?_
              refine OwnGo.back (T196.setTop (mkF m 284 #[.val (.long p1), .second, .val (.long p2), .second, .val (.long p3), .second, .val (.long p4), .second, .val (.int p5), .val (.ref b1), .val (.int (p5 &&& (7 : Int32))), .val (.ref b166), .val (.ref b166), .val (.int (0 : Int32)), .val (.int r_197)] [(.ref b1), (.ref b166)])) (fun tg kk => XS.aload X196.here hx rfl (hb hby at_282) rfl rfl kk) ?_
              obtain ⟨cq199, kq199, q199a, q199b, q199c⟩ := isOf hZ e196 po179
              obtain ⟨_, _, ⟨T199, L199, k199, n199⟩, -, X199, ⟨Lc199, hQ199, l199, y199, z199⟩, st199⟩ := X196.virtualBack hx (y := (⟨"com/example/lienledger/lienledger/io/Checksum", "equals", "(Ljava/lang/Object;)Z"⟩ : MethodName)) (z := (⟨"com/example/lienledger/lienledger/io/Checksum", "equals", "(Ljava/lang/Object;)Z"⟩ : MethodName)) hown (mvT hZ (hw _ (List.mem_of_getElem? (i := 18) rfl))) (mvT hZ (hw _ (List.mem_of_getElem? (i := 19) rfl))) (notFace_of_selects (args := #[]) (mvT hZ (hw _ (List.mem_of_getElem? (i := 21) rfl)))) (mvT hZ (hw _ (List.mem_of_getElem? (i := 21) rfl))) (mvT hZ (hw _ (List.mem_of_getElem? (i := 20) rfl))) (by decide) (backOf (W := 0) (own_eqt l Z a0 hw [] b166 b1 p2 p1 p1 p2 T178.heap n0 Z188 f183 po180 po181 f184 f185) hZ (hw _ (List.mem_of_getElem? (i := 22) rfl)) (hw _ (List.mem_of_getElem? (i := 2) rfl)) (by decide) (by decide)) q199a q199c (g := (mkF m 284 #[.val (.long p1), .second, .val (.long p2), .second, .val (.long p3), .second, .val (.long p4), .second, .val (.int p5), .val (.ref b1), .val (.int (p5 &&& (7 : Int32))), .val (.ref b166), .val (.ref b166), .val (.int (0 : Int32)), .val (.int r_197)] [(.ref b1), (.ref b166)])) rfl (by rw [hml]; rfl) (Steps.refl _) (argsL := [(.ref b1)]) (rest := []) (lenOf own_pd3 rfl) rfl (by show 2 * 0 + _ ≤ _; exact Nat.le_of_eq rfl) (hb hby at_284) (fun _ _ => ⟨rfl, e196, (by decide : 2 + 0 ≤ _), (by decide : 4 + 0 ≤ _)⟩)
              dsimp only [Pt.U, Pt.locs, Pt.cells, Pt.slots] at X199 l199 y199 z199 st199 hQ199
              subst l199 y199 z199
              obtain ⟨r_200, rfl, N199q, e199, po201⟩ := hQ199
              have N199 := Fr.app N196 N199q
              refine OwnGo.back (T199.setTop (mkF m 287 #[.val (.long p1), .second, .val (.long p2), .second, .val (.long p3), .second, .val (.long p4), .second, .val (.int p5), .val (.ref b1), .val (.int (p5 &&& (7 : Int32))), .val (.ref b166), .val (.ref b166), .val (.int (0 : Int32)), .val (.int r_197)] [(.int r_200)])) (fun tg kk => st199.trans kk) ?_
              refine OwnGo.back (T199.setTop (mkF m 289 #[.val (.long p1), .second, .val (.long p2), .second, .val (.long p3), .second, .val (.long p4), .second, .val (.int p5), .val (.ref b1), .val (.int (p5 &&& (7 : Int32))), .val (.ref b166), .val (.ref b166), .val (.int (0 : Int32)), .val (.int r_197)] [(.int (0 : Int32)), (.int r_200)])) (fun tg kk => XS.iload X199.here hx rfl (hb hby at_287) rfl kk) ?_
              refine OwnGo.back (T199.setTop (mkF m 294 #[.val (.long p1), .second, .val (.long p2), .second, .val (.long p3), .second, .val (.long p4), .second, .val (.int p5), .val (.ref b1), .val (.int (p5 &&& (7 : Int32))), .val (.ref b166), .val (.ref b166), .val (.int (0 : Int32)), .val (.int r_197)] [])) (fun tg kk => XS.icmpYes X199.here hx rfl (pc0 := 289) (pc' := 294) rfl (hb hby at_289) rfl (teq (by (simp only [true_and, and_true, false_and, and_false, or_false, false_or, or_true, true_or, not_true_eq_false, not_false_eq_true, eq_self, Int32.lt_iff_toInt_lt, Int32.le_iff_toInt_le, ← Int32.toInt_inj, Int32.reduceToInt, Int64.lt_iff_toInt_lt, Int64.le_iff_toInt_le, ← Int64.toInt_inj, Int64.reduceToInt] at hc17 hc47 hc84 hc121 hc165 hc189 hB po198 po201 ⊢) <;> omega : r_200 = (0 : Int32))).1 (by decide) (by decide) kk) ?_
              refine OwnGo.back (T199.setTop (mkF m 295 #[.val (.long p1), .second, .val (.long p2), .second, .val (.long p3), .second, .val (.long p4), .second, .val (.int p5), .val (.ref b1), .val (.int (p5 &&& (7 : Int32))), .val (.ref b166), .val (.ref b166), .val (.int (0 : Int32)), .val (.int r_197)] [(.int (1 : Int32))])) (fun tg kk => XS.iconst X199.here hx rfl (hb hby at_294) kk) ?_
              obtain ⟨fs, hr, hrun, hended, hW, hsame⟩ := X199.leave (v := some (.int (1 : Int32))) (fun h => by rw [Bd.returns] at h; cases h)
              refine ⟨_, _, ?_, hrun, hended, _, _, rfl, ?_, ⟨_, rfl⟩, hW, hsame.mono (by decide) (by decide)⟩
              · exact retN X199 hx (t := .boolean) Bd.returns (by simp) (hb hby at_295) hr
              · show own_law_Q Z p1 p2 p3 p4 p5 ca h0 n0 _ T199.heap _
                rw [e199]
                exact ⟨rfl, N199, K187⟩
          ·
            refine OwnGo.back (T9.setTop (mkF m 206 #[.val (.long p1), .second, .val (.long p2), .second, .val (.long p3), .second, .val (.long p4), .second, .val (.int p5), .val (.ref b1), .val (.int (p5 &&& (7 : Int32))), .unset, .unset, .unset, .unset] [])) (fun tg kk => XS.icmpYes X9.here hx rfl (pc0 := 172) (pc' := 206) rfl (hb hby at_172) rfl (feq hc165).2 (by decide) (by decide) kk) ?_
            refine OwnGo.back (T9.setTop (mkF m 208 #[.val (.long p1), .second, .val (.long p2), .second, .val (.long p3), .second, .val (.long p4), .second, .val (.int p5), .val (.ref b1), .val (.int (p5 &&& (7 : Int32))), .unset, .unset, .unset, .unset] [(.int (p5 &&& (7 : Int32)))])) (fun tg kk => XS.iload X9.here hx rfl (hb hby at_206) rfl kk) ?_
            refine OwnGo.back (T9.setTop (mkF m 209 #[.val (.long p1), .second, .val (.long p2), .second, .val (.long p3), .second, .val (.long p4), .second, .val (.int p5), .val (.ref b1), .val (.int (p5 &&& (7 : Int32))), .unset, .unset, .unset, .unset] [(.int (5 : Int32)), (.int (p5 &&& (7 : Int32)))])) (fun tg kk => XS.iconst X9.here hx rfl (hb hby at_208) kk) ?_
            by_cases hc202 : (p5 &&& (7 : Int32)) = (5 : Int32)
            ·
              refine OwnGo.back (T9.setTop (mkF m 212 #[.val (.long p1), .second, .val (.long p2), .second, .val (.long p3), .second, .val (.long p4), .second, .val (.int p5), .val (.ref b1), .val (.int (p5 &&& (7 : Int32))), .unset, .unset, .unset, .unset] [])) (fun tg kk => XS.icmpNo X9.here hx rfl (hb hby at_209) rfl (teq hc202).2 kk) ?_
              refine OwnGo.back (T9.setTop (mkF m 213 #[.val (.long p1), .second, .val (.long p2), .second, .val (.long p3), .second, .val (.long p4), .second, .val (.int p5), .val (.ref b1), .val (.int (p5 &&& (7 : Int32))), .unset, .unset, .unset, .unset] [.null])) (fun tg kk => XS.aconstNull X9.here hx rfl (hb hby at_212) kk) ?_
              refine OwnGo.back (T9.setTop (mkF m 215 #[.val (.long p1), .second, .val (.long p2), .second, .val (.long p3), .second, .val (.long p4), .second, .val (.int p5), .val (.ref b1), .val (.int (p5 &&& (7 : Int32))), .unset, .val .null, .unset, .unset] [])) (fun tg kk => XS.astore X9.here hx rfl (hb hby at_213) rfl rfl (l' := #[.val (.long p1), .second, .val (.long p2), .second, .val (.long p3), .second, .val (.long p4), .second, .val (.int p5), .val (.ref b1), .val (.int (p5 &&& (7 : Int32))), .unset, .val .null, .unset, .unset]) rfl kk) ?_
              refine OwnGo.back (T9.setTop (mkF m 216 #[.val (.long p1), .second, .val (.long p2), .second, .val (.long p3), .second, .val (.long p4), .second, .val (.int p5), .val (.ref b1), .val (.int (p5 &&& (7 : Int32))), .unset, .val .null, .unset, .unset] [.null])) (fun tg kk => XS.aconstNull X9.here hx rfl (hb hby at_215) kk) ?_
              refine OwnGo.back (T9.setTop (mkF m 218 #[.val (.long p1), .second, .val (.long p2), .second, .val (.long p3), .second, .val (.long p4), .second, .val (.int p5), .val (.ref b1), .val (.int (p5 &&& (7 : Int32))), .val .null, .val .null, .unset, .unset] [])) (fun tg kk => XS.astore X9.here hx rfl (hb hby at_216) rfl rfl (l' := #[.val (.long p1), .second, .val (.long p2), .second, .val (.long p3), .second, .val (.long p4), .second, .val (.int p5), .val (.ref b1), .val (.int (p5 &&& (7 : Int32))), .val .null, .val .null, .unset, .unset]) rfl kk) ?_
              refine OwnGo.back (T9.setTop (mkF m 219 #[.val (.long p1), .second, .val (.long p2), .second, .val (.long p3), .second, .val (.long p4), .second, .val (.int p5), .val (.ref b1), .val (.int (p5 &&& (7 : Int32))), .val .null, .val .null, .unset, .unset] [(.int (0 : Int32))])) (fun tg kk => XS.iconst X9.here hx rfl (hb hby at_218) kk) ?_
              refine OwnGo.back (T9.setTop (mkF m 221 #[.val (.long p1), .second, .val (.long p2), .second, .val (.long p3), .second, .val (.long p4), .second, .val (.int p5), .val (.ref b1), .val (.int (p5 &&& (7 : Int32))), .val .null, .val .null, .val (.int (0 : Int32)), .unset] [])) (fun tg kk => XS.istore X9.here hx rfl (hb hby at_219) rfl (l' := #[.val (.long p1), .second, .val (.long p2), .second, .val (.long p3), .second, .val (.long p4), .second, .val (.int p5), .val (.ref b1), .val (.int (p5 &&& (7 : Int32))), .val .null, .val .null, .val (.int (0 : Int32)), .unset]) rfl kk) ?_
              refine OwnGo.back (T9.setTop (mkF m 257 #[.val (.long p1), .second, .val (.long p2), .second, .val (.long p3), .second, .val (.long p4), .second, .val (.int p5), .val (.ref b1), .val (.int (p5 &&& (7 : Int32))), .val .null, .val .null, .val (.int (0 : Int32)), .unset] [])) (fun tg kk => XS.goto X9.here hx rfl (pc0 := 221) (pc' := 257) rfl (hb hby at_221) (by decide) (by decide) kk) ?_
              refine OwnGo.back (T9.setTop (mkF m 259 #[.val (.long p1), .second, .val (.long p2), .second, .val (.long p3), .second, .val (.long p4), .second, .val (.int p5), .val (.ref b1), .val (.int (p5 &&& (7 : Int32))), .val .null, .val .null, .val (.int (0 : Int32)), .unset] [(.ref b1)])) (fun tg kk => XS.aload X9.here hx rfl (hb hby at_257) rfl rfl kk) ?_
              refine OwnGo.back (T9.setTop (mkF m 261 #[.val (.long p1), .second, .val (.long p2), .second, .val (.long p3), .second, .val (.long p4), .second, .val (.int p5), .val (.ref b1), .val (.int (p5 &&& (7 : Int32))), .val .null, .val .null, .val (.int (0 : Int32)), .unset] [.null, (.ref b1)])) (fun tg kk => XS.aload X9.here hx rfl (hb hby at_259) rfl rfl kk) ?_
              obtain ⟨cq203, kq203, q203a, q203b, q203c⟩ := isOf hZ rfl po10
              obtain ⟨_, _, ⟨T203, L203, k203, n203⟩, -, X203, ⟨Lc203, hQ203, l203, y203, z203⟩, st203⟩ := X9.virtualBack hx (y := (⟨"com/example/lienledger/lienledger/io/Checksum", "equals", "(Ljava/lang/Object;)Z"⟩ : MethodName)) (z := (⟨"com/example/lienledger/lienledger/io/Checksum", "equals", "(Ljava/lang/Object;)Z"⟩ : MethodName)) hown (mvT hZ (hw _ (List.mem_of_getElem? (i := 18) rfl))) (mvT hZ (hw _ (List.mem_of_getElem? (i := 19) rfl))) (notFace_of_selects (args := #[]) (mvT hZ (hw _ (List.mem_of_getElem? (i := 21) rfl)))) (mvT hZ (hw _ (List.mem_of_getElem? (i := 21) rfl))) (mvT hZ (hw _ (List.mem_of_getElem? (i := 20) rfl))) (by decide) (backOf (W := 0) (own_eqn l Z a0 hw [] b1 T9.heap n0 Z16 ) hZ (hw _ (List.mem_of_getElem? (i := 22) rfl)) (hw _ (List.mem_of_getElem? (i := 2) rfl)) (by decide) (by decide)) q203a q203c (g := (mkF m 261 #[.val (.long p1), .second, .val (.long p2), .second, .val (.long p3), .second, .val (.long p4), .second, .val (.int p5), .val (.ref b1), .val (.int (p5 &&& (7 : Int32))), .val .null, .val .null, .val (.int (0 : Int32)), .unset] [.null, (.ref b1)])) rfl (by rw [hml]; rfl) (Steps.refl _) (argsL := [.null]) (rest := []) (lenOf own_pd3 rfl) rfl (by show 2 * 0 + _ ≤ _; exact Nat.le_of_eq rfl) (hb hby at_261) (fun _ _ => ⟨rfl, rfl, (by decide : 1 + 0 ≤ _), (by decide : 2 + 0 ≤ _)⟩)
              dsimp only [Pt.U, Pt.locs, Pt.cells, Pt.slots] at X203 l203 y203 z203 st203 hQ203
              subst l203 y203 z203
              obtain ⟨rfl, N203q, e203⟩ := hQ203
              have N203 := Fr.app N9 N203q
              refine OwnGo.back (T203.setTop (mkF m 264 #[.val (.long p1), .second, .val (.long p2), .second, .val (.long p3), .second, .val (.long p4), .second, .val (.int p5), .val (.ref b1), .val (.int (p5 &&& (7 : Int32))), .val .null, .val .null, .val (.int (0 : Int32)), .unset] [(.int (0 : Int32))])) (fun tg kk => st203.trans kk) ?_
              refine OwnGo.back (T203.setTop (mkF m 266 #[.val (.long p1), .second, .val (.long p2), .second, .val (.long p3), .second, .val (.long p4), .second, .val (.int p5), .val (.ref b1), .val (.int (p5 &&& (7 : Int32))), .val .null, .val .null, .val (.int (0 : Int32)), .val (.int (0 : Int32))] [])) (fun tg kk => XS.istore X203.here hx rfl (hb hby at_264) rfl (l' := #[.val (.long p1), .second, .val (.long p2), .second, .val (.long p3), .second, .val (.long p4), .second, .val (.int p5), .val (.ref b1), .val (.int (p5 &&& (7 : Int32))), .val .null, .val .null, .val (.int (0 : Int32)), .val (.int (0 : Int32))]) rfl kk) ?_
              refine OwnGo.back (T203.setTop (mkF m 268 #[.val (.long p1), .second, .val (.long p2), .second, .val (.long p3), .second, .val (.long p4), .second, .val (.int p5), .val (.ref b1), .val (.int (p5 &&& (7 : Int32))), .val .null, .val .null, .val (.int (0 : Int32)), .val (.int (0 : Int32))] [(.int (0 : Int32))])) (fun tg kk => XS.iload X203.here hx rfl (hb hby at_266) rfl kk) ?_
              refine OwnGo.back (T203.setTop (mkF m 270 #[.val (.long p1), .second, .val (.long p2), .second, .val (.long p3), .second, .val (.long p4), .second, .val (.int p5), .val (.ref b1), .val (.int (p5 &&& (7 : Int32))), .val .null, .val .null, .val (.int (0 : Int32)), .val (.int (0 : Int32))] [(.int (0 : Int32)), (.int (0 : Int32))])) (fun tg kk => XS.iload X203.here hx rfl (hb hby at_268) rfl kk) ?_
              refine OwnGo.back (T203.setTop (mkF m 275 #[.val (.long p1), .second, .val (.long p2), .second, .val (.long p3), .second, .val (.long p4), .second, .val (.int p5), .val (.ref b1), .val (.int (p5 &&& (7 : Int32))), .val .null, .val .null, .val (.int (0 : Int32)), .val (.int (0 : Int32))] [])) (fun tg kk => XS.icmpYes X203.here hx rfl (pc0 := 270) (pc' := 275) rfl (hb hby at_270) rfl (teq (by decide : (0 : Int32) = (0 : Int32))).1 (by decide) (by decide) kk) ?_
              refine OwnGo.back (T203.setTop (mkF m 277 #[.val (.long p1), .second, .val (.long p2), .second, .val (.long p3), .second, .val (.long p4), .second, .val (.int p5), .val (.ref b1), .val (.int (p5 &&& (7 : Int32))), .val .null, .val .null, .val (.int (0 : Int32)), .val (.int (0 : Int32))] [.null])) (fun tg kk => XS.aload X203.here hx rfl (hb hby at_275) rfl rfl kk) ?_
              refine OwnGo.back (T203.setTop (mkF m 294 #[.val (.long p1), .second, .val (.long p2), .second, .val (.long p3), .second, .val (.long p4), .second, .val (.int p5), .val (.ref b1), .val (.int (p5 &&& (7 : Int32))), .val .null, .val .null, .val (.int (0 : Int32)), .val (.int (0 : Int32))] [])) (fun tg kk => XS.ifnullYes X203.here hx rfl (pc0 := 277) (pc' := 294) rfl (hb hby at_277) rfl (by decide) (by decide) kk) ?_
              refine OwnGo.back (T203.setTop (mkF m 295 #[.val (.long p1), .second, .val (.long p2), .second, .val (.long p3), .second, .val (.long p4), .second, .val (.int p5), .val (.ref b1), .val (.int (p5 &&& (7 : Int32))), .val .null, .val .null, .val (.int (0 : Int32)), .val (.int (0 : Int32))] [(.int (1 : Int32))])) (fun tg kk => XS.iconst X203.here hx rfl (hb hby at_294) kk) ?_
              obtain ⟨fs, hr, hrun, hended, hW, hsame⟩ := X203.leave (v := some (.int (1 : Int32))) (fun h => by rw [Bd.returns] at h; cases h)
              refine ⟨_, _, ?_, hrun, hended, _, _, rfl, ?_, ⟨_, rfl⟩, hW, hsame.mono (by decide) (by decide)⟩
              · exact retN X203 hx (t := .boolean) Bd.returns (by simp) (hb hby at_295) hr
              · show own_law_Q Z p1 p2 p3 p4 p5 ca h0 n0 _ T203.heap _
                rw [e203]
                exact ⟨rfl, N203, K15⟩
            ·
              refine OwnGo.back (T9.setTop (mkF m 224 #[.val (.long p1), .second, .val (.long p2), .second, .val (.long p3), .second, .val (.long p4), .second, .val (.int p5), .val (.ref b1), .val (.int (p5 &&& (7 : Int32))), .unset, .unset, .unset, .unset] [])) (fun tg kk => XS.icmpYes X9.here hx rfl (pc0 := 209) (pc' := 224) rfl (hb hby at_209) rfl (feq hc202).2 (by decide) (by decide) kk) ?_
              refine OwnGo.back (T9.setTop (mkF m 226 #[.val (.long p1), .second, .val (.long p2), .second, .val (.long p3), .second, .val (.long p4), .second, .val (.int p5), .val (.ref b1), .val (.int (p5 &&& (7 : Int32))), .unset, .unset, .unset, .unset] [(.int (p5 &&& (7 : Int32)))])) (fun tg kk => XS.iload X9.here hx rfl (hb hby at_224) rfl kk) ?_
              refine OwnGo.back (T9.setTop (mkF m 228 #[.val (.long p1), .second, .val (.long p2), .second, .val (.long p3), .second, .val (.long p4), .second, .val (.int p5), .val (.ref b1), .val (.int (p5 &&& (7 : Int32))), .unset, .unset, .unset, .unset] [(.int (6 : Int32)), (.int (p5 &&& (7 : Int32)))])) (fun tg kk => XS.bipush X9.here hx rfl (hb hby at_226) kk) ?_
              by_cases hc204 : (p5 &&& (7 : Int32)) = (6 : Int32)
              ·
                refine OwnGo.back (T9.setTop (mkF m 231 #[.val (.long p1), .second, .val (.long p2), .second, .val (.long p3), .second, .val (.long p4), .second, .val (.int p5), .val (.ref b1), .val (.int (p5 &&& (7 : Int32))), .unset, .unset, .unset, .unset] [])) (fun tg kk => XS.icmpNo X9.here hx rfl (hb hby at_228) rfl (teq hc204).2 kk) ?_
                refine OwnGo.back (T9.setTop (mkF m 232 #[.val (.long p1), .second, .val (.long p2), .second, .val (.long p3), .second, .val (.long p4), .second, .val (.int p5), .val (.ref b1), .val (.int (p5 &&& (7 : Int32))), .unset, .unset, .unset, .unset] [.null])) (fun tg kk => XS.aconstNull X9.here hx rfl (hb hby at_231) kk) ?_
                refine OwnGo.back (T9.setTop (mkF m 234 #[.val (.long p1), .second, .val (.long p2), .second, .val (.long p3), .second, .val (.long p4), .second, .val (.int p5), .val (.ref b1), .val (.int (p5 &&& (7 : Int32))), .unset, .val .null, .unset, .unset] [])) (fun tg kk => XS.astore X9.here hx rfl (hb hby at_232) rfl rfl (l' := #[.val (.long p1), .second, .val (.long p2), .second, .val (.long p3), .second, .val (.long p4), .second, .val (.int p5), .val (.ref b1), .val (.int (p5 &&& (7 : Int32))), .unset, .val .null, .unset, .unset]) rfl kk) ?_
                refine OwnGo.back (T9.setTop (mkF m 235 #[.val (.long p1), .second, .val (.long p2), .second, .val (.long p3), .second, .val (.long p4), .second, .val (.int p5), .val (.ref b1), .val (.int (p5 &&& (7 : Int32))), .unset, .val .null, .unset, .unset] [(.long p1)])) (fun tg kk => XS.lloadN X9.here hx rfl (hb hby at_234) rfl kk) ?_
                obtain ⟨_, _, ⟨T205, L205, k205, n205⟩, -, X205, ⟨Lc205, hQ205, l205, y205, z205⟩, st205⟩ := Jvm.LawKit.callS X9 hx (y := (⟨"java/lang/Long", "valueOf", "(J)Ljava/lang/Long;"⟩ : MethodName)) hown (mvT hZ (hw _ (List.mem_of_getElem? (i := 25) rfl))) (mvT hZ (hw _ (List.mem_of_getElem? (i := 26) rfl))) (mvT hZ (hw _ (List.mem_of_getElem? (i := 27) rfl))) (mvT hZ (hw _ (List.mem_of_getElem? (i := 28) rfl))) (by decide) (backOf (W := 0) (own_lval l Z a0 hw [] p1 ca T9.heap n0 Z16 S f13 hB) hZ (hw _ (List.mem_of_getElem? (i := 28) rfl)) (hw _ (List.mem_of_getElem? (i := 27) rfl)) (by decide) (by decide)) (g := (mkF m 235 #[.val (.long p1), .second, .val (.long p2), .second, .val (.long p3), .second, .val (.long p4), .second, .val (.int p5), .val (.ref b1), .val (.int (p5 &&& (7 : Int32))), .unset, .val .null, .unset, .unset] [(.long p1)])) rfl (by rw [hml]; rfl) (argsL := [(.long p1)]) (rest := []) (lenOf own_pd4 rfl) rfl (by show 2 * 0 + _ ≤ _; exact Nat.le_of_eq rfl) (hb hby at_235) (fun _ _ => ⟨rfl, rfl, (by decide : 1 + 1 ≤ _), (by decide : 2 + 1 ≤ _)⟩)
                dsimp only [Pt.U, Pt.locs, Pt.cells, Pt.slots] at X205 l205 y205 z205 st205 hQ205
                subst l205 y205 z205
                obtain ⟨b_206, rfl, N205q, Kc205, po207⟩ := hQ205
                have N205 := Fr.app N9 N205q
                have f208 : Old Z n0 T205.heap := f13.keep Kc205 all0
                have f209 : Exa Z T205.heap b1 "com/example/lienledger/lienledger/io/Checksum" := po10.keep Kc205
                have f210 : Fld Z T205.heap b1 "com/example/lienledger/lienledger/io/Checksum" "crc32c" "J" (.long p1) := po11.keep Kc205 nin0
                have f211 : Fld Z T205.heap b1 "com/example/lienledger/lienledger/io/Checksum" "length" "J" (.long p2) := po12.keep Kc205 nin0
                have K212 : Keep h0 T205.heap [] := K15.trans Kc205 all0
                have Z213 : n0 ≤ T205.heap.size := Nat.le_trans Z16 Kc205.1
                refine OwnGo.back (T205.setTop (mkF m 238 #[.val (.long p1), .second, .val (.long p2), .second, .val (.long p3), .second, .val (.long p4), .second, .val (.int p5), .val (.ref b1), .val (.int (p5 &&& (7 : Int32))), .unset, .val .null, .unset, .unset] [(.ref b_206)])) (fun tg kk => st205 _ kk) ?_
                refine OwnGo.back (T205.setTop (mkF m 240 #[.val (.long p1), .second, .val (.long p2), .second, .val (.long p3), .second, .val (.long p4), .second, .val (.int p5), .val (.ref b1), .val (.int (p5 &&& (7 : Int32))), .val (.ref b_206), .val .null, .unset, .unset] [])) (fun tg kk => XS.astore X205.here hx rfl (hb hby at_238) rfl rfl (l' := #[.val (.long p1), .second, .val (.long p2), .second, .val (.long p3), .second, .val (.long p4), .second, .val (.int p5), .val (.ref b1), .val (.int (p5 &&& (7 : Int32))), .val (.ref b_206), .val .null, .unset, .unset]) rfl kk) ?_
                refine OwnGo.back (T205.setTop (mkF m 241 #[.val (.long p1), .second, .val (.long p2), .second, .val (.long p3), .second, .val (.long p4), .second, .val (.int p5), .val (.ref b1), .val (.int (p5 &&& (7 : Int32))), .val (.ref b_206), .val .null, .unset, .unset] [(.int (0 : Int32))])) (fun tg kk => XS.iconst X205.here hx rfl (hb hby at_240) kk) ?_
                refine OwnGo.back (T205.setTop (mkF m 243 #[.val (.long p1), .second, .val (.long p2), .second, .val (.long p3), .second, .val (.long p4), .second, .val (.int p5), .val (.ref b1), .val (.int (p5 &&& (7 : Int32))), .val (.ref b_206), .val .null, .val (.int (0 : Int32)), .unset] [])) (fun tg kk => XS.istore X205.here hx rfl (hb hby at_241) rfl (l' := #[.val (.long p1), .second, .val (.long p2), .second, .val (.long p3), .second, .val (.long p4), .second, .val (.int p5), .val (.ref b1), .val (.int (p5 &&& (7 : Int32))), .val (.ref b_206), .val .null, .val (.int (0 : Int32)), .unset]) rfl kk) ?_
                refine OwnGo.back (T205.setTop (mkF m 257 #[.val (.long p1), .second, .val (.long p2), .second, .val (.long p3), .second, .val (.long p4), .second, .val (.int p5), .val (.ref b1), .val (.int (p5 &&& (7 : Int32))), .val (.ref b_206), .val .null, .val (.int (0 : Int32)), .unset] [])) (fun tg kk => XS.goto X205.here hx rfl (pc0 := 243) (pc' := 257) rfl (hb hby at_243) (by decide) (by decide) kk) ?_
                refine OwnGo.back (T205.setTop (mkF m 259 #[.val (.long p1), .second, .val (.long p2), .second, .val (.long p3), .second, .val (.long p4), .second, .val (.int p5), .val (.ref b1), .val (.int (p5 &&& (7 : Int32))), .val (.ref b_206), .val .null, .val (.int (0 : Int32)), .unset] [(.ref b1)])) (fun tg kk => XS.aload X205.here hx rfl (hb hby at_257) rfl rfl kk) ?_
                refine OwnGo.back (T205.setTop (mkF m 261 #[.val (.long p1), .second, .val (.long p2), .second, .val (.long p3), .second, .val (.long p4), .second, .val (.int p5), .val (.ref b1), .val (.int (p5 &&& (7 : Int32))), .val (.ref b_206), .val .null, .val (.int (0 : Int32)), .unset] [(.ref b_206), (.ref b1)])) (fun tg kk => XS.aload X205.here hx rfl (hb hby at_259) rfl rfl kk) ?_
                obtain ⟨cq214, kq214, q214a, q214b, q214c⟩ := isOf hZ rfl f209
                obtain ⟨_, _, ⟨T214, L214, k214, n214⟩, -, X214, ⟨Lc214, hQ214, l214, y214, z214⟩, st214⟩ := X205.virtualBack hx (y := (⟨"com/example/lienledger/lienledger/io/Checksum", "equals", "(Ljava/lang/Object;)Z"⟩ : MethodName)) (z := (⟨"com/example/lienledger/lienledger/io/Checksum", "equals", "(Ljava/lang/Object;)Z"⟩ : MethodName)) hown (mvT hZ (hw _ (List.mem_of_getElem? (i := 18) rfl))) (mvT hZ (hw _ (List.mem_of_getElem? (i := 19) rfl))) (notFace_of_selects (args := #[]) (mvT hZ (hw _ (List.mem_of_getElem? (i := 21) rfl)))) (mvT hZ (hw _ (List.mem_of_getElem? (i := 21) rfl))) (mvT hZ (hw _ (List.mem_of_getElem? (i := 20) rfl))) (by decide) (backOf (W := 0) (own_eql l Z a0 hw [] b1 b_206 T205.heap n0 Z213 po207) hZ (hw _ (List.mem_of_getElem? (i := 22) rfl)) (hw _ (List.mem_of_getElem? (i := 2) rfl)) (by decide) (by decide)) q214a q214c (g := (mkF m 261 #[.val (.long p1), .second, .val (.long p2), .second, .val (.long p3), .second, .val (.long p4), .second, .val (.int p5), .val (.ref b1), .val (.int (p5 &&& (7 : Int32))), .val (.ref b_206), .val .null, .val (.int (0 : Int32)), .unset] [(.ref b_206), (.ref b1)])) rfl (by rw [hml]; rfl) (Steps.refl _) (argsL := [(.ref b_206)]) (rest := []) (lenOf own_pd3 rfl) rfl (by show 2 * 0 + _ ≤ _; exact Nat.le_of_eq rfl) (hb hby at_261) (fun _ _ => ⟨rfl, rfl, (by decide : 2 + 0 ≤ _), (by decide : 3 + 0 ≤ _)⟩)
                dsimp only [Pt.U, Pt.locs, Pt.cells, Pt.slots] at X214 l214 y214 z214 st214 hQ214
                subst l214 y214 z214
                obtain ⟨rfl, N214q, e214⟩ := hQ214
                have N214 := Fr.app N205 N214q
                refine OwnGo.back (T214.setTop (mkF m 264 #[.val (.long p1), .second, .val (.long p2), .second, .val (.long p3), .second, .val (.long p4), .second, .val (.int p5), .val (.ref b1), .val (.int (p5 &&& (7 : Int32))), .val (.ref b_206), .val .null, .val (.int (0 : Int32)), .unset] [(.int (0 : Int32))])) (fun tg kk => st214.trans kk) ?_
                refine OwnGo.back (T214.setTop (mkF m 266 #[.val (.long p1), .second, .val (.long p2), .second, .val (.long p3), .second, .val (.long p4), .second, .val (.int p5), .val (.ref b1), .val (.int (p5 &&& (7 : Int32))), .val (.ref b_206), .val .null, .val (.int (0 : Int32)), .val (.int (0 : Int32))] [])) (fun tg kk => XS.istore X214.here hx rfl (hb hby at_264) rfl (l' := #[.val (.long p1), .second, .val (.long p2), .second, .val (.long p3), .second, .val (.long p4), .second, .val (.int p5), .val (.ref b1), .val (.int (p5 &&& (7 : Int32))), .val (.ref b_206), .val .null, .val (.int (0 : Int32)), .val (.int (0 : Int32))]) rfl kk) ?_
                refine OwnGo.back (T214.setTop (mkF m 268 #[.val (.long p1), .second, .val (.long p2), .second, .val (.long p3), .second, .val (.long p4), .second, .val (.int p5), .val (.ref b1), .val (.int (p5 &&& (7 : Int32))), .val (.ref b_206), .val .null, .val (.int (0 : Int32)), .val (.int (0 : Int32))] [(.int (0 : Int32))])) (fun tg kk => XS.iload X214.here hx rfl (hb hby at_266) rfl kk) ?_
                refine OwnGo.back (T214.setTop (mkF m 270 #[.val (.long p1), .second, .val (.long p2), .second, .val (.long p3), .second, .val (.long p4), .second, .val (.int p5), .val (.ref b1), .val (.int (p5 &&& (7 : Int32))), .val (.ref b_206), .val .null, .val (.int (0 : Int32)), .val (.int (0 : Int32))] [(.int (0 : Int32)), (.int (0 : Int32))])) (fun tg kk => XS.iload X214.here hx rfl (hb hby at_268) rfl kk) ?_
                refine OwnGo.back (T214.setTop (mkF m 275 #[.val (.long p1), .second, .val (.long p2), .second, .val (.long p3), .second, .val (.long p4), .second, .val (.int p5), .val (.ref b1), .val (.int (p5 &&& (7 : Int32))), .val (.ref b_206), .val .null, .val (.int (0 : Int32)), .val (.int (0 : Int32))] [])) (fun tg kk => XS.icmpYes X214.here hx rfl (pc0 := 270) (pc' := 275) rfl (hb hby at_270) rfl (teq (by decide : (0 : Int32) = (0 : Int32))).1 (by decide) (by decide) kk) ?_
                refine OwnGo.back (T214.setTop (mkF m 277 #[.val (.long p1), .second, .val (.long p2), .second, .val (.long p3), .second, .val (.long p4), .second, .val (.int p5), .val (.ref b1), .val (.int (p5 &&& (7 : Int32))), .val (.ref b_206), .val .null, .val (.int (0 : Int32)), .val (.int (0 : Int32))] [.null])) (fun tg kk => XS.aload X214.here hx rfl (hb hby at_275) rfl rfl kk) ?_
                refine OwnGo.back (T214.setTop (mkF m 294 #[.val (.long p1), .second, .val (.long p2), .second, .val (.long p3), .second, .val (.long p4), .second, .val (.int p5), .val (.ref b1), .val (.int (p5 &&& (7 : Int32))), .val (.ref b_206), .val .null, .val (.int (0 : Int32)), .val (.int (0 : Int32))] [])) (fun tg kk => XS.ifnullYes X214.here hx rfl (pc0 := 277) (pc' := 294) rfl (hb hby at_277) rfl (by decide) (by decide) kk) ?_
                refine OwnGo.back (T214.setTop (mkF m 295 #[.val (.long p1), .second, .val (.long p2), .second, .val (.long p3), .second, .val (.long p4), .second, .val (.int p5), .val (.ref b1), .val (.int (p5 &&& (7 : Int32))), .val (.ref b_206), .val .null, .val (.int (0 : Int32)), .val (.int (0 : Int32))] [(.int (1 : Int32))])) (fun tg kk => XS.iconst X214.here hx rfl (hb hby at_294) kk) ?_
                obtain ⟨fs, hr, hrun, hended, hW, hsame⟩ := X214.leave (v := some (.int (1 : Int32))) (fun h => by rw [Bd.returns] at h; cases h)
                refine ⟨_, _, ?_, hrun, hended, _, _, rfl, ?_, ⟨_, rfl⟩, hW, hsame.mono (by decide) (by decide)⟩
                · exact retN X214 hx (t := .boolean) Bd.returns (by simp) (hb hby at_295) hr
                · show own_law_Q Z p1 p2 p3 p4 p5 ca h0 n0 _ T214.heap _
                  rw [e214]
                  exact ⟨rfl, N214, K212⟩
              ·
                refine OwnGo.back (T9.setTop (mkF m 246 #[.val (.long p1), .second, .val (.long p2), .second, .val (.long p3), .second, .val (.long p4), .second, .val (.int p5), .val (.ref b1), .val (.int (p5 &&& (7 : Int32))), .unset, .unset, .unset, .unset] [])) (fun tg kk => XS.icmpYes X9.here hx rfl (pc0 := 228) (pc' := 246) rfl (hb hby at_228) rfl (feq hc204).2 (by decide) (by decide) kk) ?_
                refine OwnGo.back (T9.setTop (mkF m 248 #[.val (.long p1), .second, .val (.long p2), .second, .val (.long p3), .second, .val (.long p4), .second, .val (.int p5), .val (.ref b1), .val (.int (p5 &&& (7 : Int32))), .unset, .unset, .unset, .unset] [(.ref b1)])) (fun tg kk => XS.aload X9.here hx rfl (hb hby at_246) rfl rfl kk) ?_
                refine OwnGo.back (T9.setTop (mkF m 250 #[.val (.long p1), .second, .val (.long p2), .second, .val (.long p3), .second, .val (.long p4), .second, .val (.int p5), .val (.ref b1), .val (.int (p5 &&& (7 : Int32))), .unset, .val (.ref b1), .unset, .unset] [])) (fun tg kk => XS.astore X9.here hx rfl (hb hby at_248) rfl rfl (l' := #[.val (.long p1), .second, .val (.long p2), .second, .val (.long p3), .second, .val (.long p4), .second, .val (.int p5), .val (.ref b1), .val (.int (p5 &&& (7 : Int32))), .unset, .val (.ref b1), .unset, .unset]) rfl kk) ?_
                refine OwnGo.back (T9.setTop (mkF m 252 #[.val (.long p1), .second, .val (.long p2), .second, .val (.long p3), .second, .val (.long p4), .second, .val (.int p5), .val (.ref b1), .val (.int (p5 &&& (7 : Int32))), .unset, .val (.ref b1), .unset, .unset] [(.ref b1)])) (fun tg kk => XS.aload X9.here hx rfl (hb hby at_250) rfl rfl kk) ?_
                refine OwnGo.back (T9.setTop (mkF m 254 #[.val (.long p1), .second, .val (.long p2), .second, .val (.long p3), .second, .val (.long p4), .second, .val (.int p5), .val (.ref b1), .val (.int (p5 &&& (7 : Int32))), .val (.ref b1), .val (.ref b1), .unset, .unset] [])) (fun tg kk => XS.astore X9.here hx rfl (hb hby at_252) rfl rfl (l' := #[.val (.long p1), .second, .val (.long p2), .second, .val (.long p3), .second, .val (.long p4), .second, .val (.int p5), .val (.ref b1), .val (.int (p5 &&& (7 : Int32))), .val (.ref b1), .val (.ref b1), .unset, .unset]) rfl kk) ?_
                refine OwnGo.back (T9.setTop (mkF m 255 #[.val (.long p1), .second, .val (.long p2), .second, .val (.long p3), .second, .val (.long p4), .second, .val (.int p5), .val (.ref b1), .val (.int (p5 &&& (7 : Int32))), .val (.ref b1), .val (.ref b1), .unset, .unset] [(.int (1 : Int32))])) (fun tg kk => XS.iconst X9.here hx rfl (hb hby at_254) kk) ?_
                refine OwnGo.back (T9.setTop (mkF m 257 #[.val (.long p1), .second, .val (.long p2), .second, .val (.long p3), .second, .val (.long p4), .second, .val (.int p5), .val (.ref b1), .val (.int (p5 &&& (7 : Int32))), .val (.ref b1), .val (.ref b1), .val (.int (1 : Int32)), .unset] [])) (fun tg kk => XS.istore X9.here hx rfl (hb hby at_255) rfl (l' := #[.val (.long p1), .second, .val (.long p2), .second, .val (.long p3), .second, .val (.long p4), .second, .val (.int p5), .val (.ref b1), .val (.int (p5 &&& (7 : Int32))), .val (.ref b1), .val (.ref b1), .val (.int (1 : Int32)), .unset]) rfl kk) ?_
                refine OwnGo.back (T9.setTop (mkF m 259 #[.val (.long p1), .second, .val (.long p2), .second, .val (.long p3), .second, .val (.long p4), .second, .val (.int p5), .val (.ref b1), .val (.int (p5 &&& (7 : Int32))), .val (.ref b1), .val (.ref b1), .val (.int (1 : Int32)), .unset] [(.ref b1)])) (fun tg kk => XS.aload X9.here hx rfl (hb hby at_257) rfl rfl kk) ?_
                refine OwnGo.back (T9.setTop (mkF m 261 #[.val (.long p1), .second, .val (.long p2), .second, .val (.long p3), .second, .val (.long p4), .second, .val (.int p5), .val (.ref b1), .val (.int (p5 &&& (7 : Int32))), .val (.ref b1), .val (.ref b1), .val (.int (1 : Int32)), .unset] [(.ref b1), (.ref b1)])) (fun tg kk => XS.aload X9.here hx rfl (hb hby at_259) rfl rfl kk) ?_
                obtain ⟨cq215, kq215, q215a, q215b, q215c⟩ := isOf hZ rfl po10
                obtain ⟨_, _, ⟨T215, L215, k215, n215⟩, -, X215, ⟨Lc215, hQ215, l215, y215, z215⟩, st215⟩ := X9.virtualBack hx (y := (⟨"com/example/lienledger/lienledger/io/Checksum", "equals", "(Ljava/lang/Object;)Z"⟩ : MethodName)) (z := (⟨"com/example/lienledger/lienledger/io/Checksum", "equals", "(Ljava/lang/Object;)Z"⟩ : MethodName)) hown (mvT hZ (hw _ (List.mem_of_getElem? (i := 18) rfl))) (mvT hZ (hw _ (List.mem_of_getElem? (i := 19) rfl))) (notFace_of_selects (args := #[]) (mvT hZ (hw _ (List.mem_of_getElem? (i := 21) rfl)))) (mvT hZ (hw _ (List.mem_of_getElem? (i := 21) rfl))) (mvT hZ (hw _ (List.mem_of_getElem? (i := 20) rfl))) (by decide) (backOf (W := 0) (own_eqs l Z a0 hw [] b1 p1 p2 T9.heap n0 Z16 po10 po11 po12) hZ (hw _ (List.mem_of_getElem? (i := 22) rfl)) (hw _ (List.mem_of_getElem? (i := 2) rfl)) (by decide) (by decide)) q215a q215c (g := (mkF m 261 #[.val (.long p1), .second, .val (.long p2), .second, .val (.long p3), .second, .val (.long p4), .second, .val (.int p5), .val (.ref b1), .val (.int (p5 &&& (7 : Int32))), .val (.ref b1), .val (.ref b1), .val (.int (1 : Int32)), .unset] [(.ref b1), (.ref b1)])) rfl (by rw [hml]; rfl) (Steps.refl _) (argsL := [(.ref b1)]) (rest := []) (lenOf own_pd3 rfl) rfl (by show 2 * 0 + _ ≤ _; exact Nat.le_of_eq rfl) (hb hby at_261) (fun _ _ => ⟨rfl, rfl, (by decide : 1 + 0 ≤ _), (by decide : 2 + 0 ≤ _)⟩)
                dsimp only [Pt.U, Pt.locs, Pt.cells, Pt.slots] at X215 l215 y215 z215 st215 hQ215
                subst l215 y215 z215
                obtain ⟨rfl, N215q, e215⟩ := hQ215
                have N215 := Fr.app N9 N215q
                refine OwnGo.back (T215.setTop (mkF m 264 #[.val (.long p1), .second, .val (.long p2), .second, .val (.long p3), .second, .val (.long p4), .second, .val (.int p5), .val (.ref b1), .val (.int (p5 &&& (7 : Int32))), .val (.ref b1), .val (.ref b1), .val (.int (1 : Int32)), .unset] [(.int (1 : Int32))])) (fun tg kk => st215.trans kk) ?_
                refine OwnGo.back (T215.setTop (mkF m 266 #[.val (.long p1), .second, .val (.long p2), .second, .val (.long p3), .second, .val (.long p4), .second, .val (.int p5), .val (.ref b1), .val (.int (p5 &&& (7 : Int32))), .val (.ref b1), .val (.ref b1), .val (.int (1 : Int32)), .val (.int (1 : Int32))] [])) (fun tg kk => XS.istore X215.here hx rfl (hb hby at_264) rfl (l' := #[.val (.long p1), .second, .val (.long p2), .second, .val (.long p3), .second, .val (.long p4), .second, .val (.int p5), .val (.ref b1), .val (.int (p5 &&& (7 : Int32))), .val (.ref b1), .val (.ref b1), .val (.int (1 : Int32)), .val (.int (1 : Int32))]) rfl kk) ?_
                refine OwnGo.back (T215.setTop (mkF m 268 #[.val (.long p1), .second, .val (.long p2), .second, .val (.long p3), .second, .val (.long p4), .second, .val (.int p5), .val (.ref b1), .val (.int (p5 &&& (7 : Int32))), .val (.ref b1), .val (.ref b1), .val (.int (1 : Int32)), .val (.int (1 : Int32))] [(.int (1 : Int32))])) (fun tg kk => XS.iload X215.here hx rfl (hb hby at_266) rfl kk) ?_
                refine OwnGo.back (T215.setTop (mkF m 270 #[.val (.long p1), .second, .val (.long p2), .second, .val (.long p3), .second, .val (.long p4), .second, .val (.int p5), .val (.ref b1), .val (.int (p5 &&& (7 : Int32))), .val (.ref b1), .val (.ref b1), .val (.int (1 : Int32)), .val (.int (1 : Int32))] [(.int (1 : Int32)), (.int (1 : Int32))])) (fun tg kk => XS.iload X215.here hx rfl (hb hby at_268) rfl kk) ?_
                refine OwnGo.back (T215.setTop (mkF m 275 #[.val (.long p1), .second, .val (.long p2), .second, .val (.long p3), .second, .val (.long p4), .second, .val (.int p5), .val (.ref b1), .val (.int (p5 &&& (7 : Int32))), .val (.ref b1), .val (.ref b1), .val (.int (1 : Int32)), .val (.int (1 : Int32))] [])) (fun tg kk => XS.icmpYes X215.here hx rfl (pc0 := 270) (pc' := 275) rfl (hb hby at_270) rfl (teq (by decide : (1 : Int32) = (1 : Int32))).1 (by decide) (by decide) kk) ?_
                refine OwnGo.back (T215.setTop (mkF m 277 #[.val (.long p1), .second, .val (.long p2), .second, .val (.long p3), .second, .val (.long p4), .second, .val (.int p5), .val (.ref b1), .val (.int (p5 &&& (7 : Int32))), .val (.ref b1), .val (.ref b1), .val (.int (1 : Int32)), .val (.int (1 : Int32))] [(.ref b1)])) (fun tg kk => XS.aload X215.here hx rfl (hb hby at_275) rfl rfl kk) ?_
                refine OwnGo.back (T215.setTop (mkF m 280 #[.val (.long p1), .second, .val (.long p2), .second, .val (.long p3), .second, .val (.long p4), .second, .val (.int p5), .val (.ref b1), .val (.int (p5 &&& (7 : Int32))), .val (.ref b1), .val (.ref b1), .val (.int (1 : Int32)), .val (.int (1 : Int32))] [])) (fun tg kk => XS.ifnullNo X215.here hx rfl (hb hby at_277) rfl kk) ?_
                refine OwnGo.back (T215.setTop (mkF m 282 #[.val (.long p1), .second, .val (.long p2), .second, .val (.long p3), .second, .val (.long p4), .second, .val (.int p5), .val (.ref b1), .val (.int (p5 &&& (7 : Int32))), .val (.ref b1), .val (.ref b1), .val (.int (1 : Int32)), .val (.int (1 : Int32))] [(.ref b1)])) (fun tg kk => XS.aload X215.here hx rfl (hb hby at_280) rfl rfl kk) ?_
                refine OwnGo.back (T215.setTop (mkF m 284 #[.val (.long p1), .second, .val (.long p2), .second, .val (.long p3), .second, .val (.long p4), .second, .val (.int p5), .val (.ref b1), .val (.int (p5 &&& (7 : Int32))), .val (.ref b1), .val (.ref b1), .val (.int (1 : Int32)), .val (.int (1 : Int32))] [(.ref b1), (.ref b1)])) (fun tg kk => XS.aload X215.here hx rfl (hb hby at_282) rfl rfl kk) ?_
                obtain ⟨cq216, kq216, q216a, q216b, q216c⟩ := isOf hZ e215 po10
                obtain ⟨_, _, ⟨T216, L216, k216, n216⟩, -, X216, ⟨Lc216, hQ216, l216, y216, z216⟩, st216⟩ := X215.virtualBack hx (y := (⟨"com/example/lienledger/lienledger/io/Checksum", "equals", "(Ljava/lang/Object;)Z"⟩ : MethodName)) (z := (⟨"com/example/lienledger/lienledger/io/Checksum", "equals", "(Ljava/lang/Object;)Z"⟩ : MethodName)) hown (mvT hZ (hw _ (List.mem_of_getElem? (i := 18) rfl))) (mvT hZ (hw _ (List.mem_of_getElem? (i := 19) rfl))) (notFace_of_selects (args := #[]) (mvT hZ (hw _ (List.mem_of_getElem? (i := 21) rfl)))) (mvT hZ (hw _ (List.mem_of_getElem? (i := 21) rfl))) (mvT hZ (hw _ (List.mem_of_getElem? (i := 20) rfl))) (by decide) (backOf (W := 0) (own_eqs l Z a0 hw [] b1 p1 p2 T9.heap n0 Z16 po10 po11 po12) hZ (hw _ (List.mem_of_getElem? (i := 22) rfl)) (hw _ (List.mem_of_getElem? (i := 2) rfl)) (by decide) (by decide)) q216a q216c (g := (mkF m 284 #[.val (.long p1), .second, .val (.long p2), .second, .val (.long p3), .second, .val (.long p4), .second, .val (.int p5), .val (.ref b1), .val (.int (p5 &&& (7 : Int32))), .val (.ref b1), .val (.ref b1), .val (.int (1 : Int32)), .val (.int (1 : Int32))] [(.ref b1), (.ref b1)])) rfl (by rw [hml]; rfl) (Steps.refl _) (argsL := [(.ref b1)]) (rest := []) (lenOf own_pd3 rfl) rfl (by show 2 * 0 + _ ≤ _; exact Nat.le_of_eq rfl) (hb hby at_284) (fun _ _ => ⟨rfl, e215, (by decide : 1 + 0 ≤ _), (by decide : 2 + 0 ≤ _)⟩)
                dsimp only [Pt.U, Pt.locs, Pt.cells, Pt.slots] at X216 l216 y216 z216 st216 hQ216
                subst l216 y216 z216
                obtain ⟨rfl, N216q, e216⟩ := hQ216
                have N216 := Fr.app N215 N216q
                refine OwnGo.back (T216.setTop (mkF m 287 #[.val (.long p1), .second, .val (.long p2), .second, .val (.long p3), .second, .val (.long p4), .second, .val (.int p5), .val (.ref b1), .val (.int (p5 &&& (7 : Int32))), .val (.ref b1), .val (.ref b1), .val (.int (1 : Int32)), .val (.int (1 : Int32))] [(.int (1 : Int32))])) (fun tg kk => st216.trans kk) ?_
                refine OwnGo.back (T216.setTop (mkF m 289 #[.val (.long p1), .second, .val (.long p2), .second, .val (.long p3), .second, .val (.long p4), .second, .val (.int p5), .val (.ref b1), .val (.int (p5 &&& (7 : Int32))), .val (.ref b1), .val (.ref b1), .val (.int (1 : Int32)), .val (.int (1 : Int32))] [(.int (1 : Int32)), (.int (1 : Int32))])) (fun tg kk => XS.iload X216.here hx rfl (hb hby at_287) rfl kk) ?_
                refine OwnGo.back (T216.setTop (mkF m 294 #[.val (.long p1), .second, .val (.long p2), .second, .val (.long p3), .second, .val (.long p4), .second, .val (.int p5), .val (.ref b1), .val (.int (p5 &&& (7 : Int32))), .val (.ref b1), .val (.ref b1), .val (.int (1 : Int32)), .val (.int (1 : Int32))] [])) (fun tg kk => XS.icmpYes X216.here hx rfl (pc0 := 289) (pc' := 294) rfl (hb hby at_289) rfl (teq (by decide : (1 : Int32) = (1 : Int32))).1 (by decide) (by decide) kk) ?_
                refine OwnGo.back (T216.setTop (mkF m 295 #[.val (.long p1), .second, .val (.long p2), .second, .val (.long p3), .second, .val (.long p4), .second, .val (.int p5), .val (.ref b1), .val (.int (p5 &&& (7 : Int32))), .val (.ref b1), .val (.ref b1), .val (.int (1 : Int32)), .val (.int (1 : Int32))] [(.int (1 : Int32))])) (fun tg kk => XS.iconst X216.here hx rfl (hb hby at_294) kk) ?_
                obtain ⟨fs, hr, hrun, hended, hW, hsame⟩ := X216.leave (v := some (.int (1 : Int32))) (fun h => by rw [Bd.returns] at h; cases h)
                refine ⟨_, _, ?_, hrun, hended, _, _, rfl, ?_, ⟨_, rfl⟩, hW, hsame.mono (by decide) (by decide)⟩
                · exact retN X216 hx (t := .boolean) Bd.returns (by simp) (hb hby at_295) hr
                · show own_law_Q Z p1 p2 p3 p4 p5 ca h0 n0 _ T216.heap _
                  rw [e216]
                  exact ⟨rfl, N216, K15⟩
set_option maxRecDepth 65536 in
set_option maxHeartbeats 40000000 in
theorem comes_1 {Post : Tables → Env → Array Value → State → Outcome → State → Prop} (hpost : ∀ tb e args s v u, (limb_1_1.after args s (.returned v) u = true ∧ limb_1_2.after args s (.returned v) u = true ∧ True) → FrameEnd s (.returned v) u (Jvm.fieldLocs frame_1_writes args s ++ Jvm.arrayLocs frame_1_arrays args s ++ Jvm.staticLocs frame_1_statics s) 16 128 → Post tb e args s (.returned v) u) :
    ArmFor flags0 classFile x code maxLocals ret World_1 tables_1 room_1 Calls_1 rest_1 Pre_1 Post := by
  intro l hfl _ _ p e ha hc hk s m args below hf hA hF happ hP
  obtain ⟨hcalls, hrest, hpre⟩ := hP
  obtain ⟨-, -, -, hnamed, -, -, -, hat⟩ := (Spec.applies_iff hf).mp happ
  obtain ⟨hg, hn⟩ := and_e (Cond.before_iff.mp (show (Jvm.Cond.and given_1 narrow_1).before args s = true from hpre))
  obtain ⟨hg0, hg⟩ := and_e hg
  obtain ⟨hg1, hg⟩ := and_e hg
  obtain ⟨hg2, hg⟩ := and_e hg
  obtain ⟨hg3, hg⟩ := and_e hg
  obtain ⟨hg4, hg⟩ := and_e hg
  obtain ⟨w0, w1, w2, w3, w4, rfl⟩ : ∃ w0 w1 w2 w3 w4 : Value, args = #[w0, w1, w2, w3, w4] := by
    have hs : args.size = 5 := by simpa [Cond.value, given_1] using hg0
    obtain ⟨L⟩ := args
    match L, hs with
    | [w0, w1, w2, w3, w4], _ => exact ⟨w0, w1, w2, w3, w4, rfl⟩
  have hw := fun d (hd : d ∈ tables_1) => atoms_spec (ws := Jvm.Cond.code x code maxLocals ret :: tables_1) hat d (List.mem_cons_of_mem _ hd)
  have hfit : Fit s := fun {y c} hc i hi => by
    obtain ⟨ha, rfl⟩ := Array.getElem?_eq_some_iff.mp hc
    have q := List.all_eq_true.mp ((Array.all_eq_true_iff_forall_mem.mp hF) _ (Array.getElem_mem ha)) i (List.mem_range.mpr hi)
    simpa [Array.getElem?_eq_getElem hi] using q
  obtain ⟨i0, ei0⟩ := isL_v hg1
  obtain rfl : w0 = (.long i0) := Option.some.inj ei0
  obtain ⟨i1, ei1⟩ := isL_v hg2
  obtain rfl : w1 = (.long i1) := Option.some.inj ei1
  obtain ⟨i2, ei2⟩ := isL_v hg3
  obtain rfl : w2 = (.long i2) := Option.some.inj ei2
  obtain ⟨i3, ei3⟩ := isL_v hg4
  obtain rfl : w3 = (.long i3) := Option.some.inj ei3
  obtain ⟨i4, ei4⟩ := is_v hg
  obtain rfl : w4 = (.int i4) := Option.some.inj ei4
  obtain ⟨hsets, hown0⟩ := atoms_of _ (rest_1_c_eq ▸ (show rest_1_c.before _ s = true from hrest))
  obtain ⟨caL, evcL⟩ := arr_v (Cond.before_iff.mp (hsets _ (List.mem_of_getElem? (i := 2) rfl)))
  have SCL : Sta s s.heap "java/lang/Long$LongCache" "cache" "[Ljava/lang/Long;" (.ref caL) := Sta.start evcL (Or.inl (hsets _ (List.mem_of_getElem? (i := 1) rfl)))
  have HBL : own_Box s caL "java/lang/Long" := own_box (fun _ => evcL) (Cond.before_iff.mp (hsets _ (List.mem_of_getElem? (i := 2) rfl))) (Cond.before_iff.mp (hsets _ (List.mem_of_getElem? (i := 4) rfl))) (Cond.before_iff.mp (hsets _ (List.mem_of_getElem? (i := 5) rfl)))
  obtain ⟨n, o, h1, h2, h3, _, L, rfl, ⟨rfl, N, -⟩, hq⟩ := own_law l s _ hw tables_1 i0 i1 i2 i3 i4 caL s.heap s.heap.size (Nat.le_refl _) SCL (Old.start s) HBL p e ha hc hk s m _ below hf ((Spec.applies_iff_loose hf).mp happ).1 ⟨rfl, State.Warmed39.refl s, rfl⟩ trivial
  refine ⟨n, _, h1, h2, h3, hpost _ _ _ _ _ _ ⟨Cond.after_iff.mpr rfl, Cond.after_iff.mpr (eq_i res_at (Term.int_eval (1)) rfl), trivial⟩ ⟨hq.1, hq.2.1, (hq.2.2.sift fun y hy => Or.inr (N y hy)).mono (by decide) (by decide)⟩⟩
theorem main_1_1 : Claimed_1_1 := comes_1 fun _ _ _ _ _ _ h hF => ⟨h.1, hF⟩
theorem main_1_2 : Claimed_1_2 := comes_1 fun _ _ _ _ _ _ h hF => ⟨h.2.1, hF⟩
end Jvm.Pilot.@@N@@
namespace Jvm.Pilot.@@N@@
open Jvm Jvm.ClassFile Sem Op Lib Jvm.Free Jvm.Stand Jvm.Pilot.@@N@@.Jvm.D
/-! MADE BY PROGRAM (witnessworld.py) out of the Statement's table words and the real class files: 17 classes; the members and pool entries that the words name. The judged class is class 1, her method 1. -/
namespace start1
open Jvm.ClassFile
def u (s : String) : CpInfo := .utf8 (stringToUtf16 s)
/-- a pool by its gaps: so many unusable entries, then the entry; so many at the end -/
def gap : Nat → List CpInfo → List CpInfo
  | 0, r => r
  | n + 1, r => .unusable :: gap n r
def poolList (es : List (Nat × CpInfo)) (last : Nat) : List CpInfo := es.foldr (fun e r => gap e.1 (e.2 :: r)) (gap last [])
def pool (es : List (Nat × CpInfo)) (last : Nat) : Array CpInfo := ⟨poolList es last⟩
def fileOf (pool : Array CpInfo) (this : Nat) (attrs : Array Attribute := #[]) (ms : Array MethodInfo := #[]) (fl : Nat := 33) (sup : Nat := 0) (ifs : Array Nat := #[]) (fds : Array FieldInfo := #[]) : ClassFile where
  minorVersion := 0
  majorVersion := 65
  constantPool := pool
  accessFlags := fl
  thisClass := this
  superClass := sup
  interfaces := ifs
  fields := fds
  methods := ms
  attributes := attrs
def plain (name : String) (sup : Option ClassId) : Class where
  name := name
  kind := .ordinary
  loader := none
  accessFlags := 33
  super := sup
  interfaces := #[]
  cf := none
  fields := #[]
  methods := #[]
  instanceTypes := #[]
  staticTypes := #[]
  resolved := #[]
  callSites := []
  init := .initialized
  statics := none
  mirror := none

def pool0 : Array CpInfo := pool [(5, u "<init>"), (0, u "()V"), (1, .class_ 10), (1, u "java/lang/Object")] 113

def k0c0 : Code := { maxStack := 0, maxLocals := 1, code := object_method_1_code, exceptionTable := #[], attributes := #[] }
def k0m0 : Method := { name := "<init>", desc := "()V", sig := { parameters := [], returnType := none }, accessFlags := 1, code := some k0c0 }
/-- java/lang/Object -/
def k0 : Class := { plain "java/lang/Object" none with
  accessFlags := 33
  interfaces := #[]
  cf := some (fileOf pool0 8 #[] #[{ accessFlags := 1, nameIndex := 5, descriptorIndex := 6, attributes := #[] }] 33 0 #[] #[])
  fields := #[]
  methods := #[k0m0]
  instanceTypes := #[]
  staticTypes := #[]
  resolved := Array.replicate 124 none
  statics := none }

def pool1 : Array CpInfo := pool [(2, .class_ 4), (1, u "java/lang/Object"), (0, u "<init>"), (0, u "()V"), (0, .class_ 8), (0, u "com/example/lienledger/lienledger/io/Checksum"), (0, .methodref 7 10), (0, .nameAndType 5 11), (0, u "(JJ)V"), (0, .methodref 13 14), (0, .class_ 15), (0, .nameAndType 16 17), (0, u "java/lang/Long"), (0, u "valueOf"), (0, u "(J)Ljava/lang/Long;"), (0, .methodref 7 19), (0, .nameAndType 20 21), (0, u "equals"), (0, u "(Ljava/lang/Object;)Z"), (0, .class_ 23), (0, u "com/example/lienledger/lienledger/io/ChecksumEqualsPinLaw"), (2, u "law"), (0, u "(JJJJI)Z")] 3

def k1m0 : Method := { name := "<init>", desc := "()V", sig := { parameters := [], returnType := none }, accessFlags := 1, code := none }
def k1c1 : Code := { maxStack := 6, maxLocals := 15, code := code, exceptionTable := #[], attributes := #[] }
def k1m1 : Method := { name := "law", desc := "(JJJJI)Z", sig := { parameters := [.long, .long, .long, .long, .int], returnType := some .boolean }, accessFlags := 9, code := some k1c1 }
/-- com/example/lienledger/lienledger/io/ChecksumEqualsPinLaw -/
def k1 : Class := { plain "com/example/lienledger/lienledger/io/ChecksumEqualsPinLaw" (some 0) with
  accessFlags := 49
  interfaces := #[]
  cf := some (fileOf pool1 22 #[] #[{ accessFlags := 1, nameIndex := 5, descriptorIndex := 6, attributes := #[] }, { accessFlags := 9, nameIndex := 26, descriptorIndex := 27, attributes := #[] }] 49 2 #[] #[])
  fields := #[]
  methods := #[k1m0, k1m1]
  instanceTypes := #[]
  staticTypes := #[]
  resolved := Array.replicate 31 none
  statics := none }

def pool2 : Array CpInfo := pool [(1, .methodref 2 3), (0, .class_ 4), (0, .nameAndType 5 6), (0, u "java/lang/Object"), (0, u "<init>"), (0, u "()V"), (0, .class_ 8), (0, u "java/lang/Record")] 13

def k2c0 : Code := { maxStack := 1, maxLocals := 1, code := jdk_30_method_1_code, exceptionTable := #[], attributes := #[] }
def k2m0 : Method := { name := "<init>", desc := "()V", sig := { parameters := [], returnType := none }, accessFlags := 4, code := some k2c0 }
/-- java/lang/Record -/
def k2 : Class := { plain "java/lang/Record" (some 0) with
  accessFlags := 1057
  interfaces := #[]
  cf := some (fileOf pool2 7 #[] #[{ accessFlags := 4, nameIndex := 5, descriptorIndex := 6, attributes := #[] }] 1057 2 #[] #[])
  fields := #[]
  methods := #[k2m0]
  instanceTypes := #[]
  staticTypes := #[]
  resolved := Array.replicate 22 none
  statics := none }

def pool3 : Array CpInfo := pool [(1, .methodref 2 3), (0, .class_ 4), (0, .nameAndType 5 6), (0, u "java/lang/Record"), (0, u "<init>"), (0, u "()V"), (0, .fieldref 8 9), (0, .class_ 10), (0, .nameAndType 11 12), (0, u "com/example/lienledger/lienledger/io/Checksum"), (0, u "crc32c"), (0, u "J"), (0, .fieldref 8 14), (0, .nameAndType 15 12), (0, u "length"), (20, u "(JJ)V"), (5, u "equals"), (0, u "(Ljava/lang/Object;)Z")] 24

def k3c0 : Code := { maxStack := 3, maxLocals := 5, code := prog_17_method_1_code, exceptionTable := #[], attributes := #[] }
def k3m0 : Method := { name := "<init>", desc := "(JJ)V", sig := { parameters := [.long, .long], returnType := none }, accessFlags := 0, code := some k3c0 }
def k3c1 : Code := { maxStack := 4, maxLocals := 3, code := prog_17_method_3_code, exceptionTable := #[], attributes := #[] }
def k3m1 : Method := { name := "equals", desc := "(Ljava/lang/Object;)Z", sig := { parameters := [(.object "java/lang/Object")], returnType := some .boolean }, accessFlags := 1, code := some k3c1 }
/-- com/example/lienledger/lienledger/io/Checksum -/
def k3 : Class := { plain "com/example/lienledger/lienledger/io/Checksum" (some 2) with
  accessFlags := 48
  interfaces := #[]
  cf := some (fileOf pool3 8 #[] #[{ accessFlags := 0, nameIndex := 5, descriptorIndex := 36, attributes := #[] }, { accessFlags := 1, nameIndex := 42, descriptorIndex := 43, attributes := #[] }] 48 2 #[] #[{ accessFlags := 18, nameIndex := 11, descriptorIndex := 12, attributes := #[] }, { accessFlags := 18, nameIndex := 15, descriptorIndex := 12, attributes := #[] }])
  fields := #[{ name := "crc32c", type := .long, accessFlags := 18, slot := 0, constantValue := 0 }, { name := "length", type := .long, accessFlags := 18, slot := 1, constantValue := 0 }]
  methods := #[k3m0, k3m1]
  instanceTypes := #[.long, .long]
  staticTypes := #[]
  resolved := Array.replicate 68 none
  statics := none }

def pool4 : Array CpInfo := pool [(1, .class_ 2), (0, u "java/io/Serializable"), (0, .class_ 4), (0, u "java/lang/Object")] 2

/-- java/io/Serializable -/
def k4 : Class := { plain "java/io/Serializable" (some 0) with
  accessFlags := 1537
  interfaces := #[]
  cf := some (fileOf pool4 1 #[] #[] 1537 3 #[] #[])
  fields := #[]
  methods := #[]
  instanceTypes := #[]
  staticTypes := #[]
  resolved := Array.replicate 7 none
  statics := none }

def pool5 : Array CpInfo := pool [(1, .methodref 2 3), (0, .class_ 4), (0, .nameAndType 5 6), (0, u "java/lang/Object"), (0, u "<init>"), (0, u "()V"), (1, .class_ 10), (1, u "java/lang/Number"), (2, .class_ 14), (0, u "java/io/Serializable"), (0, u "serialVersionUID"), (0, u "J")] 20

def k5c0 : Code := { maxStack := 1, maxLocals := 1, code := jdk_18_method_1_code, exceptionTable := #[], attributes := #[] }
def k5m0 : Method := { name := "<init>", desc := "()V", sig := { parameters := [], returnType := none }, accessFlags := 1, code := some k5c0 }
/-- java/lang/Number -/
def k5 : Class := { plain "java/lang/Number" (some 0) with
  accessFlags := 1057
  interfaces := #[4]
  cf := some (fileOf pool5 8 #[] #[{ accessFlags := 1, nameIndex := 5, descriptorIndex := 6, attributes := #[] }] 1057 2 #[13] #[{ accessFlags := 26, nameIndex := 15, descriptorIndex := 16, attributes := #[] }])
  fields := #[{ name := "serialVersionUID", type := .long, accessFlags := 26, slot := 0, constantValue := 0 }]
  methods := #[k5m0]
  instanceTypes := #[]
  staticTypes := #[.long]
  resolved := Array.replicate 37 none
  statics := none }

def pool6 : Array CpInfo := pool [(1, .class_ 2), (0, u "java/lang/Comparable"), (0, .class_ 4), (0, u "java/lang/Object")] 7

/-- java/lang/Comparable -/
def k6 : Class := { plain "java/lang/Comparable" (some 0) with
  accessFlags := 1537
  interfaces := #[]
  cf := some (fileOf pool6 1 #[] #[] 1537 3 #[] #[])
  fields := #[]
  methods := #[]
  instanceTypes := #[]
  staticTypes := #[]
  resolved := Array.replicate 12 none
  statics := none }

def pool7 : Array CpInfo := pool [(1, .class_ 2), (0, u "java/lang/constant/Constable"), (0, .class_ 4), (0, u "java/lang/Object")] 6

/-- java/lang/constant/Constable -/
def k7 : Class := { plain "java/lang/constant/Constable" (some 0) with
  accessFlags := 1537
  interfaces := #[]
  cf := some (fileOf pool7 1 #[] #[] 1537 3 #[] #[])
  fields := #[]
  methods := #[]
  instanceTypes := #[]
  staticTypes := #[]
  resolved := Array.replicate 11 none
  statics := none }

def pool8 : Array CpInfo := pool [(1, .class_ 2), (0, u "java/lang/constant/ConstantDesc"), (0, .class_ 4), (0, u "java/lang/Object")] 32

/-- java/lang/constant/ConstantDesc -/
def k8 : Class := { plain "java/lang/constant/ConstantDesc" (some 0) with
  accessFlags := 1537
  interfaces := #[]
  cf := some (fileOf pool8 1 #[] #[] 1537 3 #[] #[])
  fields := #[]
  methods := #[]
  instanceTypes := #[]
  staticTypes := #[]
  resolved := Array.replicate 37 none
  statics := none }

def pool9 : Array CpInfo := pool [(1, .class_ 2), (0, u "java/lang/Long"), (55, .nameAndType 59 60), (0, u "<init>"), (0, u "()V"), (24, u "valueOf"), (143, u "(J)Ljava/lang/Long;"), (0, .long 18446744073709551488), (1, .long 127), (1, .fieldref 235 236), (0, .class_ 237), (0, .nameAndType 238 239), (0, u "java/lang/Long$LongCache"), (0, u "cache"), (0, u "[Ljava/lang/Long;"), (0, .methodref 1 241), (0, .nameAndType 59 242), (0, u "(J)V"), (27, .methodref 271 58), (0, .class_ 272), (0, u "java/lang/Number"), (0, .fieldref 1 274), (0, .nameAndType 275 276), (0, u "value"), (0, u "J"), (84, u "TYPE"), (0, u "Ljava/lang/Class;"), (0, .class_ 364), (0, u "java/lang/Comparable"), (0, .class_ 366), (0, u "java/lang/constant/Constable"), (0, .class_ 368), (0, u "java/lang/constant/ConstantDesc"), (0, u "MIN_VALUE"), (1, u "MAX_VALUE"), (4, u "SIZE"), (0, u "I"), (1, u "BYTES"), (1, u "serialVersionUID")] 142

def k9c0 : Code := { maxStack := 4, maxLocals := 3, code := jdk_35_method_24_code, exceptionTable := #[], attributes := #[] }
def k9m0 : Method := { name := "valueOf", desc := "(J)Ljava/lang/Long;", sig := { parameters := [.long], returnType := some (.object "java/lang/Long") }, accessFlags := 9, code := some k9c0 }
def k9c1 : Code := { maxStack := 3, maxLocals := 3, code := jdk_35_method_26_code, exceptionTable := #[], attributes := #[] }
def k9m1 : Method := { name := "<init>", desc := "(J)V", sig := { parameters := [.long], returnType := none }, accessFlags := 1, code := some k9c1 }
/-- java/lang/Long -/
def k9 : Class := { plain "java/lang/Long" (some 5) with
  accessFlags := 49
  interfaces := #[6, 7, 8]
  cf := some (fileOf pool9 1 #[.nestMembers #[235]] #[{ accessFlags := 9, nameIndex := 85, descriptorIndex := 229, attributes := #[] }, { accessFlags := 1, nameIndex := 59, descriptorIndex := 242, attributes := #[] }] 49 271 #[363, 365, 367] #[{ accessFlags := 25, nameIndex := 369, descriptorIndex := 276, attributes := #[] }, { accessFlags := 25, nameIndex := 371, descriptorIndex := 276, attributes := #[] }, { accessFlags := 25, nameIndex := 361, descriptorIndex := 362, attributes := #[] }, { accessFlags := 18, nameIndex := 275, descriptorIndex := 276, attributes := #[] }, { accessFlags := 25, nameIndex := 376, descriptorIndex := 377, attributes := #[] }, { accessFlags := 25, nameIndex := 379, descriptorIndex := 377, attributes := #[] }, { accessFlags := 26, nameIndex := 381, descriptorIndex := 276, attributes := #[] }])
  fields := #[{ name := "MIN_VALUE", type := .long, accessFlags := 25, slot := 0, constantValue := 0 }, { name := "MAX_VALUE", type := .long, accessFlags := 25, slot := 1, constantValue := 0 }, { name := "TYPE", type := (.object "java/lang/Class"), accessFlags := 25, slot := 2, constantValue := 0 }, { name := "value", type := .long, accessFlags := 18, slot := 0, constantValue := 0 }, { name := "SIZE", type := .int, accessFlags := 25, slot := 3, constantValue := 0 }, { name := "BYTES", type := .int, accessFlags := 25, slot := 4, constantValue := 0 }, { name := "serialVersionUID", type := .long, accessFlags := 26, slot := 5, constantValue := 0 }]
  methods := #[k9m0, k9m1]
  instanceTypes := #[.long]
  staticTypes := #[.long, .long, (.object "java/lang/Class"), .int, .int, .long]
  resolved := Array.replicate 524 none
  statics := none }

def pool10 : Array CpInfo := pool [(2, .class_ 4), (1, u "java/lang/Object"), (0, u "<init>"), (0, u "()V"), (0, .class_ 8), (0, u "java/lang/Long"), (7, .class_ 18), (1, u "java/lang/Long$LongCache"), (0, u "$assertionsDisabled"), (0, u "Z"), (8, u "archivedCache"), (0, u "[Ljava/lang/Long;"), (7, u "cache")] 24

def k10m0 : Method := { name := "<init>", desc := "()V", sig := { parameters := [], returnType := none }, accessFlags := 2, code := none }
/-- java/lang/Long$LongCache -/
def k10 : Class := { plain "java/lang/Long$LongCache" (some 0) with
  accessFlags := 48
  interfaces := #[]
  cf := some (fileOf pool10 16 #[.nestHost 7] #[{ accessFlags := 2, nameIndex := 5, descriptorIndex := 6, attributes := #[] }] 48 2 #[] #[{ accessFlags := 24, nameIndex := 38, descriptorIndex := 30, attributes := #[] }, { accessFlags := 8, nameIndex := 29, descriptorIndex := 30, attributes := #[] }, { accessFlags := 4120, nameIndex := 19, descriptorIndex := 20, attributes := #[] }])
  fields := #[{ name := "cache", type := (.array (.object "java/lang/Long")), accessFlags := 24, slot := 0, constantValue := 0 }, { name := "archivedCache", type := (.array (.object "java/lang/Long")), accessFlags := 8, slot := 1, constantValue := 0 }, { name := "$assertionsDisabled", type := .boolean, accessFlags := 4120, slot := 2, constantValue := 0 }]
  methods := #[k10m0]
  instanceTypes := #[]
  staticTypes := #[(.array (.object "java/lang/Long")), (.array (.object "java/lang/Long")), .boolean]
  resolved := Array.replicate 63 none
  statics := some 0 }

def pool11 : Array CpInfo := pool [(1, u "java/lang/Cloneable"), (0, .class_ 1), (0, u "java/lang/Object"), (0, .class_ 3)] 3

/-- java/lang/Cloneable -/
def k11 : Class := { plain "java/lang/Cloneable" (some 0) with
  accessFlags := 1537
  interfaces := #[]
  cf := some (fileOf pool11 2 #[] #[] 1537 4 #[] #[])
  fields := #[]
  methods := #[]
  instanceTypes := #[]
  staticTypes := #[]
  resolved := Array.replicate 8 none
  statics := none }

/-- the primitive byte -/
def k12 : Class := { plain "byte" none with kind := .primitive 'B', accessFlags := 0x411 }
/-- [B -/
def k13 : Class := { plain "[B" (some 0) with kind := .array 12 .byte, interfaces := #[11, 4], accessFlags := 1041 }

/-- the primitive int -/
def k14 : Class := { plain "int" none with kind := .primitive 'I', accessFlags := 0x411 }
/-- [I -/
def k15 : Class := { plain "[I" (some 0) with kind := .array 14 .int, interfaces := #[11, 4], accessFlags := 1041 }

/-- [Ljava/lang/Long; -/
def k16 : Class := { plain "[Ljava/lang/Long;" (some 0) with kind := .array 9 (.object "java/lang/Long"), interfaces := #[11, 4], accessFlags := 1041 }

def heap : Heap := #[{ cls := 10, slots := #[.ref 1, .null, .int 0], vm := .statics 10 },
  { cls := 16, slots := #[.ref 2, .ref 3, .ref 4, .ref 5, .ref 6, .ref 7, .ref 8, .ref 9, .ref 10, .ref 11, .ref 12, .ref 13, .ref 14, .ref 15, .ref 16, .ref 17, .ref 18, .ref 19, .ref 20, .ref 21, .ref 22, .ref 23, .ref 24, .ref 25, .ref 26, .ref 27, .ref 28, .ref 29, .ref 30, .ref 31, .ref 32, .ref 33, .ref 34, .ref 35, .ref 36, .ref 37, .ref 38, .ref 39, .ref 40, .ref 41, .ref 42, .ref 43, .ref 44, .ref 45, .ref 46, .ref 47, .ref 48, .ref 49, .ref 50, .ref 51, .ref 52, .ref 53, .ref 54, .ref 55, .ref 56, .ref 57, .ref 58, .ref 59, .ref 60, .ref 61, .ref 62, .ref 63, .ref 64, .ref 65, .ref 66, .ref 67, .ref 68, .ref 69, .ref 70, .ref 71, .ref 72, .ref 73, .ref 74, .ref 75, .ref 76, .ref 77, .ref 78, .ref 79, .ref 80, .ref 81, .ref 82, .ref 83, .ref 84, .ref 85, .ref 86, .ref 87, .ref 88, .ref 89, .ref 90, .ref 91, .ref 92, .ref 93, .ref 94, .ref 95, .ref 96, .ref 97, .ref 98, .ref 99, .ref 100, .ref 101, .ref 102, .ref 103, .ref 104, .ref 105, .ref 106, .ref 107, .ref 108, .ref 109, .ref 110, .ref 111, .ref 112, .ref 113, .ref 114, .ref 115, .ref 116, .ref 117, .ref 118, .ref 119, .ref 120, .ref 121, .ref 122, .ref 123, .ref 124, .ref 125, .ref 126, .ref 127, .ref 128, .ref 129, .ref 130, .ref 131, .ref 132, .ref 133, .ref 134, .ref 135, .ref 136, .ref 137, .ref 138, .ref 139, .ref 140, .ref 141, .ref 142, .ref 143, .ref 144, .ref 145, .ref 146, .ref 147, .ref 148, .ref 149, .ref 150, .ref 151, .ref 152, .ref 153, .ref 154, .ref 155, .ref 156, .ref 157, .ref 158, .ref 159, .ref 160, .ref 161, .ref 162, .ref 163, .ref 164, .ref 165, .ref 166, .ref 167, .ref 168, .ref 169, .ref 170, .ref 171, .ref 172, .ref 173, .ref 174, .ref 175, .ref 176, .ref 177, .ref 178, .ref 179, .ref 180, .ref 181, .ref 182, .ref 183, .ref 184, .ref 185, .ref 186, .ref 187, .ref 188, .ref 189, .ref 190, .ref 191, .ref 192, .ref 193, .ref 194, .ref 195, .ref 196, .ref 197, .ref 198, .ref 199, .ref 200, .ref 201, .ref 202, .ref 203, .ref 204, .ref 205, .ref 206, .ref 207, .ref 208, .ref 209, .ref 210, .ref 211, .ref 212, .ref 213, .ref 214, .ref 215, .ref 216, .ref 217, .ref 218, .ref 219, .ref 220, .ref 221, .ref 222, .ref 223, .ref 224, .ref 225, .ref 226, .ref 227, .ref 228, .ref 229, .ref 230, .ref 231, .ref 232, .ref 233, .ref 234, .ref 235, .ref 236, .ref 237, .ref 238, .ref 239, .ref 240, .ref 241, .ref 242, .ref 243, .ref 244, .ref 245, .ref 246, .ref 247, .ref 248, .ref 249, .ref 250, .ref 251, .ref 252, .ref 253, .ref 254, .ref 255, .ref 256, .ref 257], vm := .none },
  { cls := 9, slots := #[.long (-128)], vm := .none },
  { cls := 9, slots := #[.long (-127)], vm := .none },
  { cls := 9, slots := #[.long (-126)], vm := .none },
  { cls := 9, slots := #[.long (-125)], vm := .none },
  { cls := 9, slots := #[.long (-124)], vm := .none },
  { cls := 9, slots := #[.long (-123)], vm := .none },
  { cls := 9, slots := #[.long (-122)], vm := .none },
  { cls := 9, slots := #[.long (-121)], vm := .none },
  { cls := 9, slots := #[.long (-120)], vm := .none },
  { cls := 9, slots := #[.long (-119)], vm := .none },
  { cls := 9, slots := #[.long (-118)], vm := .none },
  { cls := 9, slots := #[.long (-117)], vm := .none },
  { cls := 9, slots := #[.long (-116)], vm := .none },
  { cls := 9, slots := #[.long (-115)], vm := .none },
  { cls := 9, slots := #[.long (-114)], vm := .none },
  { cls := 9, slots := #[.long (-113)], vm := .none },
  { cls := 9, slots := #[.long (-112)], vm := .none },
  { cls := 9, slots := #[.long (-111)], vm := .none },
  { cls := 9, slots := #[.long (-110)], vm := .none },
  { cls := 9, slots := #[.long (-109)], vm := .none },
  { cls := 9, slots := #[.long (-108)], vm := .none },
  { cls := 9, slots := #[.long (-107)], vm := .none },
  { cls := 9, slots := #[.long (-106)], vm := .none },
  { cls := 9, slots := #[.long (-105)], vm := .none },
  { cls := 9, slots := #[.long (-104)], vm := .none },
  { cls := 9, slots := #[.long (-103)], vm := .none },
  { cls := 9, slots := #[.long (-102)], vm := .none },
  { cls := 9, slots := #[.long (-101)], vm := .none },
  { cls := 9, slots := #[.long (-100)], vm := .none },
  { cls := 9, slots := #[.long (-99)], vm := .none },
  { cls := 9, slots := #[.long (-98)], vm := .none },
  { cls := 9, slots := #[.long (-97)], vm := .none },
  { cls := 9, slots := #[.long (-96)], vm := .none },
  { cls := 9, slots := #[.long (-95)], vm := .none },
  { cls := 9, slots := #[.long (-94)], vm := .none },
  { cls := 9, slots := #[.long (-93)], vm := .none },
  { cls := 9, slots := #[.long (-92)], vm := .none },
  { cls := 9, slots := #[.long (-91)], vm := .none },
  { cls := 9, slots := #[.long (-90)], vm := .none },
  { cls := 9, slots := #[.long (-89)], vm := .none },
  { cls := 9, slots := #[.long (-88)], vm := .none },
  { cls := 9, slots := #[.long (-87)], vm := .none },
  { cls := 9, slots := #[.long (-86)], vm := .none },
  { cls := 9, slots := #[.long (-85)], vm := .none },
  { cls := 9, slots := #[.long (-84)], vm := .none },
  { cls := 9, slots := #[.long (-83)], vm := .none },
  { cls := 9, slots := #[.long (-82)], vm := .none },
  { cls := 9, slots := #[.long (-81)], vm := .none },
  { cls := 9, slots := #[.long (-80)], vm := .none },
  { cls := 9, slots := #[.long (-79)], vm := .none },
  { cls := 9, slots := #[.long (-78)], vm := .none },
  { cls := 9, slots := #[.long (-77)], vm := .none },
  { cls := 9, slots := #[.long (-76)], vm := .none },
  { cls := 9, slots := #[.long (-75)], vm := .none },
  { cls := 9, slots := #[.long (-74)], vm := .none },
  { cls := 9, slots := #[.long (-73)], vm := .none },
  { cls := 9, slots := #[.long (-72)], vm := .none },
  { cls := 9, slots := #[.long (-71)], vm := .none },
  { cls := 9, slots := #[.long (-70)], vm := .none },
  { cls := 9, slots := #[.long (-69)], vm := .none },
  { cls := 9, slots := #[.long (-68)], vm := .none },
  { cls := 9, slots := #[.long (-67)], vm := .none },
  { cls := 9, slots := #[.long (-66)], vm := .none },
  { cls := 9, slots := #[.long (-65)], vm := .none },
  { cls := 9, slots := #[.long (-64)], vm := .none },
  { cls := 9, slots := #[.long (-63)], vm := .none },
  { cls := 9, slots := #[.long (-62)], vm := .none },
  { cls := 9, slots := #[.long (-61)], vm := .none },
  { cls := 9, slots := #[.long (-60)], vm := .none },
  { cls := 9, slots := #[.long (-59)], vm := .none },
  { cls := 9, slots := #[.long (-58)], vm := .none },
  { cls := 9, slots := #[.long (-57)], vm := .none },
  { cls := 9, slots := #[.long (-56)], vm := .none },
  { cls := 9, slots := #[.long (-55)], vm := .none },
  { cls := 9, slots := #[.long (-54)], vm := .none },
  { cls := 9, slots := #[.long (-53)], vm := .none },
  { cls := 9, slots := #[.long (-52)], vm := .none },
  { cls := 9, slots := #[.long (-51)], vm := .none },
  { cls := 9, slots := #[.long (-50)], vm := .none },
  { cls := 9, slots := #[.long (-49)], vm := .none },
  { cls := 9, slots := #[.long (-48)], vm := .none },
  { cls := 9, slots := #[.long (-47)], vm := .none },
  { cls := 9, slots := #[.long (-46)], vm := .none },
  { cls := 9, slots := #[.long (-45)], vm := .none },
  { cls := 9, slots := #[.long (-44)], vm := .none },
  { cls := 9, slots := #[.long (-43)], vm := .none },
  { cls := 9, slots := #[.long (-42)], vm := .none },
  { cls := 9, slots := #[.long (-41)], vm := .none },
  { cls := 9, slots := #[.long (-40)], vm := .none },
  { cls := 9, slots := #[.long (-39)], vm := .none },
  { cls := 9, slots := #[.long (-38)], vm := .none },
  { cls := 9, slots := #[.long (-37)], vm := .none },
  { cls := 9, slots := #[.long (-36)], vm := .none },
  { cls := 9, slots := #[.long (-35)], vm := .none },
  { cls := 9, slots := #[.long (-34)], vm := .none },
  { cls := 9, slots := #[.long (-33)], vm := .none },
  { cls := 9, slots := #[.long (-32)], vm := .none },
  { cls := 9, slots := #[.long (-31)], vm := .none },
  { cls := 9, slots := #[.long (-30)], vm := .none },
  { cls := 9, slots := #[.long (-29)], vm := .none },
  { cls := 9, slots := #[.long (-28)], vm := .none },
  { cls := 9, slots := #[.long (-27)], vm := .none },
  { cls := 9, slots := #[.long (-26)], vm := .none },
  { cls := 9, slots := #[.long (-25)], vm := .none },
  { cls := 9, slots := #[.long (-24)], vm := .none },
  { cls := 9, slots := #[.long (-23)], vm := .none },
  { cls := 9, slots := #[.long (-22)], vm := .none },
  { cls := 9, slots := #[.long (-21)], vm := .none },
  { cls := 9, slots := #[.long (-20)], vm := .none },
  { cls := 9, slots := #[.long (-19)], vm := .none },
  { cls := 9, slots := #[.long (-18)], vm := .none },
  { cls := 9, slots := #[.long (-17)], vm := .none },
  { cls := 9, slots := #[.long (-16)], vm := .none },
  { cls := 9, slots := #[.long (-15)], vm := .none },
  { cls := 9, slots := #[.long (-14)], vm := .none },
  { cls := 9, slots := #[.long (-13)], vm := .none },
  { cls := 9, slots := #[.long (-12)], vm := .none },
  { cls := 9, slots := #[.long (-11)], vm := .none },
  { cls := 9, slots := #[.long (-10)], vm := .none },
  { cls := 9, slots := #[.long (-9)], vm := .none },
  { cls := 9, slots := #[.long (-8)], vm := .none },
  { cls := 9, slots := #[.long (-7)], vm := .none },
  { cls := 9, slots := #[.long (-6)], vm := .none },
  { cls := 9, slots := #[.long (-5)], vm := .none },
  { cls := 9, slots := #[.long (-4)], vm := .none },
  { cls := 9, slots := #[.long (-3)], vm := .none },
  { cls := 9, slots := #[.long (-2)], vm := .none },
  { cls := 9, slots := #[.long (-1)], vm := .none },
  { cls := 9, slots := #[.long 0], vm := .none },
  { cls := 9, slots := #[.long 1], vm := .none },
  { cls := 9, slots := #[.long 2], vm := .none },
  { cls := 9, slots := #[.long 3], vm := .none },
  { cls := 9, slots := #[.long 4], vm := .none },
  { cls := 9, slots := #[.long 5], vm := .none },
  { cls := 9, slots := #[.long 6], vm := .none },
  { cls := 9, slots := #[.long 7], vm := .none },
  { cls := 9, slots := #[.long 8], vm := .none },
  { cls := 9, slots := #[.long 9], vm := .none },
  { cls := 9, slots := #[.long 10], vm := .none },
  { cls := 9, slots := #[.long 11], vm := .none },
  { cls := 9, slots := #[.long 12], vm := .none },
  { cls := 9, slots := #[.long 13], vm := .none },
  { cls := 9, slots := #[.long 14], vm := .none },
  { cls := 9, slots := #[.long 15], vm := .none },
  { cls := 9, slots := #[.long 16], vm := .none },
  { cls := 9, slots := #[.long 17], vm := .none },
  { cls := 9, slots := #[.long 18], vm := .none },
  { cls := 9, slots := #[.long 19], vm := .none },
  { cls := 9, slots := #[.long 20], vm := .none },
  { cls := 9, slots := #[.long 21], vm := .none },
  { cls := 9, slots := #[.long 22], vm := .none },
  { cls := 9, slots := #[.long 23], vm := .none },
  { cls := 9, slots := #[.long 24], vm := .none },
  { cls := 9, slots := #[.long 25], vm := .none },
  { cls := 9, slots := #[.long 26], vm := .none },
  { cls := 9, slots := #[.long 27], vm := .none },
  { cls := 9, slots := #[.long 28], vm := .none },
  { cls := 9, slots := #[.long 29], vm := .none },
  { cls := 9, slots := #[.long 30], vm := .none },
  { cls := 9, slots := #[.long 31], vm := .none },
  { cls := 9, slots := #[.long 32], vm := .none },
  { cls := 9, slots := #[.long 33], vm := .none },
  { cls := 9, slots := #[.long 34], vm := .none },
  { cls := 9, slots := #[.long 35], vm := .none },
  { cls := 9, slots := #[.long 36], vm := .none },
  { cls := 9, slots := #[.long 37], vm := .none },
  { cls := 9, slots := #[.long 38], vm := .none },
  { cls := 9, slots := #[.long 39], vm := .none },
  { cls := 9, slots := #[.long 40], vm := .none },
  { cls := 9, slots := #[.long 41], vm := .none },
  { cls := 9, slots := #[.long 42], vm := .none },
  { cls := 9, slots := #[.long 43], vm := .none },
  { cls := 9, slots := #[.long 44], vm := .none },
  { cls := 9, slots := #[.long 45], vm := .none },
  { cls := 9, slots := #[.long 46], vm := .none },
  { cls := 9, slots := #[.long 47], vm := .none },
  { cls := 9, slots := #[.long 48], vm := .none },
  { cls := 9, slots := #[.long 49], vm := .none },
  { cls := 9, slots := #[.long 50], vm := .none },
  { cls := 9, slots := #[.long 51], vm := .none },
  { cls := 9, slots := #[.long 52], vm := .none },
  { cls := 9, slots := #[.long 53], vm := .none },
  { cls := 9, slots := #[.long 54], vm := .none },
  { cls := 9, slots := #[.long 55], vm := .none },
  { cls := 9, slots := #[.long 56], vm := .none },
  { cls := 9, slots := #[.long 57], vm := .none },
  { cls := 9, slots := #[.long 58], vm := .none },
  { cls := 9, slots := #[.long 59], vm := .none },
  { cls := 9, slots := #[.long 60], vm := .none },
  { cls := 9, slots := #[.long 61], vm := .none },
  { cls := 9, slots := #[.long 62], vm := .none },
  { cls := 9, slots := #[.long 63], vm := .none },
  { cls := 9, slots := #[.long 64], vm := .none },
  { cls := 9, slots := #[.long 65], vm := .none },
  { cls := 9, slots := #[.long 66], vm := .none },
  { cls := 9, slots := #[.long 67], vm := .none },
  { cls := 9, slots := #[.long 68], vm := .none },
  { cls := 9, slots := #[.long 69], vm := .none },
  { cls := 9, slots := #[.long 70], vm := .none },
  { cls := 9, slots := #[.long 71], vm := .none },
  { cls := 9, slots := #[.long 72], vm := .none },
  { cls := 9, slots := #[.long 73], vm := .none },
  { cls := 9, slots := #[.long 74], vm := .none },
  { cls := 9, slots := #[.long 75], vm := .none },
  { cls := 9, slots := #[.long 76], vm := .none },
  { cls := 9, slots := #[.long 77], vm := .none },
  { cls := 9, slots := #[.long 78], vm := .none },
  { cls := 9, slots := #[.long 79], vm := .none },
  { cls := 9, slots := #[.long 80], vm := .none },
  { cls := 9, slots := #[.long 81], vm := .none },
  { cls := 9, slots := #[.long 82], vm := .none },
  { cls := 9, slots := #[.long 83], vm := .none },
  { cls := 9, slots := #[.long 84], vm := .none },
  { cls := 9, slots := #[.long 85], vm := .none },
  { cls := 9, slots := #[.long 86], vm := .none },
  { cls := 9, slots := #[.long 87], vm := .none },
  { cls := 9, slots := #[.long 88], vm := .none },
  { cls := 9, slots := #[.long 89], vm := .none },
  { cls := 9, slots := #[.long 90], vm := .none },
  { cls := 9, slots := #[.long 91], vm := .none },
  { cls := 9, slots := #[.long 92], vm := .none },
  { cls := 9, slots := #[.long 93], vm := .none },
  { cls := 9, slots := #[.long 94], vm := .none },
  { cls := 9, slots := #[.long 95], vm := .none },
  { cls := 9, slots := #[.long 96], vm := .none },
  { cls := 9, slots := #[.long 97], vm := .none },
  { cls := 9, slots := #[.long 98], vm := .none },
  { cls := 9, slots := #[.long 99], vm := .none },
  { cls := 9, slots := #[.long 100], vm := .none },
  { cls := 9, slots := #[.long 101], vm := .none },
  { cls := 9, slots := #[.long 102], vm := .none },
  { cls := 9, slots := #[.long 103], vm := .none },
  { cls := 9, slots := #[.long 104], vm := .none },
  { cls := 9, slots := #[.long 105], vm := .none },
  { cls := 9, slots := #[.long 106], vm := .none },
  { cls := 9, slots := #[.long 107], vm := .none },
  { cls := 9, slots := #[.long 108], vm := .none },
  { cls := 9, slots := #[.long 109], vm := .none },
  { cls := 9, slots := #[.long 110], vm := .none },
  { cls := 9, slots := #[.long 111], vm := .none },
  { cls := 9, slots := #[.long 112], vm := .none },
  { cls := 9, slots := #[.long 113], vm := .none },
  { cls := 9, slots := #[.long 114], vm := .none },
  { cls := 9, slots := #[.long 115], vm := .none },
  { cls := 9, slots := #[.long 116], vm := .none },
  { cls := 9, slots := #[.long 117], vm := .none },
  { cls := 9, slots := #[.long 118], vm := .none },
  { cls := 9, slots := #[.long 119], vm := .none },
  { cls := 9, slots := #[.long 120], vm := .none },
  { cls := 9, slots := #[.long 121], vm := .none },
  { cls := 9, slots := #[.long 122], vm := .none },
  { cls := 9, slots := #[.long 123], vm := .none },
  { cls := 9, slots := #[.long 124], vm := .none },
  { cls := 9, slots := #[.long 125], vm := .none },
  { cls := 9, slots := #[.long 126], vm := .none },
  { cls := 9, slots := #[.long 127], vm := .none }]
def classes : Array Class := #[k0, k1, k2, k3, k4, k5, k6, k7, k8, k9, k10, k11, k12, k13, k14, k15, k16]
def interned : List (Array UInt16 × Addr) := []
def slotsUsed : Nat := 515
def theMethod : MethodId := ⟨1, 1⟩
def args0 : Array Value := #[.long 5, .long 2, .long 3, .long 4, .int 1]
def aboutOver (below : List Frame) : State where
  vm := { classes := classes, interned := interned.toArray }
  heap := heap
  slotsUsed := slotsUsed
  threads := #[{ frames := .invoking theMethod args0 :: below }]
def below0 : List Frame := [.native { method := ⟨0, 0⟩, args := #[] }]
def about1 : State := aboutOver below0
def p0 : Program := .bare "" "" ""
def e0 : Env := launch0.env 0 0 0
theorem w_frames : about1.frames = Frame.invoking theMethod args0 :: below0 := rfl
set_option maxRecDepth 65536 in
theorem w_args : argsFit about1.vm theMethod args0 = true := by decide +kernel
set_option maxRecDepth 65536 in
theorem w_heap : heapFits about1 = true := by decide +kernel
set_option maxRecDepth 65536 in
theorem w_runnable : about1.curStatus? = some .runnable := by decide +kernel
set_option maxRecDepth 65536 in
theorem w_alone : about1.alone = true := by decide +kernel
set_option maxRecDepth 65536 in
theorem w_named : about1.methodNamed? x = some theMethod := by decide +kernel
set_option maxRecDepth 65536 in
theorem w_hears : about1.hears theMethod below0 = true := by decide +kernel
set_option maxRecDepth 65536 in
theorem w_ripe : about1.ripe theMethod args0 below0 = true := by decide +kernel
theorem w_running : about1.status = .running := rfl
set_option maxRecDepth 65536 in
theorem w_room : about1.hasRoom e0.platform room_1 = true :=
  launch0.hasRoom_least _ room_1 (by decide +kernel) (by decide +kernel) (by decide +kernel) (by decide +kernel) (by decide +kernel) (by decide +kernel)
theorem allAtoms_all (ts : List Jvm.Cond) (a : Array Jvm.Value) (st : Jvm.State) : (allAtoms ts).before a st = ts.all (fun c => c.before a st) := by
  induction ts with
  | nil => rfl
  | cons c t ih =>
    show (Jvm.Cond.and c (allAtoms t)).before a st = _
    rw [Jvm.Cond.before_and, ih, List.all_cons]
def words1 : List Jvm.Cond := Jvm.Cond.code x code maxLocals ret :: tables_1
/-- a 'code' word, met by the world's own term for the bytes: nothing is compared byte by byte -/
theorem code_word {y : MethodName} {bytes : ByteArray} {mx : Nat} {rt : Option FieldType} {a : Array Value} {s : State} {m : MethodId} {meth : Method} {c : Code} (h1 : s.methodNamed? y = some m) (h2 : s.vm.method? m = some meth) (h3 : meth.code = some c) (h4 : c.code = bytes)
    (h5 : (c.maxLocals == mx && c.exceptionTable.isEmpty && decide (c.maxStack ≤ mostOperands) && decide (meth.sig.returnType = rt) && !meth.locks && decide (parseMethodDescriptor y.desc = some meth.sig)) = true) : (Jvm.Cond.code y bytes mx rt).before a s = true := by
  simp only [Bool.and_eq_true, beq_iff_eq, Bool.not_eq_true', decide_eq_true_eq] at h5
  obtain ⟨⟨⟨⟨⟨g1, g2⟩, g3⟩, g4⟩, g5⟩, g6⟩ := h5
  simp [Cond.before, Cond.holds, Cond.value, h1, h2, h3, h4, g1, g2, g3, g4, g5, g6]
def isCode : Jvm.Cond → Bool
  | .code _ _ _ _ => true
  | _ => false
theorem all_split {L : List Jvm.Cond} {P : Jvm.Cond → Bool} (h1 : L.all (fun c => isCode c || P c) = true) (h2 : ∀ c ∈ L.filter isCode, P c = true) : L.all P = true := by
  refine List.all_eq_true.mpr fun c hc => ?_
  have h := List.all_eq_true.mp h1 c hc
  rcases Bool.eq_false_or_eq_true (isCode c) with hi | hi
  · exact h2 c (List.mem_filter.mpr ⟨hc, hi⟩)
  · simpa [hi] using h
set_option maxRecDepth 65536 in
theorem w_c0 : (Jvm.Cond.code x code maxLocals ret).before args0 about1 = true := code_word (m := ⟨1, 1⟩) (meth := k1m1) (c := k1c1) (by decide +kernel) rfl rfl rfl (by decide +kernel)
set_option maxRecDepth 65536 in
theorem w_c1 : (Jvm.Cond.code ({ cls := "com/example/lienledger/lienledger/io/Checksum", name := "<init>", desc := "(JJ)V" } : Jvm.MethodName) prog_17_method_1_code (5 : Nat) (Option.none : Option Jvm.ClassFile.FieldType)).before args0 about1 = true := code_word (m := ⟨3, 0⟩) (meth := k3m0) (c := k3c0) (by decide +kernel) rfl rfl rfl (by decide +kernel)
set_option maxRecDepth 65536 in
theorem w_c2 : (Jvm.Cond.code ({ cls := "java/lang/Record", name := "<init>", desc := "()V" } : Jvm.MethodName) jdk_30_method_1_code (1 : Nat) (Option.none : Option Jvm.ClassFile.FieldType)).before args0 about1 = true := code_word (m := ⟨2, 0⟩) (meth := k2m0) (c := k2c0) (by decide +kernel) rfl rfl rfl (by decide +kernel)
set_option maxRecDepth 65536 in
theorem w_c3 : (Jvm.Cond.code ({ cls := "java/lang/Object", name := "<init>", desc := "()V" } : Jvm.MethodName) object_method_1_code (1 : Nat) (Option.none : Option Jvm.ClassFile.FieldType)).before args0 about1 = true := code_word (m := ⟨0, 0⟩) (meth := k0m0) (c := k0c0) (by decide +kernel) rfl rfl rfl (by decide +kernel)
set_option maxRecDepth 65536 in
theorem w_c4 : (Jvm.Cond.code ({ cls := "com/example/lienledger/lienledger/io/Checksum", name := "equals", desc := "(Ljava/lang/Object;)Z" } : Jvm.MethodName) prog_17_method_3_code (3 : Nat) (Option.some Jvm.ClassFile.FieldType.boolean)).before args0 about1 = true := code_word (m := ⟨3, 1⟩) (meth := k3m1) (c := k3c1) (by decide +kernel) rfl rfl rfl (by decide +kernel)
set_option maxRecDepth 65536 in
theorem w_c5 : (Jvm.Cond.code ({ cls := "java/lang/Long", name := "valueOf", desc := "(J)Ljava/lang/Long;" } : Jvm.MethodName) jdk_35_method_24_code (3 : Nat) (Option.some (Jvm.ClassFile.FieldType.object "java/lang/Long"))).before args0 about1 = true := code_word (m := ⟨9, 0⟩) (meth := k9m0) (c := k9c0) (by decide +kernel) rfl rfl rfl (by decide +kernel)
set_option maxRecDepth 65536 in
theorem w_c6 : (Jvm.Cond.code ({ cls := "java/lang/Long", name := "<init>", desc := "(J)V" } : Jvm.MethodName) jdk_35_method_26_code (3 : Nat) (Option.none : Option Jvm.ClassFile.FieldType)).before args0 about1 = true := code_word (m := ⟨9, 1⟩) (meth := k9m1) (c := k9c1) (by decide +kernel) rfl rfl rfl (by decide +kernel)
set_option maxRecDepth 65536 in
theorem w_c7 : (Jvm.Cond.code ({ cls := "java/lang/Number", name := "<init>", desc := "()V" } : Jvm.MethodName) jdk_18_method_1_code (1 : Nat) (Option.none : Option Jvm.ClassFile.FieldType)).before args0 about1 = true := code_word (m := ⟨5, 0⟩) (meth := k5m0) (c := k5c0) (by decide +kernel) rfl rfl rfl (by decide +kernel)
def codes1 : List Jvm.Cond := [Jvm.Cond.code x code maxLocals ret, Jvm.Cond.code ({ cls := "com/example/lienledger/lienledger/io/Checksum", name := "<init>", desc := "(JJ)V" } : Jvm.MethodName) prog_17_method_1_code (5 : Nat) (Option.none : Option Jvm.ClassFile.FieldType), Jvm.Cond.code ({ cls := "java/lang/Record", name := "<init>", desc := "()V" } : Jvm.MethodName) jdk_30_method_1_code (1 : Nat) (Option.none : Option Jvm.ClassFile.FieldType), Jvm.Cond.code ({ cls := "java/lang/Object", name := "<init>", desc := "()V" } : Jvm.MethodName) object_method_1_code (1 : Nat) (Option.none : Option Jvm.ClassFile.FieldType), Jvm.Cond.code ({ cls := "com/example/lienledger/lienledger/io/Checksum", name := "equals", desc := "(Ljava/lang/Object;)Z" } : Jvm.MethodName) prog_17_method_3_code (3 : Nat) (Option.some Jvm.ClassFile.FieldType.boolean), Jvm.Cond.code ({ cls := "java/lang/Long", name := "valueOf", desc := "(J)Ljava/lang/Long;" } : Jvm.MethodName) jdk_35_method_24_code (3 : Nat) (Option.some (Jvm.ClassFile.FieldType.object "java/lang/Long")), Jvm.Cond.code ({ cls := "java/lang/Long", name := "<init>", desc := "(J)V" } : Jvm.MethodName) jdk_35_method_26_code (3 : Nat) (Option.none : Option Jvm.ClassFile.FieldType), Jvm.Cond.code ({ cls := "java/lang/Number", name := "<init>", desc := "()V" } : Jvm.MethodName) jdk_18_method_1_code (1 : Nat) (Option.none : Option Jvm.ClassFile.FieldType)]
set_option maxRecDepth 65536 in
theorem codes_eq : words1.filter isCode = codes1 := rfl
theorem w_codes : ∀ c ∈ words1.filter isCode, c.before args0 about1 = true := by
  rw [codes_eq]
  intro c hc
  simp only [codes1, List.mem_cons, List.not_mem_nil, or_false] at hc
  rcases hc with rfl | rfl | rfl | rfl | rfl | rfl | rfl | rfl
  · exact w_c0
  · exact w_c1
  · exact w_c2
  · exact w_c3
  · exact w_c4
  · exact w_c5
  · exact w_c6
  · exact w_c7
set_option maxRecDepth 65536 in
theorem w_t1 : (words1.take 24).all (fun c => isCode c || c.before args0 about1) = true := by decide +kernel
set_option maxRecDepth 65536 in
theorem w_t2 : ((words1.drop 24).take 24).all (fun c => isCode c || c.before args0 about1) = true := by decide +kernel
set_option maxRecDepth 65536 in
theorem w_t3 : ((words1.drop 24).drop 24).all (fun c => isCode c || c.before args0 about1) = true := by decide +kernel
theorem w_tables : (allAtoms (Jvm.Cond.code x code maxLocals ret :: tables_1)).before args0 about1 = true := by
  rw [allAtoms_all]
  show words1.all (fun c => c.before args0 about1) = true
  refine all_split ?_ w_codes
  rw [← List.take_append_drop 24 words1, List.all_append, w_t1, ← List.take_append_drop 24 (words1.drop 24), List.all_append, w_t2, w_t3]
  rfl
set_option maxRecDepth 65536 in
theorem w_rest : rest_1_c.before args0 about1 = true := by decide +kernel
set_option maxRecDepth 65536 in
theorem w_case : (Jvm.Cond.and given_1 narrow_1).before args0 about1 = true := by decide +kernel
theorem w_applies : (headSpec (Jvm.Cond.code x code maxLocals ret :: tables_1) room_1).applies x e0.platform about1 = true :=
  (Spec.applies_iff w_frames).mpr ⟨w_running, w_runnable, w_alone, w_named, w_hears, w_ripe, w_room, w_tables⟩
theorem atStart : AtStart classFile x code maxLocals ret World_1 tables_1 room_1 Calls_1 rest_1 Pre_1 launch0 p0 e0 about1 theMethod args0 below0 :=
  ⟨lists_1, trivial, launch0.admits_env _ _ _, launch0.least_env, fairChoices_fair.cas, fairChoices_fair.clock, w_frames, w_args, w_heap, w_applies, trivial, w_rest, w_case⟩
end start1
theorem witness_1 : WitnessClaimed_1 := ⟨start1.p0, start1.e0, start1.about1, start1.theMethod, start1.args0, start1.below0, start1.atStart⟩
end Jvm.Pilot.@@N@@
