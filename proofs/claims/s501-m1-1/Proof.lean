import JvmDerived
import JvmDerived.Pilot.@@N@@Statement
import JvmDerived.Pilot.@@N@@Code
set_option linter.unusedVariables false
set_option linter.unusedSimpArgs false
namespace Jvm.RoadKit
open Sem ClassFile Op Lib Jvm.Stand Jvm.Free Jvm.LawKit
section New
variable {p : Program} {l : Launch} {e : Env} {R : Room} {s : State} {m : MethodId} {args : Array Value} {below : List Frame} {meth : Method} {c : Code} {T : State} {locs : List Loc} {cells slots : Nat}
theorem own_retI (X : Stand p l e R s m args below meth c T locs cells slots) (hx : p.tables.exec = Jvm.exec) {pc : Nat} {Ls : Array Slot} {z : Int32} {rest : List Value} (hret : meth.sig.returnType = some .int) (hd : decode c.code pc = .ok (.ireturn, 1)) {fs : List Frame}
    (hl : ∀ (f : JFrame) (acts : List Action), f.method = m → f.locked = none → f.entered = [] → (doReturn e (T.setTop f) acts (some (.int z))).1 = T.setFrames fs) : Steps p.tables e below (T.setTop (mkF m pc Ls (.int z :: rest))) (T.setFrames fs) :=
  retOut X hx hret rfl (Or.inl ⟨rfl, Or.inl rfl, z, rfl⟩) hd hl
theorem own_retJ (X : Stand p l e R s m args below meth c T locs cells slots) (hx : p.tables.exec = Jvm.exec) {pc : Nat} {Ls : Array Slot} {z : Int64} {rest : List Value} (hret : meth.sig.returnType = some .long) (hd : decode c.code pc = .ok (.lreturn, 1)) {fs : List Frame}
    (hl : ∀ (f : JFrame) (acts : List Action), f.method = m → f.locked = none → f.entered = [] → (doReturn e (T.setTop f) acts (some (.long z))).1 = T.setFrames fs) : Steps p.tables e below (T.setTop (mkF m pc Ls (.long z :: rest))) (T.setFrames fs) :=
  retOut X hx hret rfl (Or.inr (Or.inl ⟨rfl, rfl, z, rfl⟩)) hd hl
theorem own_retA (X : Stand p l e R s m args below meth c T locs cells slots) (hx : p.tables.exec = Jvm.exec) {pc : Nat} {Ls : Array Slot} {w : Value} {t : FieldType} {rest : List Value} (hret : meth.sig.returnType = some t) (hn : narrow t w = w) (ht : t.isReference = true) (hw : w.isRef = true) (hd : decode c.code pc = .ok (.areturn, 1)) {fs : List Frame}
    (hl : ∀ (f : JFrame) (acts : List Action), f.method = m → f.locked = none → f.entered = [] → (doReturn e (T.setTop f) acts (some w)).1 = T.setFrames fs) : Steps p.tables e below (T.setTop (mkF m pc Ls (w :: rest))) (T.setFrames fs) :=
  retOut X hx hret hn (Or.inr (Or.inr (Or.inr (Or.inr ⟨rfl, ht, hw⟩)))) hd hl
end New
abbrev OwnGo (tb : Tables) (e : Env) (below : List Frame) (K : State → Outcome → Prop) (st : State) : Prop := ∃ s₂ o, Steps tb e below st s₂ ∧ s₂.status = .running ∧ Ended s₂ below o ∧ K s₂ o
theorem OwnGo.back {tb : Tables} {e : Env} {below : List Frame} {K : State → Outcome → Prop} {st : State} (st' : State) (h : ∀ t, Steps tb e below st' t → Steps tb e below st t) (g : OwnGo tb e below K st') : OwnGo tb e below K st := by
  obtain ⟨s₂, o, h1, h2⟩ := g
  exact ⟨s₂, o, h _ h1, h2⟩
abbrev OwnMg (tb : Tables) (e : Env) (below : List Frame) (D : State → Prop) (st : State) : Prop := ∃ st', D st' ∧ ∀ t, Steps tb e below st' t → Steps tb e below st t
theorem OwnMg.back {tb : Tables} {e : Env} {below : List Frame} {D : State → Prop} {st : State} (st' : State) (h : ∀ t, Steps tb e below st' t → Steps tb e below st t) (g : OwnMg tb e below D st') : OwnMg tb e below D st := by
  obtain ⟨s₂, h1, h2⟩ := g
  exact ⟨s₂, h1, fun t k => h t (h2 t k)⟩
theorem own_not {P Q : Prop} (h : P ↔ Q) (n : ¬ Q) : ¬ P := fun q => n (h.mp q)
theorem own_ne {a b n : Nat} (h : a < n) (q : b = n) : a ≠ b := Nat.ne_of_lt (q ▸ h)
theorem own_ne' {a b n : Nat} (h : a < n) (q : n ≤ b) : a ≠ b := Nat.ne_of_lt (Nat.lt_of_lt_of_le h q)
end Jvm.RoadKit
namespace Jvm.Pilot.@@N@@
open Jvm Jvm.ClassFile Sem Op Lib Jvm.Free Jvm.Stand Jvm.LawKit Jvm.RoadKit Bundle Jvm.Pilot.@@N@@.Jvm.D
theorem own_pn0 : plainName "java/lang/Number" = true := by first | (simp [plainName, overriddenIn]; done) | decide +kernel
theorem own_d6_0 : decode jdk_18_method_1_code 0 = .ok (.aload_n 0, 1) := by decide +kernel
theorem own_d6_1 : decode jdk_18_method_1_code 1 = .ok (.invokespecial 1, 3) := by decide +kernel
theorem own_d6_4 : decode jdk_18_method_1_code 4 = .ok (.return_, 1) := by decide +kernel
theorem own_pn1 : plainName "java/lang/Long" = true := by first | (simp [plainName, overriddenIn]; done) | decide +kernel
theorem own_d5_0 : decode jdk_35_method_26_code 0 = .ok (.aload_n 0, 1) := by decide +kernel
theorem own_d5_1 : decode jdk_35_method_26_code 1 = .ok (.invokespecial 270, 3) := by decide +kernel
theorem own_pd0 : parseMethodDescriptor "()V" = some ⟨[], none⟩ := by decide +kernel
theorem own_d5_4 : decode jdk_35_method_26_code 4 = .ok (.aload_n 0, 1) := by decide +kernel
theorem own_d5_5 : decode jdk_35_method_26_code 5 = .ok (.lload_n 1, 1) := by decide +kernel
theorem own_d5_6 : decode jdk_35_method_26_code 6 = .ok (.putfield 273, 3) := by decide +kernel
theorem own_d5_9 : decode jdk_35_method_26_code 9 = .ok (.return_, 1) := by decide +kernel
theorem own_d4_0 : decode jdk_35_method_24_code 0 = .ok (.sipush 128, 3) := by decide +kernel
theorem own_d4_3 : decode jdk_35_method_24_code 3 = .ok (.istore_n 2, 1) := by decide +kernel
theorem own_d4_4 : decode jdk_35_method_24_code 4 = .ok (.lload_n 0, 1) := by decide +kernel
theorem own_d4_5 : decode jdk_35_method_24_code 5 = .ok (.ldc2_w 230, 3) := by decide +kernel
theorem own_d4_8 : decode jdk_35_method_24_code 8 = .ok (.lcmp, 1) := by decide +kernel
theorem own_d4_9 : decode jdk_35_method_24_code 9 = .ok (.ifCond .lt 22, 3) := by decide +kernel
theorem own_d4_31 : decode jdk_35_method_24_code 31 = .ok (.new 1, 3) := by decide +kernel
theorem own_d4_34 : decode jdk_35_method_24_code 34 = .ok (.dup, 1) := by decide +kernel
theorem own_d4_35 : decode jdk_35_method_24_code 35 = .ok (.lload_n 0, 1) := by decide +kernel
theorem own_d4_36 : decode jdk_35_method_24_code 36 = .ok (.invokespecial 240, 3) := by decide +kernel
theorem own_pd1 : parseMethodDescriptor "(J)V" = some ⟨[.long], none⟩ := by decide +kernel
theorem own_d4_39 : decode jdk_35_method_24_code 39 = .ok (.areturn, 1) := by decide +kernel
theorem own_d4_12 : decode jdk_35_method_24_code 12 = .ok (.lload_n 0, 1) := by decide +kernel
theorem own_d4_13 : decode jdk_35_method_24_code 13 = .ok (.ldc2_w 232, 3) := by decide +kernel
theorem own_d4_16 : decode jdk_35_method_24_code 16 = .ok (.lcmp, 1) := by decide +kernel
theorem own_d4_17 : decode jdk_35_method_24_code 17 = .ok (.ifCond .gt 14, 3) := by decide +kernel
theorem own_d4_20 : decode jdk_35_method_24_code 20 = .ok (.getstatic 234, 3) := by decide +kernel
theorem own_d4_23 : decode jdk_35_method_24_code 23 = .ok (.lload_n 0, 1) := by decide +kernel
theorem own_d4_24 : decode jdk_35_method_24_code 24 = .ok (.l2i, 1) := by decide +kernel
theorem own_d4_25 : decode jdk_35_method_24_code 25 = .ok (.sipush 128, 3) := by decide +kernel
theorem own_d4_28 : decode jdk_35_method_24_code 28 = .ok (.iadd, 1) := by decide +kernel
theorem own_d4_29 : decode jdk_35_method_24_code 29 = .ok (.aaload, 1) := by decide +kernel
theorem own_d4_30 : decode jdk_35_method_24_code 30 = .ok (.areturn, 1) := by decide +kernel
theorem own_pn2 : plainName "com/example/tallyframe/tallyframe/Tally" = true := by first | (simp [plainName, overriddenIn]; done) | decide +kernel
theorem own_d1_0 : decode prog_24_method_1_code 0 = .ok (.aload_n 0, 1) := by decide +kernel
theorem own_d1_1 : decode prog_24_method_1_code 1 = .ok (.invokespecial 1, 3) := by decide +kernel
theorem own_d1_4 : decode prog_24_method_1_code 4 = .ok (.aload_n 0, 1) := by decide +kernel
theorem own_d1_5 : decode prog_24_method_1_code 5 = .ok (.lload_n 1, 1) := by decide +kernel
theorem own_d1_6 : decode prog_24_method_1_code 6 = .ok (.putfield 7, 3) := by decide +kernel
theorem own_d1_9 : decode prog_24_method_1_code 9 = .ok (.aload_n 0, 1) := by decide +kernel
theorem own_d1_10 : decode prog_24_method_1_code 10 = .ok (.lload_n 3, 1) := by decide +kernel
theorem own_d1_11 : decode prog_24_method_1_code 11 = .ok (.putfield 13, 3) := by decide +kernel
theorem own_d1_14 : decode prog_24_method_1_code 14 = .ok (.aload_n 0, 1) := by decide +kernel
theorem own_d1_15 : decode prog_24_method_1_code 15 = .ok (.lload 5, 2) := by decide +kernel
theorem own_d1_17 : decode prog_24_method_1_code 17 = .ok (.putfield 16, 3) := by decide +kernel
theorem own_d1_20 : decode prog_24_method_1_code 20 = .ok (.aload_n 0, 1) := by decide +kernel
theorem own_d1_21 : decode prog_24_method_1_code 21 = .ok (.lload 7, 2) := by decide +kernel
theorem own_d1_23 : decode prog_24_method_1_code 23 = .ok (.putfield 19, 3) := by decide +kernel
theorem own_d1_26 : decode prog_24_method_1_code 26 = .ok (.return_, 1) := by decide +kernel
theorem own_d3_0 : decode prog_24_method_8_code 0 = .ok (.aload_n 1, 1) := by decide +kernel
theorem own_d3_1 : decode prog_24_method_8_code 1 = .ok (.instanceof 8, 3) := by decide +kernel
theorem own_d3_4 : decode prog_24_method_8_code 4 = .ok (.ifCond .eq 60, 3) := by decide +kernel
theorem own_d3_64 : decode prog_24_method_8_code 64 = .ok (.iconst 0, 1) := by decide +kernel
theorem own_d3_65 : decode prog_24_method_8_code 65 = .ok (.ireturn, 1) := by decide +kernel
theorem own_d3_7 : decode prog_24_method_8_code 7 = .ok (.aload_n 1, 1) := by decide +kernel
theorem own_d3_8 : decode prog_24_method_8_code 8 = .ok (.checkcast 8, 3) := by decide +kernel
theorem own_d3_11 : decode prog_24_method_8_code 11 = .ok (.astore_n 2, 1) := by decide +kernel
theorem own_d3_12 : decode prog_24_method_8_code 12 = .ok (.aload_n 0, 1) := by decide +kernel
theorem own_d3_13 : decode prog_24_method_8_code 13 = .ok (.getfield 7, 3) := by decide +kernel
theorem own_d3_16 : decode prog_24_method_8_code 16 = .ok (.aload_n 2, 1) := by decide +kernel
theorem own_d3_17 : decode prog_24_method_8_code 17 = .ok (.getfield 7, 3) := by decide +kernel
theorem own_d3_20 : decode prog_24_method_8_code 20 = .ok (.lcmp, 1) := by decide +kernel
theorem own_d3_21 : decode prog_24_method_8_code 21 = .ok (.ifCond .ne 43, 3) := by decide +kernel
theorem own_d3_24 : decode prog_24_method_8_code 24 = .ok (.aload_n 0, 1) := by decide +kernel
theorem own_d3_25 : decode prog_24_method_8_code 25 = .ok (.getfield 13, 3) := by decide +kernel
theorem own_d3_28 : decode prog_24_method_8_code 28 = .ok (.aload_n 2, 1) := by decide +kernel
theorem own_d3_29 : decode prog_24_method_8_code 29 = .ok (.getfield 13, 3) := by decide +kernel
theorem own_d3_32 : decode prog_24_method_8_code 32 = .ok (.lcmp, 1) := by decide +kernel
theorem own_d3_33 : decode prog_24_method_8_code 33 = .ok (.ifCond .ne 31, 3) := by decide +kernel
theorem own_d3_36 : decode prog_24_method_8_code 36 = .ok (.aload_n 0, 1) := by decide +kernel
theorem own_d3_37 : decode prog_24_method_8_code 37 = .ok (.getfield 16, 3) := by decide +kernel
theorem own_d3_40 : decode prog_24_method_8_code 40 = .ok (.aload_n 2, 1) := by decide +kernel
theorem own_d3_41 : decode prog_24_method_8_code 41 = .ok (.getfield 16, 3) := by decide +kernel
theorem own_d3_44 : decode prog_24_method_8_code 44 = .ok (.lcmp, 1) := by decide +kernel
theorem own_d3_45 : decode prog_24_method_8_code 45 = .ok (.ifCond .ne 19, 3) := by decide +kernel
theorem own_d3_48 : decode prog_24_method_8_code 48 = .ok (.aload_n 0, 1) := by decide +kernel
theorem own_d3_49 : decode prog_24_method_8_code 49 = .ok (.getfield 19, 3) := by decide +kernel
theorem own_d3_52 : decode prog_24_method_8_code 52 = .ok (.aload_n 2, 1) := by decide +kernel
theorem own_d3_53 : decode prog_24_method_8_code 53 = .ok (.getfield 19, 3) := by decide +kernel
theorem own_d3_56 : decode prog_24_method_8_code 56 = .ok (.lcmp, 1) := by decide +kernel
theorem own_d3_57 : decode prog_24_method_8_code 57 = .ok (.ifCond .ne 7, 3) := by decide +kernel
theorem own_d3_60 : decode prog_24_method_8_code 60 = .ok (.iconst 1, 1) := by decide +kernel
theorem own_d3_61 : decode prog_24_method_8_code 61 = .ok (.goto 4, 3) := by decide +kernel
theorem own_pn3 : plainName "com/example/tallyframe/tallyframe/TallyEqualsPinLaw" = true := by first | (simp [plainName, overriddenIn]; done) | decide +kernel
theorem own_pd2 : parseMethodDescriptor "(JJJJ)V" = some ⟨[.long, .long, .long, .long], none⟩ := by decide +kernel
theorem own_pd3 : parseMethodDescriptor "(Ljava/lang/Object;)Z" = some ⟨[(.object "java/lang/Object")], some .boolean⟩ := by decide +kernel
theorem own_pd4 : parseMethodDescriptor "(J)Ljava/lang/Long;" = some ⟨[.long], some (.object "java/lang/Long")⟩ := by decide +kernel
theorem own_nsroot {Z : State} {a0 : Array Value} {O K : String} {n : Nat} (w : (Jvm.Cond.noSuperclass O).before a0 Z = true) (wk : (Jvm.Cond.instantiable K n).before a0 Z = true) (hn : O ≠ K) : NS Z O K := by
  obtain ⟨c, k, h1, h2, h3, -⟩ := Cond.noSuperclass_spec w
  obtain ⟨t, kt, g1, -⟩ := Cond.instantiable_spec wk
  refine ⟨c, t, h1, g1, fun fuel => ?_⟩
  cases fuel with
  | zero => rfl
  | succ f => simp [Vm.isSubclassAux, ids_ne h1 g1 hn, h2, h3]
theorem own_nsno {Z : State} {a0 : Array Value} {C S K : String} {n : Nat} (w : (Jvm.Cond.superclass C S).before a0 Z = true) (wk : (Jvm.Cond.instantiable K n).before a0 Z = true) (q : NS Z C K) (hn : C ≠ K) : ∃ c t, Z.vm.findClass C = some c ∧ Z.vm.findClass K = some t ∧ Z.vm.assignable c t = false := by
  obtain ⟨c, t, h0, g0, n3⟩ := q
  obtain ⟨p, k, kp, h1, h2, h3, h4, h5, -⟩ := Cond.superclass_spec h0 w
  obtain ⟨t', kt, g1, g2, g3, g4, -⟩ := Cond.instantiable_spec wk
  cases g0.symm.trans g1
  have gi : kt.isInterface = false := (Bool.or_eq_false_iff.mp g4).1
  refine ⟨c, t, h0, g0, ?_⟩
  show Z.vm.assignableAux (255 + 1) c t = false
  simp [Vm.assignableAux, ids_ne h0 g0 hn, h2, g2, h5, g3, gi, Vm.isSubclass, n3]
theorem own_eqI {args : Array Value} {first s : State} {o : Option Outcome} {idx : List Nat} {t : Term} {k : Int32} (h : (Jvm.Cond.eq t (.int k)).value args first o s idx = some true) : t.eval args first o idx s = some (.int k) := by
  obtain ⟨x, y, h1, h2, k1, k2⟩ := cmp_v (Or.inl h)
  have e : y = .int k := Option.some.inj (h2.symm.trans rfl)
  subst e
  obtain ⟨z, rfl⟩ := k2
  have q : z = k := by simpa [Cond.value, h1, h2] using h
  rw [h1, q]
theorem own_size {args : Array Value} {s : State} {t : Term} {a : Addr} {cl : Cell} {ty : FieldType} (ht : t.eval args s none [] s = some (.ref a)) (A : Arr s s.heap a cl ty) (h : (Jvm.Cond.eq (.length t) (.int 256)).value args s none s [] = some true) : cl.slots.size = 256 ∧ cl.slots.size < 2 ^ 31 := by
  have q := own_eqI h
  have h3 : cl.slots.size < 2 ^ 31 := by
    rcases Decidable.em (cl.slots.size < 2 ^ 31) with h' | h'
    · exact h'
    · simp [Term.eval, ht, A.fin (Vm.Alike.refl _), h'] at q
  have h4 := Value.int.inj (Option.some.inj ((len_f ht (A.fin (Vm.Alike.refl _)) h3).symm.trans q))
  have e := len_toInt h3
  rw [h4] at e
  have : (256 : Int32).toInt = 256 := rfl
  exact ⟨by omega, h3⟩
/-- an array of boxes that stood at the start: its length, and that each place holds an object of that class -/
def own_Box (Z : State) (ca : Addr) (B : String) : Prop := ∃ cl : Cell, Arr Z Z.heap ca cl (.object B) ∧ cl.slots.size = 256 ∧ ∀ j : Int32, ¬ (j < 0 ∨ cl.slots.size ≤ j.toNatClampNeg) → ∃ y, cl.slots[j.toNatClampNeg]? = some (.ref y) ∧ Exa Z Z.heap y B
theorem own_box {args : Array Value} {s : State} {t : Term} {B : String} {X : Jvm.Cond} {ca : Addr} (ht : ∀ idx, t.eval args s none idx s = some (.ref ca)) (h1 : (Jvm.Cond.arrayOf t (.object B)).value args s none s [] = some true) (h2 : (Jvm.Cond.eq (.length t) (.int 256)).value args s none s [] = some true)
    (h3 : (Jvm.Cond.all t (.and (.exactly (.elem t (.index 0)) B) X)).value args s none s [] = some true) : own_Box s ca B := by
  obtain ⟨cl, A⟩ := Arr.start (ht []) h1
  have hA := A.fin (Vm.Alike.refl _)
  have hz := (own_size (ht []) A h2).1
  refine ⟨cl, A, hz, fun j hj => ?_⟩
  have q := (and_e (Cond.all_elim (ht []) hA h3 j.toNatClampNeg (Nat.lt_of_not_le fun u => hj (Or.inr u)))).1
  obtain ⟨y, ey⟩ := exa_v q
  have E := exa_at ey q
  rw [elem_f (ht _) (idx_at (fun u => hj (Or.inl u))) hA (fun u => hj (Or.inl u))] at ey
  exact ⟨y, ey, E⟩
theorem own_lidx {x : Int64} (h1 : ¬ x < (-128 : Int64)) (h2 : ¬ (127 : Int64) < x) : ¬ ((x.toInt32) + (128 : Int32) < 0 ∨ 256 ≤ ((x.toInt32) + (128 : Int32)).toNatClampNeg) := by
  have a := c_l2i x
  have r := rng32 x.toInt32
  have s := c_iadd x.toInt32 128
  have r2 := rng32 (x.toInt32 + 128)
  have rx := rng64 x
  have e : ((x.toInt32) + (128 : Int32)).toNatClampNeg = ((x.toInt32) + (128 : Int32)).toInt.toNat := rfl
  simp only [Int64.lt_iff_toInt_lt, Int32.lt_iff_toInt_lt, Int64.reduceToInt, Int32.reduceToInt] at *
  omega
theorem own_num_ef (m : MethodId) (x0 : Addr) : entryFrame m #[(.ref x0)] 1 = mkF m 0 #[.val (.ref x0)] [] := by first | (simp [entryFrame, mkF, argsToLocals, Value.category]; done) | rfl
def own_num_Q (Z : State) (a : Addr) (h0 : Heap) (n0 : Nat) (rv : Option Value) (hN : Heap) (LL : List Loc) : Prop := rv = none ∧ Fr n0 LL ∧ hN = h0
set_option maxRecDepth 65536 in
set_option maxHeartbeats 40000000 in
theorem own_num (l : Launch) (Z : State) (a0 : Array Value) (hw : ∀ d ∈ tables_1, d.before a0 Z = true) (ws : List Jvm.Cond) (a : Addr) (h0 : Heap) (n0 : Nat) (Z0 : n0 ≤ h0.size) :
    MetFree l (⟨"java/lang/Number", "<init>", "()V"⟩ : MethodName) (head1 (Jvm.Cond.code (⟨"java/lang/Number", "<init>", "()V"⟩ : MethodName) jdk_18_method_1_code 1 none :: ws) ({ frames := 1, cells := 0, slots := 0, locals := 12 } : Room)) (fun aa UU => aa = #[(.ref a)] ∧ Z.Warmed39 UU.vm ∧ UU.heap = h0) (fun _ _ _ _ _ => True) (fun _ UU oo UU' => ∃ rv LL, oo = .returned rv ∧ own_num_Q Z a h0 n0 rv UU'.heap LL ∧ FrameEnd UU oo UU' LL ({ frames := 1, cells := 0, slots := 0, locals := 12 } : Room).cells ({ frames := 1, cells := 0, slots := 0, locals := 12 } : Room).slots) := by
  refine MetFree.of_bodySF (plainFor_of_name own_pn0) hisR ?_
  intro p e s m args below meth c s₁ Bd hml0 hP hK
  obtain ⟨rfl, hZ, hh⟩ := hP
  have hx := Bd.exec
  have hby := Bd.bytes
  have hml : c.maxLocals = 1 := hml0
  have hown : s.vm.findClass "java/lang/Number" = some m.cls := findClass_of_methodNamed Bd.named
  have hnm := (name_of_methodNamed Bd.named Bd.method).1
  have X0 : Stand p l e ({ frames := 1, cells := 0, slots := 0, locals := 12 } : Room) s m #[(.ref a)] below meth c s₁ [] 0 0 := Stand.of_body Bd
  have e0 : s₁.heap = h0 := by rw [← hh, Bd.state]; rfl
  have N0 := Fr.nil n0
  have K0 : Keep h0 h0 [] := Keep.refl h0 _
  refine (?_ : OwnGo p.tables e below (fun UU' oo => ∃ rv LL, oo = .returned rv ∧ own_num_Q Z a h0 n0 rv UU'.heap LL ∧ FrameEnd s oo UU' LL ({ frames := 1, cells := 0, slots := 0, locals := 12 } : Room).cells ({ frames := 1, cells := 0, slots := 0, locals := 12 } : Room).slots) _)
  refine OwnGo.back (s₁.setTop (mkF m 0 #[.val (.ref a)] [])) (fun tg kk => castTop (own_num_ef m a) kk) ?_
  refine OwnGo.back (s₁.setTop (mkF m 1 #[.val (.ref a)] [(.ref a)])) (fun tg kk => XS.aloadN X0.here hx rfl (hb hby own_d6_0) rfl rfl kk) ?_
  obtain ⟨T1, X1, e1, st1⟩ := initO X0 hx hZ hown (hw _ (List.mem_of_getElem? (i := 42) rfl)) (hw _ (List.mem_of_getElem? (i := 7) rfl)) (hw _ (List.mem_of_getElem? (i := 8) rfl)) e0 (g := (mkF m 1 #[.val (.ref a)] [(.ref a)])) rfl (by rw [hml]; rfl) rfl (hb hby own_d6_1) (by decide) (W := 0) (by show 2 * 0 + _ ≤ _; exact Nat.le_of_eq rfl) (by decide)
  refine OwnGo.back (T1.setTop (mkF m 4 #[.val (.ref a)] [])) (fun tg kk => st1 _ kk) ?_
  obtain ⟨fs, hr, hrun, hended, hW, hsame⟩ := X1.leave (v := none) (fun _ => rfl)
  refine ⟨_, _, ?_, hrun, hended, _, _, rfl, ?_, ⟨_, rfl⟩, hW, hsame.mono (by decide) (by decide)⟩
  · exact X1.returnOut hx Bd.returns (hb hby own_d6_4) hr
  · show own_num_Q Z a h0 n0 _ T1.heap _
    rw [e1]
    exact ⟨rfl, N0, rfl⟩
theorem own_lini_ef (m : MethodId) (x0 : Addr) (x1 : Int64) : entryFrame m #[(.ref x0), (.long x1)] 3 = mkF m 0 #[.val (.ref x0), .val (.long x1), .second] [] := by first | (simp [entryFrame, mkF, argsToLocals, Value.category]; done) | rfl
def own_lini_Q (Z : State) (a : Addr) (x : Int64) (h0 : Heap) (n0 : Nat) (rv : Option Value) (hN : Heap) (LL : List Loc) : Prop := rv = none ∧ Fr n0 LL ∧ Keep h0 hN [a] ∧ Exa Z hN a "java/lang/Long" ∧ Fld Z hN a "java/lang/Long" "value" "J" (.long x)
set_option maxRecDepth 65536 in
set_option maxHeartbeats 40000000 in
theorem own_lini (l : Launch) (Z : State) (a0 : Array Value) (hw : ∀ d ∈ tables_1, d.before a0 Z = true) (ws : List Jvm.Cond) (a : Addr) (x : Int64) (h0 : Heap) (n0 : Nat) (Z0 : n0 ≤ h0.size) (E : Exa Z h0 a "java/lang/Long") (F : Fld Z h0 a "java/lang/Long" "value" "J" (.long (0 : Int64))) (g : n0 ≤ a) :
    MetFree l (⟨"java/lang/Long", "<init>", "(J)V"⟩ : MethodName) (head1 (Jvm.Cond.code (⟨"java/lang/Long", "<init>", "(J)V"⟩ : MethodName) jdk_35_method_26_code 3 none :: ws) ({ frames := 2, cells := 0, slots := 0, locals := 24 } : Room)) (fun aa UU => aa = #[(.ref a), (.long x)] ∧ Z.Warmed39 UU.vm ∧ UU.heap = h0) (fun _ _ _ _ _ => True) (fun _ UU oo UU' => ∃ rv LL, oo = .returned rv ∧ own_lini_Q Z a x h0 n0 rv UU'.heap LL ∧ FrameEnd UU oo UU' LL ({ frames := 2, cells := 0, slots := 0, locals := 24 } : Room).cells ({ frames := 2, cells := 0, slots := 0, locals := 24 } : Room).slots) := by
  refine MetFree.of_bodySF (plainFor_of_name own_pn1) hisR ?_
  intro p e s m args below meth c s₁ Bd hml0 hP hK
  obtain ⟨rfl, hZ, hh⟩ := hP
  have hx := Bd.exec
  have hby := Bd.bytes
  have hml : c.maxLocals = 3 := hml0
  have hown : s.vm.findClass "java/lang/Long" = some m.cls := findClass_of_methodNamed Bd.named
  have hnm := (name_of_methodNamed Bd.named Bd.method).1
  have X0 : Stand p l e ({ frames := 2, cells := 0, slots := 0, locals := 24 } : Room) s m #[(.ref a), (.long x)] below meth c s₁ [] 0 0 := Stand.of_body Bd
  have e0 : s₁.heap = h0 := by rw [← hh, Bd.state]; rfl
  have N0 := Fr.nil n0
  have K0 : Keep h0 h0 [a] := Keep.refl h0 _
  refine (?_ : OwnGo p.tables e below (fun UU' oo => ∃ rv LL, oo = .returned rv ∧ own_lini_Q Z a x h0 n0 rv UU'.heap LL ∧ FrameEnd s oo UU' LL ({ frames := 2, cells := 0, slots := 0, locals := 24 } : Room).cells ({ frames := 2, cells := 0, slots := 0, locals := 24 } : Room).slots) _)
  refine OwnGo.back (s₁.setTop (mkF m 0 #[.val (.ref a), .val (.long x), .second] [])) (fun tg kk => castTop (own_lini_ef m a x) kk) ?_
  refine OwnGo.back (s₁.setTop (mkF m 1 #[.val (.ref a), .val (.long x), .second] [(.ref a)])) (fun tg kk => XS.aloadN X0.here hx rfl (hb hby own_d5_0) rfl rfl kk) ?_
  obtain ⟨_, _, ⟨T1, L1, k1, n1⟩, -, X1, ⟨Lc1, hQ1, l1, y1, z1⟩, st1⟩ := X0.specialBack hx (y := (⟨"java/lang/Number", "<init>", "()V"⟩ : MethodName)) rfl hown (mvT hZ (hw _ (List.mem_of_getElem? (i := 36) rfl))) (mvT hZ (hw _ (List.mem_of_getElem? (i := 37) rfl))) (mvT hZ (hw _ (List.mem_of_getElem? (i := 41) rfl))) (by decide) (backOf (W := 0) (own_num l Z a0 hw [] a h0 n0 Z0 ) hZ (hw _ (List.mem_of_getElem? (i := 41) rfl)) (hw _ (List.mem_of_getElem? (i := 40) rfl)) (by decide) (by decide)) (g := (mkF m 1 #[.val (.ref a), .val (.long x), .second] [(.ref a)])) rfl (by rw [hml]; rfl) (Steps.refl _) (a := a) (argsL := []) (rest := []) (lenOf own_pd0 rfl) rfl (by show 2 * 0 + _ ≤ _; exact Nat.le_of_eq rfl) (hb hby own_d5_1) (fun _ _ => ⟨rfl, e0, (by decide : 0 + 0 ≤ _), (by decide : 0 + 0 ≤ _)⟩)
  dsimp only [Pt.U, Pt.locs, Pt.cells, Pt.slots] at X1 l1 y1 z1 st1 hQ1
  subst l1 y1 z1
  obtain ⟨rfl, N1q, e1⟩ := hQ1
  have N1 := Fr.app N0 N1q
  refine OwnGo.back (T1.setTop (mkF m 4 #[.val (.ref a), .val (.long x), .second] [])) (fun tg kk => st1.trans kk) ?_
  refine OwnGo.back (T1.setTop (mkF m 5 #[.val (.ref a), .val (.long x), .second] [(.ref a)])) (fun tg kk => XS.aloadN X1.here hx rfl (hb hby own_d5_4) rfl rfl kk) ?_
  refine OwnGo.back (T1.setTop (mkF m 6 #[.val (.ref a), .val (.long x), .second] [(.long x), (.ref a)])) (fun tg kk => XS.lloadN X1.here hx rfl (hb hby own_d5_5) rfl kk) ?_
  obtain ⟨T2, h2, X2, e2, W2, st2⟩ := putF X1 hx hZ hown (host := "") (Or.inl (hw _ (List.mem_of_getElem? (i := 43) rfl))) Via.refl e1 F E (Or.inr ⟨(hw _ (List.mem_of_getElem? (i := 44) rfl)), rfl, hnm⟩) (hw _ (List.mem_of_getElem? (i := 31) rfl)) (ty := .long) (by decide) rfl rfl (g := (mkF m 6 #[.val (.ref a), .val (.long x), .second] [(.long x), (.ref a)])) rfl rfl (hb hby own_d5_6)
  have f3 : Fld Z h2 a "java/lang/Long" "value" "J" (.long x) := F.same W2
  have f4 : Exa Z h2 a "java/lang/Long" := E.wr W2
  have K5 : Keep h0 h2 [a] := K0.wr W2 (Or.inl (List.mem_of_getElem? (i := 0) rfl))
  have Z6 : n0 ≤ h2.size := Nat.le_trans Z0 (Keep.of_wr W2).1
  have N7 := Fr.snoc X2 N1 g
  refine OwnGo.back (T2.setTop (mkF m 9 #[.val (.ref a), .val (.long x), .second] [])) (fun tg kk => st2 _ kk) ?_
  obtain ⟨fs, hr, hrun, hended, hW, hsame⟩ := X2.leave (v := none) (fun _ => rfl)
  refine ⟨_, _, ?_, hrun, hended, _, _, rfl, ?_, ⟨_, rfl⟩, hW, hsame.mono (by decide) (by decide)⟩
  · exact X2.returnOut hx Bd.returns (hb hby own_d5_9) hr
  · show own_lini_Q Z a x h0 n0 _ T2.heap _
    rw [e2]
    exact ⟨rfl, N7, K5, f4, f3⟩
theorem own_lval_ef (m : MethodId) (x0 : Int64) : entryFrame m #[(.long x0)] 3 = mkF m 0 #[.val (.long x0), .second, .unset] [] := by first | (simp [entryFrame, mkF, argsToLocals, Value.category]; done) | rfl
def own_lval_Q (Z : State) (x : Int64) (ca : Addr) (h0 : Heap) (n0 : Nat) (rv : Option Value) (hN : Heap) (LL : List Loc) : Prop := ∃ (b : Addr), rv = some (.ref b) ∧ Fr n0 LL ∧ Keep h0 hN [] ∧ Exa Z hN b "java/lang/Long"
set_option maxRecDepth 65536 in
set_option maxHeartbeats 40000000 in
theorem own_lval (l : Launch) (Z : State) (a0 : Array Value) (hw : ∀ d ∈ tables_1, d.before a0 Z = true) (ws : List Jvm.Cond) (x : Int64) (ca : Addr) (h0 : Heap) (n0 : Nat) (Z0 : n0 ≤ h0.size) (S : Sta Z Z.heap "java/lang/Long$LongCache" "cache" "[Ljava/lang/Long;" (.ref ca)) (old : Old Z n0 h0) (hB : own_Box Z ca "java/lang/Long") :
    MetFree l (⟨"java/lang/Long", "valueOf", "(J)Ljava/lang/Long;"⟩ : MethodName) (head1 (Jvm.Cond.code (⟨"java/lang/Long", "valueOf", "(J)Ljava/lang/Long;"⟩ : MethodName) jdk_35_method_24_code 3 (some (.object "java/lang/Long")) :: ws) ({ frames := 3, cells := 1, slots := 1, locals := 39 } : Room)) (fun aa UU => aa = #[(.long x)] ∧ Z.Warmed39 UU.vm ∧ UU.heap = h0) (fun _ _ _ _ _ => True) (fun _ UU oo UU' => ∃ rv LL, oo = .returned rv ∧ own_lval_Q Z x ca h0 n0 rv UU'.heap LL ∧ FrameEnd UU oo UU' LL ({ frames := 3, cells := 1, slots := 1, locals := 39 } : Room).cells ({ frames := 3, cells := 1, slots := 1, locals := 39 } : Room).slots) := by
  refine MetFree.of_bodySF (plainFor_of_name own_pn1) hisR ?_
  intro p e s m args below meth c s₁ Bd hml0 hP hK
  obtain ⟨rfl, hZ, hh⟩ := hP
  have hx := Bd.exec
  have hby := Bd.bytes
  have hml : c.maxLocals = 3 := hml0
  have hown : s.vm.findClass "java/lang/Long" = some m.cls := findClass_of_methodNamed Bd.named
  have hnm := (name_of_methodNamed Bd.named Bd.method).1
  have X0 : Stand p l e ({ frames := 3, cells := 1, slots := 1, locals := 39 } : Room) s m #[(.long x)] below meth c s₁ [] 0 0 := Stand.of_body Bd
  have e0 : s₁.heap = h0 := by rw [← hh, Bd.state]; rfl
  have N0 := Fr.nil n0
  have K0 : Keep h0 h0 [] := Keep.refl h0 _
  refine (?_ : OwnGo p.tables e below (fun UU' oo => ∃ rv LL, oo = .returned rv ∧ own_lval_Q Z x ca h0 n0 rv UU'.heap LL ∧ FrameEnd s oo UU' LL ({ frames := 3, cells := 1, slots := 1, locals := 39 } : Room).cells ({ frames := 3, cells := 1, slots := 1, locals := 39 } : Room).slots) _)
  refine OwnGo.back (s₁.setTop (mkF m 0 #[.val (.long x), .second, .unset] [])) (fun tg kk => castTop (own_lval_ef m x) kk) ?_
  refine OwnGo.back (s₁.setTop (mkF m 3 #[.val (.long x), .second, .unset] [(.int (128 : Int32))])) (fun tg kk => XS.sipush X0.here hx rfl (hb hby own_d4_0) kk) ?_
  refine OwnGo.back (s₁.setTop (mkF m 4 #[.val (.long x), .second, .val (.int (128 : Int32))] [])) (fun tg kk => XS.istoreN X0.here hx rfl (hb hby own_d4_3) rfl (l' := #[.val (.long x), .second, .val (.int (128 : Int32))]) rfl kk) ?_
  refine OwnGo.back (s₁.setTop (mkF m 5 #[.val (.long x), .second, .val (.int (128 : Int32))] [(.long x)])) (fun tg kk => XS.lloadN X0.here hx rfl (hb hby own_d4_4) rfl kk) ?_
  refine OwnGo.back (s₁.setTop (mkF m 8 #[.val (.long x), .second, .val (.int (128 : Int32))] [(.long (-128 : Int64)), (.long x)])) (fun tg kk => Jvm.Stand.ldc2J X0 hx hown (mvT hZ (hw _ (List.mem_of_getElem? (i := 28) rfl))) rfl (hb hby own_d4_5) kk) ?_
  refine OwnGo.back (s₁.setTop (mkF m 9 #[.val (.long x), .second, .val (.int (128 : Int32))] [(.int (lcmpW x (-128 : Int64)))])) (fun tg kk => XS.lcmp X0.here hx rfl (hb hby own_d4_8) rfl kk) ?_
  by_cases hc1 : x < (-128 : Int64)
  ·
    refine OwnGo.back (s₁.setTop (mkF m 31 #[.val (.long x), .second, .val (.int (128 : Int32))] [])) (fun tg kk => XS.ifYes X0.here hx rfl (pc0 := 9) (pc' := 31) rfl (hb hby own_d4_9) rfl ((if0 _ _).trans (tlt ((lw_lt _ _).mpr hc1)).1) (by decide) (by decide) kk) ?_
    obtain ⟨T2, h2, X2, e2, E2, A2, D2, -, st2⟩ := newO X0 hx hZ hown (hw _ (List.mem_of_getElem? (i := 30) rfl)) (hw _ (List.mem_of_getElem? (i := 31) rfl)) (hw _ (List.mem_of_getElem? (i := 26) rfl)) e0 (g := (mkF m 31 #[.val (.long x), .second, .val (.int (128 : Int32))] [])) rfl (hb hby own_d4_31) (by decide) (by decide)
    obtain ⟨b2, q2⟩ : ∃ z, z = h0.size := ⟨_, rfl⟩
    rw [← q2] at A2 D2 st2
    have g3 : n0 ≤ b2 := Nat.le_trans Z0 (Nat.le_of_eq q2.symm)
    have s4 : h0.size ≤ b2 := Nat.le_trans K0.1 (Nat.le_of_eq q2.symm)
    have f5 : Old Z n0 h2 := old.ext E2
    have K6 : Keep h0 h2 [] := K0.ext E2
    have Z7 : n0 ≤ h2.size := Nat.le_trans Z0 E2.1
    have f8 : Fld Z h2 b2 "java/lang/Long" "value" "J" (.long (0 : Int64)) := D2 (Or.inr (hw _ (List.mem_of_getElem? (i := 44) rfl))) (ty := .long) (by decide)
    refine OwnGo.back (T2.setTop (mkF m 34 #[.val (.long x), .second, .val (.int (128 : Int32))] [(.ref b2)])) (fun tg kk => st2 _ kk) ?_
    refine OwnGo.back (T2.setTop (mkF m 35 #[.val (.long x), .second, .val (.int (128 : Int32))] [(.ref b2), (.ref b2)])) (fun tg kk => XS.dup X2.here hx rfl (hb hby own_d4_34) rfl rfl kk) ?_
    refine OwnGo.back (T2.setTop (mkF m 36 #[.val (.long x), .second, .val (.int (128 : Int32))] [(.long x), (.ref b2), (.ref b2)])) (fun tg kk => XS.lloadN X2.here hx rfl (hb hby own_d4_35) rfl kk) ?_
    obtain ⟨_, _, ⟨T9, L9, k9, n9⟩, -, X9, ⟨Lc9, hQ9, l9, y9, z9⟩, st9⟩ := X2.specialBack hx (y := (⟨"java/lang/Long", "<init>", "(J)V"⟩ : MethodName)) rfl hown (mvT hZ (hw _ (List.mem_of_getElem? (i := 32) rfl))) (mvT hZ (hw _ (List.mem_of_getElem? (i := 33) rfl))) (mvT hZ (hw _ (List.mem_of_getElem? (i := 35) rfl))) (by decide) (backOf (W := 1) (own_lini l Z a0 hw [] b2 x h2 n0 Z7 A2 f8 g3) hZ (hw _ (List.mem_of_getElem? (i := 35) rfl)) (hw _ (List.mem_of_getElem? (i := 26) rfl)) (by decide) (by decide)) (g := (mkF m 36 #[.val (.long x), .second, .val (.int (128 : Int32))] [(.long x), (.ref b2), (.ref b2)])) rfl (by rw [hml]; rfl) (Steps.refl _) (a := b2) (argsL := [(.long x)]) (rest := [(.ref b2)]) (lenOf own_pd1 rfl) rfl (by show 2 * 0 + _ ≤ _; exact Nat.le_of_eq rfl) (hb hby own_d4_36) (fun _ _ => ⟨rfl, e2, (by decide : 1 + 0 ≤ _), (by decide : 1 + 0 ≤ _)⟩)
    dsimp only [Pt.U, Pt.locs, Pt.cells, Pt.slots] at X9 l9 y9 z9 st9 hQ9
    subst l9 y9 z9
    obtain ⟨rfl, N9q, Kc9, po10, po11⟩ := hQ9
    have N9 := Fr.app N0 N9q
    have f12 : Old Z n0 T9.heap := f5.keep Kc9 (allS g3 all0)
    have f13 : Exa Z T9.heap b2 "java/lang/Long" := A2.keep Kc9
    have K14 : Keep h0 T9.heap [] := K6.trans Kc9 (allS (Or.inr s4) all0)
    have Z15 : n0 ≤ T9.heap.size := Nat.le_trans Z7 Kc9.1
    refine OwnGo.back (T9.setTop (mkF m 39 #[.val (.long x), .second, .val (.int (128 : Int32))] [(.ref b2)])) (fun tg kk => st9.trans kk) ?_
    obtain ⟨fs, hr, hrun, hended, hW, hsame⟩ := X9.leave (v := some (.ref b2)) (fun h => by rw [Bd.returns] at h; cases h)
    refine ⟨_, _, ?_, hrun, hended, _, _, rfl, ?_, ⟨_, rfl⟩, hW, hsame.mono (by decide) (by decide)⟩
    · exact own_retA X9 hx Bd.returns rfl rfl rfl (hb hby own_d4_39) hr
    · show own_lval_Q Z x ca h0 n0 _ T9.heap _
      exact ⟨b2, rfl, N9, K14, po10⟩
  ·
    refine OwnGo.back (s₁.setTop (mkF m 12 #[.val (.long x), .second, .val (.int (128 : Int32))] [])) (fun tg kk => XS.ifNo X0.here hx rfl (hb hby own_d4_9) rfl ((if0 _ _).trans (flt (own_not (lw_lt _ _) hc1)).1) kk) ?_
    refine OwnGo.back (s₁.setTop (mkF m 13 #[.val (.long x), .second, .val (.int (128 : Int32))] [(.long x)])) (fun tg kk => XS.lloadN X0.here hx rfl (hb hby own_d4_12) rfl kk) ?_
    refine OwnGo.back (s₁.setTop (mkF m 16 #[.val (.long x), .second, .val (.int (128 : Int32))] [(.long (127 : Int64)), (.long x)])) (fun tg kk => Jvm.Stand.ldc2J X0 hx hown (mvT hZ (hw _ (List.mem_of_getElem? (i := 29) rfl))) rfl (hb hby own_d4_13) kk) ?_
    refine OwnGo.back (s₁.setTop (mkF m 17 #[.val (.long x), .second, .val (.int (128 : Int32))] [(.int (lcmpW x (127 : Int64)))])) (fun tg kk => XS.lcmp X0.here hx rfl (hb hby own_d4_16) rfl kk) ?_
    by_cases hc16 : (127 : Int64) < x
    ·
      refine OwnGo.back (s₁.setTop (mkF m 31 #[.val (.long x), .second, .val (.int (128 : Int32))] [])) (fun tg kk => XS.ifYes X0.here hx rfl (pc0 := 17) (pc' := 31) rfl (hb hby own_d4_17) rfl ((if0 _ _).trans (tlt ((lw_gt _ _).mpr hc16)).2.2.1) (by decide) (by decide) kk) ?_
      obtain ⟨T17, h17, X17, e17, E17, A17, D17, -, st17⟩ := newO X0 hx hZ hown (hw _ (List.mem_of_getElem? (i := 30) rfl)) (hw _ (List.mem_of_getElem? (i := 31) rfl)) (hw _ (List.mem_of_getElem? (i := 26) rfl)) e0 (g := (mkF m 31 #[.val (.long x), .second, .val (.int (128 : Int32))] [])) rfl (hb hby own_d4_31) (by decide) (by decide)
      obtain ⟨b17, q17⟩ : ∃ z, z = h0.size := ⟨_, rfl⟩
      rw [← q17] at A17 D17 st17
      have g18 : n0 ≤ b17 := Nat.le_trans Z0 (Nat.le_of_eq q17.symm)
      have s19 : h0.size ≤ b17 := Nat.le_trans K0.1 (Nat.le_of_eq q17.symm)
      have f20 : Old Z n0 h17 := old.ext E17
      have K21 : Keep h0 h17 [] := K0.ext E17
      have Z22 : n0 ≤ h17.size := Nat.le_trans Z0 E17.1
      have f23 : Fld Z h17 b17 "java/lang/Long" "value" "J" (.long (0 : Int64)) := D17 (Or.inr (hw _ (List.mem_of_getElem? (i := 44) rfl))) (ty := .long) (by decide)
      refine OwnGo.back (T17.setTop (mkF m 34 #[.val (.long x), .second, .val (.int (128 : Int32))] [(.ref b17)])) (fun tg kk => st17 _ kk) ?_
      refine OwnGo.back (T17.setTop (mkF m 35 #[.val (.long x), .second, .val (.int (128 : Int32))] [(.ref b17), (.ref b17)])) (fun tg kk => XS.dup X17.here hx rfl (hb hby own_d4_34) rfl rfl kk) ?_
      refine OwnGo.back (T17.setTop (mkF m 36 #[.val (.long x), .second, .val (.int (128 : Int32))] [(.long x), (.ref b17), (.ref b17)])) (fun tg kk => XS.lloadN X17.here hx rfl (hb hby own_d4_35) rfl kk) ?_
      obtain ⟨_, _, ⟨T24, L24, k24, n24⟩, -, X24, ⟨Lc24, hQ24, l24, y24, z24⟩, st24⟩ := X17.specialBack hx (y := (⟨"java/lang/Long", "<init>", "(J)V"⟩ : MethodName)) rfl hown (mvT hZ (hw _ (List.mem_of_getElem? (i := 32) rfl))) (mvT hZ (hw _ (List.mem_of_getElem? (i := 33) rfl))) (mvT hZ (hw _ (List.mem_of_getElem? (i := 35) rfl))) (by decide) (backOf (W := 1) (own_lini l Z a0 hw [] b17 x h17 n0 Z22 A17 f23 g18) hZ (hw _ (List.mem_of_getElem? (i := 35) rfl)) (hw _ (List.mem_of_getElem? (i := 26) rfl)) (by decide) (by decide)) (g := (mkF m 36 #[.val (.long x), .second, .val (.int (128 : Int32))] [(.long x), (.ref b17), (.ref b17)])) rfl (by rw [hml]; rfl) (Steps.refl _) (a := b17) (argsL := [(.long x)]) (rest := [(.ref b17)]) (lenOf own_pd1 rfl) rfl (by show 2 * 0 + _ ≤ _; exact Nat.le_of_eq rfl) (hb hby own_d4_36) (fun _ _ => ⟨rfl, e17, (by decide : 1 + 0 ≤ _), (by decide : 1 + 0 ≤ _)⟩)
      dsimp only [Pt.U, Pt.locs, Pt.cells, Pt.slots] at X24 l24 y24 z24 st24 hQ24
      subst l24 y24 z24
      obtain ⟨rfl, N24q, Kc24, po25, po26⟩ := hQ24
      have N24 := Fr.app N0 N24q
      have f27 : Old Z n0 T24.heap := f20.keep Kc24 (allS g18 all0)
      have f28 : Exa Z T24.heap b17 "java/lang/Long" := A17.keep Kc24
      have K29 : Keep h0 T24.heap [] := K21.trans Kc24 (allS (Or.inr s19) all0)
      have Z30 : n0 ≤ T24.heap.size := Nat.le_trans Z22 Kc24.1
      refine OwnGo.back (T24.setTop (mkF m 39 #[.val (.long x), .second, .val (.int (128 : Int32))] [(.ref b17)])) (fun tg kk => st24.trans kk) ?_
      obtain ⟨fs, hr, hrun, hended, hW, hsame⟩ := X24.leave (v := some (.ref b17)) (fun h => by rw [Bd.returns] at h; cases h)
      refine ⟨_, _, ?_, hrun, hended, _, _, rfl, ?_, ⟨_, rfl⟩, hW, hsame.mono (by decide) (by decide)⟩
      · exact own_retA X24 hx Bd.returns rfl rfl rfl (hb hby own_d4_39) hr
      · show own_lval_Q Z x ca h0 n0 _ T24.heap _
        exact ⟨b17, rfl, N24, K29, po25⟩
    ·
      refine OwnGo.back (s₁.setTop (mkF m 20 #[.val (.long x), .second, .val (.int (128 : Int32))] [])) (fun tg kk => XS.ifNo X0.here hx rfl (hb hby own_d4_17) rfl ((if0 _ _).trans (flt (own_not (lw_gt _ _) hc16)).2.2.1) kk) ?_
      obtain ⟨T31, X31, e31, st31⟩ := getS2 X0 hx hZ hown (host := "") (Or.inl (hw _ (List.mem_of_getElem? (i := 48) rfl))) Via.refl e0 (S.ext old.2) (g := (mkF m 20 #[.val (.long x), .second, .val (.int (128 : Int32))] [])) rfl (hb hby own_d4_20)
      refine OwnGo.back (T31.setTop (mkF m 23 #[.val (.long x), .second, .val (.int (128 : Int32))] [(.ref ca)])) (fun tg kk => st31 _ kk) ?_
      refine OwnGo.back (T31.setTop (mkF m 24 #[.val (.long x), .second, .val (.int (128 : Int32))] [(.long x), (.ref ca)])) (fun tg kk => XS.lloadN X31.here hx rfl (hb hby own_d4_23) rfl kk) ?_
      refine OwnGo.back (T31.setTop (mkF m 25 #[.val (.long x), .second, .val (.int (128 : Int32))] [(.int (x.toInt32)), (.ref ca)])) (fun tg kk => XS.l2i X31.here hx rfl (hb hby own_d4_24) rfl kk) ?_
      refine OwnGo.back (T31.setTop (mkF m 28 #[.val (.long x), .second, .val (.int (128 : Int32))] [(.int (128 : Int32)), (.int (x.toInt32)), (.ref ca)])) (fun tg kk => XS.sipush X31.here hx rfl (hb hby own_d4_25) kk) ?_
      refine OwnGo.back (T31.setTop (mkF m 29 #[.val (.long x), .second, .val (.int (128 : Int32))] [(.int ((x.toInt32) + (128 : Int32))), (.ref ca)])) (fun tg kk => XS.iadd X31.here hx rfl (hb hby own_d4_28) rfl kk) ?_
      obtain ⟨cl32, Ar32, sz32, el32⟩ := id hB
      have hin32 : ¬ (((x.toInt32) + (128 : Int32)) < 0 ∨ cl32.slots.size ≤ (((x.toInt32) + (128 : Int32))).toNatClampNeg) := by rw [sz32]; exact own_lidx hc1 hc16
      obtain ⟨y32, hat32, Ey32⟩ := el32 _ hin32
      have Ex32 : Exa Z h0 y32 "java/lang/Long" := Ey32.ext old.2
      have Ah32 := Ar32.ext old.2
      refine OwnGo.back (T31.setTop (mkF m 30 #[.val (.long x), .second, .val (.int (128 : Int32))] [(.ref y32)])) (fun tg kk => X31.aaload hx (j := ((x.toInt32) + (128 : Int32))) (v := (.ref y32)) (by rw [e31]; exact Ah32.1) (State.isArrayOf_alike hZ.alike Ah32.2.1) rfl Ah32.2.2 hin32 hat32 (g := (mkF m 29 #[.val (.long x), .second, .val (.int (128 : Int32))] [(.int ((x.toInt32) + (128 : Int32))), (.ref ca)])) rfl rfl (hb hby own_d4_29) _ kk) ?_
      obtain ⟨fs, hr, hrun, hended, hW, hsame⟩ := X31.leave (v := some (.ref y32)) (fun h => by rw [Bd.returns] at h; cases h)
      refine ⟨_, _, ?_, hrun, hended, _, _, rfl, ?_, ⟨_, rfl⟩, hW, hsame.mono (by decide) (by decide)⟩
      · exact own_retA X31 hx Bd.returns rfl rfl rfl (hb hby own_d4_30) hr
      · show own_lval_Q Z x ca h0 n0 _ T31.heap _
        rw [e31]
        exact ⟨y32, rfl, N0, K0, Ex32⟩
theorem own_tl_ef (m : MethodId) (x0 : Addr) (x1 : Int64) (x2 : Int64) (x3 : Int64) (x4 : Int64) : entryFrame m #[(.ref x0), (.long x1), (.long x2), (.long x3), (.long x4)] 9 = mkF m 0 #[.val (.ref x0), .val (.long x1), .second, .val (.long x2), .second, .val (.long x3), .second, .val (.long x4), .second] [] := by first | (simp [entryFrame, mkF, argsToLocals, Value.category]; done) | rfl
def own_tl_Q (Z : State) (t : Addr) (v0 : Int64) (v1 : Int64) (v2 : Int64) (v3 : Int64) (h0 : Heap) (n0 : Nat) (rv : Option Value) (hN : Heap) (LL : List Loc) : Prop := rv = none ∧ Fr n0 LL ∧ Keep h0 hN [t] ∧ Exa Z hN t "com/example/tallyframe/tallyframe/Tally" ∧ Fld Z hN t "com/example/tallyframe/tallyframe/Tally" "allocatedObjects" "J" (.long v0) ∧ Fld Z hN t "com/example/tallyframe/tallyframe/Tally" "allocatedBytes" "J" (.long v1) ∧ Fld Z hN t "com/example/tallyframe/tallyframe/Tally" "releasedObjects" "J" (.long v2) ∧ Fld Z hN t "com/example/tallyframe/tallyframe/Tally" "releasedBytes" "J" (.long v3)
set_option maxRecDepth 65536 in
set_option maxHeartbeats 40000000 in
theorem own_tl (l : Launch) (Z : State) (a0 : Array Value) (hw : ∀ d ∈ tables_1, d.before a0 Z = true) (ws : List Jvm.Cond) (t : Addr) (v0 : Int64) (v1 : Int64) (v2 : Int64) (v3 : Int64) (h0 : Heap) (n0 : Nat) (Z0 : n0 ≤ h0.size) (H0 : Exa Z h0 t "com/example/tallyframe/tallyframe/Tally") (H1 : Fld Z h0 t "com/example/tallyframe/tallyframe/Tally" "allocatedObjects" "J" (.long (0 : Int64))) (H2 : Fld Z h0 t "com/example/tallyframe/tallyframe/Tally" "allocatedBytes" "J" (.long (0 : Int64))) (H3 : Fld Z h0 t "com/example/tallyframe/tallyframe/Tally" "releasedObjects" "J" (.long (0 : Int64))) (H4 : Fld Z h0 t "com/example/tallyframe/tallyframe/Tally" "releasedBytes" "J" (.long (0 : Int64))) (H5 : n0 ≤ t) :
    MetFree l (⟨"com/example/tallyframe/tallyframe/Tally", "<init>", "(JJJJ)V"⟩ : MethodName) (head1 (Jvm.Cond.code (⟨"com/example/tallyframe/tallyframe/Tally", "<init>", "(JJJJ)V"⟩ : MethodName) prog_24_method_1_code 9 none :: ws) ({ frames := 1, cells := 0, slots := 0, locals := 12 } : Room)) (fun aa UU => aa = #[(.ref t), (.long v0), (.long v1), (.long v2), (.long v3)] ∧ Z.Warmed39 UU.vm ∧ UU.heap = h0) (fun _ _ _ _ _ => True) (fun _ UU oo UU' => ∃ rv LL, oo = .returned rv ∧ own_tl_Q Z t v0 v1 v2 v3 h0 n0 rv UU'.heap LL ∧ FrameEnd UU oo UU' LL ({ frames := 1, cells := 0, slots := 0, locals := 12 } : Room).cells ({ frames := 1, cells := 0, slots := 0, locals := 12 } : Room).slots) := by
  refine MetFree.of_bodySF (plainFor_of_name own_pn2) hisR ?_
  intro p e s m args below meth c s₁ Bd hml0 hP hK
  obtain ⟨rfl, hZ, hh⟩ := hP
  have hx := Bd.exec
  have hby := Bd.bytes
  have hml : c.maxLocals = 9 := hml0
  have hown : s.vm.findClass "com/example/tallyframe/tallyframe/Tally" = some m.cls := findClass_of_methodNamed Bd.named
  have hnm := (name_of_methodNamed Bd.named Bd.method).1
  have X0 : Stand p l e ({ frames := 1, cells := 0, slots := 0, locals := 12 } : Room) s m #[(.ref t), (.long v0), (.long v1), (.long v2), (.long v3)] below meth c s₁ [] 0 0 := Stand.of_body Bd
  have e0 : s₁.heap = h0 := by rw [← hh, Bd.state]; rfl
  have N0 := Fr.nil n0
  have K0 : Keep h0 h0 [t] := Keep.refl h0 _
  refine (?_ : OwnGo p.tables e below (fun UU' oo => ∃ rv LL, oo = .returned rv ∧ own_tl_Q Z t v0 v1 v2 v3 h0 n0 rv UU'.heap LL ∧ FrameEnd s oo UU' LL ({ frames := 1, cells := 0, slots := 0, locals := 12 } : Room).cells ({ frames := 1, cells := 0, slots := 0, locals := 12 } : Room).slots) _)
  refine OwnGo.back (s₁.setTop (mkF m 0 #[.val (.ref t), .val (.long v0), .second, .val (.long v1), .second, .val (.long v2), .second, .val (.long v3), .second] [])) (fun tg kk => castTop (own_tl_ef m t v0 v1 v2 v3) kk) ?_
  refine OwnGo.back (s₁.setTop (mkF m 1 #[.val (.ref t), .val (.long v0), .second, .val (.long v1), .second, .val (.long v2), .second, .val (.long v3), .second] [(.ref t)])) (fun tg kk => XS.aloadN X0.here hx rfl (hb hby own_d1_0) rfl rfl kk) ?_
  obtain ⟨T1, X1, e1, st1⟩ := initO X0 hx hZ hown (hw _ (List.mem_of_getElem? (i := 6) rfl)) (hw _ (List.mem_of_getElem? (i := 7) rfl)) (hw _ (List.mem_of_getElem? (i := 8) rfl)) e0 (g := (mkF m 1 #[.val (.ref t), .val (.long v0), .second, .val (.long v1), .second, .val (.long v2), .second, .val (.long v3), .second] [(.ref t)])) rfl (by rw [hml]; rfl) rfl (hb hby own_d1_1) (by decide) (W := 0) (by show 2 * 0 + _ ≤ _; exact Nat.le_of_eq rfl) (by decide)
  refine OwnGo.back (T1.setTop (mkF m 4 #[.val (.ref t), .val (.long v0), .second, .val (.long v1), .second, .val (.long v2), .second, .val (.long v3), .second] [])) (fun tg kk => st1 _ kk) ?_
  refine OwnGo.back (T1.setTop (mkF m 5 #[.val (.ref t), .val (.long v0), .second, .val (.long v1), .second, .val (.long v2), .second, .val (.long v3), .second] [(.ref t)])) (fun tg kk => XS.aloadN X1.here hx rfl (hb hby own_d1_4) rfl rfl kk) ?_
  refine OwnGo.back (T1.setTop (mkF m 6 #[.val (.ref t), .val (.long v0), .second, .val (.long v1), .second, .val (.long v2), .second, .val (.long v3), .second] [(.long v0), (.ref t)])) (fun tg kk => XS.lloadN X1.here hx rfl (hb hby own_d1_5) rfl kk) ?_
  obtain ⟨T2, h2, X2, e2, W2, st2⟩ := putF X1 hx hZ hown (host := "") (Or.inl (hw _ (List.mem_of_getElem? (i := 9) rfl))) Via.refl e1 H1 H0 (Or.inr ⟨(hw _ (List.mem_of_getElem? (i := 10) rfl)), rfl, hnm⟩) (hw _ (List.mem_of_getElem? (i := 1) rfl)) (ty := .long) (by decide) rfl rfl (g := (mkF m 6 #[.val (.ref t), .val (.long v0), .second, .val (.long v1), .second, .val (.long v2), .second, .val (.long v3), .second] [(.long v0), (.ref t)])) rfl rfl (hb hby own_d1_6)
  have f3 : Fld Z h2 t "com/example/tallyframe/tallyframe/Tally" "allocatedObjects" "J" (.long v0) := H1.same W2
  have f4 : Exa Z h2 t "com/example/tallyframe/tallyframe/Tally" := H0.wr W2
  have f5 : Fld Z h2 t "com/example/tallyframe/tallyframe/Tally" "allocatedBytes" "J" (.long (0 : Int64)) := H2.other W2 (Or.inr (slot_ne (Or.inr (hw _ (List.mem_of_getElem? (i := 12) rfl))) (Or.inr (hw _ (List.mem_of_getElem? (i := 10) rfl))) (by decide) (t := .long) (t' := .long) (by decide) (by decide)))
  have f6 : Fld Z h2 t "com/example/tallyframe/tallyframe/Tally" "releasedObjects" "J" (.long (0 : Int64)) := H3.other W2 (Or.inr (slot_ne (Or.inr (hw _ (List.mem_of_getElem? (i := 14) rfl))) (Or.inr (hw _ (List.mem_of_getElem? (i := 10) rfl))) (by decide) (t := .long) (t' := .long) (by decide) (by decide)))
  have f7 : Fld Z h2 t "com/example/tallyframe/tallyframe/Tally" "releasedBytes" "J" (.long (0 : Int64)) := H4.other W2 (Or.inr (slot_ne (Or.inr (hw _ (List.mem_of_getElem? (i := 16) rfl))) (Or.inr (hw _ (List.mem_of_getElem? (i := 10) rfl))) (by decide) (t := .long) (t' := .long) (by decide) (by decide)))
  have K8 : Keep h0 h2 [t] := K0.wr W2 (Or.inl (List.mem_of_getElem? (i := 0) rfl))
  have Z9 : n0 ≤ h2.size := Nat.le_trans Z0 (Keep.of_wr W2).1
  have N10 := Fr.snoc X2 N0 H5
  refine OwnGo.back (T2.setTop (mkF m 9 #[.val (.ref t), .val (.long v0), .second, .val (.long v1), .second, .val (.long v2), .second, .val (.long v3), .second] [])) (fun tg kk => st2 _ kk) ?_
  refine OwnGo.back (T2.setTop (mkF m 10 #[.val (.ref t), .val (.long v0), .second, .val (.long v1), .second, .val (.long v2), .second, .val (.long v3), .second] [(.ref t)])) (fun tg kk => XS.aloadN X2.here hx rfl (hb hby own_d1_9) rfl rfl kk) ?_
  refine OwnGo.back (T2.setTop (mkF m 11 #[.val (.ref t), .val (.long v0), .second, .val (.long v1), .second, .val (.long v2), .second, .val (.long v3), .second] [(.long v1), (.ref t)])) (fun tg kk => XS.lloadN X2.here hx rfl (hb hby own_d1_10) rfl kk) ?_
  obtain ⟨T11, h11, X11, e11, W11, st11⟩ := putF X2 hx hZ hown (host := "") (Or.inl (hw _ (List.mem_of_getElem? (i := 11) rfl))) Via.refl e2 f5 f4 (Or.inr ⟨(hw _ (List.mem_of_getElem? (i := 12) rfl)), rfl, hnm⟩) (hw _ (List.mem_of_getElem? (i := 1) rfl)) (ty := .long) (by decide) rfl rfl (g := (mkF m 11 #[.val (.ref t), .val (.long v0), .second, .val (.long v1), .second, .val (.long v2), .second, .val (.long v3), .second] [(.long v1), (.ref t)])) rfl rfl (hb hby own_d1_11)
  have f12 : Fld Z h11 t "com/example/tallyframe/tallyframe/Tally" "allocatedBytes" "J" (.long v1) := f5.same W11
  have f13 : Exa Z h11 t "com/example/tallyframe/tallyframe/Tally" := f4.wr W11
  have f14 : Fld Z h11 t "com/example/tallyframe/tallyframe/Tally" "releasedObjects" "J" (.long (0 : Int64)) := f6.other W11 (Or.inr (slot_ne (Or.inr (hw _ (List.mem_of_getElem? (i := 14) rfl))) (Or.inr (hw _ (List.mem_of_getElem? (i := 12) rfl))) (by decide) (t := .long) (t' := .long) (by decide) (by decide)))
  have f15 : Fld Z h11 t "com/example/tallyframe/tallyframe/Tally" "releasedBytes" "J" (.long (0 : Int64)) := f7.other W11 (Or.inr (slot_ne (Or.inr (hw _ (List.mem_of_getElem? (i := 16) rfl))) (Or.inr (hw _ (List.mem_of_getElem? (i := 12) rfl))) (by decide) (t := .long) (t' := .long) (by decide) (by decide)))
  have f16 : Fld Z h11 t "com/example/tallyframe/tallyframe/Tally" "allocatedObjects" "J" (.long v0) := f3.other W11 (Or.inr (slot_ne (Or.inr (hw _ (List.mem_of_getElem? (i := 10) rfl))) (Or.inr (hw _ (List.mem_of_getElem? (i := 12) rfl))) (by decide) (t := .long) (t' := .long) (by decide) (by decide)))
  have K17 : Keep h0 h11 [t] := K8.wr W11 (Or.inl (List.mem_of_getElem? (i := 0) rfl))
  have Z18 : n0 ≤ h11.size := Nat.le_trans Z9 (Keep.of_wr W11).1
  have N19 := Fr.snoc X11 N10 H5
  refine OwnGo.back (T11.setTop (mkF m 14 #[.val (.ref t), .val (.long v0), .second, .val (.long v1), .second, .val (.long v2), .second, .val (.long v3), .second] [])) (fun tg kk => st11 _ kk) ?_
  refine OwnGo.back (T11.setTop (mkF m 15 #[.val (.ref t), .val (.long v0), .second, .val (.long v1), .second, .val (.long v2), .second, .val (.long v3), .second] [(.ref t)])) (fun tg kk => XS.aloadN X11.here hx rfl (hb hby own_d1_14) rfl rfl kk) ?_
  refine OwnGo.back (T11.setTop (mkF m 17 #[.val (.ref t), .val (.long v0), .second, .val (.long v1), .second, .val (.long v2), .second, .val (.long v3), .second] [(.long v2), (.ref t)])) (fun tg kk => XS.lload X11.here hx rfl (hb hby own_d1_15) rfl kk) ?_
  obtain ⟨T20, h20, X20, e20, W20, st20⟩ := putF X11 hx hZ hown (host := "") (Or.inl (hw _ (List.mem_of_getElem? (i := 13) rfl))) Via.refl e11 f14 f13 (Or.inr ⟨(hw _ (List.mem_of_getElem? (i := 14) rfl)), rfl, hnm⟩) (hw _ (List.mem_of_getElem? (i := 1) rfl)) (ty := .long) (by decide) rfl rfl (g := (mkF m 17 #[.val (.ref t), .val (.long v0), .second, .val (.long v1), .second, .val (.long v2), .second, .val (.long v3), .second] [(.long v2), (.ref t)])) rfl rfl (hb hby own_d1_17)
  have f21 : Fld Z h20 t "com/example/tallyframe/tallyframe/Tally" "releasedObjects" "J" (.long v2) := f14.same W20
  have f22 : Exa Z h20 t "com/example/tallyframe/tallyframe/Tally" := f13.wr W20
  have f23 : Fld Z h20 t "com/example/tallyframe/tallyframe/Tally" "releasedBytes" "J" (.long (0 : Int64)) := f15.other W20 (Or.inr (slot_ne (Or.inr (hw _ (List.mem_of_getElem? (i := 16) rfl))) (Or.inr (hw _ (List.mem_of_getElem? (i := 14) rfl))) (by decide) (t := .long) (t' := .long) (by decide) (by decide)))
  have f24 : Fld Z h20 t "com/example/tallyframe/tallyframe/Tally" "allocatedObjects" "J" (.long v0) := f16.other W20 (Or.inr (slot_ne (Or.inr (hw _ (List.mem_of_getElem? (i := 10) rfl))) (Or.inr (hw _ (List.mem_of_getElem? (i := 14) rfl))) (by decide) (t := .long) (t' := .long) (by decide) (by decide)))
  have f25 : Fld Z h20 t "com/example/tallyframe/tallyframe/Tally" "allocatedBytes" "J" (.long v1) := f12.other W20 (Or.inr (slot_ne (Or.inr (hw _ (List.mem_of_getElem? (i := 12) rfl))) (Or.inr (hw _ (List.mem_of_getElem? (i := 14) rfl))) (by decide) (t := .long) (t' := .long) (by decide) (by decide)))
  have K26 : Keep h0 h20 [t] := K17.wr W20 (Or.inl (List.mem_of_getElem? (i := 0) rfl))
  have Z27 : n0 ≤ h20.size := Nat.le_trans Z18 (Keep.of_wr W20).1
  have N28 := Fr.snoc X20 N19 H5
  refine OwnGo.back (T20.setTop (mkF m 20 #[.val (.ref t), .val (.long v0), .second, .val (.long v1), .second, .val (.long v2), .second, .val (.long v3), .second] [])) (fun tg kk => st20 _ kk) ?_
  refine OwnGo.back (T20.setTop (mkF m 21 #[.val (.ref t), .val (.long v0), .second, .val (.long v1), .second, .val (.long v2), .second, .val (.long v3), .second] [(.ref t)])) (fun tg kk => XS.aloadN X20.here hx rfl (hb hby own_d1_20) rfl rfl kk) ?_
  refine OwnGo.back (T20.setTop (mkF m 23 #[.val (.ref t), .val (.long v0), .second, .val (.long v1), .second, .val (.long v2), .second, .val (.long v3), .second] [(.long v3), (.ref t)])) (fun tg kk => XS.lload X20.here hx rfl (hb hby own_d1_21) rfl kk) ?_
  obtain ⟨T29, h29, X29, e29, W29, st29⟩ := putF X20 hx hZ hown (host := "") (Or.inl (hw _ (List.mem_of_getElem? (i := 15) rfl))) Via.refl e20 f23 f22 (Or.inr ⟨(hw _ (List.mem_of_getElem? (i := 16) rfl)), rfl, hnm⟩) (hw _ (List.mem_of_getElem? (i := 1) rfl)) (ty := .long) (by decide) rfl rfl (g := (mkF m 23 #[.val (.ref t), .val (.long v0), .second, .val (.long v1), .second, .val (.long v2), .second, .val (.long v3), .second] [(.long v3), (.ref t)])) rfl rfl (hb hby own_d1_23)
  have f30 : Fld Z h29 t "com/example/tallyframe/tallyframe/Tally" "releasedBytes" "J" (.long v3) := f23.same W29
  have f31 : Exa Z h29 t "com/example/tallyframe/tallyframe/Tally" := f22.wr W29
  have f32 : Fld Z h29 t "com/example/tallyframe/tallyframe/Tally" "allocatedObjects" "J" (.long v0) := f24.other W29 (Or.inr (slot_ne (Or.inr (hw _ (List.mem_of_getElem? (i := 10) rfl))) (Or.inr (hw _ (List.mem_of_getElem? (i := 16) rfl))) (by decide) (t := .long) (t' := .long) (by decide) (by decide)))
  have f33 : Fld Z h29 t "com/example/tallyframe/tallyframe/Tally" "allocatedBytes" "J" (.long v1) := f25.other W29 (Or.inr (slot_ne (Or.inr (hw _ (List.mem_of_getElem? (i := 12) rfl))) (Or.inr (hw _ (List.mem_of_getElem? (i := 16) rfl))) (by decide) (t := .long) (t' := .long) (by decide) (by decide)))
  have f34 : Fld Z h29 t "com/example/tallyframe/tallyframe/Tally" "releasedObjects" "J" (.long v2) := f21.other W29 (Or.inr (slot_ne (Or.inr (hw _ (List.mem_of_getElem? (i := 14) rfl))) (Or.inr (hw _ (List.mem_of_getElem? (i := 16) rfl))) (by decide) (t := .long) (t' := .long) (by decide) (by decide)))
  have K35 : Keep h0 h29 [t] := K26.wr W29 (Or.inl (List.mem_of_getElem? (i := 0) rfl))
  have Z36 : n0 ≤ h29.size := Nat.le_trans Z27 (Keep.of_wr W29).1
  have N37 := Fr.snoc X29 N28 H5
  refine OwnGo.back (T29.setTop (mkF m 26 #[.val (.ref t), .val (.long v0), .second, .val (.long v1), .second, .val (.long v2), .second, .val (.long v3), .second] [])) (fun tg kk => st29 _ kk) ?_
  obtain ⟨fs, hr, hrun, hended, hW, hsame⟩ := X29.leave (v := none) (fun _ => rfl)
  refine ⟨_, _, ?_, hrun, hended, _, _, rfl, ?_, ⟨_, rfl⟩, hW, hsame.mono (by decide) (by decide)⟩
  · exact X29.returnOut hx Bd.returns (hb hby own_d1_26) hr
  · show own_tl_Q Z t v0 v1 v2 v3 h0 n0 _ T29.heap _
    rw [e29]
    exact ⟨rfl, N37, K35, f31, f32, f33, f34, f30⟩
theorem own_eqn_ef (m : MethodId) (x0 : Addr) : entryFrame m #[(.ref x0), .null] 3 = mkF m 0 #[.val (.ref x0), .val .null, .unset] [] := by first | (simp [entryFrame, mkF, argsToLocals, Value.category]; done) | rfl
def own_eqn_Q (Z : State) (t : Addr) (h0 : Heap) (n0 : Nat) (rv : Option Value) (hN : Heap) (LL : List Loc) : Prop := rv = some (.int (0 : Int32)) ∧ Fr n0 LL ∧ hN = h0
set_option maxRecDepth 65536 in
set_option maxHeartbeats 40000000 in
theorem own_eqn (l : Launch) (Z : State) (a0 : Array Value) (hw : ∀ d ∈ tables_1, d.before a0 Z = true) (ws : List Jvm.Cond) (t : Addr) (h0 : Heap) (n0 : Nat) (Z0 : n0 ≤ h0.size) :
    MetFree l (⟨"com/example/tallyframe/tallyframe/Tally", "equals", "(Ljava/lang/Object;)Z"⟩ : MethodName) (head1 (Jvm.Cond.code (⟨"com/example/tallyframe/tallyframe/Tally", "equals", "(Ljava/lang/Object;)Z"⟩ : MethodName) prog_24_method_8_code 3 (some .boolean) :: ws) ({ frames := 0, cells := 0, slots := 0, locals := 0 } : Room)) (fun aa UU => aa = #[(.ref t), .null] ∧ Z.Warmed39 UU.vm ∧ UU.heap = h0) (fun _ _ _ _ _ => True) (fun _ UU oo UU' => ∃ rv LL, oo = .returned rv ∧ own_eqn_Q Z t h0 n0 rv UU'.heap LL ∧ FrameEnd UU oo UU' LL ({ frames := 0, cells := 0, slots := 0, locals := 0 } : Room).cells ({ frames := 0, cells := 0, slots := 0, locals := 0 } : Room).slots) := by
  refine MetFree.of_bodySF (plainFor_of_name own_pn2) hisR ?_
  intro p e s m args below meth c s₁ Bd hml0 hP hK
  obtain ⟨rfl, hZ, hh⟩ := hP
  have hx := Bd.exec
  have hby := Bd.bytes
  have hml : c.maxLocals = 3 := hml0
  have hown : s.vm.findClass "com/example/tallyframe/tallyframe/Tally" = some m.cls := findClass_of_methodNamed Bd.named
  have hnm := (name_of_methodNamed Bd.named Bd.method).1
  have X0 : Stand p l e ({ frames := 0, cells := 0, slots := 0, locals := 0 } : Room) s m #[(.ref t), .null] below meth c s₁ [] 0 0 := Stand.of_body Bd
  have e0 : s₁.heap = h0 := by rw [← hh, Bd.state]; rfl
  have N0 := Fr.nil n0
  have K0 : Keep h0 h0 [] := Keep.refl h0 _
  refine (?_ : OwnGo p.tables e below (fun UU' oo => ∃ rv LL, oo = .returned rv ∧ own_eqn_Q Z t h0 n0 rv UU'.heap LL ∧ FrameEnd s oo UU' LL ({ frames := 0, cells := 0, slots := 0, locals := 0 } : Room).cells ({ frames := 0, cells := 0, slots := 0, locals := 0 } : Room).slots) _)
  refine OwnGo.back (s₁.setTop (mkF m 0 #[.val (.ref t), .val .null, .unset] [])) (fun tg kk => castTop (own_eqn_ef m t) kk) ?_
  refine OwnGo.back (s₁.setTop (mkF m 1 #[.val (.ref t), .val .null, .unset] [.null])) (fun tg kk => XS.aloadN X0.here hx rfl (hb hby own_d3_0) rfl rfl kk) ?_
  refine OwnGo.back (s₁.setTop (mkF m 4 #[.val (.ref t), .val .null, .unset] [(.int (0 : Int32))])) (fun tg kk => X0.instanceofNull hx (g := (mkF m 1 #[.val (.ref t), .val .null, .unset] [.null])) rfl rfl (hb hby own_d3_1) _ kk) ?_
  refine OwnGo.back (s₁.setTop (mkF m 64 #[.val (.ref t), .val .null, .unset] [])) (fun tg kk => XS.ifYes X0.here hx rfl (pc0 := 4) (pc' := 64) rfl (hb hby own_d3_4) rfl ((if0 _ _).trans (teq (by decide : (0 : Int32) = (0 : Int32))).1) (by decide) (by decide) kk) ?_
  refine OwnGo.back (s₁.setTop (mkF m 65 #[.val (.ref t), .val .null, .unset] [(.int (0 : Int32))])) (fun tg kk => XS.iconst X0.here hx rfl (hb hby own_d3_64) kk) ?_
  obtain ⟨fs, hr, hrun, hended, hW, hsame⟩ := X0.leave (v := some (.int (0 : Int32))) (fun h => by rw [Bd.returns] at h; cases h)
  refine ⟨_, _, ?_, hrun, hended, _, _, rfl, ?_, ⟨_, rfl⟩, hW, hsame.mono (by decide) (by decide)⟩
  · exact retN X0 hx (t := .boolean) Bd.returns (by simp) (hb hby own_d3_65) hr
  · show own_eqn_Q Z t h0 n0 _ s₁.heap _
    rw [e0]
    exact ⟨rfl, N0, rfl⟩
theorem own_eql_ef (m : MethodId) (x0 : Addr) (x1 : Addr) : entryFrame m #[(.ref x0), (.ref x1)] 3 = mkF m 0 #[.val (.ref x0), .val (.ref x1), .unset] [] := by first | (simp [entryFrame, mkF, argsToLocals, Value.category]; done) | rfl
def own_eql_Q (Z : State) (t : Addr) (u : Addr) (h0 : Heap) (n0 : Nat) (rv : Option Value) (hN : Heap) (LL : List Loc) : Prop := rv = some (.int (0 : Int32)) ∧ Fr n0 LL ∧ hN = h0
set_option maxRecDepth 65536 in
set_option maxHeartbeats 40000000 in
theorem own_eql (l : Launch) (Z : State) (a0 : Array Value) (hw : ∀ d ∈ tables_1, d.before a0 Z = true) (ws : List Jvm.Cond) (t : Addr) (u : Addr) (h0 : Heap) (n0 : Nat) (Z0 : n0 ≤ h0.size) (H0 : Exa Z h0 u "java/lang/Long") :
    MetFree l (⟨"com/example/tallyframe/tallyframe/Tally", "equals", "(Ljava/lang/Object;)Z"⟩ : MethodName) (head1 (Jvm.Cond.code (⟨"com/example/tallyframe/tallyframe/Tally", "equals", "(Ljava/lang/Object;)Z"⟩ : MethodName) prog_24_method_8_code 3 (some .boolean) :: ws) ({ frames := 0, cells := 0, slots := 0, locals := 0 } : Room)) (fun aa UU => aa = #[(.ref t), (.ref u)] ∧ Z.Warmed39 UU.vm ∧ UU.heap = h0) (fun _ _ _ _ _ => True) (fun _ UU oo UU' => ∃ rv LL, oo = .returned rv ∧ own_eql_Q Z t u h0 n0 rv UU'.heap LL ∧ FrameEnd UU oo UU' LL ({ frames := 0, cells := 0, slots := 0, locals := 0 } : Room).cells ({ frames := 0, cells := 0, slots := 0, locals := 0 } : Room).slots) := by
  refine MetFree.of_bodySF (plainFor_of_name own_pn2) hisR ?_
  intro p e s m args below meth c s₁ Bd hml0 hP hK
  obtain ⟨rfl, hZ, hh⟩ := hP
  have hx := Bd.exec
  have hby := Bd.bytes
  have hml : c.maxLocals = 3 := hml0
  have hown : s.vm.findClass "com/example/tallyframe/tallyframe/Tally" = some m.cls := findClass_of_methodNamed Bd.named
  have hnm := (name_of_methodNamed Bd.named Bd.method).1
  have X0 : Stand p l e ({ frames := 0, cells := 0, slots := 0, locals := 0 } : Room) s m #[(.ref t), (.ref u)] below meth c s₁ [] 0 0 := Stand.of_body Bd
  have e0 : s₁.heap = h0 := by rw [← hh, Bd.state]; rfl
  have N0 := Fr.nil n0
  have K0 : Keep h0 h0 [] := Keep.refl h0 _
  refine (?_ : OwnGo p.tables e below (fun UU' oo => ∃ rv LL, oo = .returned rv ∧ own_eql_Q Z t u h0 n0 rv UU'.heap LL ∧ FrameEnd s oo UU' LL ({ frames := 0, cells := 0, slots := 0, locals := 0 } : Room).cells ({ frames := 0, cells := 0, slots := 0, locals := 0 } : Room).slots) _)
  refine OwnGo.back (s₁.setTop (mkF m 0 #[.val (.ref t), .val (.ref u), .unset] [])) (fun tg kk => castTop (own_eql_ef m t u) kk) ?_
  refine OwnGo.back (s₁.setTop (mkF m 1 #[.val (.ref t), .val (.ref u), .unset] [(.ref u)])) (fun tg kk => XS.aloadN X0.here hx rfl (hb hby own_d3_0) rfl rfl kk) ?_
  obtain ⟨T1, X1, e1, st1⟩ := instNo X0 hx hZ hown (hw _ (List.mem_of_getElem? (i := 22) rfl)) e0 H0 (own_nsno (hw _ (List.mem_of_getElem? (i := 45) rfl)) (hw _ (List.mem_of_getElem? (i := 1) rfl)) (NS.step (hw _ (List.mem_of_getElem? (i := 45) rfl)) (NS.step (hw _ (List.mem_of_getElem? (i := 46) rfl)) (own_nsroot (hw _ (List.mem_of_getElem? (i := 47) rfl)) (hw _ (List.mem_of_getElem? (i := 1) rfl)) (by decide)) (by decide)) (by decide)) (by decide)) (g := (mkF m 1 #[.val (.ref t), .val (.ref u), .unset] [(.ref u)])) rfl rfl (hb hby own_d3_1)
  refine OwnGo.back (T1.setTop (mkF m 4 #[.val (.ref t), .val (.ref u), .unset] [(.int (0 : Int32))])) (fun tg kk => st1 _ kk) ?_
  refine OwnGo.back (T1.setTop (mkF m 64 #[.val (.ref t), .val (.ref u), .unset] [])) (fun tg kk => XS.ifYes X1.here hx rfl (pc0 := 4) (pc' := 64) rfl (hb hby own_d3_4) rfl ((if0 _ _).trans (teq (by decide : (0 : Int32) = (0 : Int32))).1) (by decide) (by decide) kk) ?_
  refine OwnGo.back (T1.setTop (mkF m 65 #[.val (.ref t), .val (.ref u), .unset] [(.int (0 : Int32))])) (fun tg kk => XS.iconst X1.here hx rfl (hb hby own_d3_64) kk) ?_
  obtain ⟨fs, hr, hrun, hended, hW, hsame⟩ := X1.leave (v := some (.int (0 : Int32))) (fun h => by rw [Bd.returns] at h; cases h)
  refine ⟨_, _, ?_, hrun, hended, _, _, rfl, ?_, ⟨_, rfl⟩, hW, hsame.mono (by decide) (by decide)⟩
  · exact retN X1 hx (t := .boolean) Bd.returns (by simp) (hb hby own_d3_65) hr
  · show own_eql_Q Z t u h0 n0 _ T1.heap _
    rw [e1]
    exact ⟨rfl, N0, rfl⟩
theorem own_eqs_ef (m : MethodId) (x0 : Addr) (x1 : Addr) : entryFrame m #[(.ref x0), (.ref x1)] 3 = mkF m 0 #[.val (.ref x0), .val (.ref x1), .unset] [] := by first | (simp [entryFrame, mkF, argsToLocals, Value.category]; done) | rfl
def own_eqs_Q (Z : State) (t : Addr) (v0 : Int64) (v1 : Int64) (v2 : Int64) (v3 : Int64) (h0 : Heap) (n0 : Nat) (rv : Option Value) (hN : Heap) (LL : List Loc) : Prop := rv = some (.int (1 : Int32)) ∧ Fr n0 LL ∧ hN = h0
set_option maxRecDepth 65536 in
set_option maxHeartbeats 40000000 in
theorem own_eqs (l : Launch) (Z : State) (a0 : Array Value) (hw : ∀ d ∈ tables_1, d.before a0 Z = true) (ws : List Jvm.Cond) (t : Addr) (v0 : Int64) (v1 : Int64) (v2 : Int64) (v3 : Int64) (h0 : Heap) (n0 : Nat) (Z0 : n0 ≤ h0.size) (H0 : Exa Z h0 t "com/example/tallyframe/tallyframe/Tally") (H1 : Fld Z h0 t "com/example/tallyframe/tallyframe/Tally" "allocatedObjects" "J" (.long v0)) (H2 : Fld Z h0 t "com/example/tallyframe/tallyframe/Tally" "allocatedBytes" "J" (.long v1)) (H3 : Fld Z h0 t "com/example/tallyframe/tallyframe/Tally" "releasedObjects" "J" (.long v2)) (H4 : Fld Z h0 t "com/example/tallyframe/tallyframe/Tally" "releasedBytes" "J" (.long v3)) :
    MetFree l (⟨"com/example/tallyframe/tallyframe/Tally", "equals", "(Ljava/lang/Object;)Z"⟩ : MethodName) (head1 (Jvm.Cond.code (⟨"com/example/tallyframe/tallyframe/Tally", "equals", "(Ljava/lang/Object;)Z"⟩ : MethodName) prog_24_method_8_code 3 (some .boolean) :: ws) ({ frames := 0, cells := 0, slots := 0, locals := 0 } : Room)) (fun aa UU => aa = #[(.ref t), (.ref t)] ∧ Z.Warmed39 UU.vm ∧ UU.heap = h0) (fun _ _ _ _ _ => True) (fun _ UU oo UU' => ∃ rv LL, oo = .returned rv ∧ own_eqs_Q Z t v0 v1 v2 v3 h0 n0 rv UU'.heap LL ∧ FrameEnd UU oo UU' LL ({ frames := 0, cells := 0, slots := 0, locals := 0 } : Room).cells ({ frames := 0, cells := 0, slots := 0, locals := 0 } : Room).slots) := by
  refine MetFree.of_bodySF (plainFor_of_name own_pn2) hisR ?_
  intro p e s m args below meth c s₁ Bd hml0 hP hK
  obtain ⟨rfl, hZ, hh⟩ := hP
  have hx := Bd.exec
  have hby := Bd.bytes
  have hml : c.maxLocals = 3 := hml0
  have hown : s.vm.findClass "com/example/tallyframe/tallyframe/Tally" = some m.cls := findClass_of_methodNamed Bd.named
  have hnm := (name_of_methodNamed Bd.named Bd.method).1
  have X0 : Stand p l e ({ frames := 0, cells := 0, slots := 0, locals := 0 } : Room) s m #[(.ref t), (.ref t)] below meth c s₁ [] 0 0 := Stand.of_body Bd
  have e0 : s₁.heap = h0 := by rw [← hh, Bd.state]; rfl
  have N0 := Fr.nil n0
  have K0 : Keep h0 h0 [] := Keep.refl h0 _
  refine (?_ : OwnGo p.tables e below (fun UU' oo => ∃ rv LL, oo = .returned rv ∧ own_eqs_Q Z t v0 v1 v2 v3 h0 n0 rv UU'.heap LL ∧ FrameEnd s oo UU' LL ({ frames := 0, cells := 0, slots := 0, locals := 0 } : Room).cells ({ frames := 0, cells := 0, slots := 0, locals := 0 } : Room).slots) _)
  refine OwnGo.back (s₁.setTop (mkF m 0 #[.val (.ref t), .val (.ref t), .unset] [])) (fun tg kk => castTop (own_eqs_ef m t t) kk) ?_
  refine OwnGo.back (s₁.setTop (mkF m 1 #[.val (.ref t), .val (.ref t), .unset] [(.ref t)])) (fun tg kk => XS.aloadN X0.here hx rfl (hb hby own_d3_0) rfl rfl kk) ?_
  obtain ⟨T1, X1, e1, st1⟩ := instY X0 hx hZ hown (hw _ (List.mem_of_getElem? (i := 22) rfl)) e0 (Ins.self H0) (g := (mkF m 1 #[.val (.ref t), .val (.ref t), .unset] [(.ref t)])) rfl rfl (hb hby own_d3_1)
  refine OwnGo.back (T1.setTop (mkF m 4 #[.val (.ref t), .val (.ref t), .unset] [(.int (1 : Int32))])) (fun tg kk => st1 _ kk) ?_
  refine OwnGo.back (T1.setTop (mkF m 7 #[.val (.ref t), .val (.ref t), .unset] [])) (fun tg kk => XS.ifNo X1.here hx rfl (hb hby own_d3_4) rfl ((if0 _ _).trans (feq (by decide : ¬ ((1 : Int32) = (0 : Int32)))).1) kk) ?_
  refine OwnGo.back (T1.setTop (mkF m 8 #[.val (.ref t), .val (.ref t), .unset] [(.ref t)])) (fun tg kk => XS.aloadN X1.here hx rfl (hb hby own_d3_7) rfl rfl kk) ?_
  obtain ⟨T2, X2, e2, st2⟩ := castY X1 hx hZ hown (hw _ (List.mem_of_getElem? (i := 22) rfl)) e1 (Ins.self H0) (g := (mkF m 8 #[.val (.ref t), .val (.ref t), .unset] [(.ref t)])) rfl rfl (hb hby own_d3_8)
  refine OwnGo.back (T2.setTop (mkF m 11 #[.val (.ref t), .val (.ref t), .unset] [(.ref t)])) (fun tg kk => st2 _ kk) ?_
  refine OwnGo.back (T2.setTop (mkF m 12 #[.val (.ref t), .val (.ref t), .val (.ref t)] [])) (fun tg kk => XS.astoreN X2.here hx rfl (hb hby own_d3_11) rfl rfl (l' := #[.val (.ref t), .val (.ref t), .val (.ref t)]) rfl kk) ?_
  refine OwnGo.back (T2.setTop (mkF m 13 #[.val (.ref t), .val (.ref t), .val (.ref t)] [(.ref t)])) (fun tg kk => XS.aloadN X2.here hx rfl (hb hby own_d3_12) rfl rfl kk) ?_
  obtain ⟨T3, X3, e3, st3⟩ := getF X2 hx hZ hown (host := "") (Or.inl (hw _ (List.mem_of_getElem? (i := 9) rfl))) Via.refl e2 H1 (g := (mkF m 13 #[.val (.ref t), .val (.ref t), .val (.ref t)] [(.ref t)])) rfl rfl (hb hby own_d3_13)
  refine OwnGo.back (T3.setTop (mkF m 16 #[.val (.ref t), .val (.ref t), .val (.ref t)] [(.long v0)])) (fun tg kk => st3 _ kk) ?_
  refine OwnGo.back (T3.setTop (mkF m 17 #[.val (.ref t), .val (.ref t), .val (.ref t)] [(.ref t), (.long v0)])) (fun tg kk => XS.aloadN X3.here hx rfl (hb hby own_d3_16) rfl rfl kk) ?_
  obtain ⟨T4, X4, e4, st4⟩ := getF X3 hx hZ hown (host := "") (Or.inl (hw _ (List.mem_of_getElem? (i := 9) rfl))) Via.refl e3 H1 (g := (mkF m 17 #[.val (.ref t), .val (.ref t), .val (.ref t)] [(.ref t), (.long v0)])) rfl rfl (hb hby own_d3_17)
  refine OwnGo.back (T4.setTop (mkF m 20 #[.val (.ref t), .val (.ref t), .val (.ref t)] [(.long v0), (.long v0)])) (fun tg kk => st4 _ kk) ?_
  refine OwnGo.back (T4.setTop (mkF m 21 #[.val (.ref t), .val (.ref t), .val (.ref t)] [(.int (lcmpW v0 v0))])) (fun tg kk => XS.lcmp X4.here hx rfl (hb hby own_d3_20) rfl kk) ?_
  refine OwnGo.back (T4.setTop (mkF m 24 #[.val (.ref t), .val (.ref t), .val (.ref t)] [])) (fun tg kk => XS.ifNo X4.here hx rfl (hb hby own_d3_21) rfl ((if0 _ _).trans (teq ((lw_eq _ _).mpr (rfl : v0 = v0))).2) kk) ?_
  refine OwnGo.back (T4.setTop (mkF m 25 #[.val (.ref t), .val (.ref t), .val (.ref t)] [(.ref t)])) (fun tg kk => XS.aloadN X4.here hx rfl (hb hby own_d3_24) rfl rfl kk) ?_
  obtain ⟨T5, X5, e5, st5⟩ := getF X4 hx hZ hown (host := "") (Or.inl (hw _ (List.mem_of_getElem? (i := 11) rfl))) Via.refl e4 H2 (g := (mkF m 25 #[.val (.ref t), .val (.ref t), .val (.ref t)] [(.ref t)])) rfl rfl (hb hby own_d3_25)
  refine OwnGo.back (T5.setTop (mkF m 28 #[.val (.ref t), .val (.ref t), .val (.ref t)] [(.long v1)])) (fun tg kk => st5 _ kk) ?_
  refine OwnGo.back (T5.setTop (mkF m 29 #[.val (.ref t), .val (.ref t), .val (.ref t)] [(.ref t), (.long v1)])) (fun tg kk => XS.aloadN X5.here hx rfl (hb hby own_d3_28) rfl rfl kk) ?_
  obtain ⟨T6, X6, e6, st6⟩ := getF X5 hx hZ hown (host := "") (Or.inl (hw _ (List.mem_of_getElem? (i := 11) rfl))) Via.refl e5 H2 (g := (mkF m 29 #[.val (.ref t), .val (.ref t), .val (.ref t)] [(.ref t), (.long v1)])) rfl rfl (hb hby own_d3_29)
  refine OwnGo.back (T6.setTop (mkF m 32 #[.val (.ref t), .val (.ref t), .val (.ref t)] [(.long v1), (.long v1)])) (fun tg kk => st6 _ kk) ?_
  refine OwnGo.back (T6.setTop (mkF m 33 #[.val (.ref t), .val (.ref t), .val (.ref t)] [(.int (lcmpW v1 v1))])) (fun tg kk => XS.lcmp X6.here hx rfl (hb hby own_d3_32) rfl kk) ?_
  refine OwnGo.back (T6.setTop (mkF m 36 #[.val (.ref t), .val (.ref t), .val (.ref t)] [])) (fun tg kk => XS.ifNo X6.here hx rfl (hb hby own_d3_33) rfl ((if0 _ _).trans (teq ((lw_eq _ _).mpr (rfl : v1 = v1))).2) kk) ?_
  refine OwnGo.back (T6.setTop (mkF m 37 #[.val (.ref t), .val (.ref t), .val (.ref t)] [(.ref t)])) (fun tg kk => XS.aloadN X6.here hx rfl (hb hby own_d3_36) rfl rfl kk) ?_
  obtain ⟨T7, X7, e7, st7⟩ := getF X6 hx hZ hown (host := "") (Or.inl (hw _ (List.mem_of_getElem? (i := 13) rfl))) Via.refl e6 H3 (g := (mkF m 37 #[.val (.ref t), .val (.ref t), .val (.ref t)] [(.ref t)])) rfl rfl (hb hby own_d3_37)
  refine OwnGo.back (T7.setTop (mkF m 40 #[.val (.ref t), .val (.ref t), .val (.ref t)] [(.long v2)])) (fun tg kk => st7 _ kk) ?_
  refine OwnGo.back (T7.setTop (mkF m 41 #[.val (.ref t), .val (.ref t), .val (.ref t)] [(.ref t), (.long v2)])) (fun tg kk => XS.aloadN X7.here hx rfl (hb hby own_d3_40) rfl rfl kk) ?_
  obtain ⟨T8, X8, e8, st8⟩ := getF X7 hx hZ hown (host := "") (Or.inl (hw _ (List.mem_of_getElem? (i := 13) rfl))) Via.refl e7 H3 (g := (mkF m 41 #[.val (.ref t), .val (.ref t), .val (.ref t)] [(.ref t), (.long v2)])) rfl rfl (hb hby own_d3_41)
  refine OwnGo.back (T8.setTop (mkF m 44 #[.val (.ref t), .val (.ref t), .val (.ref t)] [(.long v2), (.long v2)])) (fun tg kk => st8 _ kk) ?_
  refine OwnGo.back (T8.setTop (mkF m 45 #[.val (.ref t), .val (.ref t), .val (.ref t)] [(.int (lcmpW v2 v2))])) (fun tg kk => XS.lcmp X8.here hx rfl (hb hby own_d3_44) rfl kk) ?_
  refine OwnGo.back (T8.setTop (mkF m 48 #[.val (.ref t), .val (.ref t), .val (.ref t)] [])) (fun tg kk => XS.ifNo X8.here hx rfl (hb hby own_d3_45) rfl ((if0 _ _).trans (teq ((lw_eq _ _).mpr (rfl : v2 = v2))).2) kk) ?_
  refine OwnGo.back (T8.setTop (mkF m 49 #[.val (.ref t), .val (.ref t), .val (.ref t)] [(.ref t)])) (fun tg kk => XS.aloadN X8.here hx rfl (hb hby own_d3_48) rfl rfl kk) ?_
  obtain ⟨T9, X9, e9, st9⟩ := getF X8 hx hZ hown (host := "") (Or.inl (hw _ (List.mem_of_getElem? (i := 15) rfl))) Via.refl e8 H4 (g := (mkF m 49 #[.val (.ref t), .val (.ref t), .val (.ref t)] [(.ref t)])) rfl rfl (hb hby own_d3_49)
  refine OwnGo.back (T9.setTop (mkF m 52 #[.val (.ref t), .val (.ref t), .val (.ref t)] [(.long v3)])) (fun tg kk => st9 _ kk) ?_
  refine OwnGo.back (T9.setTop (mkF m 53 #[.val (.ref t), .val (.ref t), .val (.ref t)] [(.ref t), (.long v3)])) (fun tg kk => XS.aloadN X9.here hx rfl (hb hby own_d3_52) rfl rfl kk) ?_
  obtain ⟨T10, X10, e10, st10⟩ := getF X9 hx hZ hown (host := "") (Or.inl (hw _ (List.mem_of_getElem? (i := 15) rfl))) Via.refl e9 H4 (g := (mkF m 53 #[.val (.ref t), .val (.ref t), .val (.ref t)] [(.ref t), (.long v3)])) rfl rfl (hb hby own_d3_53)
  refine OwnGo.back (T10.setTop (mkF m 56 #[.val (.ref t), .val (.ref t), .val (.ref t)] [(.long v3), (.long v3)])) (fun tg kk => st10 _ kk) ?_
  refine OwnGo.back (T10.setTop (mkF m 57 #[.val (.ref t), .val (.ref t), .val (.ref t)] [(.int (lcmpW v3 v3))])) (fun tg kk => XS.lcmp X10.here hx rfl (hb hby own_d3_56) rfl kk) ?_
  refine OwnGo.back (T10.setTop (mkF m 60 #[.val (.ref t), .val (.ref t), .val (.ref t)] [])) (fun tg kk => XS.ifNo X10.here hx rfl (hb hby own_d3_57) rfl ((if0 _ _).trans (teq ((lw_eq _ _).mpr (rfl : v3 = v3))).2) kk) ?_
  refine OwnGo.back (T10.setTop (mkF m 61 #[.val (.ref t), .val (.ref t), .val (.ref t)] [(.int (1 : Int32))])) (fun tg kk => XS.iconst X10.here hx rfl (hb hby own_d3_60) kk) ?_
  refine OwnGo.back (T10.setTop (mkF m 65 #[.val (.ref t), .val (.ref t), .val (.ref t)] [(.int (1 : Int32))])) (fun tg kk => XS.goto X10.here hx rfl (pc0 := 61) (pc' := 65) rfl (hb hby own_d3_61) (by decide) (by decide) kk) ?_
  obtain ⟨fs, hr, hrun, hended, hW, hsame⟩ := X10.leave (v := some (.int (1 : Int32))) (fun h => by rw [Bd.returns] at h; cases h)
  refine ⟨_, _, ?_, hrun, hended, _, _, rfl, ?_, ⟨_, rfl⟩, hW, hsame.mono (by decide) (by decide)⟩
  · exact retN X10 hx (t := .boolean) Bd.returns (by simp) (hb hby own_d3_65) hr
  · show own_eqs_Q Z t v0 v1 v2 v3 h0 n0 _ T10.heap _
    rw [e10]
    exact ⟨rfl, N0, rfl⟩
theorem own_eqt_ef (m : MethodId) (x0 : Addr) (x1 : Addr) : entryFrame m #[(.ref x0), (.ref x1)] 3 = mkF m 0 #[.val (.ref x0), .val (.ref x1), .unset] [] := by first | (simp [entryFrame, mkF, argsToLocals, Value.category]; done) | rfl
def own_eqt_Q (Z : State) (t : Addr) (u : Addr) (v0 : Int64) (v1 : Int64) (v2 : Int64) (v3 : Int64) (w0 : Int64) (w1 : Int64) (w2 : Int64) (w3 : Int64) (h0 : Heap) (n0 : Nat) (rv : Option Value) (hN : Heap) (LL : List Loc) : Prop := ∃ (r : Int32), rv = some (.int r) ∧ Fr n0 LL ∧ hN = h0 ∧ ((r = 1 ∧ v0 = w0 ∧ v1 = w1 ∧ v2 = w2 ∧ v3 = w3) ∨ (r = 0 ∧ ¬ (v0 = w0 ∧ v1 = w1 ∧ v2 = w2 ∧ v3 = w3)))
set_option maxRecDepth 65536 in
set_option maxHeartbeats 40000000 in
theorem own_eqt (l : Launch) (Z : State) (a0 : Array Value) (hw : ∀ d ∈ tables_1, d.before a0 Z = true) (ws : List Jvm.Cond) (t : Addr) (u : Addr) (v0 : Int64) (v1 : Int64) (v2 : Int64) (v3 : Int64) (w0 : Int64) (w1 : Int64) (w2 : Int64) (w3 : Int64) (h0 : Heap) (n0 : Nat) (Z0 : n0 ≤ h0.size) (H0 : Exa Z h0 u "com/example/tallyframe/tallyframe/Tally") (H1 : Fld Z h0 t "com/example/tallyframe/tallyframe/Tally" "allocatedObjects" "J" (.long v0)) (H2 : Fld Z h0 t "com/example/tallyframe/tallyframe/Tally" "allocatedBytes" "J" (.long v1)) (H3 : Fld Z h0 t "com/example/tallyframe/tallyframe/Tally" "releasedObjects" "J" (.long v2)) (H4 : Fld Z h0 t "com/example/tallyframe/tallyframe/Tally" "releasedBytes" "J" (.long v3)) (H5 : Fld Z h0 u "com/example/tallyframe/tallyframe/Tally" "allocatedObjects" "J" (.long w0)) (H6 : Fld Z h0 u "com/example/tallyframe/tallyframe/Tally" "allocatedBytes" "J" (.long w1)) (H7 : Fld Z h0 u "com/example/tallyframe/tallyframe/Tally" "releasedObjects" "J" (.long w2)) (H8 : Fld Z h0 u "com/example/tallyframe/tallyframe/Tally" "releasedBytes" "J" (.long w3)) :
    MetFree l (⟨"com/example/tallyframe/tallyframe/Tally", "equals", "(Ljava/lang/Object;)Z"⟩ : MethodName) (head1 (Jvm.Cond.code (⟨"com/example/tallyframe/tallyframe/Tally", "equals", "(Ljava/lang/Object;)Z"⟩ : MethodName) prog_24_method_8_code 3 (some .boolean) :: ws) ({ frames := 0, cells := 0, slots := 0, locals := 0 } : Room)) (fun aa UU => aa = #[(.ref t), (.ref u)] ∧ Z.Warmed39 UU.vm ∧ UU.heap = h0) (fun _ _ _ _ _ => True) (fun _ UU oo UU' => ∃ rv LL, oo = .returned rv ∧ own_eqt_Q Z t u v0 v1 v2 v3 w0 w1 w2 w3 h0 n0 rv UU'.heap LL ∧ FrameEnd UU oo UU' LL ({ frames := 0, cells := 0, slots := 0, locals := 0 } : Room).cells ({ frames := 0, cells := 0, slots := 0, locals := 0 } : Room).slots) := by
  refine MetFree.of_bodySF (plainFor_of_name own_pn2) hisR ?_
  intro p e s m args below meth c s₁ Bd hml0 hP hK
  obtain ⟨rfl, hZ, hh⟩ := hP
  have hx := Bd.exec
  have hby := Bd.bytes
  have hml : c.maxLocals = 3 := hml0
  have hown : s.vm.findClass "com/example/tallyframe/tallyframe/Tally" = some m.cls := findClass_of_methodNamed Bd.named
  have hnm := (name_of_methodNamed Bd.named Bd.method).1
  have X0 : Stand p l e ({ frames := 0, cells := 0, slots := 0, locals := 0 } : Room) s m #[(.ref t), (.ref u)] below meth c s₁ [] 0 0 := Stand.of_body Bd
  have e0 : s₁.heap = h0 := by rw [← hh, Bd.state]; rfl
  have N0 := Fr.nil n0
  have K0 : Keep h0 h0 [] := Keep.refl h0 _
  refine (?_ : OwnGo p.tables e below (fun UU' oo => ∃ rv LL, oo = .returned rv ∧ own_eqt_Q Z t u v0 v1 v2 v3 w0 w1 w2 w3 h0 n0 rv UU'.heap LL ∧ FrameEnd s oo UU' LL ({ frames := 0, cells := 0, slots := 0, locals := 0 } : Room).cells ({ frames := 0, cells := 0, slots := 0, locals := 0 } : Room).slots) _)
  refine OwnGo.back (s₁.setTop (mkF m 0 #[.val (.ref t), .val (.ref u), .unset] [])) (fun tg kk => castTop (own_eqt_ef m t u) kk) ?_
  refine OwnGo.back (s₁.setTop (mkF m 1 #[.val (.ref t), .val (.ref u), .unset] [(.ref u)])) (fun tg kk => XS.aloadN X0.here hx rfl (hb hby own_d3_0) rfl rfl kk) ?_
  obtain ⟨T1, X1, e1, st1⟩ := instY X0 hx hZ hown (hw _ (List.mem_of_getElem? (i := 22) rfl)) e0 (Ins.self H0) (g := (mkF m 1 #[.val (.ref t), .val (.ref u), .unset] [(.ref u)])) rfl rfl (hb hby own_d3_1)
  refine OwnGo.back (T1.setTop (mkF m 4 #[.val (.ref t), .val (.ref u), .unset] [(.int (1 : Int32))])) (fun tg kk => st1 _ kk) ?_
  refine OwnGo.back (T1.setTop (mkF m 7 #[.val (.ref t), .val (.ref u), .unset] [])) (fun tg kk => XS.ifNo X1.here hx rfl (hb hby own_d3_4) rfl ((if0 _ _).trans (feq (by decide : ¬ ((1 : Int32) = (0 : Int32)))).1) kk) ?_
  refine OwnGo.back (T1.setTop (mkF m 8 #[.val (.ref t), .val (.ref u), .unset] [(.ref u)])) (fun tg kk => XS.aloadN X1.here hx rfl (hb hby own_d3_7) rfl rfl kk) ?_
  obtain ⟨T2, X2, e2, st2⟩ := castY X1 hx hZ hown (hw _ (List.mem_of_getElem? (i := 22) rfl)) e1 (Ins.self H0) (g := (mkF m 8 #[.val (.ref t), .val (.ref u), .unset] [(.ref u)])) rfl rfl (hb hby own_d3_8)
  refine OwnGo.back (T2.setTop (mkF m 11 #[.val (.ref t), .val (.ref u), .unset] [(.ref u)])) (fun tg kk => st2 _ kk) ?_
  refine OwnGo.back (T2.setTop (mkF m 12 #[.val (.ref t), .val (.ref u), .val (.ref u)] [])) (fun tg kk => XS.astoreN X2.here hx rfl (hb hby own_d3_11) rfl rfl (l' := #[.val (.ref t), .val (.ref u), .val (.ref u)]) rfl kk) ?_
  refine OwnGo.back (T2.setTop (mkF m 13 #[.val (.ref t), .val (.ref u), .val (.ref u)] [(.ref t)])) (fun tg kk => XS.aloadN X2.here hx rfl (hb hby own_d3_12) rfl rfl kk) ?_
  obtain ⟨T3, X3, e3, st3⟩ := getF X2 hx hZ hown (host := "") (Or.inl (hw _ (List.mem_of_getElem? (i := 9) rfl))) Via.refl e2 H1 (g := (mkF m 13 #[.val (.ref t), .val (.ref u), .val (.ref u)] [(.ref t)])) rfl rfl (hb hby own_d3_13)
  refine OwnGo.back (T3.setTop (mkF m 16 #[.val (.ref t), .val (.ref u), .val (.ref u)] [(.long v0)])) (fun tg kk => st3 _ kk) ?_
  refine OwnGo.back (T3.setTop (mkF m 17 #[.val (.ref t), .val (.ref u), .val (.ref u)] [(.ref u), (.long v0)])) (fun tg kk => XS.aloadN X3.here hx rfl (hb hby own_d3_16) rfl rfl kk) ?_
  obtain ⟨T4, X4, e4, st4⟩ := getF X3 hx hZ hown (host := "") (Or.inl (hw _ (List.mem_of_getElem? (i := 9) rfl))) Via.refl e3 H5 (g := (mkF m 17 #[.val (.ref t), .val (.ref u), .val (.ref u)] [(.ref u), (.long v0)])) rfl rfl (hb hby own_d3_17)
  refine OwnGo.back (T4.setTop (mkF m 20 #[.val (.ref t), .val (.ref u), .val (.ref u)] [(.long w0), (.long v0)])) (fun tg kk => st4 _ kk) ?_
  refine OwnGo.back (T4.setTop (mkF m 21 #[.val (.ref t), .val (.ref u), .val (.ref u)] [(.int (lcmpW v0 w0))])) (fun tg kk => XS.lcmp X4.here hx rfl (hb hby own_d3_20) rfl kk) ?_
  by_cases hc5 : v0 = w0
  ·
    refine OwnGo.back (T4.setTop (mkF m 24 #[.val (.ref t), .val (.ref u), .val (.ref u)] [])) (fun tg kk => XS.ifNo X4.here hx rfl (hb hby own_d3_21) rfl ((if0 _ _).trans (teq ((lw_eq _ _).mpr hc5)).2) kk) ?_
    refine OwnGo.back (T4.setTop (mkF m 25 #[.val (.ref t), .val (.ref u), .val (.ref u)] [(.ref t)])) (fun tg kk => XS.aloadN X4.here hx rfl (hb hby own_d3_24) rfl rfl kk) ?_
    obtain ⟨T6, X6, e6, st6⟩ := getF X4 hx hZ hown (host := "") (Or.inl (hw _ (List.mem_of_getElem? (i := 11) rfl))) Via.refl e4 H2 (g := (mkF m 25 #[.val (.ref t), .val (.ref u), .val (.ref u)] [(.ref t)])) rfl rfl (hb hby own_d3_25)
    refine OwnGo.back (T6.setTop (mkF m 28 #[.val (.ref t), .val (.ref u), .val (.ref u)] [(.long v1)])) (fun tg kk => st6 _ kk) ?_
    refine OwnGo.back (T6.setTop (mkF m 29 #[.val (.ref t), .val (.ref u), .val (.ref u)] [(.ref u), (.long v1)])) (fun tg kk => XS.aloadN X6.here hx rfl (hb hby own_d3_28) rfl rfl kk) ?_
    obtain ⟨T7, X7, e7, st7⟩ := getF X6 hx hZ hown (host := "") (Or.inl (hw _ (List.mem_of_getElem? (i := 11) rfl))) Via.refl e6 H6 (g := (mkF m 29 #[.val (.ref t), .val (.ref u), .val (.ref u)] [(.ref u), (.long v1)])) rfl rfl (hb hby own_d3_29)
    refine OwnGo.back (T7.setTop (mkF m 32 #[.val (.ref t), .val (.ref u), .val (.ref u)] [(.long w1), (.long v1)])) (fun tg kk => st7 _ kk) ?_
    refine OwnGo.back (T7.setTop (mkF m 33 #[.val (.ref t), .val (.ref u), .val (.ref u)] [(.int (lcmpW v1 w1))])) (fun tg kk => XS.lcmp X7.here hx rfl (hb hby own_d3_32) rfl kk) ?_
    by_cases hc8 : v1 = w1
    ·
      refine OwnGo.back (T7.setTop (mkF m 36 #[.val (.ref t), .val (.ref u), .val (.ref u)] [])) (fun tg kk => XS.ifNo X7.here hx rfl (hb hby own_d3_33) rfl ((if0 _ _).trans (teq ((lw_eq _ _).mpr hc8)).2) kk) ?_
      refine OwnGo.back (T7.setTop (mkF m 37 #[.val (.ref t), .val (.ref u), .val (.ref u)] [(.ref t)])) (fun tg kk => XS.aloadN X7.here hx rfl (hb hby own_d3_36) rfl rfl kk) ?_
      obtain ⟨T9, X9, e9, st9⟩ := getF X7 hx hZ hown (host := "") (Or.inl (hw _ (List.mem_of_getElem? (i := 13) rfl))) Via.refl e7 H3 (g := (mkF m 37 #[.val (.ref t), .val (.ref u), .val (.ref u)] [(.ref t)])) rfl rfl (hb hby own_d3_37)
      refine OwnGo.back (T9.setTop (mkF m 40 #[.val (.ref t), .val (.ref u), .val (.ref u)] [(.long v2)])) (fun tg kk => st9 _ kk) ?_
      refine OwnGo.back (T9.setTop (mkF m 41 #[.val (.ref t), .val (.ref u), .val (.ref u)] [(.ref u), (.long v2)])) (fun tg kk => XS.aloadN X9.here hx rfl (hb hby own_d3_40) rfl rfl kk) ?_
      obtain ⟨T10, X10, e10, st10⟩ := getF X9 hx hZ hown (host := "") (Or.inl (hw _ (List.mem_of_getElem? (i := 13) rfl))) Via.refl e9 H7 (g := (mkF m 41 #[.val (.ref t), .val (.ref u), .val (.ref u)] [(.ref u), (.long v2)])) rfl rfl (hb hby own_d3_41)
      refine OwnGo.back (T10.setTop (mkF m 44 #[.val (.ref t), .val (.ref u), .val (.ref u)] [(.long w2), (.long v2)])) (fun tg kk => st10 _ kk) ?_
      refine OwnGo.back (T10.setTop (mkF m 45 #[.val (.ref t), .val (.ref u), .val (.ref u)] [(.int (lcmpW v2 w2))])) (fun tg kk => XS.lcmp X10.here hx rfl (hb hby own_d3_44) rfl kk) ?_
      by_cases hc11 : v2 = w2
      ·
        refine OwnGo.back (T10.setTop (mkF m 48 #[.val (.ref t), .val (.ref u), .val (.ref u)] [])) (fun tg kk => XS.ifNo X10.here hx rfl (hb hby own_d3_45) rfl ((if0 _ _).trans (teq ((lw_eq _ _).mpr hc11)).2) kk) ?_
        refine OwnGo.back (T10.setTop (mkF m 49 #[.val (.ref t), .val (.ref u), .val (.ref u)] [(.ref t)])) (fun tg kk => XS.aloadN X10.here hx rfl (hb hby own_d3_48) rfl rfl kk) ?_
        obtain ⟨T12, X12, e12, st12⟩ := getF X10 hx hZ hown (host := "") (Or.inl (hw _ (List.mem_of_getElem? (i := 15) rfl))) Via.refl e10 H4 (g := (mkF m 49 #[.val (.ref t), .val (.ref u), .val (.ref u)] [(.ref t)])) rfl rfl (hb hby own_d3_49)
        refine OwnGo.back (T12.setTop (mkF m 52 #[.val (.ref t), .val (.ref u), .val (.ref u)] [(.long v3)])) (fun tg kk => st12 _ kk) ?_
        refine OwnGo.back (T12.setTop (mkF m 53 #[.val (.ref t), .val (.ref u), .val (.ref u)] [(.ref u), (.long v3)])) (fun tg kk => XS.aloadN X12.here hx rfl (hb hby own_d3_52) rfl rfl kk) ?_
        obtain ⟨T13, X13, e13, st13⟩ := getF X12 hx hZ hown (host := "") (Or.inl (hw _ (List.mem_of_getElem? (i := 15) rfl))) Via.refl e12 H8 (g := (mkF m 53 #[.val (.ref t), .val (.ref u), .val (.ref u)] [(.ref u), (.long v3)])) rfl rfl (hb hby own_d3_53)
        refine OwnGo.back (T13.setTop (mkF m 56 #[.val (.ref t), .val (.ref u), .val (.ref u)] [(.long w3), (.long v3)])) (fun tg kk => st13 _ kk) ?_
        refine OwnGo.back (T13.setTop (mkF m 57 #[.val (.ref t), .val (.ref u), .val (.ref u)] [(.int (lcmpW v3 w3))])) (fun tg kk => XS.lcmp X13.here hx rfl (hb hby own_d3_56) rfl kk) ?_
        by_cases hc14 : v3 = w3
        ·
          refine OwnGo.back (T13.setTop (mkF m 60 #[.val (.ref t), .val (.ref u), .val (.ref u)] [])) (fun tg kk => XS.ifNo X13.here hx rfl (hb hby own_d3_57) rfl ((if0 _ _).trans (teq ((lw_eq _ _).mpr hc14)).2) kk) ?_
          refine OwnGo.back (T13.setTop (mkF m 61 #[.val (.ref t), .val (.ref u), .val (.ref u)] [(.int (1 : Int32))])) (fun tg kk => XS.iconst X13.here hx rfl (hb hby own_d3_60) kk) ?_
          refine OwnGo.back (T13.setTop (mkF m 65 #[.val (.ref t), .val (.ref u), .val (.ref u)] [(.int (1 : Int32))])) (fun tg kk => XS.goto X13.here hx rfl (pc0 := 61) (pc' := 65) rfl (hb hby own_d3_61) (by decide) (by decide) kk) ?_
          obtain ⟨fs, hr, hrun, hended, hW, hsame⟩ := X13.leave (v := some (.int (1 : Int32))) (fun h => by rw [Bd.returns] at h; cases h)
          refine ⟨_, _, ?_, hrun, hended, _, _, rfl, ?_, ⟨_, rfl⟩, hW, hsame.mono (by decide) (by decide)⟩
          · exact retN X13 hx (t := .boolean) Bd.returns (by simp) (hb hby own_d3_65) hr
          · show own_eqt_Q Z t u v0 v1 v2 v3 w0 w1 w2 w3 h0 n0 _ T13.heap _
            rw [e13]
            exact ⟨(1 : Int32), rfl, N0, rfl, (by (simp only [true_and, and_true, false_and, and_false, or_false, false_or, or_true, true_or, not_true_eq_false, not_false_eq_true, eq_self, Int32.lt_iff_toInt_lt, Int32.le_iff_toInt_le, ← Int32.toInt_inj, Int32.reduceToInt, Int64.lt_iff_toInt_lt, Int64.le_iff_toInt_le, ← Int64.toInt_inj, Int64.reduceToInt] at hc5 hc8 hc11 hc14 ⊢) <;> omega)⟩
        ·
          refine OwnGo.back (T13.setTop (mkF m 64 #[.val (.ref t), .val (.ref u), .val (.ref u)] [])) (fun tg kk => XS.ifYes X13.here hx rfl (pc0 := 57) (pc' := 64) rfl (hb hby own_d3_57) rfl ((if0 _ _).trans (feq (own_not (lw_eq _ _) hc14)).2) (by decide) (by decide) kk) ?_
          refine OwnGo.back (T13.setTop (mkF m 65 #[.val (.ref t), .val (.ref u), .val (.ref u)] [(.int (0 : Int32))])) (fun tg kk => XS.iconst X13.here hx rfl (hb hby own_d3_64) kk) ?_
          obtain ⟨fs, hr, hrun, hended, hW, hsame⟩ := X13.leave (v := some (.int (0 : Int32))) (fun h => by rw [Bd.returns] at h; cases h)
          refine ⟨_, _, ?_, hrun, hended, _, _, rfl, ?_, ⟨_, rfl⟩, hW, hsame.mono (by decide) (by decide)⟩
          · exact retN X13 hx (t := .boolean) Bd.returns (by simp) (hb hby own_d3_65) hr
          · show own_eqt_Q Z t u v0 v1 v2 v3 w0 w1 w2 w3 h0 n0 _ T13.heap _
            rw [e13]
            exact ⟨(0 : Int32), rfl, N0, rfl, (by (simp only [true_and, and_true, false_and, and_false, or_false, false_or, or_true, true_or, not_true_eq_false, not_false_eq_true, eq_self, Int32.lt_iff_toInt_lt, Int32.le_iff_toInt_le, ← Int32.toInt_inj, Int32.reduceToInt, Int64.lt_iff_toInt_lt, Int64.le_iff_toInt_le, ← Int64.toInt_inj, Int64.reduceToInt] at hc5 hc8 hc11 hc14 ⊢) <;> omega)⟩
      ·
        refine OwnGo.back (T10.setTop (mkF m 64 #[.val (.ref t), .val (.ref u), .val (.ref u)] [])) (fun tg kk => XS.ifYes X10.here hx rfl (pc0 := 45) (pc' := 64) rfl (hb hby own_d3_45) rfl ((if0 _ _).trans (feq (own_not (lw_eq _ _) hc11)).2) (by decide) (by decide) kk) ?_
        refine OwnGo.back (T10.setTop (mkF m 65 #[.val (.ref t), .val (.ref u), .val (.ref u)] [(.int (0 : Int32))])) (fun tg kk => XS.iconst X10.here hx rfl (hb hby own_d3_64) kk) ?_
        obtain ⟨fs, hr, hrun, hended, hW, hsame⟩ := X10.leave (v := some (.int (0 : Int32))) (fun h => by rw [Bd.returns] at h; cases h)
        refine ⟨_, _, ?_, hrun, hended, _, _, rfl, ?_, ⟨_, rfl⟩, hW, hsame.mono (by decide) (by decide)⟩
        · exact retN X10 hx (t := .boolean) Bd.returns (by simp) (hb hby own_d3_65) hr
        · show own_eqt_Q Z t u v0 v1 v2 v3 w0 w1 w2 w3 h0 n0 _ T10.heap _
          rw [e10]
          exact ⟨(0 : Int32), rfl, N0, rfl, (by (simp only [true_and, and_true, false_and, and_false, or_false, false_or, or_true, true_or, not_true_eq_false, not_false_eq_true, eq_self, Int32.lt_iff_toInt_lt, Int32.le_iff_toInt_le, ← Int32.toInt_inj, Int32.reduceToInt, Int64.lt_iff_toInt_lt, Int64.le_iff_toInt_le, ← Int64.toInt_inj, Int64.reduceToInt] at hc5 hc8 hc11 ⊢) <;> omega)⟩
    ·
      refine OwnGo.back (T7.setTop (mkF m 64 #[.val (.ref t), .val (.ref u), .val (.ref u)] [])) (fun tg kk => XS.ifYes X7.here hx rfl (pc0 := 33) (pc' := 64) rfl (hb hby own_d3_33) rfl ((if0 _ _).trans (feq (own_not (lw_eq _ _) hc8)).2) (by decide) (by decide) kk) ?_
      refine OwnGo.back (T7.setTop (mkF m 65 #[.val (.ref t), .val (.ref u), .val (.ref u)] [(.int (0 : Int32))])) (fun tg kk => XS.iconst X7.here hx rfl (hb hby own_d3_64) kk) ?_
      obtain ⟨fs, hr, hrun, hended, hW, hsame⟩ := X7.leave (v := some (.int (0 : Int32))) (fun h => by rw [Bd.returns] at h; cases h)
      refine ⟨_, _, ?_, hrun, hended, _, _, rfl, ?_, ⟨_, rfl⟩, hW, hsame.mono (by decide) (by decide)⟩
      · exact retN X7 hx (t := .boolean) Bd.returns (by simp) (hb hby own_d3_65) hr
      · show own_eqt_Q Z t u v0 v1 v2 v3 w0 w1 w2 w3 h0 n0 _ T7.heap _
        rw [e7]
        exact ⟨(0 : Int32), rfl, N0, rfl, (by (simp only [true_and, and_true, false_and, and_false, or_false, false_or, or_true, true_or, not_true_eq_false, not_false_eq_true, eq_self, Int32.lt_iff_toInt_lt, Int32.le_iff_toInt_le, ← Int32.toInt_inj, Int32.reduceToInt, Int64.lt_iff_toInt_lt, Int64.le_iff_toInt_le, ← Int64.toInt_inj, Int64.reduceToInt] at hc5 hc8 ⊢) <;> omega)⟩
  ·
    refine OwnGo.back (T4.setTop (mkF m 64 #[.val (.ref t), .val (.ref u), .val (.ref u)] [])) (fun tg kk => XS.ifYes X4.here hx rfl (pc0 := 21) (pc' := 64) rfl (hb hby own_d3_21) rfl ((if0 _ _).trans (feq (own_not (lw_eq _ _) hc5)).2) (by decide) (by decide) kk) ?_
    refine OwnGo.back (T4.setTop (mkF m 65 #[.val (.ref t), .val (.ref u), .val (.ref u)] [(.int (0 : Int32))])) (fun tg kk => XS.iconst X4.here hx rfl (hb hby own_d3_64) kk) ?_
    obtain ⟨fs, hr, hrun, hended, hW, hsame⟩ := X4.leave (v := some (.int (0 : Int32))) (fun h => by rw [Bd.returns] at h; cases h)
    refine ⟨_, _, ?_, hrun, hended, _, _, rfl, ?_, ⟨_, rfl⟩, hW, hsame.mono (by decide) (by decide)⟩
    · exact retN X4 hx (t := .boolean) Bd.returns (by simp) (hb hby own_d3_65) hr
    · show own_eqt_Q Z t u v0 v1 v2 v3 w0 w1 w2 w3 h0 n0 _ T4.heap _
      rw [e4]
      exact ⟨(0 : Int32), rfl, N0, rfl, (by (simp only [true_and, and_true, false_and, and_false, or_false, false_or, or_true, true_or, not_true_eq_false, not_false_eq_true, eq_self, Int32.lt_iff_toInt_lt, Int32.le_iff_toInt_le, ← Int32.toInt_inj, Int32.reduceToInt, Int64.lt_iff_toInt_lt, Int64.le_iff_toInt_le, ← Int64.toInt_inj, Int64.reduceToInt] at hc5 ⊢) <;> omega)⟩
theorem own_bits (x : Int32) (h1 : (x &&& 15) &&& 1 = 0) (h2 : (x &&& 15) &&& 2 = 0) (h4 : (x &&& 15) &&& 4 = 0) (h8 : (x &&& 15) &&& 8 = 0) : x &&& 15 = 0 := by
  have h := c_mask x 15 4 (by decide) (by decide)
  obtain ⟨k, hk⟩ : ∃ k : Fin 16, x &&& 15 = Int32.ofNat k.val := by
    refine ⟨⟨(x &&& 15).toInt.toNat, by omega⟩, ?_⟩
    have e := Int32.toInt_ofNat_of_lt (n := (x &&& 15).toInt.toNat) (by omega)
    rw [← Int32.toInt_inj, e]
    omega
  rw [hk] at h1 h2 h4 h8 ⊢
  exact (show ∀ k : Fin 16, Int32.ofNat k.val &&& 1 = 0 → Int32.ofNat k.val &&& 2 = 0 → Int32.ofNat k.val &&& 4 = 0 → Int32.ofNat k.val &&& 8 = 0 → Int32.ofNat k.val = 0 by decide) k h1 h2 h4 h8
theorem own_ad {a d : Int64} (h : a = a + d) : d = 0 := by
  have s := c_ladd a d
  have r := rng64 d
  rw [← h] at s
  rw [← Int64.toInt_inj]
  have : (0 : Int64).toInt = 0 := rfl
  omega
def own_ch (m k : Int32) (a d a2 : Int64) : Prop := (((m &&& k) = (0 : Int32)) ∧ a2 = a) ∨ ((¬ ((m &&& k) = (0 : Int32))) ∧ a2 = (a + d))
theorem own_ch0 {m k : Int32} {a d a2 : Int64} (h : own_ch m k a d a2) (q : m = 0 ∨ d = 0) : a2 = a := by
  rcases h with ⟨-, h⟩ | ⟨h1, h⟩
  · exact h
  · rcases q with rfl | rfl
    · exact absurd (by simp) h1
    · rw [h]; simp
theorem own_ch1 {m k : Int32} {a d a2 : Int64} (h : own_ch m k a d a2) (q : ¬ d = 0) (e : a2 = a) : m &&& k = 0 := by
  rcases h with ⟨h, -⟩ | ⟨-, h⟩
  · exact h
  · exact absurd (own_ad (e.symm.trans h)) q
theorem own_all {x : Int32} {d a b c e a2 b2 c2 e2 : Int64} (h1 : own_ch (x &&& 15) 1 a d a2) (h2 : own_ch (x &&& 15) 2 b d b2) (h3 : own_ch (x &&& 15) 4 c d c2) (h4 : own_ch (x &&& 15) 8 e d e2) :
    (a2 = a ∧ b2 = b ∧ c2 = c ∧ e2 = e) ↔ (x &&& 15 = 0 ∨ d = 0) := by
  constructor
  · rintro ⟨q1, q2, q3, q4⟩
    rcases Decidable.em (d = 0) with h | h
    · exact Or.inr h
    · exact Or.inl (own_bits x (own_ch1 h1 h q1) (own_ch1 h2 h q2) (own_ch1 h3 h q3) (own_ch1 h4 h q4))
  · intro q
    exact ⟨own_ch0 h1 q, own_ch0 h2 q, own_ch0 h3 q, own_ch0 h4 q⟩
theorem own_ex {P : Prop} {r m x : Int32} {d : Int64} (h : P ↔ (x &&& 15 = 0 ∨ d = 0)) (hr : (r = 1 ∧ P) ∨ (r = 0 ∧ ¬ P))
    (hm : (((x &&& (15 : Int32)) = (0 : Int32)) ∧ m = (1 : Int32)) ∨ ((¬ ((x &&& (15 : Int32)) = (0 : Int32))) ∧ (d = (0 : Int64)) ∧ m = (1 : Int32)) ∨ ((¬ ((x &&& (15 : Int32)) = (0 : Int32))) ∧ (¬ (d = (0 : Int64))) ∧ m = (0 : Int32))) : r = m := by
  rcases hr with ⟨rfl, hp⟩ | ⟨rfl, hp⟩ <;> rcases hm with ⟨q, rfl⟩ | ⟨q, q', rfl⟩ | ⟨q, q', rfl⟩
  · rfl
  · rfl
  · exact absurd (h.mp hp) (by simp [q, q'])
  · exact absurd (h.mpr (Or.inl q)) hp
  · exact absurd (h.mpr (Or.inr q')) hp
  · rfl
theorem own_law_ef (m : MethodId) (x0 : Int64) (x1 : Int64) (x2 : Int64) (x3 : Int64) (x4 : Int64) (x5 : Int32) : entryFrame m #[(.long x0), (.long x1), (.long x2), (.long x3), (.long x4), (.int x5)] maxLocals = mkF m 0 #[.val (.long x0), .second, .val (.long x1), .second, .val (.long x2), .second, .val (.long x3), .second, .val (.long x4), .second, .val (.int x5), .unset, .unset, .unset, .unset, .unset, .unset, .unset, .unset, .unset, .unset, .unset, .unset, .unset] [] := by first | (simp [entryFrame, mkF, argsToLocals, Value.category, maxLocals]; done) | rfl
def own_law_Q (Z : State) (p1 : Int64) (p2 : Int64) (p3 : Int64) (p4 : Int64) (p5 : Int64) (p6 : Int32) (ca : Addr) (h0 : Heap) (n0 : Nat) (rv : Option Value) (hN : Heap) (LL : List Loc) : Prop := rv = some (.int (1 : Int32)) ∧ Fr n0 LL ∧ Keep h0 hN []
set_option maxRecDepth 65536 in
set_option maxHeartbeats 40000000 in
theorem own_law (l : Launch) (Z : State) (a0 : Array Value) (hw : ∀ d ∈ tables_1, d.before a0 Z = true) (ws : List Jvm.Cond) (p1 : Int64) (p2 : Int64) (p3 : Int64) (p4 : Int64) (p5 : Int64) (p6 : Int32) (ca : Addr) (h0 : Heap) (n0 : Nat) (Z0 : n0 ≤ h0.size) (S : Sta Z Z.heap "java/lang/Long$LongCache" "cache" "[Ljava/lang/Long;" (.ref ca)) (old : Old Z n0 h0) (hB : own_Box Z ca "java/lang/Long") :
    MetFree l x (head1 (Jvm.Cond.code x code maxLocals ret :: ws) room_1) (fun aa UU => aa = #[(.long p1), (.long p2), (.long p3), (.long p4), (.long p5), (.int p6)] ∧ Z.Warmed39 UU.vm ∧ UU.heap = h0) (fun _ _ _ _ _ => True) (fun _ UU oo UU' => ∃ rv LL, oo = .returned rv ∧ own_law_Q Z p1 p2 p3 p4 p5 p6 ca h0 n0 rv UU'.heap LL ∧ FrameEnd UU oo UU' LL room_1.cells room_1.slots) := by
  refine MetFree.of_bodySF (plainFor_of_name own_pn3) hisR ?_
  intro p e s m args below meth c s₁ Bd hml0 hP hK
  obtain ⟨rfl, hZ, hh⟩ := hP
  have hx := Bd.exec
  have hby := Bd.bytes
  have hml : c.maxLocals = 24 := hml0
  have hown : s.vm.findClass "com/example/tallyframe/tallyframe/TallyEqualsPinLaw" = some m.cls := findClass_of_methodNamed Bd.named
  have hnm := (name_of_methodNamed Bd.named Bd.method).1
  have X0 : Stand p l e room_1 s m #[(.long p1), (.long p2), (.long p3), (.long p4), (.long p5), (.int p6)] below meth c s₁ [] 0 0 := Stand.of_body Bd
  have e0 : s₁.heap = h0 := by rw [← hh, Bd.state]; rfl
  have N0 := Fr.nil n0
  have K0 : Keep h0 h0 [] := Keep.refl h0 _
  refine (?_ : OwnGo p.tables e below (fun UU' oo => ∃ rv LL, oo = .returned rv ∧ own_law_Q Z p1 p2 p3 p4 p5 p6 ca h0 n0 rv UU'.heap LL ∧ FrameEnd s oo UU' LL room_1.cells room_1.slots) _)
  refine OwnGo.back (s₁.setTop (mkF m 0 #[.val (.long p1), .second, .val (.long p2), .second, .val (.long p3), .second, .val (.long p4), .second, .val (.long p5), .second, .val (.int p6), .unset, .unset, .unset, .unset, .unset, .unset, .unset, .unset, .unset, .unset, .unset, .unset, .unset] [])) (fun tg kk => castTop (own_law_ef m p1 p2 p3 p4 p5 p6) kk) ?_
  refine OwnGo.back (s₁.setTop (mkF m 2 #[.val (.long p1), .second, .val (.long p2), .second, .val (.long p3), .second, .val (.long p4), .second, .val (.long p5), .second, .val (.int p6), .unset, .unset, .unset, .unset, .unset, .unset, .unset, .unset, .unset, .unset, .unset, .unset, .unset] [(.int p6)])) (fun tg kk => XS.iload X0.here hx rfl (hb hby at_0) rfl kk) ?_
  refine OwnGo.back (s₁.setTop (mkF m 4 #[.val (.long p1), .second, .val (.long p2), .second, .val (.long p3), .second, .val (.long p4), .second, .val (.long p5), .second, .val (.int p6), .unset, .unset, .unset, .unset, .unset, .unset, .unset, .unset, .unset, .unset, .unset, .unset, .unset] [(.int (15 : Int32)), (.int p6)])) (fun tg kk => XS.bipush X0.here hx rfl (hb hby at_2) kk) ?_
  refine OwnGo.back (s₁.setTop (mkF m 5 #[.val (.long p1), .second, .val (.long p2), .second, .val (.long p3), .second, .val (.long p4), .second, .val (.long p5), .second, .val (.int p6), .unset, .unset, .unset, .unset, .unset, .unset, .unset, .unset, .unset, .unset, .unset, .unset, .unset] [(.int (p6 &&& (15 : Int32)))])) (fun tg kk => XS.iand X0.here hx rfl (hb hby at_4) rfl kk) ?_
  refine OwnGo.back (s₁.setTop (mkF m 7 #[.val (.long p1), .second, .val (.long p2), .second, .val (.long p3), .second, .val (.long p4), .second, .val (.long p5), .second, .val (.int p6), .val (.int (p6 &&& (15 : Int32))), .unset, .unset, .unset, .unset, .unset, .unset, .unset, .unset, .unset, .unset, .unset, .unset] [])) (fun tg kk => XS.istore X0.here hx rfl (hb hby at_5) rfl (l' := #[.val (.long p1), .second, .val (.long p2), .second, .val (.long p3), .second, .val (.long p4), .second, .val (.long p5), .second, .val (.int p6), .val (.int (p6 &&& (15 : Int32))), .unset, .unset, .unset, .unset, .unset, .unset, .unset, .unset, .unset, .unset, .unset, .unset]) rfl kk) ?_
  refine OwnGo.back (s₁.setTop (mkF m 9 #[.val (.long p1), .second, .val (.long p2), .second, .val (.long p3), .second, .val (.long p4), .second, .val (.long p5), .second, .val (.int p6), .val (.int (p6 &&& (15 : Int32))), .unset, .unset, .unset, .unset, .unset, .unset, .unset, .unset, .unset, .unset, .unset, .unset] [(.int p6)])) (fun tg kk => XS.iload X0.here hx rfl (hb hby at_7) rfl kk) ?_
  refine OwnGo.back (s₁.setTop (mkF m 10 #[.val (.long p1), .second, .val (.long p2), .second, .val (.long p3), .second, .val (.long p4), .second, .val (.long p5), .second, .val (.int p6), .val (.int (p6 &&& (15 : Int32))), .unset, .unset, .unset, .unset, .unset, .unset, .unset, .unset, .unset, .unset, .unset, .unset] [(.int (4 : Int32)), (.int p6)])) (fun tg kk => XS.iconst X0.here hx rfl (hb hby at_9) kk) ?_
  refine OwnGo.back (s₁.setTop (mkF m 11 #[.val (.long p1), .second, .val (.long p2), .second, .val (.long p3), .second, .val (.long p4), .second, .val (.long p5), .second, .val (.int p6), .val (.int (p6 &&& (15 : Int32))), .unset, .unset, .unset, .unset, .unset, .unset, .unset, .unset, .unset, .unset, .unset, .unset] [(.int ((p6.toUInt32 >>> ((4 : Int32) &&& 31).toUInt32).toInt32))])) (fun tg kk => XS.iushr X0.here hx rfl (hb hby at_10) rfl kk) ?_
  refine OwnGo.back (s₁.setTop (mkF m 12 #[.val (.long p1), .second, .val (.long p2), .second, .val (.long p3), .second, .val (.long p4), .second, .val (.long p5), .second, .val (.int p6), .val (.int (p6 &&& (15 : Int32))), .unset, .unset, .unset, .unset, .unset, .unset, .unset, .unset, .unset, .unset, .unset, .unset] [(.int (3 : Int32)), (.int ((p6.toUInt32 >>> ((4 : Int32) &&& 31).toUInt32).toInt32))])) (fun tg kk => XS.iconst X0.here hx rfl (hb hby at_11) kk) ?_
  refine OwnGo.back (s₁.setTop (mkF m 13 #[.val (.long p1), .second, .val (.long p2), .second, .val (.long p3), .second, .val (.long p4), .second, .val (.long p5), .second, .val (.int p6), .val (.int (p6 &&& (15 : Int32))), .unset, .unset, .unset, .unset, .unset, .unset, .unset, .unset, .unset, .unset, .unset, .unset] [(.int (((p6.toUInt32 >>> ((4 : Int32) &&& 31).toUInt32).toInt32) &&& (3 : Int32)))])) (fun tg kk => XS.iand X0.here hx rfl (hb hby at_12) rfl kk) ?_
  refine OwnGo.back (s₁.setTop (mkF m 15 #[.val (.long p1), .second, .val (.long p2), .second, .val (.long p3), .second, .val (.long p4), .second, .val (.long p5), .second, .val (.int p6), .val (.int (p6 &&& (15 : Int32))), .val (.int (((p6.toUInt32 >>> ((4 : Int32) &&& 31).toUInt32).toInt32) &&& (3 : Int32))), .unset, .unset, .unset, .unset, .unset, .unset, .unset, .unset, .unset, .unset, .unset] [])) (fun tg kk => XS.istore X0.here hx rfl (hb hby at_13) rfl (l' := #[.val (.long p1), .second, .val (.long p2), .second, .val (.long p3), .second, .val (.long p4), .second, .val (.long p5), .second, .val (.int p6), .val (.int (p6 &&& (15 : Int32))), .val (.int (((p6.toUInt32 >>> ((4 : Int32) &&& 31).toUInt32).toInt32) &&& (3 : Int32))), .unset, .unset, .unset, .unset, .unset, .unset, .unset, .unset, .unset, .unset, .unset]) rfl kk) ?_
  obtain ⟨_, ⟨m2, rfl, hm3⟩, dm4⟩ : OwnMg p.tables e below (fun st' => ∃ (m2 : Int64), st' = s₁.setTop (mkF m 30 #[.val (.long p1), .second, .val (.long p2), .second, .val (.long p3), .second, .val (.long p4), .second, .val (.long p5), .second, .val (.int p6), .val (.int (p6 &&& (15 : Int32))), .val (.int (((p6.toUInt32 >>> ((4 : Int32) &&& 31).toUInt32).toInt32) &&& (3 : Int32))), .unset, .unset, .unset, .unset, .unset, .unset, .unset, .unset, .unset, .unset, .unset] [(.long m2)]) ∧ (((((p6 &&& (15 : Int32)) &&& (1 : Int32)) = (0 : Int32)) ∧ m2 = p1) ∨ ((¬ (((p6 &&& (15 : Int32)) &&& (1 : Int32)) = (0 : Int32))) ∧ m2 = (p1 + p5)))) (s₁.setTop (mkF m 15 #[.val (.long p1), .second, .val (.long p2), .second, .val (.long p3), .second, .val (.long p4), .second, .val (.long p5), .second, .val (.int p6), .val (.int (p6 &&& (15 : Int32))), .val (.int (((p6.toUInt32 >>> ((4 : Int32) &&& 31).toUInt32).toInt32) &&& (3 : Int32))), .unset, .unset, .unset, .unset, .unset, .unset, .unset, .unset, .unset, .unset, .unset] [])) := by
    refine OwnMg.back (s₁.setTop (mkF m 17 #[.val (.long p1), .second, .val (.long p2), .second, .val (.long p3), .second, .val (.long p4), .second, .val (.long p5), .second, .val (.int p6), .val (.int (p6 &&& (15 : Int32))), .val (.int (((p6.toUInt32 >>> ((4 : Int32) &&& 31).toUInt32).toInt32) &&& (3 : Int32))), .unset, .unset, .unset, .unset, .unset, .unset, .unset, .unset, .unset, .unset, .unset] [(.int (p6 &&& (15 : Int32)))])) (fun tg kk => XS.iload X0.here hx rfl (hb hby at_15) rfl kk) ?_
    refine OwnMg.back (s₁.setTop (mkF m 18 #[.val (.long p1), .second, .val (.long p2), .second, .val (.long p3), .second, .val (.long p4), .second, .val (.long p5), .second, .val (.int p6), .val (.int (p6 &&& (15 : Int32))), .val (.int (((p6.toUInt32 >>> ((4 : Int32) &&& 31).toUInt32).toInt32) &&& (3 : Int32))), .unset, .unset, .unset, .unset, .unset, .unset, .unset, .unset, .unset, .unset, .unset] [(.int (1 : Int32)), (.int (p6 &&& (15 : Int32)))])) (fun tg kk => XS.iconst X0.here hx rfl (hb hby at_17) kk) ?_
    refine OwnMg.back (s₁.setTop (mkF m 19 #[.val (.long p1), .second, .val (.long p2), .second, .val (.long p3), .second, .val (.long p4), .second, .val (.long p5), .second, .val (.int p6), .val (.int (p6 &&& (15 : Int32))), .val (.int (((p6.toUInt32 >>> ((4 : Int32) &&& 31).toUInt32).toInt32) &&& (3 : Int32))), .unset, .unset, .unset, .unset, .unset, .unset, .unset, .unset, .unset, .unset, .unset] [(.int ((p6 &&& (15 : Int32)) &&& (1 : Int32)))])) (fun tg kk => XS.iand X0.here hx rfl (hb hby at_18) rfl kk) ?_
    by_cases hc10 : ((p6 &&& (15 : Int32)) &&& (1 : Int32)) = (0 : Int32)
    ·
      refine OwnMg.back (s₁.setTop (mkF m 29 #[.val (.long p1), .second, .val (.long p2), .second, .val (.long p3), .second, .val (.long p4), .second, .val (.long p5), .second, .val (.int p6), .val (.int (p6 &&& (15 : Int32))), .val (.int (((p6.toUInt32 >>> ((4 : Int32) &&& 31).toUInt32).toInt32) &&& (3 : Int32))), .unset, .unset, .unset, .unset, .unset, .unset, .unset, .unset, .unset, .unset, .unset] [])) (fun tg kk => XS.ifYes X0.here hx rfl (pc0 := 19) (pc' := 29) rfl (hb hby at_19) rfl ((if0 _ _).trans (teq hc10).1) (by decide) (by decide) kk) ?_
      refine OwnMg.back (s₁.setTop (mkF m 30 #[.val (.long p1), .second, .val (.long p2), .second, .val (.long p3), .second, .val (.long p4), .second, .val (.long p5), .second, .val (.int p6), .val (.int (p6 &&& (15 : Int32))), .val (.int (((p6.toUInt32 >>> ((4 : Int32) &&& 31).toUInt32).toInt32) &&& (3 : Int32))), .unset, .unset, .unset, .unset, .unset, .unset, .unset, .unset, .unset, .unset, .unset] [(.long p1)])) (fun tg kk => XS.lloadN X0.here hx rfl (hb hby at_29) rfl kk) ?_
      exact ⟨_, ⟨p1, rfl, Or.inl ⟨hc10, rfl⟩⟩, fun tg kk => kk⟩
    ·
      refine OwnMg.back (s₁.setTop (mkF m 22 #[.val (.long p1), .second, .val (.long p2), .second, .val (.long p3), .second, .val (.long p4), .second, .val (.long p5), .second, .val (.int p6), .val (.int (p6 &&& (15 : Int32))), .val (.int (((p6.toUInt32 >>> ((4 : Int32) &&& 31).toUInt32).toInt32) &&& (3 : Int32))), .unset, .unset, .unset, .unset, .unset, .unset, .unset, .unset, .unset, .unset, .unset] [])) (fun tg kk => XS.ifNo X0.here hx rfl (hb hby at_19) rfl ((if0 _ _).trans (feq hc10).1) kk) ?_
      refine OwnMg.back (s₁.setTop (mkF m 23 #[.val (.long p1), .second, .val (.long p2), .second, .val (.long p3), .second, .val (.long p4), .second, .val (.long p5), .second, .val (.int p6), .val (.int (p6 &&& (15 : Int32))), .val (.int (((p6.toUInt32 >>> ((4 : Int32) &&& 31).toUInt32).toInt32) &&& (3 : Int32))), .unset, .unset, .unset, .unset, .unset, .unset, .unset, .unset, .unset, .unset, .unset] [(.long p1)])) (fun tg kk => XS.lloadN X0.here hx rfl (hb hby at_22) rfl kk) ?_
      refine OwnMg.back (s₁.setTop (mkF m 25 #[.val (.long p1), .second, .val (.long p2), .second, .val (.long p3), .second, .val (.long p4), .second, .val (.long p5), .second, .val (.int p6), .val (.int (p6 &&& (15 : Int32))), .val (.int (((p6.toUInt32 >>> ((4 : Int32) &&& 31).toUInt32).toInt32) &&& (3 : Int32))), .unset, .unset, .unset, .unset, .unset, .unset, .unset, .unset, .unset, .unset, .unset] [(.long p5), (.long p1)])) (fun tg kk => XS.lload X0.here hx rfl (hb hby at_23) rfl kk) ?_
      refine OwnMg.back (s₁.setTop (mkF m 26 #[.val (.long p1), .second, .val (.long p2), .second, .val (.long p3), .second, .val (.long p4), .second, .val (.long p5), .second, .val (.int p6), .val (.int (p6 &&& (15 : Int32))), .val (.int (((p6.toUInt32 >>> ((4 : Int32) &&& 31).toUInt32).toInt32) &&& (3 : Int32))), .unset, .unset, .unset, .unset, .unset, .unset, .unset, .unset, .unset, .unset, .unset] [(.long (p1 + p5))])) (fun tg kk => XS.ladd X0.here hx rfl (hb hby at_25) rfl kk) ?_
      refine OwnMg.back (s₁.setTop (mkF m 30 #[.val (.long p1), .second, .val (.long p2), .second, .val (.long p3), .second, .val (.long p4), .second, .val (.long p5), .second, .val (.int p6), .val (.int (p6 &&& (15 : Int32))), .val (.int (((p6.toUInt32 >>> ((4 : Int32) &&& 31).toUInt32).toInt32) &&& (3 : Int32))), .unset, .unset, .unset, .unset, .unset, .unset, .unset, .unset, .unset, .unset, .unset] [(.long (p1 + p5))])) (fun tg kk => XS.goto X0.here hx rfl (pc0 := 26) (pc' := 30) rfl (hb hby at_26) (by decide) (by decide) kk) ?_
      exact ⟨_, ⟨(p1 + p5), rfl, Or.inr (⟨hc10, rfl⟩)⟩, fun tg kk => kk⟩
  refine OwnGo.back (s₁.setTop (mkF m 30 #[.val (.long p1), .second, .val (.long p2), .second, .val (.long p3), .second, .val (.long p4), .second, .val (.long p5), .second, .val (.int p6), .val (.int (p6 &&& (15 : Int32))), .val (.int (((p6.toUInt32 >>> ((4 : Int32) &&& 31).toUInt32).toInt32) &&& (3 : Int32))), .unset, .unset, .unset, .unset, .unset, .unset, .unset, .unset, .unset, .unset, .unset] [(.long m2)])) dm4 ?_
  refine OwnGo.back (s₁.setTop (mkF m 32 #[.val (.long p1), .second, .val (.long p2), .second, .val (.long p3), .second, .val (.long p4), .second, .val (.long p5), .second, .val (.int p6), .val (.int (p6 &&& (15 : Int32))), .val (.int (((p6.toUInt32 >>> ((4 : Int32) &&& 31).toUInt32).toInt32) &&& (3 : Int32))), .val (.long m2), .second, .unset, .unset, .unset, .unset, .unset, .unset, .unset, .unset, .unset] [])) (fun tg kk => XS.lstore X0.here hx rfl (hb hby at_30) rfl (l' := #[.val (.long p1), .second, .val (.long p2), .second, .val (.long p3), .second, .val (.long p4), .second, .val (.long p5), .second, .val (.int p6), .val (.int (p6 &&& (15 : Int32))), .val (.int (((p6.toUInt32 >>> ((4 : Int32) &&& 31).toUInt32).toInt32) &&& (3 : Int32))), .val (.long m2), .second, .unset, .unset, .unset, .unset, .unset, .unset, .unset, .unset, .unset]) rfl kk) ?_
  obtain ⟨_, ⟨m12, rfl, hm13⟩, dm14⟩ : OwnMg p.tables e below (fun st' => ∃ (m12 : Int64), st' = s₁.setTop (mkF m 47 #[.val (.long p1), .second, .val (.long p2), .second, .val (.long p3), .second, .val (.long p4), .second, .val (.long p5), .second, .val (.int p6), .val (.int (p6 &&& (15 : Int32))), .val (.int (((p6.toUInt32 >>> ((4 : Int32) &&& 31).toUInt32).toInt32) &&& (3 : Int32))), .val (.long m2), .second, .unset, .unset, .unset, .unset, .unset, .unset, .unset, .unset, .unset] [(.long m12)]) ∧ (((((p6 &&& (15 : Int32)) &&& (2 : Int32)) = (0 : Int32)) ∧ m12 = p2) ∨ ((¬ (((p6 &&& (15 : Int32)) &&& (2 : Int32)) = (0 : Int32))) ∧ m12 = (p2 + p5)))) (s₁.setTop (mkF m 32 #[.val (.long p1), .second, .val (.long p2), .second, .val (.long p3), .second, .val (.long p4), .second, .val (.long p5), .second, .val (.int p6), .val (.int (p6 &&& (15 : Int32))), .val (.int (((p6.toUInt32 >>> ((4 : Int32) &&& 31).toUInt32).toInt32) &&& (3 : Int32))), .val (.long m2), .second, .unset, .unset, .unset, .unset, .unset, .unset, .unset, .unset, .unset] [])) := by
    refine OwnMg.back (s₁.setTop (mkF m 34 #[.val (.long p1), .second, .val (.long p2), .second, .val (.long p3), .second, .val (.long p4), .second, .val (.long p5), .second, .val (.int p6), .val (.int (p6 &&& (15 : Int32))), .val (.int (((p6.toUInt32 >>> ((4 : Int32) &&& 31).toUInt32).toInt32) &&& (3 : Int32))), .val (.long m2), .second, .unset, .unset, .unset, .unset, .unset, .unset, .unset, .unset, .unset] [(.int (p6 &&& (15 : Int32)))])) (fun tg kk => XS.iload X0.here hx rfl (hb hby at_32) rfl kk) ?_
    refine OwnMg.back (s₁.setTop (mkF m 35 #[.val (.long p1), .second, .val (.long p2), .second, .val (.long p3), .second, .val (.long p4), .second, .val (.long p5), .second, .val (.int p6), .val (.int (p6 &&& (15 : Int32))), .val (.int (((p6.toUInt32 >>> ((4 : Int32) &&& 31).toUInt32).toInt32) &&& (3 : Int32))), .val (.long m2), .second, .unset, .unset, .unset, .unset, .unset, .unset, .unset, .unset, .unset] [(.int (2 : Int32)), (.int (p6 &&& (15 : Int32)))])) (fun tg kk => XS.iconst X0.here hx rfl (hb hby at_34) kk) ?_
    refine OwnMg.back (s₁.setTop (mkF m 36 #[.val (.long p1), .second, .val (.long p2), .second, .val (.long p3), .second, .val (.long p4), .second, .val (.long p5), .second, .val (.int p6), .val (.int (p6 &&& (15 : Int32))), .val (.int (((p6.toUInt32 >>> ((4 : Int32) &&& 31).toUInt32).toInt32) &&& (3 : Int32))), .val (.long m2), .second, .unset, .unset, .unset, .unset, .unset, .unset, .unset, .unset, .unset] [(.int ((p6 &&& (15 : Int32)) &&& (2 : Int32)))])) (fun tg kk => XS.iand X0.here hx rfl (hb hby at_35) rfl kk) ?_
    by_cases hc20 : ((p6 &&& (15 : Int32)) &&& (2 : Int32)) = (0 : Int32)
    ·
      refine OwnMg.back (s₁.setTop (mkF m 46 #[.val (.long p1), .second, .val (.long p2), .second, .val (.long p3), .second, .val (.long p4), .second, .val (.long p5), .second, .val (.int p6), .val (.int (p6 &&& (15 : Int32))), .val (.int (((p6.toUInt32 >>> ((4 : Int32) &&& 31).toUInt32).toInt32) &&& (3 : Int32))), .val (.long m2), .second, .unset, .unset, .unset, .unset, .unset, .unset, .unset, .unset, .unset] [])) (fun tg kk => XS.ifYes X0.here hx rfl (pc0 := 36) (pc' := 46) rfl (hb hby at_36) rfl ((if0 _ _).trans (teq hc20).1) (by decide) (by decide) kk) ?_
      refine OwnMg.back (s₁.setTop (mkF m 47 #[.val (.long p1), .second, .val (.long p2), .second, .val (.long p3), .second, .val (.long p4), .second, .val (.long p5), .second, .val (.int p6), .val (.int (p6 &&& (15 : Int32))), .val (.int (((p6.toUInt32 >>> ((4 : Int32) &&& 31).toUInt32).toInt32) &&& (3 : Int32))), .val (.long m2), .second, .unset, .unset, .unset, .unset, .unset, .unset, .unset, .unset, .unset] [(.long p2)])) (fun tg kk => XS.lloadN X0.here hx rfl (hb hby at_46) rfl kk) ?_
      exact ⟨_, ⟨p2, rfl, Or.inl ⟨hc20, rfl⟩⟩, fun tg kk => kk⟩
    ·
      refine OwnMg.back (s₁.setTop (mkF m 39 #[.val (.long p1), .second, .val (.long p2), .second, .val (.long p3), .second, .val (.long p4), .second, .val (.long p5), .second, .val (.int p6), .val (.int (p6 &&& (15 : Int32))), .val (.int (((p6.toUInt32 >>> ((4 : Int32) &&& 31).toUInt32).toInt32) &&& (3 : Int32))), .val (.long m2), .second, .unset, .unset, .unset, .unset, .unset, .unset, .unset, .unset, .unset] [])) (fun tg kk => XS.ifNo X0.here hx rfl (hb hby at_36) rfl ((if0 _ _).trans (feq hc20).1) kk) ?_
      refine OwnMg.back (s₁.setTop (mkF m 40 #[.val (.long p1), .second, .val (.long p2), .second, .val (.long p3), .second, .val (.long p4), .second, .val (.long p5), .second, .val (.int p6), .val (.int (p6 &&& (15 : Int32))), .val (.int (((p6.toUInt32 >>> ((4 : Int32) &&& 31).toUInt32).toInt32) &&& (3 : Int32))), .val (.long m2), .second, .unset, .unset, .unset, .unset, .unset, .unset, .unset, .unset, .unset] [(.long p2)])) (fun tg kk => XS.lloadN X0.here hx rfl (hb hby at_39) rfl kk) ?_
      refine OwnMg.back (s₁.setTop (mkF m 42 #[.val (.long p1), .second, .val (.long p2), .second, .val (.long p3), .second, .val (.long p4), .second, .val (.long p5), .second, .val (.int p6), .val (.int (p6 &&& (15 : Int32))), .val (.int (((p6.toUInt32 >>> ((4 : Int32) &&& 31).toUInt32).toInt32) &&& (3 : Int32))), .val (.long m2), .second, .unset, .unset, .unset, .unset, .unset, .unset, .unset, .unset, .unset] [(.long p5), (.long p2)])) (fun tg kk => XS.lload X0.here hx rfl (hb hby at_40) rfl kk) ?_
      refine OwnMg.back (s₁.setTop (mkF m 43 #[.val (.long p1), .second, .val (.long p2), .second, .val (.long p3), .second, .val (.long p4), .second, .val (.long p5), .second, .val (.int p6), .val (.int (p6 &&& (15 : Int32))), .val (.int (((p6.toUInt32 >>> ((4 : Int32) &&& 31).toUInt32).toInt32) &&& (3 : Int32))), .val (.long m2), .second, .unset, .unset, .unset, .unset, .unset, .unset, .unset, .unset, .unset] [(.long (p2 + p5))])) (fun tg kk => XS.ladd X0.here hx rfl (hb hby at_42) rfl kk) ?_
      refine OwnMg.back (s₁.setTop (mkF m 47 #[.val (.long p1), .second, .val (.long p2), .second, .val (.long p3), .second, .val (.long p4), .second, .val (.long p5), .second, .val (.int p6), .val (.int (p6 &&& (15 : Int32))), .val (.int (((p6.toUInt32 >>> ((4 : Int32) &&& 31).toUInt32).toInt32) &&& (3 : Int32))), .val (.long m2), .second, .unset, .unset, .unset, .unset, .unset, .unset, .unset, .unset, .unset] [(.long (p2 + p5))])) (fun tg kk => XS.goto X0.here hx rfl (pc0 := 43) (pc' := 47) rfl (hb hby at_43) (by decide) (by decide) kk) ?_
      exact ⟨_, ⟨(p2 + p5), rfl, Or.inr (⟨hc20, rfl⟩)⟩, fun tg kk => kk⟩
  refine OwnGo.back (s₁.setTop (mkF m 47 #[.val (.long p1), .second, .val (.long p2), .second, .val (.long p3), .second, .val (.long p4), .second, .val (.long p5), .second, .val (.int p6), .val (.int (p6 &&& (15 : Int32))), .val (.int (((p6.toUInt32 >>> ((4 : Int32) &&& 31).toUInt32).toInt32) &&& (3 : Int32))), .val (.long m2), .second, .unset, .unset, .unset, .unset, .unset, .unset, .unset, .unset, .unset] [(.long m12)])) dm14 ?_
  refine OwnGo.back (s₁.setTop (mkF m 49 #[.val (.long p1), .second, .val (.long p2), .second, .val (.long p3), .second, .val (.long p4), .second, .val (.long p5), .second, .val (.int p6), .val (.int (p6 &&& (15 : Int32))), .val (.int (((p6.toUInt32 >>> ((4 : Int32) &&& 31).toUInt32).toInt32) &&& (3 : Int32))), .val (.long m2), .second, .val (.long m12), .second, .unset, .unset, .unset, .unset, .unset, .unset, .unset] [])) (fun tg kk => XS.lstore X0.here hx rfl (hb hby at_47) rfl (l' := #[.val (.long p1), .second, .val (.long p2), .second, .val (.long p3), .second, .val (.long p4), .second, .val (.long p5), .second, .val (.int p6), .val (.int (p6 &&& (15 : Int32))), .val (.int (((p6.toUInt32 >>> ((4 : Int32) &&& 31).toUInt32).toInt32) &&& (3 : Int32))), .val (.long m2), .second, .val (.long m12), .second, .unset, .unset, .unset, .unset, .unset, .unset, .unset]) rfl kk) ?_
  obtain ⟨_, ⟨m22, rfl, hm23⟩, dm24⟩ : OwnMg p.tables e below (fun st' => ∃ (m22 : Int64), st' = s₁.setTop (mkF m 66 #[.val (.long p1), .second, .val (.long p2), .second, .val (.long p3), .second, .val (.long p4), .second, .val (.long p5), .second, .val (.int p6), .val (.int (p6 &&& (15 : Int32))), .val (.int (((p6.toUInt32 >>> ((4 : Int32) &&& 31).toUInt32).toInt32) &&& (3 : Int32))), .val (.long m2), .second, .val (.long m12), .second, .unset, .unset, .unset, .unset, .unset, .unset, .unset] [(.long m22)]) ∧ (((((p6 &&& (15 : Int32)) &&& (4 : Int32)) = (0 : Int32)) ∧ m22 = p3) ∨ ((¬ (((p6 &&& (15 : Int32)) &&& (4 : Int32)) = (0 : Int32))) ∧ m22 = (p3 + p5)))) (s₁.setTop (mkF m 49 #[.val (.long p1), .second, .val (.long p2), .second, .val (.long p3), .second, .val (.long p4), .second, .val (.long p5), .second, .val (.int p6), .val (.int (p6 &&& (15 : Int32))), .val (.int (((p6.toUInt32 >>> ((4 : Int32) &&& 31).toUInt32).toInt32) &&& (3 : Int32))), .val (.long m2), .second, .val (.long m12), .second, .unset, .unset, .unset, .unset, .unset, .unset, .unset] [])) := by
    refine OwnMg.back (s₁.setTop (mkF m 51 #[.val (.long p1), .second, .val (.long p2), .second, .val (.long p3), .second, .val (.long p4), .second, .val (.long p5), .second, .val (.int p6), .val (.int (p6 &&& (15 : Int32))), .val (.int (((p6.toUInt32 >>> ((4 : Int32) &&& 31).toUInt32).toInt32) &&& (3 : Int32))), .val (.long m2), .second, .val (.long m12), .second, .unset, .unset, .unset, .unset, .unset, .unset, .unset] [(.int (p6 &&& (15 : Int32)))])) (fun tg kk => XS.iload X0.here hx rfl (hb hby at_49) rfl kk) ?_
    refine OwnMg.back (s₁.setTop (mkF m 52 #[.val (.long p1), .second, .val (.long p2), .second, .val (.long p3), .second, .val (.long p4), .second, .val (.long p5), .second, .val (.int p6), .val (.int (p6 &&& (15 : Int32))), .val (.int (((p6.toUInt32 >>> ((4 : Int32) &&& 31).toUInt32).toInt32) &&& (3 : Int32))), .val (.long m2), .second, .val (.long m12), .second, .unset, .unset, .unset, .unset, .unset, .unset, .unset] [(.int (4 : Int32)), (.int (p6 &&& (15 : Int32)))])) (fun tg kk => XS.iconst X0.here hx rfl (hb hby at_51) kk) ?_
    refine OwnMg.back (s₁.setTop (mkF m 53 #[.val (.long p1), .second, .val (.long p2), .second, .val (.long p3), .second, .val (.long p4), .second, .val (.long p5), .second, .val (.int p6), .val (.int (p6 &&& (15 : Int32))), .val (.int (((p6.toUInt32 >>> ((4 : Int32) &&& 31).toUInt32).toInt32) &&& (3 : Int32))), .val (.long m2), .second, .val (.long m12), .second, .unset, .unset, .unset, .unset, .unset, .unset, .unset] [(.int ((p6 &&& (15 : Int32)) &&& (4 : Int32)))])) (fun tg kk => XS.iand X0.here hx rfl (hb hby at_52) rfl kk) ?_
    by_cases hc30 : ((p6 &&& (15 : Int32)) &&& (4 : Int32)) = (0 : Int32)
    ·
      refine OwnMg.back (s₁.setTop (mkF m 64 #[.val (.long p1), .second, .val (.long p2), .second, .val (.long p3), .second, .val (.long p4), .second, .val (.long p5), .second, .val (.int p6), .val (.int (p6 &&& (15 : Int32))), .val (.int (((p6.toUInt32 >>> ((4 : Int32) &&& 31).toUInt32).toInt32) &&& (3 : Int32))), .val (.long m2), .second, .val (.long m12), .second, .unset, .unset, .unset, .unset, .unset, .unset, .unset] [])) (fun tg kk => XS.ifYes X0.here hx rfl (pc0 := 53) (pc' := 64) rfl (hb hby at_53) rfl ((if0 _ _).trans (teq hc30).1) (by decide) (by decide) kk) ?_
      refine OwnMg.back (s₁.setTop (mkF m 66 #[.val (.long p1), .second, .val (.long p2), .second, .val (.long p3), .second, .val (.long p4), .second, .val (.long p5), .second, .val (.int p6), .val (.int (p6 &&& (15 : Int32))), .val (.int (((p6.toUInt32 >>> ((4 : Int32) &&& 31).toUInt32).toInt32) &&& (3 : Int32))), .val (.long m2), .second, .val (.long m12), .second, .unset, .unset, .unset, .unset, .unset, .unset, .unset] [(.long p3)])) (fun tg kk => XS.lload X0.here hx rfl (hb hby at_64) rfl kk) ?_
      exact ⟨_, ⟨p3, rfl, Or.inl ⟨hc30, rfl⟩⟩, fun tg kk => kk⟩
    ·
      refine OwnMg.back (s₁.setTop (mkF m 56 #[.val (.long p1), .second, .val (.long p2), .second, .val (.long p3), .second, .val (.long p4), .second, .val (.long p5), .second, .val (.int p6), .val (.int (p6 &&& (15 : Int32))), .val (.int (((p6.toUInt32 >>> ((4 : Int32) &&& 31).toUInt32).toInt32) &&& (3 : Int32))), .val (.long m2), .second, .val (.long m12), .second, .unset, .unset, .unset, .unset, .unset, .unset, .unset] [])) (fun tg kk => XS.ifNo X0.here hx rfl (hb hby at_53) rfl ((if0 _ _).trans (feq hc30).1) kk) ?_
      refine OwnMg.back (s₁.setTop (mkF m 58 #[.val (.long p1), .second, .val (.long p2), .second, .val (.long p3), .second, .val (.long p4), .second, .val (.long p5), .second, .val (.int p6), .val (.int (p6 &&& (15 : Int32))), .val (.int (((p6.toUInt32 >>> ((4 : Int32) &&& 31).toUInt32).toInt32) &&& (3 : Int32))), .val (.long m2), .second, .val (.long m12), .second, .unset, .unset, .unset, .unset, .unset, .unset, .unset] [(.long p3)])) (fun tg kk => XS.lload X0.here hx rfl (hb hby at_56) rfl kk) ?_
      refine OwnMg.back (s₁.setTop (mkF m 60 #[.val (.long p1), .second, .val (.long p2), .second, .val (.long p3), .second, .val (.long p4), .second, .val (.long p5), .second, .val (.int p6), .val (.int (p6 &&& (15 : Int32))), .val (.int (((p6.toUInt32 >>> ((4 : Int32) &&& 31).toUInt32).toInt32) &&& (3 : Int32))), .val (.long m2), .second, .val (.long m12), .second, .unset, .unset, .unset, .unset, .unset, .unset, .unset] [(.long p5), (.long p3)])) (fun tg kk => XS.lload X0.here hx rfl (hb hby at_58) rfl kk) ?_
      refine OwnMg.back (s₁.setTop (mkF m 61 #[.val (.long p1), .second, .val (.long p2), .second, .val (.long p3), .second, .val (.long p4), .second, .val (.long p5), .second, .val (.int p6), .val (.int (p6 &&& (15 : Int32))), .val (.int (((p6.toUInt32 >>> ((4 : Int32) &&& 31).toUInt32).toInt32) &&& (3 : Int32))), .val (.long m2), .second, .val (.long m12), .second, .unset, .unset, .unset, .unset, .unset, .unset, .unset] [(.long (p3 + p5))])) (fun tg kk => XS.ladd X0.here hx rfl (hb hby at_60) rfl kk) ?_
      refine OwnMg.back (s₁.setTop (mkF m 66 #[.val (.long p1), .second, .val (.long p2), .second, .val (.long p3), .second, .val (.long p4), .second, .val (.long p5), .second, .val (.int p6), .val (.int (p6 &&& (15 : Int32))), .val (.int (((p6.toUInt32 >>> ((4 : Int32) &&& 31).toUInt32).toInt32) &&& (3 : Int32))), .val (.long m2), .second, .val (.long m12), .second, .unset, .unset, .unset, .unset, .unset, .unset, .unset] [(.long (p3 + p5))])) (fun tg kk => XS.goto X0.here hx rfl (pc0 := 61) (pc' := 66) rfl (hb hby at_61) (by decide) (by decide) kk) ?_
      exact ⟨_, ⟨(p3 + p5), rfl, Or.inr (⟨hc30, rfl⟩)⟩, fun tg kk => kk⟩
  refine OwnGo.back (s₁.setTop (mkF m 66 #[.val (.long p1), .second, .val (.long p2), .second, .val (.long p3), .second, .val (.long p4), .second, .val (.long p5), .second, .val (.int p6), .val (.int (p6 &&& (15 : Int32))), .val (.int (((p6.toUInt32 >>> ((4 : Int32) &&& 31).toUInt32).toInt32) &&& (3 : Int32))), .val (.long m2), .second, .val (.long m12), .second, .unset, .unset, .unset, .unset, .unset, .unset, .unset] [(.long m22)])) dm24 ?_
  refine OwnGo.back (s₁.setTop (mkF m 68 #[.val (.long p1), .second, .val (.long p2), .second, .val (.long p3), .second, .val (.long p4), .second, .val (.long p5), .second, .val (.int p6), .val (.int (p6 &&& (15 : Int32))), .val (.int (((p6.toUInt32 >>> ((4 : Int32) &&& 31).toUInt32).toInt32) &&& (3 : Int32))), .val (.long m2), .second, .val (.long m12), .second, .val (.long m22), .second, .unset, .unset, .unset, .unset, .unset] [])) (fun tg kk => XS.lstore X0.here hx rfl (hb hby at_66) rfl (l' := #[.val (.long p1), .second, .val (.long p2), .second, .val (.long p3), .second, .val (.long p4), .second, .val (.long p5), .second, .val (.int p6), .val (.int (p6 &&& (15 : Int32))), .val (.int (((p6.toUInt32 >>> ((4 : Int32) &&& 31).toUInt32).toInt32) &&& (3 : Int32))), .val (.long m2), .second, .val (.long m12), .second, .val (.long m22), .second, .unset, .unset, .unset, .unset, .unset]) rfl kk) ?_
  obtain ⟨_, ⟨m32, rfl, hm33⟩, dm34⟩ : OwnMg p.tables e below (fun st' => ∃ (m32 : Int64), st' = s₁.setTop (mkF m 86 #[.val (.long p1), .second, .val (.long p2), .second, .val (.long p3), .second, .val (.long p4), .second, .val (.long p5), .second, .val (.int p6), .val (.int (p6 &&& (15 : Int32))), .val (.int (((p6.toUInt32 >>> ((4 : Int32) &&& 31).toUInt32).toInt32) &&& (3 : Int32))), .val (.long m2), .second, .val (.long m12), .second, .val (.long m22), .second, .unset, .unset, .unset, .unset, .unset] [(.long m32)]) ∧ (((((p6 &&& (15 : Int32)) &&& (8 : Int32)) = (0 : Int32)) ∧ m32 = p4) ∨ ((¬ (((p6 &&& (15 : Int32)) &&& (8 : Int32)) = (0 : Int32))) ∧ m32 = (p4 + p5)))) (s₁.setTop (mkF m 68 #[.val (.long p1), .second, .val (.long p2), .second, .val (.long p3), .second, .val (.long p4), .second, .val (.long p5), .second, .val (.int p6), .val (.int (p6 &&& (15 : Int32))), .val (.int (((p6.toUInt32 >>> ((4 : Int32) &&& 31).toUInt32).toInt32) &&& (3 : Int32))), .val (.long m2), .second, .val (.long m12), .second, .val (.long m22), .second, .unset, .unset, .unset, .unset, .unset] [])) := by
    refine OwnMg.back (s₁.setTop (mkF m 70 #[.val (.long p1), .second, .val (.long p2), .second, .val (.long p3), .second, .val (.long p4), .second, .val (.long p5), .second, .val (.int p6), .val (.int (p6 &&& (15 : Int32))), .val (.int (((p6.toUInt32 >>> ((4 : Int32) &&& 31).toUInt32).toInt32) &&& (3 : Int32))), .val (.long m2), .second, .val (.long m12), .second, .val (.long m22), .second, .unset, .unset, .unset, .unset, .unset] [(.int (p6 &&& (15 : Int32)))])) (fun tg kk => XS.iload X0.here hx rfl (hb hby at_68) rfl kk) ?_
    refine OwnMg.back (s₁.setTop (mkF m 72 #[.val (.long p1), .second, .val (.long p2), .second, .val (.long p3), .second, .val (.long p4), .second, .val (.long p5), .second, .val (.int p6), .val (.int (p6 &&& (15 : Int32))), .val (.int (((p6.toUInt32 >>> ((4 : Int32) &&& 31).toUInt32).toInt32) &&& (3 : Int32))), .val (.long m2), .second, .val (.long m12), .second, .val (.long m22), .second, .unset, .unset, .unset, .unset, .unset] [(.int (8 : Int32)), (.int (p6 &&& (15 : Int32)))])) (fun tg kk => XS.bipush X0.here hx rfl (hb hby at_70) kk) ?_
    refine OwnMg.back (s₁.setTop (mkF m 73 #[.val (.long p1), .second, .val (.long p2), .second, .val (.long p3), .second, .val (.long p4), .second, .val (.long p5), .second, .val (.int p6), .val (.int (p6 &&& (15 : Int32))), .val (.int (((p6.toUInt32 >>> ((4 : Int32) &&& 31).toUInt32).toInt32) &&& (3 : Int32))), .val (.long m2), .second, .val (.long m12), .second, .val (.long m22), .second, .unset, .unset, .unset, .unset, .unset] [(.int ((p6 &&& (15 : Int32)) &&& (8 : Int32)))])) (fun tg kk => XS.iand X0.here hx rfl (hb hby at_72) rfl kk) ?_
    by_cases hc40 : ((p6 &&& (15 : Int32)) &&& (8 : Int32)) = (0 : Int32)
    ·
      refine OwnMg.back (s₁.setTop (mkF m 84 #[.val (.long p1), .second, .val (.long p2), .second, .val (.long p3), .second, .val (.long p4), .second, .val (.long p5), .second, .val (.int p6), .val (.int (p6 &&& (15 : Int32))), .val (.int (((p6.toUInt32 >>> ((4 : Int32) &&& 31).toUInt32).toInt32) &&& (3 : Int32))), .val (.long m2), .second, .val (.long m12), .second, .val (.long m22), .second, .unset, .unset, .unset, .unset, .unset] [])) (fun tg kk => XS.ifYes X0.here hx rfl (pc0 := 73) (pc' := 84) rfl (hb hby at_73) rfl ((if0 _ _).trans (teq hc40).1) (by decide) (by decide) kk) ?_
      refine OwnMg.back (s₁.setTop (mkF m 86 #[.val (.long p1), .second, .val (.long p2), .second, .val (.long p3), .second, .val (.long p4), .second, .val (.long p5), .second, .val (.int p6), .val (.int (p6 &&& (15 : Int32))), .val (.int (((p6.toUInt32 >>> ((4 : Int32) &&& 31).toUInt32).toInt32) &&& (3 : Int32))), .val (.long m2), .second, .val (.long m12), .second, .val (.long m22), .second, .unset, .unset, .unset, .unset, .unset] [(.long p4)])) (fun tg kk => XS.lload X0.here hx rfl (hb hby at_84) rfl kk) ?_
      exact ⟨_, ⟨p4, rfl, Or.inl ⟨hc40, rfl⟩⟩, fun tg kk => kk⟩
    ·
      refine OwnMg.back (s₁.setTop (mkF m 76 #[.val (.long p1), .second, .val (.long p2), .second, .val (.long p3), .second, .val (.long p4), .second, .val (.long p5), .second, .val (.int p6), .val (.int (p6 &&& (15 : Int32))), .val (.int (((p6.toUInt32 >>> ((4 : Int32) &&& 31).toUInt32).toInt32) &&& (3 : Int32))), .val (.long m2), .second, .val (.long m12), .second, .val (.long m22), .second, .unset, .unset, .unset, .unset, .unset] [])) (fun tg kk => XS.ifNo X0.here hx rfl (hb hby at_73) rfl ((if0 _ _).trans (feq hc40).1) kk) ?_
      refine OwnMg.back (s₁.setTop (mkF m 78 #[.val (.long p1), .second, .val (.long p2), .second, .val (.long p3), .second, .val (.long p4), .second, .val (.long p5), .second, .val (.int p6), .val (.int (p6 &&& (15 : Int32))), .val (.int (((p6.toUInt32 >>> ((4 : Int32) &&& 31).toUInt32).toInt32) &&& (3 : Int32))), .val (.long m2), .second, .val (.long m12), .second, .val (.long m22), .second, .unset, .unset, .unset, .unset, .unset] [(.long p4)])) (fun tg kk => XS.lload X0.here hx rfl (hb hby at_76) rfl kk) ?_
      refine OwnMg.back (s₁.setTop (mkF m 80 #[.val (.long p1), .second, .val (.long p2), .second, .val (.long p3), .second, .val (.long p4), .second, .val (.long p5), .second, .val (.int p6), .val (.int (p6 &&& (15 : Int32))), .val (.int (((p6.toUInt32 >>> ((4 : Int32) &&& 31).toUInt32).toInt32) &&& (3 : Int32))), .val (.long m2), .second, .val (.long m12), .second, .val (.long m22), .second, .unset, .unset, .unset, .unset, .unset] [(.long p5), (.long p4)])) (fun tg kk => XS.lload X0.here hx rfl (hb hby at_78) rfl kk) ?_
      refine OwnMg.back (s₁.setTop (mkF m 81 #[.val (.long p1), .second, .val (.long p2), .second, .val (.long p3), .second, .val (.long p4), .second, .val (.long p5), .second, .val (.int p6), .val (.int (p6 &&& (15 : Int32))), .val (.int (((p6.toUInt32 >>> ((4 : Int32) &&& 31).toUInt32).toInt32) &&& (3 : Int32))), .val (.long m2), .second, .val (.long m12), .second, .val (.long m22), .second, .unset, .unset, .unset, .unset, .unset] [(.long (p4 + p5))])) (fun tg kk => XS.ladd X0.here hx rfl (hb hby at_80) rfl kk) ?_
      refine OwnMg.back (s₁.setTop (mkF m 86 #[.val (.long p1), .second, .val (.long p2), .second, .val (.long p3), .second, .val (.long p4), .second, .val (.long p5), .second, .val (.int p6), .val (.int (p6 &&& (15 : Int32))), .val (.int (((p6.toUInt32 >>> ((4 : Int32) &&& 31).toUInt32).toInt32) &&& (3 : Int32))), .val (.long m2), .second, .val (.long m12), .second, .val (.long m22), .second, .unset, .unset, .unset, .unset, .unset] [(.long (p4 + p5))])) (fun tg kk => XS.goto X0.here hx rfl (pc0 := 81) (pc' := 86) rfl (hb hby at_81) (by decide) (by decide) kk) ?_
      exact ⟨_, ⟨(p4 + p5), rfl, Or.inr (⟨hc40, rfl⟩)⟩, fun tg kk => kk⟩
  refine OwnGo.back (s₁.setTop (mkF m 86 #[.val (.long p1), .second, .val (.long p2), .second, .val (.long p3), .second, .val (.long p4), .second, .val (.long p5), .second, .val (.int p6), .val (.int (p6 &&& (15 : Int32))), .val (.int (((p6.toUInt32 >>> ((4 : Int32) &&& 31).toUInt32).toInt32) &&& (3 : Int32))), .val (.long m2), .second, .val (.long m12), .second, .val (.long m22), .second, .unset, .unset, .unset, .unset, .unset] [(.long m32)])) dm34 ?_
  refine OwnGo.back (s₁.setTop (mkF m 88 #[.val (.long p1), .second, .val (.long p2), .second, .val (.long p3), .second, .val (.long p4), .second, .val (.long p5), .second, .val (.int p6), .val (.int (p6 &&& (15 : Int32))), .val (.int (((p6.toUInt32 >>> ((4 : Int32) &&& 31).toUInt32).toInt32) &&& (3 : Int32))), .val (.long m2), .second, .val (.long m12), .second, .val (.long m22), .second, .val (.long m32), .second, .unset, .unset, .unset] [])) (fun tg kk => XS.lstore X0.here hx rfl (hb hby at_86) rfl (l' := #[.val (.long p1), .second, .val (.long p2), .second, .val (.long p3), .second, .val (.long p4), .second, .val (.long p5), .second, .val (.int p6), .val (.int (p6 &&& (15 : Int32))), .val (.int (((p6.toUInt32 >>> ((4 : Int32) &&& 31).toUInt32).toInt32) &&& (3 : Int32))), .val (.long m2), .second, .val (.long m12), .second, .val (.long m22), .second, .val (.long m32), .second, .unset, .unset, .unset]) rfl kk) ?_
  obtain ⟨T41, h41, X41, e41, E41, A41, D41, -, st41⟩ := newO X0 hx hZ hown (hw _ (List.mem_of_getElem? (i := 0) rfl)) (hw _ (List.mem_of_getElem? (i := 1) rfl)) (hw _ (List.mem_of_getElem? (i := 2) rfl)) e0 (g := (mkF m 88 #[.val (.long p1), .second, .val (.long p2), .second, .val (.long p3), .second, .val (.long p4), .second, .val (.long p5), .second, .val (.int p6), .val (.int (p6 &&& (15 : Int32))), .val (.int (((p6.toUInt32 >>> ((4 : Int32) &&& 31).toUInt32).toInt32) &&& (3 : Int32))), .val (.long m2), .second, .val (.long m12), .second, .val (.long m22), .second, .val (.long m32), .second, .unset, .unset, .unset] [])) rfl (hb hby at_88) (by decide) (by decide)
  obtain ⟨b41, q41⟩ : ∃ z, z = h0.size := ⟨_, rfl⟩
  rw [← q41] at A41 D41 st41
  have g42 : n0 ≤ b41 := Nat.le_trans Z0 (Nat.le_of_eq q41.symm)
  have s43 : h0.size ≤ b41 := Nat.le_trans K0.1 (Nat.le_of_eq q41.symm)
  have f44 : Old Z n0 h41 := old.ext E41
  have K45 : Keep h0 h41 [] := K0.ext E41
  have Z46 : n0 ≤ h41.size := Nat.le_trans Z0 E41.1
  have f47 : Fld Z h41 b41 "com/example/tallyframe/tallyframe/Tally" "allocatedObjects" "J" (.long (0 : Int64)) := D41 (Or.inr (hw _ (List.mem_of_getElem? (i := 10) rfl))) (ty := .long) (by decide)
  have f48 : Fld Z h41 b41 "com/example/tallyframe/tallyframe/Tally" "allocatedBytes" "J" (.long (0 : Int64)) := D41 (Or.inr (hw _ (List.mem_of_getElem? (i := 12) rfl))) (ty := .long) (by decide)
  have f49 : Fld Z h41 b41 "com/example/tallyframe/tallyframe/Tally" "releasedObjects" "J" (.long (0 : Int64)) := D41 (Or.inr (hw _ (List.mem_of_getElem? (i := 14) rfl))) (ty := .long) (by decide)
  have f50 : Fld Z h41 b41 "com/example/tallyframe/tallyframe/Tally" "releasedBytes" "J" (.long (0 : Int64)) := D41 (Or.inr (hw _ (List.mem_of_getElem? (i := 16) rfl))) (ty := .long) (by decide)
  refine OwnGo.back (T41.setTop (mkF m 91 #[.val (.long p1), .second, .val (.long p2), .second, .val (.long p3), .second, .val (.long p4), .second, .val (.long p5), .second, .val (.int p6), .val (.int (p6 &&& (15 : Int32))), .val (.int (((p6.toUInt32 >>> ((4 : Int32) &&& 31).toUInt32).toInt32) &&& (3 : Int32))), .val (.long m2), .second, .val (.long m12), .second, .val (.long m22), .second, .val (.long m32), .second, .unset, .unset, .unset] [(.ref b41)])) (fun tg kk => st41 _ kk) ?_
  refine OwnGo.back (T41.setTop (mkF m 92 #[.val (.long p1), .second, .val (.long p2), .second, .val (.long p3), .second, .val (.long p4), .second, .val (.long p5), .second, .val (.int p6), .val (.int (p6 &&& (15 : Int32))), .val (.int (((p6.toUInt32 >>> ((4 : Int32) &&& 31).toUInt32).toInt32) &&& (3 : Int32))), .val (.long m2), .second, .val (.long m12), .second, .val (.long m22), .second, .val (.long m32), .second, .unset, .unset, .unset] [(.ref b41), (.ref b41)])) (fun tg kk => XS.dup X41.here hx rfl (hb hby at_91) rfl rfl kk) ?_
  refine OwnGo.back (T41.setTop (mkF m 93 #[.val (.long p1), .second, .val (.long p2), .second, .val (.long p3), .second, .val (.long p4), .second, .val (.long p5), .second, .val (.int p6), .val (.int (p6 &&& (15 : Int32))), .val (.int (((p6.toUInt32 >>> ((4 : Int32) &&& 31).toUInt32).toInt32) &&& (3 : Int32))), .val (.long m2), .second, .val (.long m12), .second, .val (.long m22), .second, .val (.long m32), .second, .unset, .unset, .unset] [(.long p1), (.ref b41), (.ref b41)])) (fun tg kk => XS.lloadN X41.here hx rfl (hb hby at_92) rfl kk) ?_
  refine OwnGo.back (T41.setTop (mkF m 94 #[.val (.long p1), .second, .val (.long p2), .second, .val (.long p3), .second, .val (.long p4), .second, .val (.long p5), .second, .val (.int p6), .val (.int (p6 &&& (15 : Int32))), .val (.int (((p6.toUInt32 >>> ((4 : Int32) &&& 31).toUInt32).toInt32) &&& (3 : Int32))), .val (.long m2), .second, .val (.long m12), .second, .val (.long m22), .second, .val (.long m32), .second, .unset, .unset, .unset] [(.long p2), (.long p1), (.ref b41), (.ref b41)])) (fun tg kk => XS.lloadN X41.here hx rfl (hb hby at_93) rfl kk) ?_
  refine OwnGo.back (T41.setTop (mkF m 96 #[.val (.long p1), .second, .val (.long p2), .second, .val (.long p3), .second, .val (.long p4), .second, .val (.long p5), .second, .val (.int p6), .val (.int (p6 &&& (15 : Int32))), .val (.int (((p6.toUInt32 >>> ((4 : Int32) &&& 31).toUInt32).toInt32) &&& (3 : Int32))), .val (.long m2), .second, .val (.long m12), .second, .val (.long m22), .second, .val (.long m32), .second, .unset, .unset, .unset] [(.long p3), (.long p2), (.long p1), (.ref b41), (.ref b41)])) (fun tg kk => XS.lload X41.here hx rfl (hb hby at_94) rfl kk) ?_
  refine OwnGo.back (T41.setTop (mkF m 98 #[.val (.long p1), .second, .val (.long p2), .second, .val (.long p3), .second, .val (.long p4), .second, .val (.long p5), .second, .val (.int p6), .val (.int (p6 &&& (15 : Int32))), .val (.int (((p6.toUInt32 >>> ((4 : Int32) &&& 31).toUInt32).toInt32) &&& (3 : Int32))), .val (.long m2), .second, .val (.long m12), .second, .val (.long m22), .second, .val (.long m32), .second, .unset, .unset, .unset] [(.long p4), (.long p3), (.long p2), (.long p1), (.ref b41), (.ref b41)])) (fun tg kk => XS.lload X41.here hx rfl (hb hby at_96) rfl kk) ?_
  obtain ⟨_, _, ⟨T51, L51, k51, n51⟩, -, X51, ⟨Lc51, hQ51, l51, y51, z51⟩, st51⟩ := X41.specialBack hx (y := (⟨"com/example/tallyframe/tallyframe/Tally", "<init>", "(JJJJ)V"⟩ : MethodName)) rfl hown (mvT hZ (hw _ (List.mem_of_getElem? (i := 3) rfl))) (mvT hZ (hw _ (List.mem_of_getElem? (i := 4) rfl))) (mvT hZ (hw _ (List.mem_of_getElem? (i := 5) rfl))) (by decide) (backOf (W := 1) (own_tl l Z a0 hw [] b41 p1 p2 p3 p4 h41 n0 Z46 A41 f47 f48 f49 f50 g42) hZ (hw _ (List.mem_of_getElem? (i := 5) rfl)) (hw _ (List.mem_of_getElem? (i := 2) rfl)) (by decide) (by decide)) (g := (mkF m 98 #[.val (.long p1), .second, .val (.long p2), .second, .val (.long p3), .second, .val (.long p4), .second, .val (.long p5), .second, .val (.int p6), .val (.int (p6 &&& (15 : Int32))), .val (.int (((p6.toUInt32 >>> ((4 : Int32) &&& 31).toUInt32).toInt32) &&& (3 : Int32))), .val (.long m2), .second, .val (.long m12), .second, .val (.long m22), .second, .val (.long m32), .second, .unset, .unset, .unset] [(.long p4), (.long p3), (.long p2), (.long p1), (.ref b41), (.ref b41)])) rfl (by rw [hml]; rfl) (Steps.refl _) (a := b41) (argsL := [(.long p1), (.long p2), (.long p3), (.long p4)]) (rest := [(.ref b41)]) (lenOf own_pd2 rfl) rfl (by show 2 * 0 + _ ≤ _; exact Nat.le_of_eq rfl) (hb hby at_98) (fun _ _ => ⟨rfl, e41, (by decide : 1 + 0 ≤ _), (by decide : 4 + 0 ≤ _)⟩)
  dsimp only [Pt.U, Pt.locs, Pt.cells, Pt.slots] at X51 l51 y51 z51 st51 hQ51
  subst l51 y51 z51
  obtain ⟨rfl, N51q, Kc51, po52, po53, po54, po55, po56⟩ := hQ51
  have N51 := Fr.app N0 N51q
  have f57 : Old Z n0 T51.heap := f44.keep Kc51 (allS g42 all0)
  have f58 : Exa Z T51.heap b41 "com/example/tallyframe/tallyframe/Tally" := A41.keep Kc51
  have K59 : Keep h0 T51.heap [] := K45.trans Kc51 (allS (Or.inr s43) all0)
  have Z60 : n0 ≤ T51.heap.size := Nat.le_trans Z46 Kc51.1
  refine OwnGo.back (T51.setTop (mkF m 101 #[.val (.long p1), .second, .val (.long p2), .second, .val (.long p3), .second, .val (.long p4), .second, .val (.long p5), .second, .val (.int p6), .val (.int (p6 &&& (15 : Int32))), .val (.int (((p6.toUInt32 >>> ((4 : Int32) &&& 31).toUInt32).toInt32) &&& (3 : Int32))), .val (.long m2), .second, .val (.long m12), .second, .val (.long m22), .second, .val (.long m32), .second, .unset, .unset, .unset] [(.ref b41)])) (fun tg kk => st51.trans kk) ?_
  refine OwnGo.back (T51.setTop (mkF m 103 #[.val (.long p1), .second, .val (.long p2), .second, .val (.long p3), .second, .val (.long p4), .second, .val (.long p5), .second, .val (.int p6), .val (.int (p6 &&& (15 : Int32))), .val (.int (((p6.toUInt32 >>> ((4 : Int32) &&& 31).toUInt32).toInt32) &&& (3 : Int32))), .val (.long m2), .second, .val (.long m12), .second, .val (.long m22), .second, .val (.long m32), .second, .val (.ref b41), .unset, .unset] [])) (fun tg kk => XS.astore X51.here hx rfl (hb hby at_101) rfl rfl (l' := #[.val (.long p1), .second, .val (.long p2), .second, .val (.long p3), .second, .val (.long p4), .second, .val (.long p5), .second, .val (.int p6), .val (.int (p6 &&& (15 : Int32))), .val (.int (((p6.toUInt32 >>> ((4 : Int32) &&& 31).toUInt32).toInt32) &&& (3 : Int32))), .val (.long m2), .second, .val (.long m12), .second, .val (.long m22), .second, .val (.long m32), .second, .val (.ref b41), .unset, .unset]) rfl kk) ?_
  obtain ⟨T61, h61, X61, e61, E61, A61, D61, -, st61⟩ := newO X51 hx hZ hown (hw _ (List.mem_of_getElem? (i := 0) rfl)) (hw _ (List.mem_of_getElem? (i := 1) rfl)) (hw _ (List.mem_of_getElem? (i := 2) rfl)) rfl (g := (mkF m 103 #[.val (.long p1), .second, .val (.long p2), .second, .val (.long p3), .second, .val (.long p4), .second, .val (.long p5), .second, .val (.int p6), .val (.int (p6 &&& (15 : Int32))), .val (.int (((p6.toUInt32 >>> ((4 : Int32) &&& 31).toUInt32).toInt32) &&& (3 : Int32))), .val (.long m2), .second, .val (.long m12), .second, .val (.long m22), .second, .val (.long m32), .second, .val (.ref b41), .unset, .unset] [])) rfl (hb hby at_103) (by decide) (by decide)
  obtain ⟨b61, q61⟩ : ∃ z, z = T51.heap.size := ⟨_, rfl⟩
  rw [← q61] at A61 D61 st61
  have n62 : b41 ≠ b61 := own_ne po52.lt q61
  have g63 : n0 ≤ b61 := Nat.le_trans Z60 (Nat.le_of_eq q61.symm)
  have s64 : h0.size ≤ b61 := Nat.le_trans K59.1 (Nat.le_of_eq q61.symm)
  have f65 : Old Z n0 h61 := f57.ext E61
  have f66 : Exa Z h61 b41 "com/example/tallyframe/tallyframe/Tally" := po52.ext E61
  have f67 : Fld Z h61 b41 "com/example/tallyframe/tallyframe/Tally" "allocatedObjects" "J" (.long p1) := po53.ext E61
  have f68 : Fld Z h61 b41 "com/example/tallyframe/tallyframe/Tally" "allocatedBytes" "J" (.long p2) := po54.ext E61
  have f69 : Fld Z h61 b41 "com/example/tallyframe/tallyframe/Tally" "releasedObjects" "J" (.long p3) := po55.ext E61
  have f70 : Fld Z h61 b41 "com/example/tallyframe/tallyframe/Tally" "releasedBytes" "J" (.long p4) := po56.ext E61
  have K71 : Keep h0 h61 [] := K59.ext E61
  have Z72 : n0 ≤ h61.size := Nat.le_trans Z60 E61.1
  have f73 : Fld Z h61 b61 "com/example/tallyframe/tallyframe/Tally" "allocatedObjects" "J" (.long (0 : Int64)) := D61 (Or.inr (hw _ (List.mem_of_getElem? (i := 10) rfl))) (ty := .long) (by decide)
  have f74 : Fld Z h61 b61 "com/example/tallyframe/tallyframe/Tally" "allocatedBytes" "J" (.long (0 : Int64)) := D61 (Or.inr (hw _ (List.mem_of_getElem? (i := 12) rfl))) (ty := .long) (by decide)
  have f75 : Fld Z h61 b61 "com/example/tallyframe/tallyframe/Tally" "releasedObjects" "J" (.long (0 : Int64)) := D61 (Or.inr (hw _ (List.mem_of_getElem? (i := 14) rfl))) (ty := .long) (by decide)
  have f76 : Fld Z h61 b61 "com/example/tallyframe/tallyframe/Tally" "releasedBytes" "J" (.long (0 : Int64)) := D61 (Or.inr (hw _ (List.mem_of_getElem? (i := 16) rfl))) (ty := .long) (by decide)
  refine OwnGo.back (T61.setTop (mkF m 106 #[.val (.long p1), .second, .val (.long p2), .second, .val (.long p3), .second, .val (.long p4), .second, .val (.long p5), .second, .val (.int p6), .val (.int (p6 &&& (15 : Int32))), .val (.int (((p6.toUInt32 >>> ((4 : Int32) &&& 31).toUInt32).toInt32) &&& (3 : Int32))), .val (.long m2), .second, .val (.long m12), .second, .val (.long m22), .second, .val (.long m32), .second, .val (.ref b41), .unset, .unset] [(.ref b61)])) (fun tg kk => st61 _ kk) ?_
  refine OwnGo.back (T61.setTop (mkF m 107 #[.val (.long p1), .second, .val (.long p2), .second, .val (.long p3), .second, .val (.long p4), .second, .val (.long p5), .second, .val (.int p6), .val (.int (p6 &&& (15 : Int32))), .val (.int (((p6.toUInt32 >>> ((4 : Int32) &&& 31).toUInt32).toInt32) &&& (3 : Int32))), .val (.long m2), .second, .val (.long m12), .second, .val (.long m22), .second, .val (.long m32), .second, .val (.ref b41), .unset, .unset] [(.ref b61), (.ref b61)])) (fun tg kk => XS.dup X61.here hx rfl (hb hby at_106) rfl rfl kk) ?_
  refine OwnGo.back (T61.setTop (mkF m 109 #[.val (.long p1), .second, .val (.long p2), .second, .val (.long p3), .second, .val (.long p4), .second, .val (.long p5), .second, .val (.int p6), .val (.int (p6 &&& (15 : Int32))), .val (.int (((p6.toUInt32 >>> ((4 : Int32) &&& 31).toUInt32).toInt32) &&& (3 : Int32))), .val (.long m2), .second, .val (.long m12), .second, .val (.long m22), .second, .val (.long m32), .second, .val (.ref b41), .unset, .unset] [(.long m2), (.ref b61), (.ref b61)])) (fun tg kk => XS.lload X61.here hx rfl (hb hby at_107) rfl kk) ?_
  refine OwnGo.back (T61.setTop (mkF m 111 #[.val (.long p1), .second, .val (.long p2), .second, .val (.long p3), .second, .val (.long p4), .second, .val (.long p5), .second, .val (.int p6), .val (.int (p6 &&& (15 : Int32))), .val (.int (((p6.toUInt32 >>> ((4 : Int32) &&& 31).toUInt32).toInt32) &&& (3 : Int32))), .val (.long m2), .second, .val (.long m12), .second, .val (.long m22), .second, .val (.long m32), .second, .val (.ref b41), .unset, .unset] [(.long m12), (.long m2), (.ref b61), (.ref b61)])) (fun tg kk => XS.lload X61.here hx rfl (hb hby at_109) rfl kk) ?_
  refine OwnGo.back (T61.setTop (mkF m 113 #[.val (.long p1), .second, .val (.long p2), .second, .val (.long p3), .second, .val (.long p4), .second, .val (.long p5), .second, .val (.int p6), .val (.int (p6 &&& (15 : Int32))), .val (.int (((p6.toUInt32 >>> ((4 : Int32) &&& 31).toUInt32).toInt32) &&& (3 : Int32))), .val (.long m2), .second, .val (.long m12), .second, .val (.long m22), .second, .val (.long m32), .second, .val (.ref b41), .unset, .unset] [(.long m22), (.long m12), (.long m2), (.ref b61), (.ref b61)])) (fun tg kk => XS.lload X61.here hx rfl (hb hby at_111) rfl kk) ?_
  refine OwnGo.back (T61.setTop (mkF m 115 #[.val (.long p1), .second, .val (.long p2), .second, .val (.long p3), .second, .val (.long p4), .second, .val (.long p5), .second, .val (.int p6), .val (.int (p6 &&& (15 : Int32))), .val (.int (((p6.toUInt32 >>> ((4 : Int32) &&& 31).toUInt32).toInt32) &&& (3 : Int32))), .val (.long m2), .second, .val (.long m12), .second, .val (.long m22), .second, .val (.long m32), .second, .val (.ref b41), .unset, .unset] [(.long m32), (.long m22), (.long m12), (.long m2), (.ref b61), (.ref b61)])) (fun tg kk => XS.lload X61.here hx rfl (hb hby at_113) rfl kk) ?_
  obtain ⟨_, _, ⟨T77, L77, k77, n77⟩, -, X77, ⟨Lc77, hQ77, l77, y77, z77⟩, st77⟩ := X61.specialBack hx (y := (⟨"com/example/tallyframe/tallyframe/Tally", "<init>", "(JJJJ)V"⟩ : MethodName)) rfl hown (mvT hZ (hw _ (List.mem_of_getElem? (i := 3) rfl))) (mvT hZ (hw _ (List.mem_of_getElem? (i := 4) rfl))) (mvT hZ (hw _ (List.mem_of_getElem? (i := 5) rfl))) (by decide) (backOf (W := 1) (own_tl l Z a0 hw [] b61 m2 m12 m22 m32 h61 n0 Z72 A61 f73 f74 f75 f76 g63) hZ (hw _ (List.mem_of_getElem? (i := 5) rfl)) (hw _ (List.mem_of_getElem? (i := 2) rfl)) (by decide) (by decide)) (g := (mkF m 115 #[.val (.long p1), .second, .val (.long p2), .second, .val (.long p3), .second, .val (.long p4), .second, .val (.long p5), .second, .val (.int p6), .val (.int (p6 &&& (15 : Int32))), .val (.int (((p6.toUInt32 >>> ((4 : Int32) &&& 31).toUInt32).toInt32) &&& (3 : Int32))), .val (.long m2), .second, .val (.long m12), .second, .val (.long m22), .second, .val (.long m32), .second, .val (.ref b41), .unset, .unset] [(.long m32), (.long m22), (.long m12), (.long m2), (.ref b61), (.ref b61)])) rfl (by rw [hml]; rfl) (Steps.refl _) (a := b61) (argsL := [(.long m2), (.long m12), (.long m22), (.long m32)]) (rest := [(.ref b61)]) (lenOf own_pd2 rfl) rfl (by show 2 * 0 + _ ≤ _; exact Nat.le_of_eq rfl) (hb hby at_115) (fun _ _ => ⟨rfl, e61, (by decide : 2 + 0 ≤ _), (by decide : 8 + 0 ≤ _)⟩)
  dsimp only [Pt.U, Pt.locs, Pt.cells, Pt.slots] at X77 l77 y77 z77 st77 hQ77
  subst l77 y77 z77
  obtain ⟨rfl, N77q, Kc77, po78, po79, po80, po81, po82⟩ := hQ77
  have N77 := Fr.app N51 N77q
  have f83 : Old Z n0 T77.heap := f65.keep Kc77 (allS g63 all0)
  have f84 : Exa Z T77.heap b41 "com/example/tallyframe/tallyframe/Tally" := f66.keep Kc77
  have f85 : Fld Z T77.heap b41 "com/example/tallyframe/tallyframe/Tally" "allocatedObjects" "J" (.long p1) := f67.keep Kc77 (ninS n62 nin0)
  have f86 : Fld Z T77.heap b41 "com/example/tallyframe/tallyframe/Tally" "allocatedBytes" "J" (.long p2) := f68.keep Kc77 (ninS n62 nin0)
  have f87 : Fld Z T77.heap b41 "com/example/tallyframe/tallyframe/Tally" "releasedObjects" "J" (.long p3) := f69.keep Kc77 (ninS n62 nin0)
  have f88 : Fld Z T77.heap b41 "com/example/tallyframe/tallyframe/Tally" "releasedBytes" "J" (.long p4) := f70.keep Kc77 (ninS n62 nin0)
  have f89 : Exa Z T77.heap b61 "com/example/tallyframe/tallyframe/Tally" := A61.keep Kc77
  have K90 : Keep h0 T77.heap [] := K71.trans Kc77 (allS (Or.inr s64) all0)
  have Z91 : n0 ≤ T77.heap.size := Nat.le_trans Z72 Kc77.1
  refine OwnGo.back (T77.setTop (mkF m 118 #[.val (.long p1), .second, .val (.long p2), .second, .val (.long p3), .second, .val (.long p4), .second, .val (.long p5), .second, .val (.int p6), .val (.int (p6 &&& (15 : Int32))), .val (.int (((p6.toUInt32 >>> ((4 : Int32) &&& 31).toUInt32).toInt32) &&& (3 : Int32))), .val (.long m2), .second, .val (.long m12), .second, .val (.long m22), .second, .val (.long m32), .second, .val (.ref b41), .unset, .unset] [(.ref b61)])) (fun tg kk => st77.trans kk) ?_
  refine OwnGo.back (T77.setTop (mkF m 120 #[.val (.long p1), .second, .val (.long p2), .second, .val (.long p3), .second, .val (.long p4), .second, .val (.long p5), .second, .val (.int p6), .val (.int (p6 &&& (15 : Int32))), .val (.int (((p6.toUInt32 >>> ((4 : Int32) &&& 31).toUInt32).toInt32) &&& (3 : Int32))), .val (.long m2), .second, .val (.long m12), .second, .val (.long m22), .second, .val (.long m32), .second, .val (.ref b41), .val (.ref b61), .unset] [])) (fun tg kk => XS.astore X77.here hx rfl (hb hby at_118) rfl rfl (l' := #[.val (.long p1), .second, .val (.long p2), .second, .val (.long p3), .second, .val (.long p4), .second, .val (.long p5), .second, .val (.int p6), .val (.int (p6 &&& (15 : Int32))), .val (.int (((p6.toUInt32 >>> ((4 : Int32) &&& 31).toUInt32).toInt32) &&& (3 : Int32))), .val (.long m2), .second, .val (.long m12), .second, .val (.long m22), .second, .val (.long m32), .second, .val (.ref b41), .val (.ref b61), .unset]) rfl kk) ?_
  refine OwnGo.back (T77.setTop (mkF m 122 #[.val (.long p1), .second, .val (.long p2), .second, .val (.long p3), .second, .val (.long p4), .second, .val (.long p5), .second, .val (.int p6), .val (.int (p6 &&& (15 : Int32))), .val (.int (((p6.toUInt32 >>> ((4 : Int32) &&& 31).toUInt32).toInt32) &&& (3 : Int32))), .val (.long m2), .second, .val (.long m12), .second, .val (.long m22), .second, .val (.long m32), .second, .val (.ref b41), .val (.ref b61), .unset] [(.int (((p6.toUInt32 >>> ((4 : Int32) &&& 31).toUInt32).toInt32) &&& (3 : Int32)))])) (fun tg kk => XS.iload X77.here hx rfl (hb hby at_120) rfl kk) ?_
  refine OwnGo.back (T77.setTop (mkF m 123 #[.val (.long p1), .second, .val (.long p2), .second, .val (.long p3), .second, .val (.long p4), .second, .val (.long p5), .second, .val (.int p6), .val (.int (p6 &&& (15 : Int32))), .val (.int (((p6.toUInt32 >>> ((4 : Int32) &&& 31).toUInt32).toInt32) &&& (3 : Int32))), .val (.long m2), .second, .val (.long m12), .second, .val (.long m22), .second, .val (.long m32), .second, .val (.ref b41), .val (.ref b61), .unset] [(.int (1 : Int32)), (.int (((p6.toUInt32 >>> ((4 : Int32) &&& 31).toUInt32).toInt32) &&& (3 : Int32)))])) (fun tg kk => XS.iconst X77.here hx rfl (hb hby at_122) kk) ?_
  by_cases hc92 : (((p6.toUInt32 >>> ((4 : Int32) &&& 31).toUInt32).toInt32) &&& (3 : Int32)) = (1 : Int32)
  ·
    refine OwnGo.back (T77.setTop (mkF m 126 #[.val (.long p1), .second, .val (.long p2), .second, .val (.long p3), .second, .val (.long p4), .second, .val (.long p5), .second, .val (.int p6), .val (.int (p6 &&& (15 : Int32))), .val (.int (((p6.toUInt32 >>> ((4 : Int32) &&& 31).toUInt32).toInt32) &&& (3 : Int32))), .val (.long m2), .second, .val (.long m12), .second, .val (.long m22), .second, .val (.long m32), .second, .val (.ref b41), .val (.ref b61), .unset] [])) (fun tg kk => XS.icmpNo X77.here hx rfl (hb hby at_123) rfl (teq hc92).2 kk) ?_
    refine OwnGo.back (T77.setTop (mkF m 128 #[.val (.long p1), .second, .val (.long p2), .second, .val (.long p3), .second, .val (.long p4), .second, .val (.long p5), .second, .val (.int p6), .val (.int (p6 &&& (15 : Int32))), .val (.int (((p6.toUInt32 >>> ((4 : Int32) &&& 31).toUInt32).toInt32) &&& (3 : Int32))), .val (.long m2), .second, .val (.long m12), .second, .val (.long m22), .second, .val (.long m32), .second, .val (.ref b41), .val (.ref b61), .unset] [(.ref b41)])) (fun tg kk => XS.aload X77.here hx rfl (hb hby at_126) rfl rfl kk) ?_
    refine OwnGo.back (T77.setTop (mkF m 129 #[.val (.long p1), .second, .val (.long p2), .second, .val (.long p3), .second, .val (.long p4), .second, .val (.long p5), .second, .val (.int p6), .val (.int (p6 &&& (15 : Int32))), .val (.int (((p6.toUInt32 >>> ((4 : Int32) &&& 31).toUInt32).toInt32) &&& (3 : Int32))), .val (.long m2), .second, .val (.long m12), .second, .val (.long m22), .second, .val (.long m32), .second, .val (.ref b41), .val (.ref b61), .unset] [.null, (.ref b41)])) (fun tg kk => XS.aconstNull X77.here hx rfl (hb hby at_128) kk) ?_
    obtain ⟨cq93, kq93, q93a, q93b, q93c⟩ := isOf hZ rfl f84
    obtain ⟨_, _, ⟨T93, L93, k93, n93⟩, -, X93, ⟨Lc93, hQ93, l93, y93, z93⟩, st93⟩ := X77.virtualBack hx (y := (⟨"com/example/tallyframe/tallyframe/Tally", "equals", "(Ljava/lang/Object;)Z"⟩ : MethodName)) (z := (⟨"com/example/tallyframe/tallyframe/Tally", "equals", "(Ljava/lang/Object;)Z"⟩ : MethodName)) hown (mvT hZ (hw _ (List.mem_of_getElem? (i := 17) rfl))) (mvT hZ (hw _ (List.mem_of_getElem? (i := 18) rfl))) (notFace_of_selects (args := #[]) (mvT hZ (hw _ (List.mem_of_getElem? (i := 20) rfl)))) (mvT hZ (hw _ (List.mem_of_getElem? (i := 20) rfl))) (mvT hZ (hw _ (List.mem_of_getElem? (i := 19) rfl))) (by decide) (backOf (W := 0) (own_eqn l Z a0 hw [] b41 T77.heap n0 Z91 ) hZ (hw _ (List.mem_of_getElem? (i := 21) rfl)) (hw _ (List.mem_of_getElem? (i := 2) rfl)) (by decide) (by decide)) q93a q93c (g := (mkF m 129 #[.val (.long p1), .second, .val (.long p2), .second, .val (.long p3), .second, .val (.long p4), .second, .val (.long p5), .second, .val (.int p6), .val (.int (p6 &&& (15 : Int32))), .val (.int (((p6.toUInt32 >>> ((4 : Int32) &&& 31).toUInt32).toInt32) &&& (3 : Int32))), .val (.long m2), .second, .val (.long m12), .second, .val (.long m22), .second, .val (.long m32), .second, .val (.ref b41), .val (.ref b61), .unset] [.null, (.ref b41)])) rfl (by rw [hml]; rfl) (Steps.refl _) (argsL := [.null]) (rest := []) (lenOf own_pd3 rfl) rfl (by show 2 * 0 + _ ≤ _; exact Nat.le_of_eq rfl) (hb hby at_129) (fun _ _ => ⟨rfl, rfl, (by decide : 2 + 0 ≤ _), (by decide : 8 + 0 ≤ _)⟩)
    dsimp only [Pt.U, Pt.locs, Pt.cells, Pt.slots] at X93 l93 y93 z93 st93 hQ93
    subst l93 y93 z93
    obtain ⟨rfl, N93q, e93⟩ := hQ93
    have N93 := Fr.app N77 N93q
    refine OwnGo.back (T93.setTop (mkF m 132 #[.val (.long p1), .second, .val (.long p2), .second, .val (.long p3), .second, .val (.long p4), .second, .val (.long p5), .second, .val (.int p6), .val (.int (p6 &&& (15 : Int32))), .val (.int (((p6.toUInt32 >>> ((4 : Int32) &&& 31).toUInt32).toInt32) &&& (3 : Int32))), .val (.long m2), .second, .val (.long m12), .second, .val (.long m22), .second, .val (.long m32), .second, .val (.ref b41), .val (.ref b61), .unset] [(.int (0 : Int32))])) (fun tg kk => st93.trans kk) ?_
    refine OwnGo.back (T93.setTop (mkF m 135 #[.val (.long p1), .second, .val (.long p2), .second, .val (.long p3), .second, .val (.long p4), .second, .val (.long p5), .second, .val (.int p6), .val (.int (p6 &&& (15 : Int32))), .val (.int (((p6.toUInt32 >>> ((4 : Int32) &&& 31).toUInt32).toInt32) &&& (3 : Int32))), .val (.long m2), .second, .val (.long m12), .second, .val (.long m22), .second, .val (.long m32), .second, .val (.ref b41), .val (.ref b61), .unset] [])) (fun tg kk => XS.ifNo X93.here hx rfl (hb hby at_132) rfl ((if0 _ _).trans (teq (by decide : (0 : Int32) = (0 : Int32))).2) kk) ?_
    refine OwnGo.back (T93.setTop (mkF m 136 #[.val (.long p1), .second, .val (.long p2), .second, .val (.long p3), .second, .val (.long p4), .second, .val (.long p5), .second, .val (.int p6), .val (.int (p6 &&& (15 : Int32))), .val (.int (((p6.toUInt32 >>> ((4 : Int32) &&& 31).toUInt32).toInt32) &&& (3 : Int32))), .val (.long m2), .second, .val (.long m12), .second, .val (.long m22), .second, .val (.long m32), .second, .val (.ref b41), .val (.ref b61), .unset] [(.int (1 : Int32))])) (fun tg kk => XS.iconst X93.here hx rfl (hb hby at_135) kk) ?_
    refine OwnGo.back (T93.setTop (mkF m 140 #[.val (.long p1), .second, .val (.long p2), .second, .val (.long p3), .second, .val (.long p4), .second, .val (.long p5), .second, .val (.int p6), .val (.int (p6 &&& (15 : Int32))), .val (.int (((p6.toUInt32 >>> ((4 : Int32) &&& 31).toUInt32).toInt32) &&& (3 : Int32))), .val (.long m2), .second, .val (.long m12), .second, .val (.long m22), .second, .val (.long m32), .second, .val (.ref b41), .val (.ref b61), .unset] [(.int (1 : Int32))])) (fun tg kk => XS.goto X93.here hx rfl (pc0 := 136) (pc' := 140) rfl (hb hby at_136) (by decide) (by decide) kk) ?_
    obtain ⟨fs, hr, hrun, hended, hW, hsame⟩ := X93.leave (v := some (.int (1 : Int32))) (fun h => by rw [Bd.returns] at h; cases h)
    refine ⟨_, _, ?_, hrun, hended, _, _, rfl, ?_, ⟨_, rfl⟩, hW, hsame.mono (by decide) (by decide)⟩
    · exact retN X93 hx (t := .boolean) Bd.returns (by simp) (hb hby at_140) hr
    · show own_law_Q Z p1 p2 p3 p4 p5 p6 ca h0 n0 _ T93.heap _
      rw [e93]
      exact ⟨rfl, N93, K90⟩
  ·
    refine OwnGo.back (T77.setTop (mkF m 141 #[.val (.long p1), .second, .val (.long p2), .second, .val (.long p3), .second, .val (.long p4), .second, .val (.long p5), .second, .val (.int p6), .val (.int (p6 &&& (15 : Int32))), .val (.int (((p6.toUInt32 >>> ((4 : Int32) &&& 31).toUInt32).toInt32) &&& (3 : Int32))), .val (.long m2), .second, .val (.long m12), .second, .val (.long m22), .second, .val (.long m32), .second, .val (.ref b41), .val (.ref b61), .unset] [])) (fun tg kk => XS.icmpYes X77.here hx rfl (pc0 := 123) (pc' := 141) rfl (hb hby at_123) rfl (feq hc92).2 (by decide) (by decide) kk) ?_
    refine OwnGo.back (T77.setTop (mkF m 143 #[.val (.long p1), .second, .val (.long p2), .second, .val (.long p3), .second, .val (.long p4), .second, .val (.long p5), .second, .val (.int p6), .val (.int (p6 &&& (15 : Int32))), .val (.int (((p6.toUInt32 >>> ((4 : Int32) &&& 31).toUInt32).toInt32) &&& (3 : Int32))), .val (.long m2), .second, .val (.long m12), .second, .val (.long m22), .second, .val (.long m32), .second, .val (.ref b41), .val (.ref b61), .unset] [(.int (((p6.toUInt32 >>> ((4 : Int32) &&& 31).toUInt32).toInt32) &&& (3 : Int32)))])) (fun tg kk => XS.iload X77.here hx rfl (hb hby at_141) rfl kk) ?_
    refine OwnGo.back (T77.setTop (mkF m 144 #[.val (.long p1), .second, .val (.long p2), .second, .val (.long p3), .second, .val (.long p4), .second, .val (.long p5), .second, .val (.int p6), .val (.int (p6 &&& (15 : Int32))), .val (.int (((p6.toUInt32 >>> ((4 : Int32) &&& 31).toUInt32).toInt32) &&& (3 : Int32))), .val (.long m2), .second, .val (.long m12), .second, .val (.long m22), .second, .val (.long m32), .second, .val (.ref b41), .val (.ref b61), .unset] [(.int (2 : Int32)), (.int (((p6.toUInt32 >>> ((4 : Int32) &&& 31).toUInt32).toInt32) &&& (3 : Int32)))])) (fun tg kk => XS.iconst X77.here hx rfl (hb hby at_143) kk) ?_
    by_cases hc94 : (((p6.toUInt32 >>> ((4 : Int32) &&& 31).toUInt32).toInt32) &&& (3 : Int32)) = (2 : Int32)
    ·
      refine OwnGo.back (T77.setTop (mkF m 147 #[.val (.long p1), .second, .val (.long p2), .second, .val (.long p3), .second, .val (.long p4), .second, .val (.long p5), .second, .val (.int p6), .val (.int (p6 &&& (15 : Int32))), .val (.int (((p6.toUInt32 >>> ((4 : Int32) &&& 31).toUInt32).toInt32) &&& (3 : Int32))), .val (.long m2), .second, .val (.long m12), .second, .val (.long m22), .second, .val (.long m32), .second, .val (.ref b41), .val (.ref b61), .unset] [])) (fun tg kk => XS.icmpNo X77.here hx rfl (hb hby at_144) rfl (teq hc94).2 kk) ?_
      refine OwnGo.back (T77.setTop (mkF m 149 #[.val (.long p1), .second, .val (.long p2), .second, .val (.long p3), .second, .val (.long p4), .second, .val (.long p5), .second, .val (.int p6), .val (.int (p6 &&& (15 : Int32))), .val (.int (((p6.toUInt32 >>> ((4 : Int32) &&& 31).toUInt32).toInt32) &&& (3 : Int32))), .val (.long m2), .second, .val (.long m12), .second, .val (.long m22), .second, .val (.long m32), .second, .val (.ref b41), .val (.ref b61), .unset] [(.ref b41)])) (fun tg kk => XS.aload X77.here hx rfl (hb hby at_147) rfl rfl kk) ?_
      refine OwnGo.back (T77.setTop (mkF m 150 #[.val (.long p1), .second, .val (.long p2), .second, .val (.long p3), .second, .val (.long p4), .second, .val (.long p5), .second, .val (.int p6), .val (.int (p6 &&& (15 : Int32))), .val (.int (((p6.toUInt32 >>> ((4 : Int32) &&& 31).toUInt32).toInt32) &&& (3 : Int32))), .val (.long m2), .second, .val (.long m12), .second, .val (.long m22), .second, .val (.long m32), .second, .val (.ref b41), .val (.ref b61), .unset] [(.long p1), (.ref b41)])) (fun tg kk => XS.lloadN X77.here hx rfl (hb hby at_149) rfl kk) ?_
      obtain ⟨_, _, ⟨T95, L95, k95, n95⟩, -, X95, ⟨Lc95, hQ95, l95, y95, z95⟩, st95⟩ := Jvm.LawKit.callS X77 hx (y := (⟨"java/lang/Long", "valueOf", "(J)Ljava/lang/Long;"⟩ : MethodName)) hown (mvT hZ (hw _ (List.mem_of_getElem? (i := 24) rfl))) (mvT hZ (hw _ (List.mem_of_getElem? (i := 25) rfl))) (mvT hZ (hw _ (List.mem_of_getElem? (i := 26) rfl))) (mvT hZ (hw _ (List.mem_of_getElem? (i := 27) rfl))) (by decide) (backOf (W := 1) (own_lval l Z a0 hw [] p1 ca T77.heap n0 Z91 S f83 hB) hZ (hw _ (List.mem_of_getElem? (i := 27) rfl)) (hw _ (List.mem_of_getElem? (i := 26) rfl)) (by decide) (by decide)) (g := (mkF m 150 #[.val (.long p1), .second, .val (.long p2), .second, .val (.long p3), .second, .val (.long p4), .second, .val (.long p5), .second, .val (.int p6), .val (.int (p6 &&& (15 : Int32))), .val (.int (((p6.toUInt32 >>> ((4 : Int32) &&& 31).toUInt32).toInt32) &&& (3 : Int32))), .val (.long m2), .second, .val (.long m12), .second, .val (.long m22), .second, .val (.long m32), .second, .val (.ref b41), .val (.ref b61), .unset] [(.long p1), (.ref b41)])) rfl (by rw [hml]; rfl) (argsL := [(.long p1)]) (rest := [(.ref b41)]) (lenOf own_pd4 rfl) rfl (by show 2 * 0 + _ ≤ _; exact Nat.le_of_eq rfl) (hb hby at_150) (fun _ _ => ⟨rfl, rfl, (by decide : 2 + 1 ≤ _), (by decide : 8 + 1 ≤ _)⟩)
      dsimp only [Pt.U, Pt.locs, Pt.cells, Pt.slots] at X95 l95 y95 z95 st95 hQ95
      subst l95 y95 z95
      obtain ⟨b_96, rfl, N95q, Kc95, po97⟩ := hQ95
      have N95 := Fr.app N77 N95q
      have f98 : Old Z n0 T95.heap := f83.keep Kc95 all0
      have f99 : Exa Z T95.heap b41 "com/example/tallyframe/tallyframe/Tally" := f84.keep Kc95
      have f100 : Fld Z T95.heap b41 "com/example/tallyframe/tallyframe/Tally" "allocatedObjects" "J" (.long p1) := f85.keep Kc95 nin0
      have f101 : Fld Z T95.heap b41 "com/example/tallyframe/tallyframe/Tally" "allocatedBytes" "J" (.long p2) := f86.keep Kc95 nin0
      have f102 : Fld Z T95.heap b41 "com/example/tallyframe/tallyframe/Tally" "releasedObjects" "J" (.long p3) := f87.keep Kc95 nin0
      have f103 : Fld Z T95.heap b41 "com/example/tallyframe/tallyframe/Tally" "releasedBytes" "J" (.long p4) := f88.keep Kc95 nin0
      have f104 : Exa Z T95.heap b61 "com/example/tallyframe/tallyframe/Tally" := po78.keep Kc95
      have f105 : Fld Z T95.heap b61 "com/example/tallyframe/tallyframe/Tally" "allocatedObjects" "J" (.long m2) := po79.keep Kc95 nin0
      have f106 : Fld Z T95.heap b61 "com/example/tallyframe/tallyframe/Tally" "allocatedBytes" "J" (.long m12) := po80.keep Kc95 nin0
      have f107 : Fld Z T95.heap b61 "com/example/tallyframe/tallyframe/Tally" "releasedObjects" "J" (.long m22) := po81.keep Kc95 nin0
      have f108 : Fld Z T95.heap b61 "com/example/tallyframe/tallyframe/Tally" "releasedBytes" "J" (.long m32) := po82.keep Kc95 nin0
      have K109 : Keep h0 T95.heap [] := K90.trans Kc95 all0
      have Z110 : n0 ≤ T95.heap.size := Nat.le_trans Z91 Kc95.1
      refine OwnGo.back (T95.setTop (mkF m 153 #[.val (.long p1), .second, .val (.long p2), .second, .val (.long p3), .second, .val (.long p4), .second, .val (.long p5), .second, .val (.int p6), .val (.int (p6 &&& (15 : Int32))), .val (.int (((p6.toUInt32 >>> ((4 : Int32) &&& 31).toUInt32).toInt32) &&& (3 : Int32))), .val (.long m2), .second, .val (.long m12), .second, .val (.long m22), .second, .val (.long m32), .second, .val (.ref b41), .val (.ref b61), .unset] [(.ref b_96), (.ref b41)])) (fun tg kk => st95 _ kk) ?_
      obtain ⟨cq111, kq111, q111a, q111b, q111c⟩ := isOf hZ rfl f99
      obtain ⟨_, _, ⟨T111, L111, k111, n111⟩, -, X111, ⟨Lc111, hQ111, l111, y111, z111⟩, st111⟩ := X95.virtualBack hx (y := (⟨"com/example/tallyframe/tallyframe/Tally", "equals", "(Ljava/lang/Object;)Z"⟩ : MethodName)) (z := (⟨"com/example/tallyframe/tallyframe/Tally", "equals", "(Ljava/lang/Object;)Z"⟩ : MethodName)) hown (mvT hZ (hw _ (List.mem_of_getElem? (i := 17) rfl))) (mvT hZ (hw _ (List.mem_of_getElem? (i := 18) rfl))) (notFace_of_selects (args := #[]) (mvT hZ (hw _ (List.mem_of_getElem? (i := 20) rfl)))) (mvT hZ (hw _ (List.mem_of_getElem? (i := 20) rfl))) (mvT hZ (hw _ (List.mem_of_getElem? (i := 19) rfl))) (by decide) (backOf (W := 0) (own_eql l Z a0 hw [] b41 b_96 T95.heap n0 Z110 po97) hZ (hw _ (List.mem_of_getElem? (i := 21) rfl)) (hw _ (List.mem_of_getElem? (i := 2) rfl)) (by decide) (by decide)) q111a q111c (g := (mkF m 153 #[.val (.long p1), .second, .val (.long p2), .second, .val (.long p3), .second, .val (.long p4), .second, .val (.long p5), .second, .val (.int p6), .val (.int (p6 &&& (15 : Int32))), .val (.int (((p6.toUInt32 >>> ((4 : Int32) &&& 31).toUInt32).toInt32) &&& (3 : Int32))), .val (.long m2), .second, .val (.long m12), .second, .val (.long m22), .second, .val (.long m32), .second, .val (.ref b41), .val (.ref b61), .unset] [(.ref b_96), (.ref b41)])) rfl (by rw [hml]; rfl) (Steps.refl _) (argsL := [(.ref b_96)]) (rest := []) (lenOf own_pd3 rfl) rfl (by show 2 * 0 + _ ≤ _; exact Nat.le_of_eq rfl) (hb hby at_153) (fun _ _ => ⟨rfl, rfl, (by decide : 3 + 0 ≤ _), (by decide : 9 + 0 ≤ _)⟩)
      dsimp only [Pt.U, Pt.locs, Pt.cells, Pt.slots] at X111 l111 y111 z111 st111 hQ111
      subst l111 y111 z111
      obtain ⟨rfl, N111q, e111⟩ := hQ111
      have N111 := Fr.app N95 N111q
      refine OwnGo.back (T111.setTop (mkF m 156 #[.val (.long p1), .second, .val (.long p2), .second, .val (.long p3), .second, .val (.long p4), .second, .val (.long p5), .second, .val (.int p6), .val (.int (p6 &&& (15 : Int32))), .val (.int (((p6.toUInt32 >>> ((4 : Int32) &&& 31).toUInt32).toInt32) &&& (3 : Int32))), .val (.long m2), .second, .val (.long m12), .second, .val (.long m22), .second, .val (.long m32), .second, .val (.ref b41), .val (.ref b61), .unset] [(.int (0 : Int32))])) (fun tg kk => st111.trans kk) ?_
      refine OwnGo.back (T111.setTop (mkF m 159 #[.val (.long p1), .second, .val (.long p2), .second, .val (.long p3), .second, .val (.long p4), .second, .val (.long p5), .second, .val (.int p6), .val (.int (p6 &&& (15 : Int32))), .val (.int (((p6.toUInt32 >>> ((4 : Int32) &&& 31).toUInt32).toInt32) &&& (3 : Int32))), .val (.long m2), .second, .val (.long m12), .second, .val (.long m22), .second, .val (.long m32), .second, .val (.ref b41), .val (.ref b61), .unset] [])) (fun tg kk => XS.ifNo X111.here hx rfl (hb hby at_156) rfl ((if0 _ _).trans (teq (by decide : (0 : Int32) = (0 : Int32))).2) kk) ?_
      refine OwnGo.back (T111.setTop (mkF m 160 #[.val (.long p1), .second, .val (.long p2), .second, .val (.long p3), .second, .val (.long p4), .second, .val (.long p5), .second, .val (.int p6), .val (.int (p6 &&& (15 : Int32))), .val (.int (((p6.toUInt32 >>> ((4 : Int32) &&& 31).toUInt32).toInt32) &&& (3 : Int32))), .val (.long m2), .second, .val (.long m12), .second, .val (.long m22), .second, .val (.long m32), .second, .val (.ref b41), .val (.ref b61), .unset] [(.int (1 : Int32))])) (fun tg kk => XS.iconst X111.here hx rfl (hb hby at_159) kk) ?_
      refine OwnGo.back (T111.setTop (mkF m 164 #[.val (.long p1), .second, .val (.long p2), .second, .val (.long p3), .second, .val (.long p4), .second, .val (.long p5), .second, .val (.int p6), .val (.int (p6 &&& (15 : Int32))), .val (.int (((p6.toUInt32 >>> ((4 : Int32) &&& 31).toUInt32).toInt32) &&& (3 : Int32))), .val (.long m2), .second, .val (.long m12), .second, .val (.long m22), .second, .val (.long m32), .second, .val (.ref b41), .val (.ref b61), .unset] [(.int (1 : Int32))])) (fun tg kk => XS.goto X111.here hx rfl (pc0 := 160) (pc' := 164) rfl (hb hby at_160) (by decide) (by decide) kk) ?_
      obtain ⟨fs, hr, hrun, hended, hW, hsame⟩ := X111.leave (v := some (.int (1 : Int32))) (fun h => by rw [Bd.returns] at h; cases h)
      refine ⟨_, _, ?_, hrun, hended, _, _, rfl, ?_, ⟨_, rfl⟩, hW, hsame.mono (by decide) (by decide)⟩
      · exact retN X111 hx (t := .boolean) Bd.returns (by simp) (hb hby at_164) hr
      · show own_law_Q Z p1 p2 p3 p4 p5 p6 ca h0 n0 _ T111.heap _
        rw [e111]
        exact ⟨rfl, N111, K109⟩
    ·
      refine OwnGo.back (T77.setTop (mkF m 165 #[.val (.long p1), .second, .val (.long p2), .second, .val (.long p3), .second, .val (.long p4), .second, .val (.long p5), .second, .val (.int p6), .val (.int (p6 &&& (15 : Int32))), .val (.int (((p6.toUInt32 >>> ((4 : Int32) &&& 31).toUInt32).toInt32) &&& (3 : Int32))), .val (.long m2), .second, .val (.long m12), .second, .val (.long m22), .second, .val (.long m32), .second, .val (.ref b41), .val (.ref b61), .unset] [])) (fun tg kk => XS.icmpYes X77.here hx rfl (pc0 := 144) (pc' := 165) rfl (hb hby at_144) rfl (feq hc94).2 (by decide) (by decide) kk) ?_
      refine OwnGo.back (T77.setTop (mkF m 167 #[.val (.long p1), .second, .val (.long p2), .second, .val (.long p3), .second, .val (.long p4), .second, .val (.long p5), .second, .val (.int p6), .val (.int (p6 &&& (15 : Int32))), .val (.int (((p6.toUInt32 >>> ((4 : Int32) &&& 31).toUInt32).toInt32) &&& (3 : Int32))), .val (.long m2), .second, .val (.long m12), .second, .val (.long m22), .second, .val (.long m32), .second, .val (.ref b41), .val (.ref b61), .unset] [(.int (((p6.toUInt32 >>> ((4 : Int32) &&& 31).toUInt32).toInt32) &&& (3 : Int32)))])) (fun tg kk => XS.iload X77.here hx rfl (hb hby at_165) rfl kk) ?_
      refine OwnGo.back (T77.setTop (mkF m 168 #[.val (.long p1), .second, .val (.long p2), .second, .val (.long p3), .second, .val (.long p4), .second, .val (.long p5), .second, .val (.int p6), .val (.int (p6 &&& (15 : Int32))), .val (.int (((p6.toUInt32 >>> ((4 : Int32) &&& 31).toUInt32).toInt32) &&& (3 : Int32))), .val (.long m2), .second, .val (.long m12), .second, .val (.long m22), .second, .val (.long m32), .second, .val (.ref b41), .val (.ref b61), .unset] [(.int (3 : Int32)), (.int (((p6.toUInt32 >>> ((4 : Int32) &&& 31).toUInt32).toInt32) &&& (3 : Int32)))])) (fun tg kk => XS.iconst X77.here hx rfl (hb hby at_167) kk) ?_
      by_cases hc112 : (((p6.toUInt32 >>> ((4 : Int32) &&& 31).toUInt32).toInt32) &&& (3 : Int32)) = (3 : Int32)
      ·
        refine OwnGo.back (T77.setTop (mkF m 171 #[.val (.long p1), .second, .val (.long p2), .second, .val (.long p3), .second, .val (.long p4), .second, .val (.long p5), .second, .val (.int p6), .val (.int (p6 &&& (15 : Int32))), .val (.int (((p6.toUInt32 >>> ((4 : Int32) &&& 31).toUInt32).toInt32) &&& (3 : Int32))), .val (.long m2), .second, .val (.long m12), .second, .val (.long m22), .second, .val (.long m32), .second, .val (.ref b41), .val (.ref b61), .unset] [])) (fun tg kk => XS.icmpNo X77.here hx rfl (hb hby at_168) rfl (teq hc112).2 kk) ?_
        refine OwnGo.back (T77.setTop (mkF m 173 #[.val (.long p1), .second, .val (.long p2), .second, .val (.long p3), .second, .val (.long p4), .second, .val (.long p5), .second, .val (.int p6), .val (.int (p6 &&& (15 : Int32))), .val (.int (((p6.toUInt32 >>> ((4 : Int32) &&& 31).toUInt32).toInt32) &&& (3 : Int32))), .val (.long m2), .second, .val (.long m12), .second, .val (.long m22), .second, .val (.long m32), .second, .val (.ref b41), .val (.ref b61), .unset] [(.ref b41)])) (fun tg kk => XS.aload X77.here hx rfl (hb hby at_171) rfl rfl kk) ?_
        refine OwnGo.back (T77.setTop (mkF m 175 #[.val (.long p1), .second, .val (.long p2), .second, .val (.long p3), .second, .val (.long p4), .second, .val (.long p5), .second, .val (.int p6), .val (.int (p6 &&& (15 : Int32))), .val (.int (((p6.toUInt32 >>> ((4 : Int32) &&& 31).toUInt32).toInt32) &&& (3 : Int32))), .val (.long m2), .second, .val (.long m12), .second, .val (.long m22), .second, .val (.long m32), .second, .val (.ref b41), .val (.ref b61), .unset] [(.ref b41), (.ref b41)])) (fun tg kk => XS.aload X77.here hx rfl (hb hby at_173) rfl rfl kk) ?_
        obtain ⟨cq113, kq113, q113a, q113b, q113c⟩ := isOf hZ rfl f84
        obtain ⟨_, _, ⟨T113, L113, k113, n113⟩, -, X113, ⟨Lc113, hQ113, l113, y113, z113⟩, st113⟩ := X77.virtualBack hx (y := (⟨"com/example/tallyframe/tallyframe/Tally", "equals", "(Ljava/lang/Object;)Z"⟩ : MethodName)) (z := (⟨"com/example/tallyframe/tallyframe/Tally", "equals", "(Ljava/lang/Object;)Z"⟩ : MethodName)) hown (mvT hZ (hw _ (List.mem_of_getElem? (i := 17) rfl))) (mvT hZ (hw _ (List.mem_of_getElem? (i := 18) rfl))) (notFace_of_selects (args := #[]) (mvT hZ (hw _ (List.mem_of_getElem? (i := 20) rfl)))) (mvT hZ (hw _ (List.mem_of_getElem? (i := 20) rfl))) (mvT hZ (hw _ (List.mem_of_getElem? (i := 19) rfl))) (by decide) (backOf (W := 0) (own_eqs l Z a0 hw [] b41 p1 p2 p3 p4 T77.heap n0 Z91 f84 f85 f86 f87 f88) hZ (hw _ (List.mem_of_getElem? (i := 21) rfl)) (hw _ (List.mem_of_getElem? (i := 2) rfl)) (by decide) (by decide)) q113a q113c (g := (mkF m 175 #[.val (.long p1), .second, .val (.long p2), .second, .val (.long p3), .second, .val (.long p4), .second, .val (.long p5), .second, .val (.int p6), .val (.int (p6 &&& (15 : Int32))), .val (.int (((p6.toUInt32 >>> ((4 : Int32) &&& 31).toUInt32).toInt32) &&& (3 : Int32))), .val (.long m2), .second, .val (.long m12), .second, .val (.long m22), .second, .val (.long m32), .second, .val (.ref b41), .val (.ref b61), .unset] [(.ref b41), (.ref b41)])) rfl (by rw [hml]; rfl) (Steps.refl _) (argsL := [(.ref b41)]) (rest := []) (lenOf own_pd3 rfl) rfl (by show 2 * 0 + _ ≤ _; exact Nat.le_of_eq rfl) (hb hby at_175) (fun _ _ => ⟨rfl, rfl, (by decide : 2 + 0 ≤ _), (by decide : 8 + 0 ≤ _)⟩)
        dsimp only [Pt.U, Pt.locs, Pt.cells, Pt.slots] at X113 l113 y113 z113 st113 hQ113
        subst l113 y113 z113
        obtain ⟨rfl, N113q, e113⟩ := hQ113
        have N113 := Fr.app N77 N113q
        refine OwnGo.back (T113.setTop (mkF m 178 #[.val (.long p1), .second, .val (.long p2), .second, .val (.long p3), .second, .val (.long p4), .second, .val (.long p5), .second, .val (.int p6), .val (.int (p6 &&& (15 : Int32))), .val (.int (((p6.toUInt32 >>> ((4 : Int32) &&& 31).toUInt32).toInt32) &&& (3 : Int32))), .val (.long m2), .second, .val (.long m12), .second, .val (.long m22), .second, .val (.long m32), .second, .val (.ref b41), .val (.ref b61), .unset] [(.int (1 : Int32))])) (fun tg kk => st113.trans kk) ?_
        obtain ⟨fs, hr, hrun, hended, hW, hsame⟩ := X113.leave (v := some (.int (1 : Int32))) (fun h => by rw [Bd.returns] at h; cases h)
        refine ⟨_, _, ?_, hrun, hended, _, _, rfl, ?_, ⟨_, rfl⟩, hW, hsame.mono (by decide) (by decide)⟩
        · exact retN X113 hx (t := .boolean) Bd.returns (by simp) (hb hby at_178) hr
        · show own_law_Q Z p1 p2 p3 p4 p5 p6 ca h0 n0 _ T113.heap _
          rw [e113]
          exact ⟨rfl, N113, K90⟩
      ·
        refine OwnGo.back (T77.setTop (mkF m 179 #[.val (.long p1), .second, .val (.long p2), .second, .val (.long p3), .second, .val (.long p4), .second, .val (.long p5), .second, .val (.int p6), .val (.int (p6 &&& (15 : Int32))), .val (.int (((p6.toUInt32 >>> ((4 : Int32) &&& 31).toUInt32).toInt32) &&& (3 : Int32))), .val (.long m2), .second, .val (.long m12), .second, .val (.long m22), .second, .val (.long m32), .second, .val (.ref b41), .val (.ref b61), .unset] [])) (fun tg kk => XS.icmpYes X77.here hx rfl (pc0 := 168) (pc' := 179) rfl (hb hby at_168) rfl (feq hc112).2 (by decide) (by decide) kk) ?_
        obtain ⟨_, ⟨m116, rfl, hm117⟩, dm118⟩ : OwnMg p.tables e below (fun st' => ∃ (m116 : Int32), st' = T77.setTop (mkF m 196 #[.val (.long p1), .second, .val (.long p2), .second, .val (.long p3), .second, .val (.long p4), .second, .val (.long p5), .second, .val (.int p6), .val (.int (p6 &&& (15 : Int32))), .val (.int (((p6.toUInt32 >>> ((4 : Int32) &&& 31).toUInt32).toInt32) &&& (3 : Int32))), .val (.long m2), .second, .val (.long m12), .second, .val (.long m22), .second, .val (.long m32), .second, .val (.ref b41), .val (.ref b61), .unset] [(.int m116)]) ∧ ((((p6 &&& (15 : Int32)) = (0 : Int32)) ∧ m116 = (1 : Int32)) ∨ ((¬ ((p6 &&& (15 : Int32)) = (0 : Int32))) ∧ (p5 = (0 : Int64)) ∧ m116 = (1 : Int32)) ∨ ((¬ ((p6 &&& (15 : Int32)) = (0 : Int32))) ∧ (¬ (p5 = (0 : Int64))) ∧ m116 = (0 : Int32)))) (T77.setTop (mkF m 179 #[.val (.long p1), .second, .val (.long p2), .second, .val (.long p3), .second, .val (.long p4), .second, .val (.long p5), .second, .val (.int p6), .val (.int (p6 &&& (15 : Int32))), .val (.int (((p6.toUInt32 >>> ((4 : Int32) &&& 31).toUInt32).toInt32) &&& (3 : Int32))), .val (.long m2), .second, .val (.long m12), .second, .val (.long m22), .second, .val (.long m32), .second, .val (.ref b41), .val (.ref b61), .unset] [])) := by
          refine OwnMg.back (T77.setTop (mkF m 181 #[.val (.long p1), .second, .val (.long p2), .second, .val (.long p3), .second, .val (.long p4), .second, .val (.long p5), .second, .val (.int p6), .val (.int (p6 &&& (15 : Int32))), .val (.int (((p6.toUInt32 >>> ((4 : Int32) &&& 31).toUInt32).toInt32) &&& (3 : Int32))), .val (.long m2), .second, .val (.long m12), .second, .val (.long m22), .second, .val (.long m32), .second, .val (.ref b41), .val (.ref b61), .unset] [(.int (p6 &&& (15 : Int32)))])) (fun tg kk => XS.iload X77.here hx rfl (hb hby at_179) rfl kk) ?_
          by_cases hc124 : (p6 &&& (15 : Int32)) = (0 : Int32)
          ·
            refine OwnMg.back (T77.setTop (mkF m 191 #[.val (.long p1), .second, .val (.long p2), .second, .val (.long p3), .second, .val (.long p4), .second, .val (.long p5), .second, .val (.int p6), .val (.int (p6 &&& (15 : Int32))), .val (.int (((p6.toUInt32 >>> ((4 : Int32) &&& 31).toUInt32).toInt32) &&& (3 : Int32))), .val (.long m2), .second, .val (.long m12), .second, .val (.long m22), .second, .val (.long m32), .second, .val (.ref b41), .val (.ref b61), .unset] [])) (fun tg kk => XS.ifYes X77.here hx rfl (pc0 := 181) (pc' := 191) rfl (hb hby at_181) rfl ((if0 _ _).trans (teq hc124).1) (by decide) (by decide) kk) ?_
            refine OwnMg.back (T77.setTop (mkF m 192 #[.val (.long p1), .second, .val (.long p2), .second, .val (.long p3), .second, .val (.long p4), .second, .val (.long p5), .second, .val (.int p6), .val (.int (p6 &&& (15 : Int32))), .val (.int (((p6.toUInt32 >>> ((4 : Int32) &&& 31).toUInt32).toInt32) &&& (3 : Int32))), .val (.long m2), .second, .val (.long m12), .second, .val (.long m22), .second, .val (.long m32), .second, .val (.ref b41), .val (.ref b61), .unset] [(.int (1 : Int32))])) (fun tg kk => XS.iconst X77.here hx rfl (hb hby at_191) kk) ?_
            refine OwnMg.back (T77.setTop (mkF m 196 #[.val (.long p1), .second, .val (.long p2), .second, .val (.long p3), .second, .val (.long p4), .second, .val (.long p5), .second, .val (.int p6), .val (.int (p6 &&& (15 : Int32))), .val (.int (((p6.toUInt32 >>> ((4 : Int32) &&& 31).toUInt32).toInt32) &&& (3 : Int32))), .val (.long m2), .second, .val (.long m12), .second, .val (.long m22), .second, .val (.long m32), .second, .val (.ref b41), .val (.ref b61), .unset] [(.int (1 : Int32))])) (fun tg kk => XS.goto X77.here hx rfl (pc0 := 192) (pc' := 196) rfl (hb hby at_192) (by decide) (by decide) kk) ?_
            exact ⟨_, ⟨(1 : Int32), rfl, Or.inl ⟨hc124, rfl⟩⟩, fun tg kk => kk⟩
          ·
            refine OwnMg.back (T77.setTop (mkF m 184 #[.val (.long p1), .second, .val (.long p2), .second, .val (.long p3), .second, .val (.long p4), .second, .val (.long p5), .second, .val (.int p6), .val (.int (p6 &&& (15 : Int32))), .val (.int (((p6.toUInt32 >>> ((4 : Int32) &&& 31).toUInt32).toInt32) &&& (3 : Int32))), .val (.long m2), .second, .val (.long m12), .second, .val (.long m22), .second, .val (.long m32), .second, .val (.ref b41), .val (.ref b61), .unset] [])) (fun tg kk => XS.ifNo X77.here hx rfl (hb hby at_181) rfl ((if0 _ _).trans (feq hc124).1) kk) ?_
            refine OwnMg.back (T77.setTop (mkF m 186 #[.val (.long p1), .second, .val (.long p2), .second, .val (.long p3), .second, .val (.long p4), .second, .val (.long p5), .second, .val (.int p6), .val (.int (p6 &&& (15 : Int32))), .val (.int (((p6.toUInt32 >>> ((4 : Int32) &&& 31).toUInt32).toInt32) &&& (3 : Int32))), .val (.long m2), .second, .val (.long m12), .second, .val (.long m22), .second, .val (.long m32), .second, .val (.ref b41), .val (.ref b61), .unset] [(.long p5)])) (fun tg kk => XS.lload X77.here hx rfl (hb hby at_184) rfl kk) ?_
            refine OwnMg.back (T77.setTop (mkF m 187 #[.val (.long p1), .second, .val (.long p2), .second, .val (.long p3), .second, .val (.long p4), .second, .val (.long p5), .second, .val (.int p6), .val (.int (p6 &&& (15 : Int32))), .val (.int (((p6.toUInt32 >>> ((4 : Int32) &&& 31).toUInt32).toInt32) &&& (3 : Int32))), .val (.long m2), .second, .val (.long m12), .second, .val (.long m22), .second, .val (.long m32), .second, .val (.ref b41), .val (.ref b61), .unset] [(.long (0 : Int64)), (.long p5)])) (fun tg kk => XS.lconst X77.here hx rfl (hb hby at_186) kk) ?_
            refine OwnMg.back (T77.setTop (mkF m 188 #[.val (.long p1), .second, .val (.long p2), .second, .val (.long p3), .second, .val (.long p4), .second, .val (.long p5), .second, .val (.int p6), .val (.int (p6 &&& (15 : Int32))), .val (.int (((p6.toUInt32 >>> ((4 : Int32) &&& 31).toUInt32).toInt32) &&& (3 : Int32))), .val (.long m2), .second, .val (.long m12), .second, .val (.long m22), .second, .val (.long m32), .second, .val (.ref b41), .val (.ref b61), .unset] [(.int (lcmpW p5 (0 : Int64)))])) (fun tg kk => XS.lcmp X77.here hx rfl (hb hby at_187) rfl kk) ?_
            by_cases hc125 : p5 = (0 : Int64)
            ·
              refine OwnMg.back (T77.setTop (mkF m 191 #[.val (.long p1), .second, .val (.long p2), .second, .val (.long p3), .second, .val (.long p4), .second, .val (.long p5), .second, .val (.int p6), .val (.int (p6 &&& (15 : Int32))), .val (.int (((p6.toUInt32 >>> ((4 : Int32) &&& 31).toUInt32).toInt32) &&& (3 : Int32))), .val (.long m2), .second, .val (.long m12), .second, .val (.long m22), .second, .val (.long m32), .second, .val (.ref b41), .val (.ref b61), .unset] [])) (fun tg kk => XS.ifNo X77.here hx rfl (hb hby at_188) rfl ((if0 _ _).trans (teq ((lw_eq _ _).mpr hc125)).2) kk) ?_
              refine OwnMg.back (T77.setTop (mkF m 192 #[.val (.long p1), .second, .val (.long p2), .second, .val (.long p3), .second, .val (.long p4), .second, .val (.long p5), .second, .val (.int p6), .val (.int (p6 &&& (15 : Int32))), .val (.int (((p6.toUInt32 >>> ((4 : Int32) &&& 31).toUInt32).toInt32) &&& (3 : Int32))), .val (.long m2), .second, .val (.long m12), .second, .val (.long m22), .second, .val (.long m32), .second, .val (.ref b41), .val (.ref b61), .unset] [(.int (1 : Int32))])) (fun tg kk => XS.iconst X77.here hx rfl (hb hby at_191) kk) ?_
              refine OwnMg.back (T77.setTop (mkF m 196 #[.val (.long p1), .second, .val (.long p2), .second, .val (.long p3), .second, .val (.long p4), .second, .val (.long p5), .second, .val (.int p6), .val (.int (p6 &&& (15 : Int32))), .val (.int (((p6.toUInt32 >>> ((4 : Int32) &&& 31).toUInt32).toInt32) &&& (3 : Int32))), .val (.long m2), .second, .val (.long m12), .second, .val (.long m22), .second, .val (.long m32), .second, .val (.ref b41), .val (.ref b61), .unset] [(.int (1 : Int32))])) (fun tg kk => XS.goto X77.here hx rfl (pc0 := 192) (pc' := 196) rfl (hb hby at_192) (by decide) (by decide) kk) ?_
              exact ⟨_, ⟨(1 : Int32), rfl, Or.inr (Or.inl ⟨hc124, hc125, rfl⟩)⟩, fun tg kk => kk⟩
            ·
              refine OwnMg.back (T77.setTop (mkF m 195 #[.val (.long p1), .second, .val (.long p2), .second, .val (.long p3), .second, .val (.long p4), .second, .val (.long p5), .second, .val (.int p6), .val (.int (p6 &&& (15 : Int32))), .val (.int (((p6.toUInt32 >>> ((4 : Int32) &&& 31).toUInt32).toInt32) &&& (3 : Int32))), .val (.long m2), .second, .val (.long m12), .second, .val (.long m22), .second, .val (.long m32), .second, .val (.ref b41), .val (.ref b61), .unset] [])) (fun tg kk => XS.ifYes X77.here hx rfl (pc0 := 188) (pc' := 195) rfl (hb hby at_188) rfl ((if0 _ _).trans (feq (own_not (lw_eq _ _) hc125)).2) (by decide) (by decide) kk) ?_
              refine OwnMg.back (T77.setTop (mkF m 196 #[.val (.long p1), .second, .val (.long p2), .second, .val (.long p3), .second, .val (.long p4), .second, .val (.long p5), .second, .val (.int p6), .val (.int (p6 &&& (15 : Int32))), .val (.int (((p6.toUInt32 >>> ((4 : Int32) &&& 31).toUInt32).toInt32) &&& (3 : Int32))), .val (.long m2), .second, .val (.long m12), .second, .val (.long m22), .second, .val (.long m32), .second, .val (.ref b41), .val (.ref b61), .unset] [(.int (0 : Int32))])) (fun tg kk => XS.iconst X77.here hx rfl (hb hby at_195) kk) ?_
              exact ⟨_, ⟨(0 : Int32), rfl, Or.inr (Or.inr (⟨hc124, hc125, rfl⟩))⟩, fun tg kk => kk⟩
        refine OwnGo.back (T77.setTop (mkF m 196 #[.val (.long p1), .second, .val (.long p2), .second, .val (.long p3), .second, .val (.long p4), .second, .val (.long p5), .second, .val (.int p6), .val (.int (p6 &&& (15 : Int32))), .val (.int (((p6.toUInt32 >>> ((4 : Int32) &&& 31).toUInt32).toInt32) &&& (3 : Int32))), .val (.long m2), .second, .val (.long m12), .second, .val (.long m22), .second, .val (.long m32), .second, .val (.ref b41), .val (.ref b61), .unset] [(.int m116)])) dm118 ?_
        refine OwnGo.back (T77.setTop (mkF m 198 #[.val (.long p1), .second, .val (.long p2), .second, .val (.long p3), .second, .val (.long p4), .second, .val (.long p5), .second, .val (.int p6), .val (.int (p6 &&& (15 : Int32))), .val (.int (((p6.toUInt32 >>> ((4 : Int32) &&& 31).toUInt32).toInt32) &&& (3 : Int32))), .val (.long m2), .second, .val (.long m12), .second, .val (.long m22), .second, .val (.long m32), .second, .val (.ref b41), .val (.ref b61), .val (.int m116)] [])) (fun tg kk => XS.istore X77.here hx rfl (hb hby at_196) rfl (l' := #[.val (.long p1), .second, .val (.long p2), .second, .val (.long p3), .second, .val (.long p4), .second, .val (.long p5), .second, .val (.int p6), .val (.int (p6 &&& (15 : Int32))), .val (.int (((p6.toUInt32 >>> ((4 : Int32) &&& 31).toUInt32).toInt32) &&& (3 : Int32))), .val (.long m2), .second, .val (.long m12), .second, .val (.long m22), .second, .val (.long m32), .second, .val (.ref b41), .val (.ref b61), .val (.int m116)]) rfl kk) ?_
        refine OwnGo.back (T77.setTop (mkF m 200 #[.val (.long p1), .second, .val (.long p2), .second, .val (.long p3), .second, .val (.long p4), .second, .val (.long p5), .second, .val (.int p6), .val (.int (p6 &&& (15 : Int32))), .val (.int (((p6.toUInt32 >>> ((4 : Int32) &&& 31).toUInt32).toInt32) &&& (3 : Int32))), .val (.long m2), .second, .val (.long m12), .second, .val (.long m22), .second, .val (.long m32), .second, .val (.ref b41), .val (.ref b61), .val (.int m116)] [(.ref b41)])) (fun tg kk => XS.aload X77.here hx rfl (hb hby at_198) rfl rfl kk) ?_
        refine OwnGo.back (T77.setTop (mkF m 202 #[.val (.long p1), .second, .val (.long p2), .second, .val (.long p3), .second, .val (.long p4), .second, .val (.long p5), .second, .val (.int p6), .val (.int (p6 &&& (15 : Int32))), .val (.int (((p6.toUInt32 >>> ((4 : Int32) &&& 31).toUInt32).toInt32) &&& (3 : Int32))), .val (.long m2), .second, .val (.long m12), .second, .val (.long m22), .second, .val (.long m32), .second, .val (.ref b41), .val (.ref b61), .val (.int m116)] [(.ref b61), (.ref b41)])) (fun tg kk => XS.aload X77.here hx rfl (hb hby at_200) rfl rfl kk) ?_
        obtain ⟨cq126, kq126, q126a, q126b, q126c⟩ := isOf hZ rfl f84
        obtain ⟨_, _, ⟨T126, L126, k126, n126⟩, -, X126, ⟨Lc126, hQ126, l126, y126, z126⟩, st126⟩ := X77.virtualBack hx (y := (⟨"com/example/tallyframe/tallyframe/Tally", "equals", "(Ljava/lang/Object;)Z"⟩ : MethodName)) (z := (⟨"com/example/tallyframe/tallyframe/Tally", "equals", "(Ljava/lang/Object;)Z"⟩ : MethodName)) hown (mvT hZ (hw _ (List.mem_of_getElem? (i := 17) rfl))) (mvT hZ (hw _ (List.mem_of_getElem? (i := 18) rfl))) (notFace_of_selects (args := #[]) (mvT hZ (hw _ (List.mem_of_getElem? (i := 20) rfl)))) (mvT hZ (hw _ (List.mem_of_getElem? (i := 20) rfl))) (mvT hZ (hw _ (List.mem_of_getElem? (i := 19) rfl))) (by decide) (backOf (W := 0) (own_eqt l Z a0 hw [] b41 b61 p1 p2 p3 p4 m2 m12 m22 m32 T77.heap n0 Z91 po78 f85 f86 f87 f88 po79 po80 po81 po82) hZ (hw _ (List.mem_of_getElem? (i := 21) rfl)) (hw _ (List.mem_of_getElem? (i := 2) rfl)) (by decide) (by decide)) q126a q126c (g := (mkF m 202 #[.val (.long p1), .second, .val (.long p2), .second, .val (.long p3), .second, .val (.long p4), .second, .val (.long p5), .second, .val (.int p6), .val (.int (p6 &&& (15 : Int32))), .val (.int (((p6.toUInt32 >>> ((4 : Int32) &&& 31).toUInt32).toInt32) &&& (3 : Int32))), .val (.long m2), .second, .val (.long m12), .second, .val (.long m22), .second, .val (.long m32), .second, .val (.ref b41), .val (.ref b61), .val (.int m116)] [(.ref b61), (.ref b41)])) rfl (by rw [hml]; rfl) (Steps.refl _) (argsL := [(.ref b61)]) (rest := []) (lenOf own_pd3 rfl) rfl (by show 2 * 0 + _ ≤ _; exact Nat.le_of_eq rfl) (hb hby at_202) (fun _ _ => ⟨rfl, rfl, (by decide : 2 + 0 ≤ _), (by decide : 8 + 0 ≤ _)⟩)
        dsimp only [Pt.U, Pt.locs, Pt.cells, Pt.slots] at X126 l126 y126 z126 st126 hQ126
        subst l126 y126 z126
        obtain ⟨r_127, rfl, N126q, e126, po128⟩ := hQ126
        have N126 := Fr.app N77 N126q
        refine OwnGo.back (T126.setTop (mkF m 205 #[.val (.long p1), .second, .val (.long p2), .second, .val (.long p3), .second, .val (.long p4), .second, .val (.long p5), .second, .val (.int p6), .val (.int (p6 &&& (15 : Int32))), .val (.int (((p6.toUInt32 >>> ((4 : Int32) &&& 31).toUInt32).toInt32) &&& (3 : Int32))), .val (.long m2), .second, .val (.long m12), .second, .val (.long m22), .second, .val (.long m32), .second, .val (.ref b41), .val (.ref b61), .val (.int m116)] [(.int r_127)])) (fun tg kk => st126.trans kk) ?_
        refine OwnGo.back (T126.setTop (mkF m 207 #[.val (.long p1), .second, .val (.long p2), .second, .val (.long p3), .second, .val (.long p4), .second, .val (.long p5), .second, .val (.int p6), .val (.int (p6 &&& (15 : Int32))), .val (.int (((p6.toUInt32 >>> ((4 : Int32) &&& 31).toUInt32).toInt32) &&& (3 : Int32))), .val (.long m2), .second, .val (.long m12), .second, .val (.long m22), .second, .val (.long m32), .second, .val (.ref b41), .val (.ref b61), .val (.int m116)] [(.int m116), (.int r_127)])) (fun tg kk => XS.iload X126.here hx rfl (hb hby at_205) rfl kk) ?_
        refine OwnGo.back (T126.setTop (mkF m 210 #[.val (.long p1), .second, .val (.long p2), .second, .val (.long p3), .second, .val (.long p4), .second, .val (.long p5), .second, .val (.int p6), .val (.int (p6 &&& (15 : Int32))), .val (.int (((p6.toUInt32 >>> ((4 : Int32) &&& 31).toUInt32).toInt32) &&& (3 : Int32))), .val (.long m2), .second, .val (.long m12), .second, .val (.long m22), .second, .val (.long m32), .second, .val (.ref b41), .val (.ref b61), .val (.int m116)] [])) (fun tg kk => XS.icmpNo X126.here hx rfl (hb hby at_207) rfl (teq (own_ex (Iff.trans ⟨fun ⟨a, b, c, d⟩ => ⟨a.symm, b.symm, c.symm, d.symm⟩, fun ⟨a, b, c, d⟩ => ⟨a.symm, b.symm, c.symm, d.symm⟩⟩ (own_all hm3 hm13 hm23 hm33)) po128 hm117 : r_127 = m116)).2 kk) ?_
        refine OwnGo.back (T126.setTop (mkF m 212 #[.val (.long p1), .second, .val (.long p2), .second, .val (.long p3), .second, .val (.long p4), .second, .val (.long p5), .second, .val (.int p6), .val (.int (p6 &&& (15 : Int32))), .val (.int (((p6.toUInt32 >>> ((4 : Int32) &&& 31).toUInt32).toInt32) &&& (3 : Int32))), .val (.long m2), .second, .val (.long m12), .second, .val (.long m22), .second, .val (.long m32), .second, .val (.ref b41), .val (.ref b61), .val (.int m116)] [(.ref b61)])) (fun tg kk => XS.aload X126.here hx rfl (hb hby at_210) rfl rfl kk) ?_
        refine OwnGo.back (T126.setTop (mkF m 214 #[.val (.long p1), .second, .val (.long p2), .second, .val (.long p3), .second, .val (.long p4), .second, .val (.long p5), .second, .val (.int p6), .val (.int (p6 &&& (15 : Int32))), .val (.int (((p6.toUInt32 >>> ((4 : Int32) &&& 31).toUInt32).toInt32) &&& (3 : Int32))), .val (.long m2), .second, .val (.long m12), .second, .val (.long m22), .second, .val (.long m32), .second, .val (.ref b41), .val (.ref b61), .val (.int m116)] [(.ref b41), (.ref b61)])) (fun tg kk => XS.aload X126.here hx rfl (hb hby at_212) rfl rfl kk) ?_
        obtain ⟨cq129, kq129, q129a, q129b, q129c⟩ := isOf hZ e126 po78
        obtain ⟨_, _, ⟨T129, L129, k129, n129⟩, -, X129, ⟨Lc129, hQ129, l129, y129, z129⟩, st129⟩ := X126.virtualBack hx (y := (⟨"com/example/tallyframe/tallyframe/Tally", "equals", "(Ljava/lang/Object;)Z"⟩ : MethodName)) (z := (⟨"com/example/tallyframe/tallyframe/Tally", "equals", "(Ljava/lang/Object;)Z"⟩ : MethodName)) hown (mvT hZ (hw _ (List.mem_of_getElem? (i := 17) rfl))) (mvT hZ (hw _ (List.mem_of_getElem? (i := 18) rfl))) (notFace_of_selects (args := #[]) (mvT hZ (hw _ (List.mem_of_getElem? (i := 20) rfl)))) (mvT hZ (hw _ (List.mem_of_getElem? (i := 20) rfl))) (mvT hZ (hw _ (List.mem_of_getElem? (i := 19) rfl))) (by decide) (backOf (W := 0) (own_eqt l Z a0 hw [] b61 b41 m2 m12 m22 m32 p1 p2 p3 p4 T77.heap n0 Z91 f84 po79 po80 po81 po82 f85 f86 f87 f88) hZ (hw _ (List.mem_of_getElem? (i := 21) rfl)) (hw _ (List.mem_of_getElem? (i := 2) rfl)) (by decide) (by decide)) q129a q129c (g := (mkF m 214 #[.val (.long p1), .second, .val (.long p2), .second, .val (.long p3), .second, .val (.long p4), .second, .val (.long p5), .second, .val (.int p6), .val (.int (p6 &&& (15 : Int32))), .val (.int (((p6.toUInt32 >>> ((4 : Int32) &&& 31).toUInt32).toInt32) &&& (3 : Int32))), .val (.long m2), .second, .val (.long m12), .second, .val (.long m22), .second, .val (.long m32), .second, .val (.ref b41), .val (.ref b61), .val (.int m116)] [(.ref b41), (.ref b61)])) rfl (by rw [hml]; rfl) (Steps.refl _) (argsL := [(.ref b41)]) (rest := []) (lenOf own_pd3 rfl) rfl (by show 2 * 0 + _ ≤ _; exact Nat.le_of_eq rfl) (hb hby at_214) (fun _ _ => ⟨rfl, e126, (by decide : 2 + 0 ≤ _), (by decide : 8 + 0 ≤ _)⟩)
        dsimp only [Pt.U, Pt.locs, Pt.cells, Pt.slots] at X129 l129 y129 z129 st129 hQ129
        subst l129 y129 z129
        obtain ⟨r_130, rfl, N129q, e129, po131⟩ := hQ129
        have N129 := Fr.app N126 N129q
        refine OwnGo.back (T129.setTop (mkF m 217 #[.val (.long p1), .second, .val (.long p2), .second, .val (.long p3), .second, .val (.long p4), .second, .val (.long p5), .second, .val (.int p6), .val (.int (p6 &&& (15 : Int32))), .val (.int (((p6.toUInt32 >>> ((4 : Int32) &&& 31).toUInt32).toInt32) &&& (3 : Int32))), .val (.long m2), .second, .val (.long m12), .second, .val (.long m22), .second, .val (.long m32), .second, .val (.ref b41), .val (.ref b61), .val (.int m116)] [(.int r_130)])) (fun tg kk => st129.trans kk) ?_
        refine OwnGo.back (T129.setTop (mkF m 219 #[.val (.long p1), .second, .val (.long p2), .second, .val (.long p3), .second, .val (.long p4), .second, .val (.long p5), .second, .val (.int p6), .val (.int (p6 &&& (15 : Int32))), .val (.int (((p6.toUInt32 >>> ((4 : Int32) &&& 31).toUInt32).toInt32) &&& (3 : Int32))), .val (.long m2), .second, .val (.long m12), .second, .val (.long m22), .second, .val (.long m32), .second, .val (.ref b41), .val (.ref b61), .val (.int m116)] [(.int m116), (.int r_130)])) (fun tg kk => XS.iload X129.here hx rfl (hb hby at_217) rfl kk) ?_
        refine OwnGo.back (T129.setTop (mkF m 222 #[.val (.long p1), .second, .val (.long p2), .second, .val (.long p3), .second, .val (.long p4), .second, .val (.long p5), .second, .val (.int p6), .val (.int (p6 &&& (15 : Int32))), .val (.int (((p6.toUInt32 >>> ((4 : Int32) &&& 31).toUInt32).toInt32) &&& (3 : Int32))), .val (.long m2), .second, .val (.long m12), .second, .val (.long m22), .second, .val (.long m32), .second, .val (.ref b41), .val (.ref b61), .val (.int m116)] [])) (fun tg kk => XS.icmpNo X129.here hx rfl (hb hby at_219) rfl (teq (own_ex (own_all hm3 hm13 hm23 hm33) po131 hm117 : r_130 = m116)).2 kk) ?_
        refine OwnGo.back (T129.setTop (mkF m 223 #[.val (.long p1), .second, .val (.long p2), .second, .val (.long p3), .second, .val (.long p4), .second, .val (.long p5), .second, .val (.int p6), .val (.int (p6 &&& (15 : Int32))), .val (.int (((p6.toUInt32 >>> ((4 : Int32) &&& 31).toUInt32).toInt32) &&& (3 : Int32))), .val (.long m2), .second, .val (.long m12), .second, .val (.long m22), .second, .val (.long m32), .second, .val (.ref b41), .val (.ref b61), .val (.int m116)] [(.int (1 : Int32))])) (fun tg kk => XS.iconst X129.here hx rfl (hb hby at_222) kk) ?_
        refine OwnGo.back (T129.setTop (mkF m 227 #[.val (.long p1), .second, .val (.long p2), .second, .val (.long p3), .second, .val (.long p4), .second, .val (.long p5), .second, .val (.int p6), .val (.int (p6 &&& (15 : Int32))), .val (.int (((p6.toUInt32 >>> ((4 : Int32) &&& 31).toUInt32).toInt32) &&& (3 : Int32))), .val (.long m2), .second, .val (.long m12), .second, .val (.long m22), .second, .val (.long m32), .second, .val (.ref b41), .val (.ref b61), .val (.int m116)] [(.int (1 : Int32))])) (fun tg kk => XS.goto X129.here hx rfl (pc0 := 223) (pc' := 227) rfl (hb hby at_223) (by decide) (by decide) kk) ?_
        obtain ⟨fs, hr, hrun, hended, hW, hsame⟩ := X129.leave (v := some (.int (1 : Int32))) (fun h => by rw [Bd.returns] at h; cases h)
        refine ⟨_, _, ?_, hrun, hended, _, _, rfl, ?_, ⟨_, rfl⟩, hW, hsame.mono (by decide) (by decide)⟩
        · exact retN X129 hx (t := .boolean) Bd.returns (by simp) (hb hby at_227) hr
        · show own_law_Q Z p1 p2 p3 p4 p5 p6 ca h0 n0 _ T129.heap _
          rw [e129]
          exact ⟨rfl, N129, K90⟩
set_option maxRecDepth 65536 in
set_option maxHeartbeats 40000000 in
theorem comes_1 {Post : Tables → Env → Array Value → State → Outcome → State → Prop} (hpost : ∀ tb e args s v u, (limb_1_1.after args s (.returned v) u = true ∧ limb_1_2.after args s (.returned v) u = true ∧ True) → FrameEnd s (.returned v) u (Jvm.fieldLocs frame_1_writes args s ++ Jvm.arrayLocs frame_1_arrays args s ++ Jvm.staticLocs frame_1_statics s) 16 128 → Post tb e args s (.returned v) u) :
    ArmFor flags0 classFile x code maxLocals ret World_1 tables_1 room_1 Calls_1 rest_1 Pre_1 Post := by
  intro l hfl _ _ p e ha hc hk s m args below hf hA hF happ hP
  obtain ⟨hcalls, hrest, hpre⟩ := hP
  obtain ⟨-, -, -, hnamed, -, -, -, hat⟩ := (Spec.applies_iff hf).mp happ
  obtain ⟨hg, hn⟩ := and_e (Cond.before_iff.mp (show (Jvm.Cond.and given_1 narrow_1).before args s = true from hpre))
  obtain ⟨hg0, hg⟩ := and_e hg
  obtain ⟨hg1, hg⟩ := and_e hg
  obtain ⟨hg2, hg⟩ := and_e hg
  obtain ⟨hg3, hg⟩ := and_e hg
  obtain ⟨hg4, hg⟩ := and_e hg
  obtain ⟨hg5, hg⟩ := and_e hg
  obtain ⟨w0, w1, w2, w3, w4, w5, rfl⟩ : ∃ w0 w1 w2 w3 w4 w5 : Value, args = #[w0, w1, w2, w3, w4, w5] := by
    have hs : args.size = 6 := by simpa [Cond.value, given_1] using hg0
    obtain ⟨L⟩ := args
    match L, hs with
    | [w0, w1, w2, w3, w4, w5], _ => exact ⟨w0, w1, w2, w3, w4, w5, rfl⟩
  have hw := fun d (hd : d ∈ tables_1) => atoms_spec (ws := Jvm.Cond.code x code maxLocals ret :: tables_1) hat d (List.mem_cons_of_mem _ hd)
  have hfit : Fit s := fun {y c} hc i hi => by
    obtain ⟨ha, rfl⟩ := Array.getElem?_eq_some_iff.mp hc
    have q := List.all_eq_true.mp ((Array.all_eq_true_iff_forall_mem.mp hF) _ (Array.getElem_mem ha)) i (List.mem_range.mpr hi)
    simpa [Array.getElem?_eq_getElem hi] using q
  obtain ⟨i0, ei0⟩ := isL_v hg1
  obtain rfl : w0 = (.long i0) := Option.some.inj ei0
  obtain ⟨i1, ei1⟩ := isL_v hg2
  obtain rfl : w1 = (.long i1) := Option.some.inj ei1
  obtain ⟨i2, ei2⟩ := isL_v hg3
  obtain rfl : w2 = (.long i2) := Option.some.inj ei2
  obtain ⟨i3, ei3⟩ := isL_v hg4
  obtain rfl : w3 = (.long i3) := Option.some.inj ei3
  obtain ⟨i4, ei4⟩ := isL_v hg5
  obtain rfl : w4 = (.long i4) := Option.some.inj ei4
  obtain ⟨i5, ei5⟩ := is_v hg
  obtain rfl : w5 = (.int i5) := Option.some.inj ei5
  obtain ⟨hsets, hown0⟩ := atoms_of _ (rest_1_c_eq ▸ (show rest_1_c.before _ s = true from hrest))
  obtain ⟨caL, evcL⟩ := arr_v (Cond.before_iff.mp (hsets _ (List.mem_of_getElem? (i := 2) rfl)))
  have SCL : Sta s s.heap "java/lang/Long$LongCache" "cache" "[Ljava/lang/Long;" (.ref caL) := Sta.start evcL (Or.inl (hsets _ (List.mem_of_getElem? (i := 1) rfl)))
  have HBL : own_Box s caL "java/lang/Long" := own_box (fun _ => evcL) (Cond.before_iff.mp (hsets _ (List.mem_of_getElem? (i := 2) rfl))) (Cond.before_iff.mp (hsets _ (List.mem_of_getElem? (i := 4) rfl))) (Cond.before_iff.mp (hsets _ (List.mem_of_getElem? (i := 5) rfl)))
  obtain ⟨n, o, h1, h2, h3, _, L, rfl, ⟨rfl, N, -⟩, hq⟩ := own_law l s _ hw tables_1 i0 i1 i2 i3 i4 i5 caL s.heap s.heap.size (Nat.le_refl _) SCL (Old.start s) HBL p e ha hc hk s m _ below hf ((Spec.applies_iff_loose hf).mp happ).1 ⟨rfl, State.Warmed39.refl s, rfl⟩ trivial
  refine ⟨n, _, h1, h2, h3, hpost _ _ _ _ _ _ ⟨Cond.after_iff.mpr rfl, Cond.after_iff.mpr (eq_i res_at (Term.int_eval (1)) rfl), trivial⟩ ⟨hq.1, hq.2.1, (hq.2.2.sift fun y hy => Or.inr (N y hy)).mono (by decide) (by decide)⟩⟩
theorem main_1_1 : Claimed_1_1 := comes_1 fun _ _ _ _ _ _ h hF => ⟨h.1, hF⟩
theorem main_1_2 : Claimed_1_2 := comes_1 fun _ _ _ _ _ _ h hF => ⟨h.2.1, hF⟩
end Jvm.Pilot.@@N@@
namespace Jvm.Pilot.@@N@@
open Jvm Jvm.ClassFile Sem Op Lib Jvm.Free Jvm.Stand Jvm.Pilot.@@N@@.Jvm.D
/-! MADE BY PROGRAM (witnessworld.py) out of the Statement's table words and the real class files: 16 classes; the members and pool entries that the words name. The judged class is class 1, her method 1. -/
namespace start1
open Jvm.ClassFile
def u (s : String) : CpInfo := .utf8 (stringToUtf16 s)
/-- a pool by its gaps: so many unusable entries, then the entry; so many at the end -/
def gap : Nat → List CpInfo → List CpInfo
  | 0, r => r
  | n + 1, r => .unusable :: gap n r
def poolList (es : List (Nat × CpInfo)) (last : Nat) : List CpInfo := es.foldr (fun e r => gap e.1 (e.2 :: r)) (gap last [])
def pool (es : List (Nat × CpInfo)) (last : Nat) : Array CpInfo := ⟨poolList es last⟩
def fileOf (pool : Array CpInfo) (this : Nat) (attrs : Array Attribute := #[]) (ms : Array MethodInfo := #[]) (fl : Nat := 33) (sup : Nat := 0) (ifs : Array Nat := #[]) (fds : Array FieldInfo := #[]) : ClassFile where
  minorVersion := 0
  majorVersion := 65
  constantPool := pool
  accessFlags := fl
  thisClass := this
  superClass := sup
  interfaces := ifs
  fields := fds
  methods := ms
  attributes := attrs
def plain (name : String) (sup : Option ClassId) : Class where
  name := name
  kind := .ordinary
  loader := none
  accessFlags := 33
  super := sup
  interfaces := #[]
  cf := none
  fields := #[]
  methods := #[]
  instanceTypes := #[]
  staticTypes := #[]
  resolved := #[]
  callSites := []
  init := .initialized
  statics := none
  mirror := none

def pool0 : Array CpInfo := pool [(5, u "<init>"), (0, u "()V"), (1, .class_ 10), (1, u "java/lang/Object")] 113

def k0c0 : Code := { maxStack := 0, maxLocals := 1, code := object_method_1_code, exceptionTable := #[], attributes := #[] }
def k0m0 : Method := { name := "<init>", desc := "()V", sig := { parameters := [], returnType := none }, accessFlags := 1, code := some k0c0 }
/-- java/lang/Object -/
def k0 : Class := { plain "java/lang/Object" none with
  accessFlags := 33
  interfaces := #[]
  cf := some (fileOf pool0 8 #[] #[{ accessFlags := 1, nameIndex := 5, descriptorIndex := 6, attributes := #[] }] 33 0 #[] #[])
  fields := #[]
  methods := #[k0m0]
  instanceTypes := #[]
  staticTypes := #[]
  resolved := Array.replicate 124 none
  statics := none }

def pool1 : Array CpInfo := pool [(2, .class_ 4), (1, u "java/lang/Object"), (0, u "<init>"), (0, u "()V"), (0, .class_ 8), (0, u "com/example/tallyframe/tallyframe/Tally"), (0, .methodref 7 10), (0, .nameAndType 5 11), (0, u "(JJJJ)V"), (0, .methodref 7 13), (0, .nameAndType 14 15), (0, u "equals"), (0, u "(Ljava/lang/Object;)Z"), (0, .methodref 17 18), (0, .class_ 19), (0, .nameAndType 20 21), (0, u "java/lang/Long"), (0, u "valueOf"), (0, u "(J)Ljava/lang/Long;"), (0, .class_ 23), (0, u "com/example/tallyframe/tallyframe/TallyEqualsPinLaw"), (2, u "law"), (0, u "(JJJJJI)Z")] 3

def k1m0 : Method := { name := "<init>", desc := "()V", sig := { parameters := [], returnType := none }, accessFlags := 1, code := none }
def k1c1 : Code := { maxStack := 10, maxLocals := 24, code := code, exceptionTable := #[], attributes := #[] }
def k1m1 : Method := { name := "law", desc := "(JJJJJI)Z", sig := { parameters := [.long, .long, .long, .long, .long, .int], returnType := some .boolean }, accessFlags := 9, code := some k1c1 }
/-- com/example/tallyframe/tallyframe/TallyEqualsPinLaw -/
def k1 : Class := { plain "com/example/tallyframe/tallyframe/TallyEqualsPinLaw" (some 0) with
  accessFlags := 49
  interfaces := #[]
  cf := some (fileOf pool1 22 #[] #[{ accessFlags := 1, nameIndex := 5, descriptorIndex := 6, attributes := #[] }, { accessFlags := 9, nameIndex := 26, descriptorIndex := 27, attributes := #[] }] 49 2 #[] #[])
  fields := #[]
  methods := #[k1m0, k1m1]
  instanceTypes := #[]
  staticTypes := #[]
  resolved := Array.replicate 31 none
  statics := none }

def pool2 : Array CpInfo := pool [(1, .methodref 2 3), (0, .class_ 4), (0, .nameAndType 5 6), (0, u "java/lang/Object"), (0, u "<init>"), (0, u "()V"), (0, .fieldref 8 9), (0, .class_ 10), (0, .nameAndType 11 12), (0, u "com/example/tallyframe/tallyframe/Tally"), (0, u "allocatedObjects"), (0, u "J"), (0, .fieldref 8 14), (0, .nameAndType 15 12), (0, u "allocatedBytes"), (0, .fieldref 8 17), (0, .nameAndType 18 12), (0, u "releasedObjects"), (0, .fieldref 8 20), (0, .nameAndType 21 12), (0, u "releasedBytes"), (27, u "(JJJJ)V"), (2, u "equals"), (0, u "(Ljava/lang/Object;)Z")] 7

def k2c0 : Code := { maxStack := 3, maxLocals := 9, code := prog_24_method_1_code, exceptionTable := #[], attributes := #[] }
def k2m0 : Method := { name := "<init>", desc := "(JJJJ)V", sig := { parameters := [.long, .long, .long, .long], returnType := none }, accessFlags := 0, code := some k2c0 }
def k2c1 : Code := { maxStack := 4, maxLocals := 3, code := prog_24_method_8_code, exceptionTable := #[], attributes := #[] }
def k2m1 : Method := { name := "equals", desc := "(Ljava/lang/Object;)Z", sig := { parameters := [(.object "java/lang/Object")], returnType := some .boolean }, accessFlags := 1, code := some k2c1 }
/-- com/example/tallyframe/tallyframe/Tally -/
def k2 : Class := { plain "com/example/tallyframe/tallyframe/Tally" (some 0) with
  accessFlags := 49
  interfaces := #[]
  cf := some (fileOf pool2 8 #[] #[{ accessFlags := 0, nameIndex := 5, descriptorIndex := 49, attributes := #[] }, { accessFlags := 1, nameIndex := 52, descriptorIndex := 53, attributes := #[] }] 49 2 #[] #[{ accessFlags := 18, nameIndex := 11, descriptorIndex := 12, attributes := #[] }, { accessFlags := 18, nameIndex := 15, descriptorIndex := 12, attributes := #[] }, { accessFlags := 18, nameIndex := 18, descriptorIndex := 12, attributes := #[] }, { accessFlags := 18, nameIndex := 21, descriptorIndex := 12, attributes := #[] }])
  fields := #[{ name := "allocatedObjects", type := .long, accessFlags := 18, slot := 0, constantValue := 0 }, { name := "allocatedBytes", type := .long, accessFlags := 18, slot := 1, constantValue := 0 }, { name := "releasedObjects", type := .long, accessFlags := 18, slot := 2, constantValue := 0 }, { name := "releasedBytes", type := .long, accessFlags := 18, slot := 3, constantValue := 0 }]
  methods := #[k2m0, k2m1]
  instanceTypes := #[.long, .long, .long, .long]
  staticTypes := #[]
  resolved := Array.replicate 61 none
  statics := none }

def pool3 : Array CpInfo := pool [(1, .class_ 2), (0, u "java/io/Serializable"), (0, .class_ 4), (0, u "java/lang/Object")] 2

/-- java/io/Serializable -/
def k3 : Class := { plain "java/io/Serializable" (some 0) with
  accessFlags := 1537
  interfaces := #[]
  cf := some (fileOf pool3 1 #[] #[] 1537 3 #[] #[])
  fields := #[]
  methods := #[]
  instanceTypes := #[]
  staticTypes := #[]
  resolved := Array.replicate 7 none
  statics := none }

def pool4 : Array CpInfo := pool [(1, .methodref 2 3), (0, .class_ 4), (0, .nameAndType 5 6), (0, u "java/lang/Object"), (0, u "<init>"), (0, u "()V"), (1, .class_ 10), (1, u "java/lang/Number"), (2, .class_ 14), (0, u "java/io/Serializable"), (0, u "serialVersionUID"), (0, u "J")] 20

def k4c0 : Code := { maxStack := 1, maxLocals := 1, code := jdk_18_method_1_code, exceptionTable := #[], attributes := #[] }
def k4m0 : Method := { name := "<init>", desc := "()V", sig := { parameters := [], returnType := none }, accessFlags := 1, code := some k4c0 }
/-- java/lang/Number -/
def k4 : Class := { plain "java/lang/Number" (some 0) with
  accessFlags := 1057
  interfaces := #[3]
  cf := some (fileOf pool4 8 #[] #[{ accessFlags := 1, nameIndex := 5, descriptorIndex := 6, attributes := #[] }] 1057 2 #[13] #[{ accessFlags := 26, nameIndex := 15, descriptorIndex := 16, attributes := #[] }])
  fields := #[{ name := "serialVersionUID", type := .long, accessFlags := 26, slot := 0, constantValue := 0 }]
  methods := #[k4m0]
  instanceTypes := #[]
  staticTypes := #[.long]
  resolved := Array.replicate 37 none
  statics := none }

def pool5 : Array CpInfo := pool [(1, .class_ 2), (0, u "java/lang/Comparable"), (0, .class_ 4), (0, u "java/lang/Object")] 7

/-- java/lang/Comparable -/
def k5 : Class := { plain "java/lang/Comparable" (some 0) with
  accessFlags := 1537
  interfaces := #[]
  cf := some (fileOf pool5 1 #[] #[] 1537 3 #[] #[])
  fields := #[]
  methods := #[]
  instanceTypes := #[]
  staticTypes := #[]
  resolved := Array.replicate 12 none
  statics := none }

def pool6 : Array CpInfo := pool [(1, .class_ 2), (0, u "java/lang/constant/Constable"), (0, .class_ 4), (0, u "java/lang/Object")] 6

/-- java/lang/constant/Constable -/
def k6 : Class := { plain "java/lang/constant/Constable" (some 0) with
  accessFlags := 1537
  interfaces := #[]
  cf := some (fileOf pool6 1 #[] #[] 1537 3 #[] #[])
  fields := #[]
  methods := #[]
  instanceTypes := #[]
  staticTypes := #[]
  resolved := Array.replicate 11 none
  statics := none }

def pool7 : Array CpInfo := pool [(1, .class_ 2), (0, u "java/lang/constant/ConstantDesc"), (0, .class_ 4), (0, u "java/lang/Object")] 32

/-- java/lang/constant/ConstantDesc -/
def k7 : Class := { plain "java/lang/constant/ConstantDesc" (some 0) with
  accessFlags := 1537
  interfaces := #[]
  cf := some (fileOf pool7 1 #[] #[] 1537 3 #[] #[])
  fields := #[]
  methods := #[]
  instanceTypes := #[]
  staticTypes := #[]
  resolved := Array.replicate 37 none
  statics := none }

def pool8 : Array CpInfo := pool [(1, .class_ 2), (0, u "java/lang/Long"), (55, .nameAndType 59 60), (0, u "<init>"), (0, u "()V"), (24, u "valueOf"), (143, u "(J)Ljava/lang/Long;"), (0, .long 18446744073709551488), (1, .long 127), (1, .fieldref 235 236), (0, .class_ 237), (0, .nameAndType 238 239), (0, u "java/lang/Long$LongCache"), (0, u "cache"), (0, u "[Ljava/lang/Long;"), (0, .methodref 1 241), (0, .nameAndType 59 242), (0, u "(J)V"), (27, .methodref 271 58), (0, .class_ 272), (0, u "java/lang/Number"), (0, .fieldref 1 274), (0, .nameAndType 275 276), (0, u "value"), (0, u "J"), (84, u "TYPE"), (0, u "Ljava/lang/Class;"), (0, .class_ 364), (0, u "java/lang/Comparable"), (0, .class_ 366), (0, u "java/lang/constant/Constable"), (0, .class_ 368), (0, u "java/lang/constant/ConstantDesc"), (0, u "MIN_VALUE"), (1, u "MAX_VALUE"), (4, u "SIZE"), (0, u "I"), (1, u "BYTES"), (1, u "serialVersionUID")] 142

def k8c0 : Code := { maxStack := 4, maxLocals := 3, code := jdk_35_method_24_code, exceptionTable := #[], attributes := #[] }
def k8m0 : Method := { name := "valueOf", desc := "(J)Ljava/lang/Long;", sig := { parameters := [.long], returnType := some (.object "java/lang/Long") }, accessFlags := 9, code := some k8c0 }
def k8c1 : Code := { maxStack := 3, maxLocals := 3, code := jdk_35_method_26_code, exceptionTable := #[], attributes := #[] }
def k8m1 : Method := { name := "<init>", desc := "(J)V", sig := { parameters := [.long], returnType := none }, accessFlags := 1, code := some k8c1 }
/-- java/lang/Long -/
def k8 : Class := { plain "java/lang/Long" (some 4) with
  accessFlags := 49
  interfaces := #[5, 6, 7]
  cf := some (fileOf pool8 1 #[.nestMembers #[235]] #[{ accessFlags := 9, nameIndex := 85, descriptorIndex := 229, attributes := #[] }, { accessFlags := 1, nameIndex := 59, descriptorIndex := 242, attributes := #[] }] 49 271 #[363, 365, 367] #[{ accessFlags := 25, nameIndex := 369, descriptorIndex := 276, attributes := #[] }, { accessFlags := 25, nameIndex := 371, descriptorIndex := 276, attributes := #[] }, { accessFlags := 25, nameIndex := 361, descriptorIndex := 362, attributes := #[] }, { accessFlags := 18, nameIndex := 275, descriptorIndex := 276, attributes := #[] }, { accessFlags := 25, nameIndex := 376, descriptorIndex := 377, attributes := #[] }, { accessFlags := 25, nameIndex := 379, descriptorIndex := 377, attributes := #[] }, { accessFlags := 26, nameIndex := 381, descriptorIndex := 276, attributes := #[] }])
  fields := #[{ name := "MIN_VALUE", type := .long, accessFlags := 25, slot := 0, constantValue := 0 }, { name := "MAX_VALUE", type := .long, accessFlags := 25, slot := 1, constantValue := 0 }, { name := "TYPE", type := (.object "java/lang/Class"), accessFlags := 25, slot := 2, constantValue := 0 }, { name := "value", type := .long, accessFlags := 18, slot := 0, constantValue := 0 }, { name := "SIZE", type := .int, accessFlags := 25, slot := 3, constantValue := 0 }, { name := "BYTES", type := .int, accessFlags := 25, slot := 4, constantValue := 0 }, { name := "serialVersionUID", type := .long, accessFlags := 26, slot := 5, constantValue := 0 }]
  methods := #[k8m0, k8m1]
  instanceTypes := #[.long]
  staticTypes := #[.long, .long, (.object "java/lang/Class"), .int, .int, .long]
  resolved := Array.replicate 524 none
  statics := none }

def pool9 : Array CpInfo := pool [(2, .class_ 4), (1, u "java/lang/Object"), (0, u "<init>"), (0, u "()V"), (0, .class_ 8), (0, u "java/lang/Long"), (7, .class_ 18), (1, u "java/lang/Long$LongCache"), (0, u "$assertionsDisabled"), (0, u "Z"), (8, u "archivedCache"), (0, u "[Ljava/lang/Long;"), (7, u "cache")] 24

def k9m0 : Method := { name := "<init>", desc := "()V", sig := { parameters := [], returnType := none }, accessFlags := 2, code := none }
/-- java/lang/Long$LongCache -/
def k9 : Class := { plain "java/lang/Long$LongCache" (some 0) with
  accessFlags := 48
  interfaces := #[]
  cf := some (fileOf pool9 16 #[.nestHost 7] #[{ accessFlags := 2, nameIndex := 5, descriptorIndex := 6, attributes := #[] }] 48 2 #[] #[{ accessFlags := 24, nameIndex := 38, descriptorIndex := 30, attributes := #[] }, { accessFlags := 8, nameIndex := 29, descriptorIndex := 30, attributes := #[] }, { accessFlags := 4120, nameIndex := 19, descriptorIndex := 20, attributes := #[] }])
  fields := #[{ name := "cache", type := (.array (.object "java/lang/Long")), accessFlags := 24, slot := 0, constantValue := 0 }, { name := "archivedCache", type := (.array (.object "java/lang/Long")), accessFlags := 8, slot := 1, constantValue := 0 }, { name := "$assertionsDisabled", type := .boolean, accessFlags := 4120, slot := 2, constantValue := 0 }]
  methods := #[k9m0]
  instanceTypes := #[]
  staticTypes := #[(.array (.object "java/lang/Long")), (.array (.object "java/lang/Long")), .boolean]
  resolved := Array.replicate 63 none
  statics := some 0 }

def pool10 : Array CpInfo := pool [(1, u "java/lang/Cloneable"), (0, .class_ 1), (0, u "java/lang/Object"), (0, .class_ 3)] 3

/-- java/lang/Cloneable -/
def k10 : Class := { plain "java/lang/Cloneable" (some 0) with
  accessFlags := 1537
  interfaces := #[]
  cf := some (fileOf pool10 2 #[] #[] 1537 4 #[] #[])
  fields := #[]
  methods := #[]
  instanceTypes := #[]
  staticTypes := #[]
  resolved := Array.replicate 8 none
  statics := none }

/-- the primitive byte -/
def k11 : Class := { plain "byte" none with kind := .primitive 'B', accessFlags := 0x411 }
/-- [B -/
def k12 : Class := { plain "[B" (some 0) with kind := .array 11 .byte, interfaces := #[10, 3], accessFlags := 1041 }

/-- the primitive int -/
def k13 : Class := { plain "int" none with kind := .primitive 'I', accessFlags := 0x411 }
/-- [I -/
def k14 : Class := { plain "[I" (some 0) with kind := .array 13 .int, interfaces := #[10, 3], accessFlags := 1041 }

/-- [Ljava/lang/Long; -/
def k15 : Class := { plain "[Ljava/lang/Long;" (some 0) with kind := .array 8 (.object "java/lang/Long"), interfaces := #[10, 3], accessFlags := 1041 }

def heap : Heap := #[{ cls := 9, slots := #[.ref 1, .null, .int 0], vm := .statics 9 },
  { cls := 15, slots := #[.ref 2, .ref 3, .ref 4, .ref 5, .ref 6, .ref 7, .ref 8, .ref 9, .ref 10, .ref 11, .ref 12, .ref 13, .ref 14, .ref 15, .ref 16, .ref 17, .ref 18, .ref 19, .ref 20, .ref 21, .ref 22, .ref 23, .ref 24, .ref 25, .ref 26, .ref 27, .ref 28, .ref 29, .ref 30, .ref 31, .ref 32, .ref 33, .ref 34, .ref 35, .ref 36, .ref 37, .ref 38, .ref 39, .ref 40, .ref 41, .ref 42, .ref 43, .ref 44, .ref 45, .ref 46, .ref 47, .ref 48, .ref 49, .ref 50, .ref 51, .ref 52, .ref 53, .ref 54, .ref 55, .ref 56, .ref 57, .ref 58, .ref 59, .ref 60, .ref 61, .ref 62, .ref 63, .ref 64, .ref 65, .ref 66, .ref 67, .ref 68, .ref 69, .ref 70, .ref 71, .ref 72, .ref 73, .ref 74, .ref 75, .ref 76, .ref 77, .ref 78, .ref 79, .ref 80, .ref 81, .ref 82, .ref 83, .ref 84, .ref 85, .ref 86, .ref 87, .ref 88, .ref 89, .ref 90, .ref 91, .ref 92, .ref 93, .ref 94, .ref 95, .ref 96, .ref 97, .ref 98, .ref 99, .ref 100, .ref 101, .ref 102, .ref 103, .ref 104, .ref 105, .ref 106, .ref 107, .ref 108, .ref 109, .ref 110, .ref 111, .ref 112, .ref 113, .ref 114, .ref 115, .ref 116, .ref 117, .ref 118, .ref 119, .ref 120, .ref 121, .ref 122, .ref 123, .ref 124, .ref 125, .ref 126, .ref 127, .ref 128, .ref 129, .ref 130, .ref 131, .ref 132, .ref 133, .ref 134, .ref 135, .ref 136, .ref 137, .ref 138, .ref 139, .ref 140, .ref 141, .ref 142, .ref 143, .ref 144, .ref 145, .ref 146, .ref 147, .ref 148, .ref 149, .ref 150, .ref 151, .ref 152, .ref 153, .ref 154, .ref 155, .ref 156, .ref 157, .ref 158, .ref 159, .ref 160, .ref 161, .ref 162, .ref 163, .ref 164, .ref 165, .ref 166, .ref 167, .ref 168, .ref 169, .ref 170, .ref 171, .ref 172, .ref 173, .ref 174, .ref 175, .ref 176, .ref 177, .ref 178, .ref 179, .ref 180, .ref 181, .ref 182, .ref 183, .ref 184, .ref 185, .ref 186, .ref 187, .ref 188, .ref 189, .ref 190, .ref 191, .ref 192, .ref 193, .ref 194, .ref 195, .ref 196, .ref 197, .ref 198, .ref 199, .ref 200, .ref 201, .ref 202, .ref 203, .ref 204, .ref 205, .ref 206, .ref 207, .ref 208, .ref 209, .ref 210, .ref 211, .ref 212, .ref 213, .ref 214, .ref 215, .ref 216, .ref 217, .ref 218, .ref 219, .ref 220, .ref 221, .ref 222, .ref 223, .ref 224, .ref 225, .ref 226, .ref 227, .ref 228, .ref 229, .ref 230, .ref 231, .ref 232, .ref 233, .ref 234, .ref 235, .ref 236, .ref 237, .ref 238, .ref 239, .ref 240, .ref 241, .ref 242, .ref 243, .ref 244, .ref 245, .ref 246, .ref 247, .ref 248, .ref 249, .ref 250, .ref 251, .ref 252, .ref 253, .ref 254, .ref 255, .ref 256, .ref 257], vm := .none },
  { cls := 8, slots := #[.long (-128)], vm := .none },
  { cls := 8, slots := #[.long (-127)], vm := .none },
  { cls := 8, slots := #[.long (-126)], vm := .none },
  { cls := 8, slots := #[.long (-125)], vm := .none },
  { cls := 8, slots := #[.long (-124)], vm := .none },
  { cls := 8, slots := #[.long (-123)], vm := .none },
  { cls := 8, slots := #[.long (-122)], vm := .none },
  { cls := 8, slots := #[.long (-121)], vm := .none },
  { cls := 8, slots := #[.long (-120)], vm := .none },
  { cls := 8, slots := #[.long (-119)], vm := .none },
  { cls := 8, slots := #[.long (-118)], vm := .none },
  { cls := 8, slots := #[.long (-117)], vm := .none },
  { cls := 8, slots := #[.long (-116)], vm := .none },
  { cls := 8, slots := #[.long (-115)], vm := .none },
  { cls := 8, slots := #[.long (-114)], vm := .none },
  { cls := 8, slots := #[.long (-113)], vm := .none },
  { cls := 8, slots := #[.long (-112)], vm := .none },
  { cls := 8, slots := #[.long (-111)], vm := .none },
  { cls := 8, slots := #[.long (-110)], vm := .none },
  { cls := 8, slots := #[.long (-109)], vm := .none },
  { cls := 8, slots := #[.long (-108)], vm := .none },
  { cls := 8, slots := #[.long (-107)], vm := .none },
  { cls := 8, slots := #[.long (-106)], vm := .none },
  { cls := 8, slots := #[.long (-105)], vm := .none },
  { cls := 8, slots := #[.long (-104)], vm := .none },
  { cls := 8, slots := #[.long (-103)], vm := .none },
  { cls := 8, slots := #[.long (-102)], vm := .none },
  { cls := 8, slots := #[.long (-101)], vm := .none },
  { cls := 8, slots := #[.long (-100)], vm := .none },
  { cls := 8, slots := #[.long (-99)], vm := .none },
  { cls := 8, slots := #[.long (-98)], vm := .none },
  { cls := 8, slots := #[.long (-97)], vm := .none },
  { cls := 8, slots := #[.long (-96)], vm := .none },
  { cls := 8, slots := #[.long (-95)], vm := .none },
  { cls := 8, slots := #[.long (-94)], vm := .none },
  { cls := 8, slots := #[.long (-93)], vm := .none },
  { cls := 8, slots := #[.long (-92)], vm := .none },
  { cls := 8, slots := #[.long (-91)], vm := .none },
  { cls := 8, slots := #[.long (-90)], vm := .none },
  { cls := 8, slots := #[.long (-89)], vm := .none },
  { cls := 8, slots := #[.long (-88)], vm := .none },
  { cls := 8, slots := #[.long (-87)], vm := .none },
  { cls := 8, slots := #[.long (-86)], vm := .none },
  { cls := 8, slots := #[.long (-85)], vm := .none },
  { cls := 8, slots := #[.long (-84)], vm := .none },
  { cls := 8, slots := #[.long (-83)], vm := .none },
  { cls := 8, slots := #[.long (-82)], vm := .none },
  { cls := 8, slots := #[.long (-81)], vm := .none },
  { cls := 8, slots := #[.long (-80)], vm := .none },
  { cls := 8, slots := #[.long (-79)], vm := .none },
  { cls := 8, slots := #[.long (-78)], vm := .none },
  { cls := 8, slots := #[.long (-77)], vm := .none },
  { cls := 8, slots := #[.long (-76)], vm := .none },
  { cls := 8, slots := #[.long (-75)], vm := .none },
  { cls := 8, slots := #[.long (-74)], vm := .none },
  { cls := 8, slots := #[.long (-73)], vm := .none },
  { cls := 8, slots := #[.long (-72)], vm := .none },
  { cls := 8, slots := #[.long (-71)], vm := .none },
  { cls := 8, slots := #[.long (-70)], vm := .none },
  { cls := 8, slots := #[.long (-69)], vm := .none },
  { cls := 8, slots := #[.long (-68)], vm := .none },
  { cls := 8, slots := #[.long (-67)], vm := .none },
  { cls := 8, slots := #[.long (-66)], vm := .none },
  { cls := 8, slots := #[.long (-65)], vm := .none },
  { cls := 8, slots := #[.long (-64)], vm := .none },
  { cls := 8, slots := #[.long (-63)], vm := .none },
  { cls := 8, slots := #[.long (-62)], vm := .none },
  { cls := 8, slots := #[.long (-61)], vm := .none },
  { cls := 8, slots := #[.long (-60)], vm := .none },
  { cls := 8, slots := #[.long (-59)], vm := .none },
  { cls := 8, slots := #[.long (-58)], vm := .none },
  { cls := 8, slots := #[.long (-57)], vm := .none },
  { cls := 8, slots := #[.long (-56)], vm := .none },
  { cls := 8, slots := #[.long (-55)], vm := .none },
  { cls := 8, slots := #[.long (-54)], vm := .none },
  { cls := 8, slots := #[.long (-53)], vm := .none },
  { cls := 8, slots := #[.long (-52)], vm := .none },
  { cls := 8, slots := #[.long (-51)], vm := .none },
  { cls := 8, slots := #[.long (-50)], vm := .none },
  { cls := 8, slots := #[.long (-49)], vm := .none },
  { cls := 8, slots := #[.long (-48)], vm := .none },
  { cls := 8, slots := #[.long (-47)], vm := .none },
  { cls := 8, slots := #[.long (-46)], vm := .none },
  { cls := 8, slots := #[.long (-45)], vm := .none },
  { cls := 8, slots := #[.long (-44)], vm := .none },
  { cls := 8, slots := #[.long (-43)], vm := .none },
  { cls := 8, slots := #[.long (-42)], vm := .none },
  { cls := 8, slots := #[.long (-41)], vm := .none },
  { cls := 8, slots := #[.long (-40)], vm := .none },
  { cls := 8, slots := #[.long (-39)], vm := .none },
  { cls := 8, slots := #[.long (-38)], vm := .none },
  { cls := 8, slots := #[.long (-37)], vm := .none },
  { cls := 8, slots := #[.long (-36)], vm := .none },
  { cls := 8, slots := #[.long (-35)], vm := .none },
  { cls := 8, slots := #[.long (-34)], vm := .none },
  { cls := 8, slots := #[.long (-33)], vm := .none },
  { cls := 8, slots := #[.long (-32)], vm := .none },
  { cls := 8, slots := #[.long (-31)], vm := .none },
  { cls := 8, slots := #[.long (-30)], vm := .none },
  { cls := 8, slots := #[.long (-29)], vm := .none },
  { cls := 8, slots := #[.long (-28)], vm := .none },
  { cls := 8, slots := #[.long (-27)], vm := .none },
  { cls := 8, slots := #[.long (-26)], vm := .none },
  { cls := 8, slots := #[.long (-25)], vm := .none },
  { cls := 8, slots := #[.long (-24)], vm := .none },
  { cls := 8, slots := #[.long (-23)], vm := .none },
  { cls := 8, slots := #[.long (-22)], vm := .none },
  { cls := 8, slots := #[.long (-21)], vm := .none },
  { cls := 8, slots := #[.long (-20)], vm := .none },
  { cls := 8, slots := #[.long (-19)], vm := .none },
  { cls := 8, slots := #[.long (-18)], vm := .none },
  { cls := 8, slots := #[.long (-17)], vm := .none },
  { cls := 8, slots := #[.long (-16)], vm := .none },
  { cls := 8, slots := #[.long (-15)], vm := .none },
  { cls := 8, slots := #[.long (-14)], vm := .none },
  { cls := 8, slots := #[.long (-13)], vm := .none },
  { cls := 8, slots := #[.long (-12)], vm := .none },
  { cls := 8, slots := #[.long (-11)], vm := .none },
  { cls := 8, slots := #[.long (-10)], vm := .none },
  { cls := 8, slots := #[.long (-9)], vm := .none },
  { cls := 8, slots := #[.long (-8)], vm := .none },
  { cls := 8, slots := #[.long (-7)], vm := .none },
  { cls := 8, slots := #[.long (-6)], vm := .none },
  { cls := 8, slots := #[.long (-5)], vm := .none },
  { cls := 8, slots := #[.long (-4)], vm := .none },
  { cls := 8, slots := #[.long (-3)], vm := .none },
  { cls := 8, slots := #[.long (-2)], vm := .none },
  { cls := 8, slots := #[.long (-1)], vm := .none },
  { cls := 8, slots := #[.long 0], vm := .none },
  { cls := 8, slots := #[.long 1], vm := .none },
  { cls := 8, slots := #[.long 2], vm := .none },
  { cls := 8, slots := #[.long 3], vm := .none },
  { cls := 8, slots := #[.long 4], vm := .none },
  { cls := 8, slots := #[.long 5], vm := .none },
  { cls := 8, slots := #[.long 6], vm := .none },
  { cls := 8, slots := #[.long 7], vm := .none },
  { cls := 8, slots := #[.long 8], vm := .none },
  { cls := 8, slots := #[.long 9], vm := .none },
  { cls := 8, slots := #[.long 10], vm := .none },
  { cls := 8, slots := #[.long 11], vm := .none },
  { cls := 8, slots := #[.long 12], vm := .none },
  { cls := 8, slots := #[.long 13], vm := .none },
  { cls := 8, slots := #[.long 14], vm := .none },
  { cls := 8, slots := #[.long 15], vm := .none },
  { cls := 8, slots := #[.long 16], vm := .none },
  { cls := 8, slots := #[.long 17], vm := .none },
  { cls := 8, slots := #[.long 18], vm := .none },
  { cls := 8, slots := #[.long 19], vm := .none },
  { cls := 8, slots := #[.long 20], vm := .none },
  { cls := 8, slots := #[.long 21], vm := .none },
  { cls := 8, slots := #[.long 22], vm := .none },
  { cls := 8, slots := #[.long 23], vm := .none },
  { cls := 8, slots := #[.long 24], vm := .none },
  { cls := 8, slots := #[.long 25], vm := .none },
  { cls := 8, slots := #[.long 26], vm := .none },
  { cls := 8, slots := #[.long 27], vm := .none },
  { cls := 8, slots := #[.long 28], vm := .none },
  { cls := 8, slots := #[.long 29], vm := .none },
  { cls := 8, slots := #[.long 30], vm := .none },
  { cls := 8, slots := #[.long 31], vm := .none },
  { cls := 8, slots := #[.long 32], vm := .none },
  { cls := 8, slots := #[.long 33], vm := .none },
  { cls := 8, slots := #[.long 34], vm := .none },
  { cls := 8, slots := #[.long 35], vm := .none },
  { cls := 8, slots := #[.long 36], vm := .none },
  { cls := 8, slots := #[.long 37], vm := .none },
  { cls := 8, slots := #[.long 38], vm := .none },
  { cls := 8, slots := #[.long 39], vm := .none },
  { cls := 8, slots := #[.long 40], vm := .none },
  { cls := 8, slots := #[.long 41], vm := .none },
  { cls := 8, slots := #[.long 42], vm := .none },
  { cls := 8, slots := #[.long 43], vm := .none },
  { cls := 8, slots := #[.long 44], vm := .none },
  { cls := 8, slots := #[.long 45], vm := .none },
  { cls := 8, slots := #[.long 46], vm := .none },
  { cls := 8, slots := #[.long 47], vm := .none },
  { cls := 8, slots := #[.long 48], vm := .none },
  { cls := 8, slots := #[.long 49], vm := .none },
  { cls := 8, slots := #[.long 50], vm := .none },
  { cls := 8, slots := #[.long 51], vm := .none },
  { cls := 8, slots := #[.long 52], vm := .none },
  { cls := 8, slots := #[.long 53], vm := .none },
  { cls := 8, slots := #[.long 54], vm := .none },
  { cls := 8, slots := #[.long 55], vm := .none },
  { cls := 8, slots := #[.long 56], vm := .none },
  { cls := 8, slots := #[.long 57], vm := .none },
  { cls := 8, slots := #[.long 58], vm := .none },
  { cls := 8, slots := #[.long 59], vm := .none },
  { cls := 8, slots := #[.long 60], vm := .none },
  { cls := 8, slots := #[.long 61], vm := .none },
  { cls := 8, slots := #[.long 62], vm := .none },
  { cls := 8, slots := #[.long 63], vm := .none },
  { cls := 8, slots := #[.long 64], vm := .none },
  { cls := 8, slots := #[.long 65], vm := .none },
  { cls := 8, slots := #[.long 66], vm := .none },
  { cls := 8, slots := #[.long 67], vm := .none },
  { cls := 8, slots := #[.long 68], vm := .none },
  { cls := 8, slots := #[.long 69], vm := .none },
  { cls := 8, slots := #[.long 70], vm := .none },
  { cls := 8, slots := #[.long 71], vm := .none },
  { cls := 8, slots := #[.long 72], vm := .none },
  { cls := 8, slots := #[.long 73], vm := .none },
  { cls := 8, slots := #[.long 74], vm := .none },
  { cls := 8, slots := #[.long 75], vm := .none },
  { cls := 8, slots := #[.long 76], vm := .none },
  { cls := 8, slots := #[.long 77], vm := .none },
  { cls := 8, slots := #[.long 78], vm := .none },
  { cls := 8, slots := #[.long 79], vm := .none },
  { cls := 8, slots := #[.long 80], vm := .none },
  { cls := 8, slots := #[.long 81], vm := .none },
  { cls := 8, slots := #[.long 82], vm := .none },
  { cls := 8, slots := #[.long 83], vm := .none },
  { cls := 8, slots := #[.long 84], vm := .none },
  { cls := 8, slots := #[.long 85], vm := .none },
  { cls := 8, slots := #[.long 86], vm := .none },
  { cls := 8, slots := #[.long 87], vm := .none },
  { cls := 8, slots := #[.long 88], vm := .none },
  { cls := 8, slots := #[.long 89], vm := .none },
  { cls := 8, slots := #[.long 90], vm := .none },
  { cls := 8, slots := #[.long 91], vm := .none },
  { cls := 8, slots := #[.long 92], vm := .none },
  { cls := 8, slots := #[.long 93], vm := .none },
  { cls := 8, slots := #[.long 94], vm := .none },
  { cls := 8, slots := #[.long 95], vm := .none },
  { cls := 8, slots := #[.long 96], vm := .none },
  { cls := 8, slots := #[.long 97], vm := .none },
  { cls := 8, slots := #[.long 98], vm := .none },
  { cls := 8, slots := #[.long 99], vm := .none },
  { cls := 8, slots := #[.long 100], vm := .none },
  { cls := 8, slots := #[.long 101], vm := .none },
  { cls := 8, slots := #[.long 102], vm := .none },
  { cls := 8, slots := #[.long 103], vm := .none },
  { cls := 8, slots := #[.long 104], vm := .none },
  { cls := 8, slots := #[.long 105], vm := .none },
  { cls := 8, slots := #[.long 106], vm := .none },
  { cls := 8, slots := #[.long 107], vm := .none },
  { cls := 8, slots := #[.long 108], vm := .none },
  { cls := 8, slots := #[.long 109], vm := .none },
  { cls := 8, slots := #[.long 110], vm := .none },
  { cls := 8, slots := #[.long 111], vm := .none },
  { cls := 8, slots := #[.long 112], vm := .none },
  { cls := 8, slots := #[.long 113], vm := .none },
  { cls := 8, slots := #[.long 114], vm := .none },
  { cls := 8, slots := #[.long 115], vm := .none },
  { cls := 8, slots := #[.long 116], vm := .none },
  { cls := 8, slots := #[.long 117], vm := .none },
  { cls := 8, slots := #[.long 118], vm := .none },
  { cls := 8, slots := #[.long 119], vm := .none },
  { cls := 8, slots := #[.long 120], vm := .none },
  { cls := 8, slots := #[.long 121], vm := .none },
  { cls := 8, slots := #[.long 122], vm := .none },
  { cls := 8, slots := #[.long 123], vm := .none },
  { cls := 8, slots := #[.long 124], vm := .none },
  { cls := 8, slots := #[.long 125], vm := .none },
  { cls := 8, slots := #[.long 126], vm := .none },
  { cls := 8, slots := #[.long 127], vm := .none }]
def classes : Array Class := #[k0, k1, k2, k3, k4, k5, k6, k7, k8, k9, k10, k11, k12, k13, k14, k15]
def interned : List (Array UInt16 × Addr) := []
def slotsUsed : Nat := 515
def theMethod : MethodId := ⟨1, 1⟩
def args0 : Array Value := #[.long 5, .long 2, .long 3, .long 4, .long 1, .int 1]
def aboutOver (below : List Frame) : State where
  vm := { classes := classes, interned := interned.toArray }
  heap := heap
  slotsUsed := slotsUsed
  threads := #[{ frames := .invoking theMethod args0 :: below }]
def below0 : List Frame := [.native { method := ⟨0, 0⟩, args := #[] }]
def about1 : State := aboutOver below0
def p0 : Program := .bare "" "" ""
def e0 : Env := launch0.env 0 0 0
theorem w_frames : about1.frames = Frame.invoking theMethod args0 :: below0 := rfl
set_option maxRecDepth 65536 in
theorem w_args : argsFit about1.vm theMethod args0 = true := by decide +kernel
set_option maxRecDepth 65536 in
theorem w_heap : heapFits about1 = true := by decide +kernel
set_option maxRecDepth 65536 in
theorem w_runnable : about1.curStatus? = some .runnable := by decide +kernel
set_option maxRecDepth 65536 in
theorem w_alone : about1.alone = true := by decide +kernel
set_option maxRecDepth 65536 in
theorem w_named : about1.methodNamed? x = some theMethod := by decide +kernel
set_option maxRecDepth 65536 in
theorem w_hears : about1.hears theMethod below0 = true := by decide +kernel
set_option maxRecDepth 65536 in
theorem w_ripe : about1.ripe theMethod args0 below0 = true := by decide +kernel
theorem w_running : about1.status = .running := rfl
set_option maxRecDepth 65536 in
theorem w_room : about1.hasRoom e0.platform room_1 = true :=
  launch0.hasRoom_least _ room_1 (by decide +kernel) (by decide +kernel) (by decide +kernel) (by decide +kernel) (by decide +kernel) (by decide +kernel)
theorem allAtoms_all (ts : List Jvm.Cond) (a : Array Jvm.Value) (st : Jvm.State) : (allAtoms ts).before a st = ts.all (fun c => c.before a st) := by
  induction ts with
  | nil => rfl
  | cons c t ih =>
    show (Jvm.Cond.and c (allAtoms t)).before a st = _
    rw [Jvm.Cond.before_and, ih, List.all_cons]
def words1 : List Jvm.Cond := Jvm.Cond.code x code maxLocals ret :: tables_1
/-- a 'code' word, met by the world's own term for the bytes: nothing is compared byte by byte -/
theorem code_word {y : MethodName} {bytes : ByteArray} {mx : Nat} {rt : Option FieldType} {a : Array Value} {s : State} {m : MethodId} {meth : Method} {c : Code} (h1 : s.methodNamed? y = some m) (h2 : s.vm.method? m = some meth) (h3 : meth.code = some c) (h4 : c.code = bytes)
    (h5 : (c.maxLocals == mx && c.exceptionTable.isEmpty && decide (c.maxStack ≤ mostOperands) && decide (meth.sig.returnType = rt) && !meth.locks && decide (parseMethodDescriptor y.desc = some meth.sig)) = true) : (Jvm.Cond.code y bytes mx rt).before a s = true := by
  simp only [Bool.and_eq_true, beq_iff_eq, Bool.not_eq_true', decide_eq_true_eq] at h5
  obtain ⟨⟨⟨⟨⟨g1, g2⟩, g3⟩, g4⟩, g5⟩, g6⟩ := h5
  simp [Cond.before, Cond.holds, Cond.value, h1, h2, h3, h4, g1, g2, g3, g4, g5, g6]
def isCode : Jvm.Cond → Bool
  | .code _ _ _ _ => true
  | _ => false
theorem all_split {L : List Jvm.Cond} {P : Jvm.Cond → Bool} (h1 : L.all (fun c => isCode c || P c) = true) (h2 : ∀ c ∈ L.filter isCode, P c = true) : L.all P = true := by
  refine List.all_eq_true.mpr fun c hc => ?_
  have h := List.all_eq_true.mp h1 c hc
  rcases Bool.eq_false_or_eq_true (isCode c) with hi | hi
  · exact h2 c (List.mem_filter.mpr ⟨hc, hi⟩)
  · simpa [hi] using h
set_option maxRecDepth 65536 in
theorem w_c0 : (Jvm.Cond.code x code maxLocals ret).before args0 about1 = true := code_word (m := ⟨1, 1⟩) (meth := k1m1) (c := k1c1) (by decide +kernel) rfl rfl rfl (by decide +kernel)
set_option maxRecDepth 65536 in
theorem w_c1 : (Jvm.Cond.code ({ cls := "com/example/tallyframe/tallyframe/Tally", name := "<init>", desc := "(JJJJ)V" } : Jvm.MethodName) prog_24_method_1_code (9 : Nat) (Option.none : Option Jvm.ClassFile.FieldType)).before args0 about1 = true := code_word (m := ⟨2, 0⟩) (meth := k2m0) (c := k2c0) (by decide +kernel) rfl rfl rfl (by decide +kernel)
set_option maxRecDepth 65536 in
theorem w_c2 : (Jvm.Cond.code ({ cls := "java/lang/Object", name := "<init>", desc := "()V" } : Jvm.MethodName) object_method_1_code (1 : Nat) (Option.none : Option Jvm.ClassFile.FieldType)).before args0 about1 = true := code_word (m := ⟨0, 0⟩) (meth := k0m0) (c := k0c0) (by decide +kernel) rfl rfl rfl (by decide +kernel)
set_option maxRecDepth 65536 in
theorem w_c3 : (Jvm.Cond.code ({ cls := "com/example/tallyframe/tallyframe/Tally", name := "equals", desc := "(Ljava/lang/Object;)Z" } : Jvm.MethodName) prog_24_method_8_code (3 : Nat) (Option.some Jvm.ClassFile.FieldType.boolean)).before args0 about1 = true := code_word (m := ⟨2, 1⟩) (meth := k2m1) (c := k2c1) (by decide +kernel) rfl rfl rfl (by decide +kernel)
set_option maxRecDepth 65536 in
theorem w_c4 : (Jvm.Cond.code ({ cls := "java/lang/Long", name := "valueOf", desc := "(J)Ljava/lang/Long;" } : Jvm.MethodName) jdk_35_method_24_code (3 : Nat) (Option.some (Jvm.ClassFile.FieldType.object "java/lang/Long"))).before args0 about1 = true := code_word (m := ⟨8, 0⟩) (meth := k8m0) (c := k8c0) (by decide +kernel) rfl rfl rfl (by decide +kernel)
set_option maxRecDepth 65536 in
theorem w_c5 : (Jvm.Cond.code ({ cls := "java/lang/Long", name := "<init>", desc := "(J)V" } : Jvm.MethodName) jdk_35_method_26_code (3 : Nat) (Option.none : Option Jvm.ClassFile.FieldType)).before args0 about1 = true := code_word (m := ⟨8, 1⟩) (meth := k8m1) (c := k8c1) (by decide +kernel) rfl rfl rfl (by decide +kernel)
set_option maxRecDepth 65536 in
theorem w_c6 : (Jvm.Cond.code ({ cls := "java/lang/Number", name := "<init>", desc := "()V" } : Jvm.MethodName) jdk_18_method_1_code (1 : Nat) (Option.none : Option Jvm.ClassFile.FieldType)).before args0 about1 = true := code_word (m := ⟨4, 0⟩) (meth := k4m0) (c := k4c0) (by decide +kernel) rfl rfl rfl (by decide +kernel)
def codes1 : List Jvm.Cond := [Jvm.Cond.code x code maxLocals ret, Jvm.Cond.code ({ cls := "com/example/tallyframe/tallyframe/Tally", name := "<init>", desc := "(JJJJ)V" } : Jvm.MethodName) prog_24_method_1_code (9 : Nat) (Option.none : Option Jvm.ClassFile.FieldType), Jvm.Cond.code ({ cls := "java/lang/Object", name := "<init>", desc := "()V" } : Jvm.MethodName) object_method_1_code (1 : Nat) (Option.none : Option Jvm.ClassFile.FieldType), Jvm.Cond.code ({ cls := "com/example/tallyframe/tallyframe/Tally", name := "equals", desc := "(Ljava/lang/Object;)Z" } : Jvm.MethodName) prog_24_method_8_code (3 : Nat) (Option.some Jvm.ClassFile.FieldType.boolean), Jvm.Cond.code ({ cls := "java/lang/Long", name := "valueOf", desc := "(J)Ljava/lang/Long;" } : Jvm.MethodName) jdk_35_method_24_code (3 : Nat) (Option.some (Jvm.ClassFile.FieldType.object "java/lang/Long")), Jvm.Cond.code ({ cls := "java/lang/Long", name := "<init>", desc := "(J)V" } : Jvm.MethodName) jdk_35_method_26_code (3 : Nat) (Option.none : Option Jvm.ClassFile.FieldType), Jvm.Cond.code ({ cls := "java/lang/Number", name := "<init>", desc := "()V" } : Jvm.MethodName) jdk_18_method_1_code (1 : Nat) (Option.none : Option Jvm.ClassFile.FieldType)]
set_option maxRecDepth 65536 in
theorem codes_eq : words1.filter isCode = codes1 := rfl
theorem w_codes : ∀ c ∈ words1.filter isCode, c.before args0 about1 = true := by
  rw [codes_eq]
  intro c hc
  simp only [codes1, List.mem_cons, List.not_mem_nil, or_false] at hc
  rcases hc with rfl | rfl | rfl | rfl | rfl | rfl | rfl
  · exact w_c0
  · exact w_c1
  · exact w_c2
  · exact w_c3
  · exact w_c4
  · exact w_c5
  · exact w_c6
set_option maxRecDepth 65536 in
theorem w_t1 : (words1.take 24).all (fun c => isCode c || c.before args0 about1) = true := by decide +kernel
set_option maxRecDepth 65536 in
theorem w_t2 : ((words1.drop 24).take 24).all (fun c => isCode c || c.before args0 about1) = true := by decide +kernel
set_option maxRecDepth 65536 in
theorem w_t3 : ((words1.drop 24).drop 24).all (fun c => isCode c || c.before args0 about1) = true := by decide +kernel
theorem w_tables : (allAtoms (Jvm.Cond.code x code maxLocals ret :: tables_1)).before args0 about1 = true := by
  rw [allAtoms_all]
  show words1.all (fun c => c.before args0 about1) = true
  refine all_split ?_ w_codes
  rw [← List.take_append_drop 24 words1, List.all_append, w_t1, ← List.take_append_drop 24 (words1.drop 24), List.all_append, w_t2, w_t3]
  rfl
set_option maxRecDepth 65536 in
theorem w_rest : rest_1_c.before args0 about1 = true := by decide +kernel
set_option maxRecDepth 65536 in
theorem w_case : (Jvm.Cond.and given_1 narrow_1).before args0 about1 = true := by decide +kernel
theorem w_applies : (headSpec (Jvm.Cond.code x code maxLocals ret :: tables_1) room_1).applies x e0.platform about1 = true :=
  (Spec.applies_iff w_frames).mpr ⟨w_running, w_runnable, w_alone, w_named, w_hears, w_ripe, w_room, w_tables⟩
theorem atStart : AtStart classFile x code maxLocals ret World_1 tables_1 room_1 Calls_1 rest_1 Pre_1 launch0 p0 e0 about1 theMethod args0 below0 :=
  ⟨lists_1, trivial, launch0.admits_env _ _ _, launch0.least_env, fairChoices_fair.cas, fairChoices_fair.clock, w_frames, w_args, w_heap, w_applies, trivial, w_rest, w_case⟩
end start1
theorem witness_1 : WitnessClaimed_1 := ⟨start1.p0, start1.e0, start1.about1, start1.theMethod, start1.args0, start1.below0, start1.atStart⟩
end Jvm.Pilot.@@N@@
