import JvmDerived
import JvmDerived.Pilot.@@N@@Statement
import JvmDerived.Pilot.@@N@@Code
set_option linter.unusedVariables false
set_option linter.unusedSimpArgs false
@@BLOCK:NumsL.lean.txt@@
namespace Jvm.RoadKit
open Sem ClassFile Op Lib Jvm.Stand Jvm.Free Jvm.LawKit
section New
variable {p : Program} {l : Launch} {e : Env} {R : Room} {s : State} {m : MethodId} {args : Array Value} {below : List Frame} {meth : Method} {c : Code} {T : State} {locs : List Loc} {cells slots : Nat}
theorem retI (X : Stand p l e R s m args below meth c T locs cells slots) (hx : p.tables.exec = Jvm.exec) {pc : Nat} {Ls : Array Slot} {z : Int32} {rest : List Value} (hret : meth.sig.returnType = some .int) (hd : decode c.code pc = .ok (.ireturn, 1)) {fs : List Frame}
    (hl : ∀ (f : JFrame) (acts : List Action), f.method = m → f.locked = none → f.entered = [] → (doReturn e (T.setTop f) acts (some (.int z))).1 = T.setFrames fs) : Steps p.tables e below (T.setTop (mkF m pc Ls (.int z :: rest))) (T.setFrames fs) := by
  have hm' : T.vm.method? m = some meth := X.method'
  have hn : narrow .int (.int z) = .int z := rfl
  show Steps p.tables e below (T.setTop { method := m, pc := pc, locals := Ls, stack := _ :: rest, locked := none }) _
  jvm_step X.here [X.here.top, hx, hd, hm', hret, hn]
  first | (intro acts; rw [hl _ acts rfl rfl rfl]) | rw [hl _ _ rfl rfl rfl]
  exact Steps.refl _
end New
end Jvm.RoadKit
namespace Jvm.Pilot.@@N@@
open Jvm Jvm.ClassFile Sem Op Lib Jvm.Free Jvm.Stand Jvm.LawKit Jvm.RoadKit Bundle Jvm.Pilot.@@N@@.Jvm.D
def own_QT (n0 : Nat) (v : Option Value) (L : List Loc) : Prop := v = some (.int (1 : Int32)) ∧ Fr n0 L
theorem own_b8 (x : Int32) : nar .byte (x.toInt8.toInt32) = x.toInt8.toInt32 := by simp [nar]
theorem own_nost {Z : State} {h : Heap} {a : Addr} {C : String} (F : Exa Z h a C) : ∃ cell : Cell, h[a]? = some cell ∧ cell.vm.isStatics = false := by
  obtain ⟨cell, k, h1, -, -, h4, -⟩ := F; exact ⟨cell, h1, h4⟩
theorem own_nostV {Z : State} {h : Heap} {a : Addr} {k : ClassId} {ty : FieldType} {z : Int32} {vs : List Value} {dv : Value} (F : Arv Z h a k ty z vs dv) : ∃ cell : Cell, h[a]? = some cell ∧ cell.vm.isStatics = false := by
  obtain ⟨cell, A, -⟩ := F; exact ⟨cell, A.1, A.plain⟩
theorem own_arr_keep {Z : State} {h h' : Heap} {ws : List Addr} {a : Addr} {c : Cell} {ty : FieldType} (F : Arr Z h a c ty) (K : Keep h h' ws) (q : a ∉ ws) : Arr Z h' a c ty := ⟨K.2.1 a c F.1 q, F.2⟩
theorem own_sta_keep {Z : State} {h h' : Heap} {ws : List Addr} {C n d : String} {v : Value} (F : Sta Z h C n d v) (K : Keep h h' ws) (q : ∀ x ∈ ws, ∃ cell : Cell, h[x]? = some cell ∧ cell.vm.isStatics = false) : Sta Z h' C n d v := by
  obtain ⟨cf, i, k, f, st, cell, h1, h2, h3, h4, h5, h6, h7⟩ := F
  refine ⟨cf, i, k, f, st, cell, h1, h2, h3, h4, K.2.1 _ _ h5 fun hm => ?_, h6, h7⟩
  obtain ⟨c2, g1, g2⟩ := q _ hm
  cases h5.symm.trans g1
  rw [h6] at g2; cases g2
theorem own_fld_int {Z : State} {args : Array Value} {ts : Term} {C n d : String} {k : Int32} {x : Addr} (ev : ts.eval args Z none [] Z = some (.ref x)) (h : (Jvm.Cond.eq (.field ts C n d) (.int k)).value args Z none Z [] = some true) : Fld Z Z.heap x C n d (.int k) := by
  apply Fld.start
  obtain ⟨u, w, e1, e2, k1, k2⟩ := cmp_v (Or.inl h)
  rw [fld_at ev] at e1
  have e3 : w = .int k := (Option.some.inj (e2.symm.trans (Term.int_eval k)))
  subst e3
  obtain ⟨z, rfl⟩ : ∃ z, u = .int z := k2
  have e4 : (Term.field ts C n d).eval args Z none [] Z = some (.int z) := (fld_at ev).trans e1
  have : z = k := by simpa [Cond.value, e4, e2] using h
  rw [e1, this]
theorem own_fld_long {Z : State} {args : Array Value} {ts : Term} {C n d : String} {k : Int64} {x : Addr} (ev : ts.eval args Z none [] Z = some (.ref x)) (h : (Jvm.Cond.eq (.field ts C n d) (.long k)).value args Z none Z [] = some true) : Fld Z Z.heap x C n d (.long k) := by
  apply Fld.start
  obtain ⟨u, w, e1, e2, k1, k2⟩ := cmp_v (Or.inl h)
  rw [fld_at ev] at e1
  have e3 : w = .long k := (Option.some.inj (e2.symm.trans (long_at k)))
  subst e3
  obtain ⟨z, rfl⟩ : ∃ z, u = .long z := k2
  have e4 : (Term.field ts C n d).eval args Z none [] Z = some (.long z) := (fld_at ev).trans e1
  have : z = k := by simpa [Cond.value, e4, e2] using h
  rw [e1, this]
theorem own_fld_ref {Z : State} {args : Array Value} {ts us : Term} {C n d : String} {x y : Addr} (ev : ts.eval args Z none [] Z = some (.ref x)) (eu : us.eval args Z none [] Z = some (.ref y)) (h : (Jvm.Cond.eq (.field ts C n d) us).value args Z none Z [] = some true) : Fld Z Z.heap x C n d (.ref y) := by
  apply Fld.start
  obtain ⟨u, w, e1, e2, k1, k2⟩ := cmp_v (Or.inl h)
  rw [fld_at ev] at e1
  cases e2.symm.trans eu
  have e4 : (Term.field ts C n d).eval args Z none [] Z = some u := (fld_at ev).trans e1
  have hu : u.isRef = true := k2.2
  have : u = .ref y := gotT (eq_R e4 e2 hu rfl) h
  rw [e1, this]
theorem own_fld_null {Z : State} {args : Array Value} {ts : Term} {C n d : String} {x : Addr} (ev : ts.eval args Z none [] Z = some (.ref x)) (h : (Jvm.Cond.eq (.field ts C n d) .null).value args Z none Z [] = some true) : Fld Z Z.heap x C n d .null :=
  Fld.start ((fld_at ev).symm.trans (null_v h))
theorem own_len {Z : State} {args : Array Value} {ts : Term} {k : Int32} {x : Addr} {c : Cell} {ty : FieldType} (A : Arr Z Z.heap x c ty) (ev : ts.eval args Z none [] Z = some (.ref x)) (h : (Jvm.Cond.eq (.length ts) (.int k)).value args Z none Z [] = some true) : c.slots.size < 2 ^ 31 ∧ c.slots.size.toInt32 = k := by
  obtain ⟨u, w, e1, e2, k1, k2⟩ := cmp_v (Or.inl h)
  have hA := Arr.fin (Vm.Alike.refl _) A
  have hl : c.slots.size < 2 ^ 31 := by
    apply Decidable.byContradiction
    intro hn
    have hn' : ¬ c.slots.size < 2147483648 := hn
    simp [Term.eval, ev, hA, hn'] at e1
  have e4 := len_f ev hA hl
  have e3 : w = .int k := (Option.some.inj (e2.symm.trans (Term.int_eval k)))
  subst e3
  exact ⟨hl, by simpa [Cond.value, e4, e2] using h⟩
theorem own_elem_ref {Z : State} {args : Array Value} {ts us : Term} {j : Int32} {x y : Addr} {c : Cell} {ty : FieldType} (A : Arr Z Z.heap x c ty) (ev : ts.eval args Z none [] Z = some (.ref x)) (eu : us.eval args Z none [] Z = some (.ref y)) (h : (Jvm.Cond.eq (.elem ts (.int j)) us).value args Z none Z [] = some true) (i : Nat) (hi : j.toNatClampNeg = i) : c.slots[i]? = some (.ref y) := by
  obtain ⟨u, w, e1, e2, k1, k2⟩ := cmp_v (Or.inl h)
  cases e2.symm.trans eu
  have hu : u.isRef = true := k2.2
  have e5 : u = .ref y := gotT (eq_R e1 e2 hu rfl) h
  rw [← hi, (elem_in e1 ev (Term.int_eval j) A.1).2, e5]
theorem own_elem_int {Z : State} {args : Array Value} {ts : Term} {j k : Int32} {x : Addr} {c : Cell} {ty : FieldType} (A : Arr Z Z.heap x c ty) (ev : ts.eval args Z none [] Z = some (.ref x)) (h : (Jvm.Cond.eq (.elem ts (.int j)) (.int k)).value args Z none Z [] = some true) (i : Nat) (hi : j.toNatClampNeg = i) : c.slots[i]? = some (.int k) := by
  obtain ⟨u, w, e1, e2, k1, k2⟩ := cmp_v (Or.inl h)
  have e3 : w = .int k := (Option.some.inj (e2.symm.trans (Term.int_eval k)))
  subst e3
  obtain ⟨z, rfl⟩ : ∃ z, u = .int z := k2
  have e5 : z = k := by simpa [Cond.value, e1, e2] using h
  rw [← hi, (elem_in e1 ev (Term.int_eval j) A.1).2, e5]
theorem own_sub {Z : State} {args : Array Value} {j k : Int32} (nn : ¬ j < 0) : (Term.sub (Term.index 0) (Term.int k)).eval args Z none [j.toNatClampNeg] Z = some (.int (j - k)) := by
  have e1 : (Term.index 0).eval args Z none [j.toNatClampNeg] Z = some (.int j) := idx_at nn
  have e2 : (Term.int k).eval args Z none [j.toNatClampNeg] Z = some (.int k) := Term.int_eval k
  simp [Term.eval] at e1 e2 ⊢
  simp [e1]
theorem own_ne_int {a b : Int32} (h : a ≠ b) : Value.int a ≠ Value.int b := fun q => h (Value.int.inj q)

theorem d1_0 : decode prog_7_method_9_code 0 = .ok (.aload_n 0, 1) := by decide +kernel
theorem d1_1 : decode prog_7_method_9_code 1 = .ok (.invokevirtual 87, 3) := by decide +kernel
theorem d2_0 : decode jdk_37_method_2_code 0 = .ok (.aload_n 0, 1) := by decide +kernel
theorem d2_1 : decode jdk_37_method_2_code 1 = .ok (.getfield 7, 3) := by decide +kernel
theorem d2_4 : decode jdk_37_method_2_code 4 = .ok (.ireturn, 1) := by decide +kernel
theorem ef_2_R (m : MethodId) (x0 : Addr) : entryFrame m #[(.ref x0)] 1 = mkF m 0 #[.val (.ref x0)] [] := by first | (simp [entryFrame, mkF, argsToLocals, Value.category]; done) | rfl
theorem pn_2 : plainName "java/lang/Enum" = true := by first | (simp [plainName, overriddenIn]; done) | decide +kernel
def Q2_1 (Z : State) (a1 : Addr) (h0 : Heap) (n0 : Nat) (v : Option Value) (h : Heap) (L : List Loc) : Prop := v = some (.int (0 : Int32)) ∧ Fr n0 L ∧ h = h0
set_option maxRecDepth 65536 in
set_option maxHeartbeats 40000000 in
theorem rm2_1 (l : Launch) (Z : State) (a0 : Array Value) (hw : ∀ d ∈ tables_1, d.before a0 Z = true) (ws : List Jvm.Cond) (a1 : Addr) (h0 : Heap) (n0 : Nat) (Z0 : n0 ≤ h0.size) (F_ordinal_a1 : Fld Z h0 a1 "java/lang/Enum" "ordinal" "I" (.int (0 : Int32))) :
    MetFree l (⟨"java/lang/Enum", "ordinal", "()I"⟩ : MethodName) (head1 (Jvm.Cond.code (⟨"java/lang/Enum", "ordinal", "()I"⟩ : MethodName) jdk_37_method_2_code 1 (some .int) :: ws) ({ frames := 0, cells := 0, slots := 0, locals := 0 } : Room)) (fun a U => a = #[(.ref a1)] ∧ Z.Warmed39 U.vm ∧ U.heap = h0) (fun _ _ _ _ _ => True) (fun _ U o U' => ∃ v L, o = .returned v ∧ Q2_1 Z a1 h0 n0 v U'.heap L ∧ FrameEnd U o U' L ({ frames := 0, cells := 0, slots := 0, locals := 0 } : Room).cells ({ frames := 0, cells := 0, slots := 0, locals := 0 } : Room).slots) := by
  refine MetFree.of_bodySF (plainFor_of_name pn_2) hisR ?_
  intro p e s m args below meth c s₁ Bd hml0 hP hK
  obtain ⟨rfl, hZ, hh⟩ := hP
  have hx := Bd.exec
  have hby := Bd.bytes
  have hml : c.maxLocals = 1 := hml0
  have hown : s.vm.findClass "java/lang/Enum" = some m.cls := findClass_of_methodNamed Bd.named
  have hnm := (name_of_methodNamed Bd.named Bd.method).1
  have X0 : Stand p l e ({ frames := 0, cells := 0, slots := 0, locals := 0 } : Room) s m #[(.ref a1)] below meth c s₁ [] 0 0 := Stand.of_body Bd
  have e0 : s₁.heap = h0 := by rw [← hh, Bd.state]; rfl
  have N0 := Fr.nil n0
  have pre0 : ∀ t, Steps p.tables e below (s₁.setTop (mkF m 0 #[.val (.ref a1)] [])) t → Steps p.tables e below (s₁.setTop (entryFrame m #[(.ref a1)] 1)) t := fun t k => castTop (ef_2_R m a1) k
  obtain ⟨T2, X2, e2, st2⟩ := getF X0 hx hZ hown (host := "") (Or.inl (hw _ (List.mem_of_getElem? (i := 27) rfl))) Via.refl e0 F_ordinal_a1 (g := (mkF m 1 #[.val (.ref a1)] [(.ref a1)])) rfl rfl (hb hby d2_1)
  obtain ⟨fs, hr, hrun, hended, hW, hsame⟩ := X2.leave (v := some (.int (0 : Int32))) (fun h => by rw [Bd.returns] at h; cases h)
  refine ⟨_, _, pre0 _ ?_, hrun, hended, _, _, rfl, ?_, ⟨_, rfl⟩, hW, hsame.mono (by decide) (by decide)⟩
  · show Steps p.tables e below (s₁.setTop (mkF m 0 #[.val (.ref a1)] [])) _
    refine XS.aloadN X0.here hx rfl (hb hby d2_0) rfl rfl ?_
    show Steps p.tables e below (s₁.setTop (mkF m 1 #[.val (.ref a1)] [(.ref a1)])) _
    refine st2 _ ?_
    show Steps p.tables e below (T2.setTop (mkF m 4 #[.val (.ref a1)] [(.int (0 : Int32))])) _
    exact retI X2 hx Bd.returns (hb hby d2_4) hr
  · show Q2_1 Z a1 h0 n0 _ T2.heap _
    rw [e2]
    exact ⟨rfl, N0, rfl⟩
theorem pd_0 : parseMethodDescriptor "()I" = some ⟨[], some .int⟩ := by decide +kernel
theorem d1_4 : decode prog_7_method_9_code 4 = .ok (.tableswitch 36 0 4 #[50, 50, 50, 46, 50], 36) := by decide +kernel
theorem d1_54 : decode prog_7_method_9_code 54 = .ok (.iconst 0, 1) := by decide +kernel
theorem d1_55 : decode prog_7_method_9_code 55 = .ok (.ireturn, 1) := by decide +kernel
theorem ef_1_R (m : MethodId) (x0 : Addr) : entryFrame m #[(.ref x0)] 1 = mkF m 0 #[.val (.ref x0)] [] := by first | (simp [entryFrame, mkF, argsToLocals, Value.category]; done) | rfl
theorem pn_1 : plainName "com/example/holdfast/holdfast/config/Source" = true := by first | (simp [plainName, overriddenIn]; done) | decide +kernel
def Q1_1 (Z : State) (a1 : Addr) (h0 : Heap) (n0 : Nat) (v : Option Value) (h : Heap) (L : List Loc) : Prop := v = some (.int (0 : Int32)) ∧ Fr n0 L ∧ h = h0
set_option maxRecDepth 65536 in
set_option maxHeartbeats 40000000 in
theorem rm1_1 (l : Launch) (Z : State) (a0 : Array Value) (hw : ∀ d ∈ tables_1, d.before a0 Z = true) (ws : List Jvm.Cond) (a1 : Addr) (h0 : Heap) (n0 : Nat) (Z0 : n0 ≤ h0.size) (F_ordinal_a1 : Fld Z h0 a1 "java/lang/Enum" "ordinal" "I" (.int (0 : Int32))) (E_a1 : Exa Z h0 a1 "com/example/holdfast/holdfast/config/Source") :
    MetFree l (⟨"com/example/holdfast/holdfast/config/Source", "holdsLists", "()Z"⟩ : MethodName) (head1 (Jvm.Cond.code (⟨"com/example/holdfast/holdfast/config/Source", "holdsLists", "()Z"⟩ : MethodName) prog_7_method_9_code 1 (some .boolean) :: ws) ({ frames := 1, cells := 0, slots := 0, locals := 12 } : Room)) (fun a U => a = #[(.ref a1)] ∧ Z.Warmed39 U.vm ∧ U.heap = h0) (fun _ _ _ _ _ => True) (fun _ U o U' => ∃ v L, o = .returned v ∧ Q1_1 Z a1 h0 n0 v U'.heap L ∧ FrameEnd U o U' L ({ frames := 1, cells := 0, slots := 0, locals := 12 } : Room).cells ({ frames := 1, cells := 0, slots := 0, locals := 12 } : Room).slots) := by
  refine MetFree.of_bodySF (plainFor_of_name pn_1) hisR ?_
  intro p e s m args below meth c s₁ Bd hml0 hP hK
  obtain ⟨rfl, hZ, hh⟩ := hP
  have hx := Bd.exec
  have hby := Bd.bytes
  have hml : c.maxLocals = 1 := hml0
  have hown : s.vm.findClass "com/example/holdfast/holdfast/config/Source" = some m.cls := findClass_of_methodNamed Bd.named
  have hnm := (name_of_methodNamed Bd.named Bd.method).1
  have X0 : Stand p l e ({ frames := 1, cells := 0, slots := 0, locals := 12 } : Room) s m #[(.ref a1)] below meth c s₁ [] 0 0 := Stand.of_body Bd
  have e0 : s₁.heap = h0 := by rw [← hh, Bd.state]; rfl
  have N0 := Fr.nil n0
  have pre0 : ∀ t, Steps p.tables e below (s₁.setTop (mkF m 0 #[.val (.ref a1)] [])) t → Steps p.tables e below (s₁.setTop (entryFrame m #[(.ref a1)] 1)) t := fun t k => castTop (ef_1_R m a1) k
  obtain ⟨cq2, kq2, q2a, q2b, q2c⟩ := isOf hZ e0 E_a1
  obtain ⟨_, _, ⟨T2, L2, k2, n2⟩, -, X2, ⟨Lc2, hQ2, l2, y2, z2⟩, st2⟩ := X0.virtualBackUp hx (x := (⟨"com/example/holdfast/holdfast/config/Source", "ordinal", "()I"⟩ : MethodName)) (y := (⟨"java/lang/Enum", "ordinal", "()I"⟩ : MethodName)) (owner := "java/lang/Enum") hown (mvT hZ (hw _ (List.mem_of_getElem? (i := 20) rfl))) (mvT hZ (hw _ (List.mem_of_getElem? (i := 21) rfl))) (mvT hZ (hw _ (List.mem_of_getElem? (i := 22) rfl))) (by decide) (mvT hZ (hw _ (List.mem_of_getElem? (i := 24) rfl))) (mvT hZ (hw _ (List.mem_of_getElem? (i := 23) rfl))) (backOf (W := 0) (rm2_1 l Z a0 hw [] a1 h0 n0 Z0 F_ordinal_a1) hZ (hw _ (List.mem_of_getElem? (i := 26) rfl)) (hw _ (List.mem_of_getElem? (i := 25) rfl)) (by decide) (by decide)) q2a q2c (g := (mkF m 1 #[.val (.ref a1)] [(.ref a1)])) rfl (by rw [hml]; rfl) (Steps.refl _) (argsL := []) (rest := []) (lenOf pd_0 rfl) rfl (by show 2 * 0 + _ ≤ _; exact Nat.le_of_eq rfl) (hb hby d1_1) (fun _ _ => ⟨rfl, e0, (by decide : 0 + 0 ≤ _), (by decide : 0 + 0 ≤ _)⟩)
  dsimp only [Pt.U, Pt.locs, Pt.cells, Pt.slots] at X2 l2 y2 z2 st2 hQ2
  subst l2 y2 z2
  obtain ⟨rfl, Nq2, e2⟩ := hQ2
  have N2 := Fr.app N0 Nq2
  obtain ⟨fs, hr, hrun, hended, hW, hsame⟩ := X2.leave (v := some (.int (0 : Int32))) (fun h => by rw [Bd.returns] at h; cases h)
  refine ⟨_, _, pre0 _ ?_, hrun, hended, _, _, rfl, ?_, ⟨_, rfl⟩, hW, hsame.mono (by decide) (by decide)⟩
  · show Steps p.tables e below (s₁.setTop (mkF m 0 #[.val (.ref a1)] [])) _
    refine XS.aloadN X0.here hx rfl (hb hby d1_0) rfl rfl ?_
    show Steps p.tables e below (s₁.setTop (mkF m 1 #[.val (.ref a1)] [(.ref a1)])) _
    refine st2.trans ?_
    show Steps p.tables e below (T2.setTop (mkF m 4 #[.val (.ref a1)] [(.int (0 : Int32))])) _
    refine X2.tableswitchIn hx (g := (mkF m 4 #[.val (.ref a1)] [(.int (0 : Int32))])) rfl rfl (hb hby d1_4) (by decide) (off := 50) (by decide) (by show 0 ≤ ((4 : Nat) : Int) + 50; decide) _ ?_
    show Steps p.tables e below (T2.setTop (mkF m 54 #[.val (.ref a1)] [])) _
    refine XS.iconst X2.here hx rfl (hb hby d1_54) ?_
    show Steps p.tables e below (T2.setTop (mkF m 55 #[.val (.ref a1)] [(.int (0 : Int32))])) _
    exact retN X2 hx (t := .boolean) Bd.returns (by simp) (hb hby d1_55) hr
  · show Q1_1 Z a1 h0 n0 _ T2.heap _
    rw [e2]
    exact ⟨rfl, N2, rfl⟩
theorem pd_1 : parseMethodDescriptor "()Z" = some ⟨[], some .boolean⟩ := by decide +kernel
theorem ef_0_I (m : MethodId) (x0 : Int32) : entryFrame m #[(.int x0)] maxLocals = mkF m 0 #[.val (.int x0), .unset, .unset, .unset] [] := by first | (simp [entryFrame, mkF, argsToLocals, Value.category, maxLocals]; done) | rfl
theorem pn_0 : plainName "com/example/holdfast/holdfast/config/SourceHoldsListsPinLaw" = true := by first | (simp [plainName, overriddenIn]; done) | decide +kernel
set_option maxRecDepth 65536 in
set_option maxHeartbeats 40000000 in
theorem rm0_1 (l : Launch) (Z : State) (a0 : Array Value) (hw : ∀ d ∈ tables_1, d.before a0 Z = true) (ws : List Jvm.Cond) (p1 : Int32) (w3 : Addr) (w9 : Addr) (w15 : Addr) (w21 : Addr) (w27 : Addr) (h0 : Heap) (n0 : Nat) (Z0 : n0 ≤ h0.size) (S_INIT_PARAMETER : Sta Z h0 "com/example/holdfast/holdfast/config/Source" "INIT_PARAMETER" "Lcom/example/holdfast/holdfast/config/Source;" (.ref w3)) (E_w3 : Exa Z h0 w3 "com/example/holdfast/holdfast/config/Source") (S_SYSTEM_PROPERTY : Sta Z h0 "com/example/holdfast/holdfast/config/Source" "SYSTEM_PROPERTY" "Lcom/example/holdfast/holdfast/config/Source;" (.ref w9)) (E_w9 : Exa Z h0 w9 "com/example/holdfast/holdfast/config/Source") (S_ENVIRONMENT : Sta Z h0 "com/example/holdfast/holdfast/config/Source" "ENVIRONMENT" "Lcom/example/holdfast/holdfast/config/Source;" (.ref w15)) (E_w15 : Exa Z h0 w15 "com/example/holdfast/holdfast/config/Source") (S_SPRING_BOOT : Sta Z h0 "com/example/holdfast/holdfast/config/Source" "SPRING_BOOT" "Lcom/example/holdfast/holdfast/config/Source;" (.ref w21)) (E_w21 : Exa Z h0 w21 "com/example/holdfast/holdfast/config/Source") (S_PROPERTIES_FILE : Sta Z h0 "com/example/holdfast/holdfast/config/Source" "PROPERTIES_FILE" "Lcom/example/holdfast/holdfast/config/Source;" (.ref w27)) (E_w27 : Exa Z h0 w27 "com/example/holdfast/holdfast/config/Source") (P34 : ((p1 &&& (2147483647 : Int32)) % (5 : Int32)) = (0 : Int32)) (P37 : ¬ (w3 = w21)) (F_ordinal_w3 : Fld Z h0 w3 "java/lang/Enum" "ordinal" "I" (.int (0 : Int32))) :
    MetFree l x (head1 (Jvm.Cond.code x code maxLocals ret :: ws) room_1) (fun a U => a = #[(.int p1)] ∧ Z.Warmed39 U.vm ∧ U.heap = h0) (fun _ _ _ _ _ => True) (fun _ U o U' => ∃ v L, o = .returned v ∧ own_QT n0 v L ∧ FrameEnd U o U' L room_1.cells room_1.slots) := by
  refine MetFree.of_bodySF (plainFor_of_name pn_0) hisR ?_
  intro p e s m args below meth c s₁ Bd hml0 hP hK
  obtain ⟨rfl, hZ, hh⟩ := hP
  have hx := Bd.exec
  have hby := Bd.bytes
  have hml : c.maxLocals = 4 := hml0
  have hown : s.vm.findClass "com/example/holdfast/holdfast/config/SourceHoldsListsPinLaw" = some m.cls := findClass_of_methodNamed Bd.named
  have hnm := (name_of_methodNamed Bd.named Bd.method).1
  have X0 : Stand p l e room_1 s m #[(.int p1)] below meth c s₁ [] 0 0 := Stand.of_body Bd
  have e0 : s₁.heap = h0 := by rw [← hh, Bd.state]; rfl
  have N0 := Fr.nil n0
  have pre0 : ∀ t, Steps p.tables e below (s₁.setTop (mkF m 0 #[.val (.int p1), .unset, .unset, .unset] [])) t → Steps p.tables e below (s₁.setTop (entryFrame m #[(.int p1)] maxLocals)) t := fun t k => castTop (ef_0_I m p1) k
  obtain ⟨T2, h2, k2, X2, e2, E2, A2, O2, st2⟩ := newR X0 hx hZ hown (hw _ (List.mem_of_getElem? (i := 0) rfl)) (hw _ (List.mem_of_getElem? (i := 1) rfl)) e0 (g := (mkF m 1 #[.val (.int p1), .unset, .unset, .unset] [(.int (5 : Int32))])) rfl (hb hby at_1) rfl (by decide) (cap := 5) (by decide) (by decide) (by decide) (by decide)
  obtain ⟨b2, g2⟩ : ∃ z, z = h0.size := ⟨_, rfl⟩
  rw [← g2] at A2 st2
  have sz_b2 : h0.size ≤ b2 := Nat.le_trans (Keep.refl h0 []).1 (Nat.le_of_eq g2.symm)
  have g_b2 : n0 ≤ b2 := Nat.le_trans Z0 sz_b2
  have K0_2 : Keep h0 h2 [] := (Keep.refl h0 []).ext E2
  have Z2 : n0 ≤ h2.size := Nat.le_trans Z0 E2.1
  have V_b2 : Arv Z h2 b2 k2 (.object "com/example/holdfast/holdfast/config/Source") (5 : Int32) [.null, .null, .null, .null, .null] .null := (Arv.new A2 (by decide)).pad (pad_rep [] .null 5)
  have f4 := (S_INIT_PARAMETER.ext E2)
  obtain ⟨T5, X5, e5, st5⟩ := getS2 X2 hx hZ hown (host := "") (Or.inl (hw _ (List.mem_of_getElem? (i := 2) rfl))) Via.refl e2 f4 (g := (mkF m 6 #[.val (.int p1), .unset, .unset, .unset] [(.int (0 : Int32)), (.ref b2), (.ref b2)])) rfl (hb hby at_6)
  obtain ⟨cl6, Ar6, q6, S6, N_6, H6, G6⟩ := V_b2
  have hin6 : ¬ ((0 : Int32) < 0 ∨ cl6.slots.size ≤ ((0 : Int32)).toNatClampNeg) := inb_of S6 ⟨by decide, (by decide : (0 : Int32) < (5 : Int32))⟩
  have f7 := (E_w3.ext E2)
  obtain ⟨T8, h8, X8, e8, W8, st8⟩ := stR X5 hx hZ e5 Ar6 (j := (0 : Int32)) hin6 rfl (Sto.ofV Ar6 q6 O2 (Ins.self f7)) (g := (mkF m 9 #[.val (.int p1), .unset, .unset, .unset] [(.ref w3), (.int (0 : Int32)), (.ref b2), (.ref b2)])) rfl rfl (hb hby at_9)
  have K0_8 : Keep h0 h8 [] := K0_2.wr W8 (Or.inr sz_b2)
  have N8 := Fr.snoc X8 N0 g_b2
  have Z8 : n0 ≤ h8.size := Nat.le_trans Z2 (Keep.of_wr W8).1
  have V8 : Arv Z h8 b2 k2 (.object "com/example/holdfast/holdfast/config/Source") (5 : Int32) [(.ref w3), .null, .null, .null, .null] .null := Arv.set Ar6 q6 S6 N_6 H6 G6 rfl W8 0 rfl (Nat.le_of_ble_eq_true rfl)
  have f10 := ((S_SYSTEM_PROPERTY.ext E2).wr W8)
  obtain ⟨T11, X11, e11, st11⟩ := getS2 X8 hx hZ hown (host := "") (Or.inl (hw _ (List.mem_of_getElem? (i := 6) rfl))) Via.refl e8 f10 (g := (mkF m 12 #[.val (.int p1), .unset, .unset, .unset] [(.int (1 : Int32)), (.ref b2), (.ref b2)])) rfl (hb hby at_12)
  obtain ⟨cl12, Ar12, q12, S12, N_12, H12, G12⟩ := V8
  have hin12 : ¬ ((1 : Int32) < 0 ∨ cl12.slots.size ≤ ((1 : Int32)).toNatClampNeg) := inb_of S12 ⟨by decide, (by decide : (1 : Int32) < (5 : Int32))⟩
  have f13 := ((E_w9.ext E2).wr W8)
  obtain ⟨T14, h14, X14, e14, W14, st14⟩ := stR X11 hx hZ e11 Ar12 (j := (1 : Int32)) hin12 rfl (Sto.ofV Ar12 q12 O2 (Ins.self f13)) (g := (mkF m 15 #[.val (.int p1), .unset, .unset, .unset] [(.ref w9), (.int (1 : Int32)), (.ref b2), (.ref b2)])) rfl rfl (hb hby at_15)
  have K0_14 : Keep h0 h14 [] := K0_8.wr W14 (Or.inr sz_b2)
  have N14 := Fr.snoc X14 N8 g_b2
  have Z14 : n0 ≤ h14.size := Nat.le_trans Z8 (Keep.of_wr W14).1
  have V14 : Arv Z h14 b2 k2 (.object "com/example/holdfast/holdfast/config/Source") (5 : Int32) [(.ref w3), (.ref w9), .null, .null, .null] .null := Arv.set Ar12 q12 S12 N_12 H12 G12 rfl W14 1 rfl (Nat.le_of_ble_eq_true rfl)
  have f16 := (((S_ENVIRONMENT.ext E2).wr W8).wr W14)
  obtain ⟨T17, X17, e17, st17⟩ := getS2 X14 hx hZ hown (host := "") (Or.inl (hw _ (List.mem_of_getElem? (i := 8) rfl))) Via.refl e14 f16 (g := (mkF m 18 #[.val (.int p1), .unset, .unset, .unset] [(.int (2 : Int32)), (.ref b2), (.ref b2)])) rfl (hb hby at_18)
  obtain ⟨cl18, Ar18, q18, S18, N_18, H18, G18⟩ := V14
  have hin18 : ¬ ((2 : Int32) < 0 ∨ cl18.slots.size ≤ ((2 : Int32)).toNatClampNeg) := inb_of S18 ⟨by decide, (by decide : (2 : Int32) < (5 : Int32))⟩
  have f19 := (((E_w15.ext E2).wr W8).wr W14)
  obtain ⟨T20, h20, X20, e20, W20, st20⟩ := stR X17 hx hZ e17 Ar18 (j := (2 : Int32)) hin18 rfl (Sto.ofV Ar18 q18 O2 (Ins.self f19)) (g := (mkF m 21 #[.val (.int p1), .unset, .unset, .unset] [(.ref w15), (.int (2 : Int32)), (.ref b2), (.ref b2)])) rfl rfl (hb hby at_21)
  have K0_20 : Keep h0 h20 [] := K0_14.wr W20 (Or.inr sz_b2)
  have N20 := Fr.snoc X20 N14 g_b2
  have Z20 : n0 ≤ h20.size := Nat.le_trans Z14 (Keep.of_wr W20).1
  have V20 : Arv Z h20 b2 k2 (.object "com/example/holdfast/holdfast/config/Source") (5 : Int32) [(.ref w3), (.ref w9), (.ref w15), .null, .null] .null := Arv.set Ar18 q18 S18 N_18 H18 G18 rfl W20 2 rfl (Nat.le_of_ble_eq_true rfl)
  have f22 := ((((S_SPRING_BOOT.ext E2).wr W8).wr W14).wr W20)
  obtain ⟨T23, X23, e23, st23⟩ := getS2 X20 hx hZ hown (host := "") (Or.inl (hw _ (List.mem_of_getElem? (i := 10) rfl))) Via.refl e20 f22 (g := (mkF m 24 #[.val (.int p1), .unset, .unset, .unset] [(.int (3 : Int32)), (.ref b2), (.ref b2)])) rfl (hb hby at_24)
  obtain ⟨cl24, Ar24, q24, S24, N_24, H24, G24⟩ := V20
  have hin24 : ¬ ((3 : Int32) < 0 ∨ cl24.slots.size ≤ ((3 : Int32)).toNatClampNeg) := inb_of S24 ⟨by decide, (by decide : (3 : Int32) < (5 : Int32))⟩
  have f25 := ((((E_w21.ext E2).wr W8).wr W14).wr W20)
  obtain ⟨T26, h26, X26, e26, W26, st26⟩ := stR X23 hx hZ e23 Ar24 (j := (3 : Int32)) hin24 rfl (Sto.ofV Ar24 q24 O2 (Ins.self f25)) (g := (mkF m 27 #[.val (.int p1), .unset, .unset, .unset] [(.ref w21), (.int (3 : Int32)), (.ref b2), (.ref b2)])) rfl rfl (hb hby at_27)
  have K0_26 : Keep h0 h26 [] := K0_20.wr W26 (Or.inr sz_b2)
  have N26 := Fr.snoc X26 N20 g_b2
  have Z26 : n0 ≤ h26.size := Nat.le_trans Z20 (Keep.of_wr W26).1
  have V26 : Arv Z h26 b2 k2 (.object "com/example/holdfast/holdfast/config/Source") (5 : Int32) [(.ref w3), (.ref w9), (.ref w15), (.ref w21), .null] .null := Arv.set Ar24 q24 S24 N_24 H24 G24 rfl W26 3 rfl (Nat.le_of_ble_eq_true rfl)
  have f28 := (((((S_PROPERTIES_FILE.ext E2).wr W8).wr W14).wr W20).wr W26)
  obtain ⟨T29, X29, e29, st29⟩ := getS2 X26 hx hZ hown (host := "") (Or.inl (hw _ (List.mem_of_getElem? (i := 12) rfl))) Via.refl e26 f28 (g := (mkF m 30 #[.val (.int p1), .unset, .unset, .unset] [(.int (4 : Int32)), (.ref b2), (.ref b2)])) rfl (hb hby at_30)
  obtain ⟨cl30, Ar30, q30, S30, N_30, H30, G30⟩ := V26
  have hin30 : ¬ ((4 : Int32) < 0 ∨ cl30.slots.size ≤ ((4 : Int32)).toNatClampNeg) := inb_of S30 ⟨by decide, (by decide : (4 : Int32) < (5 : Int32))⟩
  have f31 := (((((E_w27.ext E2).wr W8).wr W14).wr W20).wr W26)
  obtain ⟨T32, h32, X32, e32, W32, st32⟩ := stR X29 hx hZ e29 Ar30 (j := (4 : Int32)) hin30 rfl (Sto.ofV Ar30 q30 O2 (Ins.self f31)) (g := (mkF m 33 #[.val (.int p1), .unset, .unset, .unset] [(.ref w27), (.int (4 : Int32)), (.ref b2), (.ref b2)])) rfl rfl (hb hby at_33)
  have K0_32 : Keep h0 h32 [] := K0_26.wr W32 (Or.inr sz_b2)
  have N32 := Fr.snoc X32 N26 g_b2
  have Z32 : n0 ≤ h32.size := Nat.le_trans Z26 (Keep.of_wr W32).1
  have V32 : Arv Z h32 b2 k2 (.object "com/example/holdfast/holdfast/config/Source") (5 : Int32) [(.ref w3), (.ref w9), (.ref w15), (.ref w21), (.ref w27)] .null := Arv.set Ar30 q30 S30 N_30 H30 G30 rfl W32 4 rfl (Nat.le_of_ble_eq_true rfl)
  obtain ⟨cl33, Ar33, q33, S33, N_33, H33, G33⟩ := V32
  have hin33 : ¬ (((p1 &&& (2147483647 : Int32)) % (5 : Int32)) < 0 ∨ cl33.slots.size ≤ (((p1 &&& (2147483647 : Int32)) % (5 : Int32))).toNatClampNeg) := inb_of S33 ⟨by rw [P34]; decide, by rw [P34]; exact (by decide : (0 : Int32) < (5 : Int32))⟩
  have hat33 : cl33.slots[(((p1 &&& (2147483647 : Int32)) % (5 : Int32))).toNatClampNeg]? = some (.ref w3) := Has.at H33 hin33 (by rw [P34]; rfl)
  have f35 := ((f22.wr W26).wr W32)
  obtain ⟨T36, X36, e36, st36⟩ := getS2 X32 hx hZ hown (host := "") (Or.inl (hw _ (List.mem_of_getElem? (i := 10) rfl))) Via.refl e32 f35 (g := (mkF m 45 #[.val (.int p1), .val (.ref b2), .val (.ref w3), .unset] [(.ref w3)])) rfl (hb hby at_45)
  have ne38 : w3 ≠ b2 := Nat.ne_of_lt (Nat.lt_of_lt_of_le E_w3.lt (Nat.le_of_eq g2.symm))
  have f39 := ((((((F_ordinal_w3.ext E2).other W8 (Or.inl ne38)).other W14 (Or.inl ne38)).other W20 (Or.inl ne38)).other W26 (Or.inl ne38)).other W32 (Or.inl ne38))
  have f40 := (((((f7.wr W8).wr W14).wr W20).wr W26).wr W32)
  obtain ⟨cq41, kq41, q41a, q41b, q41c⟩ := isOf hZ e36 f40
  obtain ⟨_, _, ⟨T41, L41, k41, n41⟩, -, X41, ⟨Lc41, hQ41, l41, y41, z41⟩, st41⟩ := X36.virtualBack hx (y := (⟨"com/example/holdfast/holdfast/config/Source", "holdsLists", "()Z"⟩ : MethodName)) (z := (⟨"com/example/holdfast/holdfast/config/Source", "holdsLists", "()Z"⟩ : MethodName)) hown (mvT hZ (hw _ (List.mem_of_getElem? (i := 15) rfl))) (mvT hZ (hw _ (List.mem_of_getElem? (i := 16) rfl))) (notFace_of_selects (args := #[]) (mvT hZ (hw _ (List.mem_of_getElem? (i := 18) rfl)))) (mvT hZ (hw _ (List.mem_of_getElem? (i := 18) rfl))) (mvT hZ (hw _ (List.mem_of_getElem? (i := 17) rfl))) (by decide) (backOf (W := 0) (rm1_1 l Z a0 hw [] w3 h32 n0 Z32 f39 f40) hZ (hw _ (List.mem_of_getElem? (i := 19) rfl)) (hw _ (List.mem_of_getElem? (i := 3) rfl)) (by decide) (by decide)) q41a q41c (g := (mkF m 58 #[.val (.int p1), .val (.ref b2), .val (.ref w3), .val (.int (0 : Int32))] [(.ref w3)])) rfl (by rw [hml]; rfl) (Steps.refl _) (argsL := []) (rest := []) (lenOf pd_1 rfl) rfl (by show 2 * 0 + _ ≤ _; exact Nat.le_of_eq rfl) (hb hby at_58) (fun _ _ => ⟨rfl, e36, (by decide : 1 + 0 ≤ _), (by decide : 5 + 0 ≤ _)⟩)
  dsimp only [Pt.U, Pt.locs, Pt.cells, Pt.slots] at X41 l41 y41 z41 st41 hQ41
  subst l41 y41 z41
  obtain ⟨rfl, Nq41, e41⟩ := hQ41
  have N41 := Fr.app N32 Nq41
  obtain ⟨fs, hr, hrun, hended, hW, hsame⟩ := X41.leave (v := some (.int (1 : Int32))) (fun h => by rw [Bd.returns] at h; cases h)
  refine ⟨_, _, pre0 _ ?_, hrun, hended, _, _, rfl, ?_, ⟨_, rfl⟩, hW, hsame.mono (by decide) (by decide)⟩
  · show Steps p.tables e below (s₁.setTop (mkF m 0 #[.val (.int p1), .unset, .unset, .unset] [])) _
    refine XS.iconst X0.here hx rfl (hb hby at_0) ?_
    show Steps p.tables e below (s₁.setTop (mkF m 1 #[.val (.int p1), .unset, .unset, .unset] [(.int (5 : Int32))])) _
    refine st2 _ ?_
    show Steps p.tables e below (T2.setTop (mkF m 4 #[.val (.int p1), .unset, .unset, .unset] [(.ref b2)])) _
    refine XS.dup X2.here hx rfl (hb hby at_4) rfl rfl ?_
    show Steps p.tables e below (T2.setTop (mkF m 5 #[.val (.int p1), .unset, .unset, .unset] [(.ref b2), (.ref b2)])) _
    refine XS.iconst X2.here hx rfl (hb hby at_5) ?_
    show Steps p.tables e below (T2.setTop (mkF m 6 #[.val (.int p1), .unset, .unset, .unset] [(.int (0 : Int32)), (.ref b2), (.ref b2)])) _
    refine st5 _ ?_
    show Steps p.tables e below (T5.setTop (mkF m 9 #[.val (.int p1), .unset, .unset, .unset] [(.ref w3), (.int (0 : Int32)), (.ref b2), (.ref b2)])) _
    refine st8 _ ?_
    show Steps p.tables e below (T8.setTop (mkF m 10 #[.val (.int p1), .unset, .unset, .unset] [(.ref b2)])) _
    refine XS.dup X8.here hx rfl (hb hby at_10) rfl rfl ?_
    show Steps p.tables e below (T8.setTop (mkF m 11 #[.val (.int p1), .unset, .unset, .unset] [(.ref b2), (.ref b2)])) _
    refine XS.iconst X8.here hx rfl (hb hby at_11) ?_
    show Steps p.tables e below (T8.setTop (mkF m 12 #[.val (.int p1), .unset, .unset, .unset] [(.int (1 : Int32)), (.ref b2), (.ref b2)])) _
    refine st11 _ ?_
    show Steps p.tables e below (T11.setTop (mkF m 15 #[.val (.int p1), .unset, .unset, .unset] [(.ref w9), (.int (1 : Int32)), (.ref b2), (.ref b2)])) _
    refine st14 _ ?_
    show Steps p.tables e below (T14.setTop (mkF m 16 #[.val (.int p1), .unset, .unset, .unset] [(.ref b2)])) _
    refine XS.dup X14.here hx rfl (hb hby at_16) rfl rfl ?_
    show Steps p.tables e below (T14.setTop (mkF m 17 #[.val (.int p1), .unset, .unset, .unset] [(.ref b2), (.ref b2)])) _
    refine XS.iconst X14.here hx rfl (hb hby at_17) ?_
    show Steps p.tables e below (T14.setTop (mkF m 18 #[.val (.int p1), .unset, .unset, .unset] [(.int (2 : Int32)), (.ref b2), (.ref b2)])) _
    refine st17 _ ?_
    show Steps p.tables e below (T17.setTop (mkF m 21 #[.val (.int p1), .unset, .unset, .unset] [(.ref w15), (.int (2 : Int32)), (.ref b2), (.ref b2)])) _
    refine st20 _ ?_
    show Steps p.tables e below (T20.setTop (mkF m 22 #[.val (.int p1), .unset, .unset, .unset] [(.ref b2)])) _
    refine XS.dup X20.here hx rfl (hb hby at_22) rfl rfl ?_
    show Steps p.tables e below (T20.setTop (mkF m 23 #[.val (.int p1), .unset, .unset, .unset] [(.ref b2), (.ref b2)])) _
    refine XS.iconst X20.here hx rfl (hb hby at_23) ?_
    show Steps p.tables e below (T20.setTop (mkF m 24 #[.val (.int p1), .unset, .unset, .unset] [(.int (3 : Int32)), (.ref b2), (.ref b2)])) _
    refine st23 _ ?_
    show Steps p.tables e below (T23.setTop (mkF m 27 #[.val (.int p1), .unset, .unset, .unset] [(.ref w21), (.int (3 : Int32)), (.ref b2), (.ref b2)])) _
    refine st26 _ ?_
    show Steps p.tables e below (T26.setTop (mkF m 28 #[.val (.int p1), .unset, .unset, .unset] [(.ref b2)])) _
    refine XS.dup X26.here hx rfl (hb hby at_28) rfl rfl ?_
    show Steps p.tables e below (T26.setTop (mkF m 29 #[.val (.int p1), .unset, .unset, .unset] [(.ref b2), (.ref b2)])) _
    refine XS.iconst X26.here hx rfl (hb hby at_29) ?_
    show Steps p.tables e below (T26.setTop (mkF m 30 #[.val (.int p1), .unset, .unset, .unset] [(.int (4 : Int32)), (.ref b2), (.ref b2)])) _
    refine st29 _ ?_
    show Steps p.tables e below (T29.setTop (mkF m 33 #[.val (.int p1), .unset, .unset, .unset] [(.ref w27), (.int (4 : Int32)), (.ref b2), (.ref b2)])) _
    refine st32 _ ?_
    show Steps p.tables e below (T32.setTop (mkF m 34 #[.val (.int p1), .unset, .unset, .unset] [(.ref b2)])) _
    refine XS.astoreN X32.here hx rfl (hb hby at_34) rfl rfl (l' := #[.val (.int p1), .val (.ref b2), .unset, .unset]) rfl ?_
    show Steps p.tables e below (T32.setTop (mkF m 35 #[.val (.int p1), .val (.ref b2), .unset, .unset] [])) _
    refine XS.aloadN X32.here hx rfl (hb hby at_35) rfl rfl ?_
    show Steps p.tables e below (T32.setTop (mkF m 36 #[.val (.int p1), .val (.ref b2), .unset, .unset] [(.ref b2)])) _
    refine XS.iloadN X32.here hx rfl (hb hby at_36) rfl ?_
    show Steps p.tables e below (T32.setTop (mkF m 37 #[.val (.int p1), .val (.ref b2), .unset, .unset] [(.int p1), (.ref b2)])) _
    refine X32.ldcInt hx hown (mvT hZ (hw _ (List.mem_of_getElem? (i := 14) rfl))) (g := (mkF m 37 #[.val (.int p1), .val (.ref b2), .unset, .unset] [(.int p1), (.ref b2)])) rfl (hb hby at_37) _ ?_
    show Steps p.tables e below (T32.setTop (mkF m 39 #[.val (.int p1), .val (.ref b2), .unset, .unset] [(.int (2147483647 : Int32)), (.int p1), (.ref b2)])) _
    refine XS.iand X32.here hx rfl (hb hby at_39) rfl ?_
    show Steps p.tables e below (T32.setTop (mkF m 40 #[.val (.int p1), .val (.ref b2), .unset, .unset] [(.int (p1 &&& (2147483647 : Int32))), (.ref b2)])) _
    refine XS.iconst X32.here hx rfl (hb hby at_40) ?_
    show Steps p.tables e below (T32.setTop (mkF m 41 #[.val (.int p1), .val (.ref b2), .unset, .unset] [(.int (5 : Int32)), (.int (p1 &&& (2147483647 : Int32))), (.ref b2)])) _
    refine iremM X32 hx rfl (hb hby at_41) rfl (by decide : ¬ ((5 : Int32) = (0 : Int32))) ?_
    show Steps p.tables e below (T32.setTop (mkF m 42 #[.val (.int p1), .val (.ref b2), .unset, .unset] [(.int ((p1 &&& (2147483647 : Int32)) % (5 : Int32))), (.ref b2)])) _
    refine X32.aaload hx (j := ((p1 &&& (2147483647 : Int32)) % (5 : Int32))) (v := (.ref w3)) (by rw [e32]; exact Ar33.1) (State.isArrayOf_alike hZ.alike Ar33.2.1) rfl Ar33.2.2 hin33 hat33 (g := (mkF m 42 #[.val (.int p1), .val (.ref b2), .unset, .unset] [(.int ((p1 &&& (2147483647 : Int32)) % (5 : Int32))), (.ref b2)])) rfl rfl (hb hby at_42) _ ?_
    show Steps p.tables e below (T32.setTop (mkF m 43 #[.val (.int p1), .val (.ref b2), .unset, .unset] [(.ref w3)])) _
    refine XS.astoreN X32.here hx rfl (hb hby at_43) rfl rfl (l' := #[.val (.int p1), .val (.ref b2), .val (.ref w3), .unset]) rfl ?_
    show Steps p.tables e below (T32.setTop (mkF m 44 #[.val (.int p1), .val (.ref b2), .val (.ref w3), .unset] [])) _
    refine XS.aloadN X32.here hx rfl (hb hby at_44) rfl rfl ?_
    show Steps p.tables e below (T32.setTop (mkF m 45 #[.val (.int p1), .val (.ref b2), .val (.ref w3), .unset] [(.ref w3)])) _
    refine st36 _ ?_
    show Steps p.tables e below (T36.setTop (mkF m 48 #[.val (.int p1), .val (.ref b2), .val (.ref w3), .unset] [(.ref w21), (.ref w3)])) _
    refine Jvm.RoadKit.acmp (g := (mkF m 48 #[.val (.int p1), .val (.ref b2), .val (.ref w3), .unset] [(.ref w21), (.ref w3)])) X36 hx rfl rfl rfl (pc0 := 48) (pc' := 55) (same := false) rfl (hb hby at_48) rfl (decide_eq_false fun q => P37 (Value.ref.inj q)) (by decide) (by decide) ?_
    show Steps p.tables e below (T36.setTop (mkF m 55 #[.val (.int p1), .val (.ref b2), .val (.ref w3), .unset] [])) _
    refine XS.iconst X36.here hx rfl (hb hby at_55) ?_
    show Steps p.tables e below (T36.setTop (mkF m 56 #[.val (.int p1), .val (.ref b2), .val (.ref w3), .unset] [(.int (0 : Int32))])) _
    refine XS.istoreN X36.here hx rfl (hb hby at_56) rfl (l' := #[.val (.int p1), .val (.ref b2), .val (.ref w3), .val (.int (0 : Int32))]) rfl ?_
    show Steps p.tables e below (T36.setTop (mkF m 57 #[.val (.int p1), .val (.ref b2), .val (.ref w3), .val (.int (0 : Int32))] [])) _
    refine XS.aloadN X36.here hx rfl (hb hby at_57) rfl rfl ?_
    show Steps p.tables e below (T36.setTop (mkF m 58 #[.val (.int p1), .val (.ref b2), .val (.ref w3), .val (.int (0 : Int32))] [(.ref w3)])) _
    refine st41.trans ?_
    show Steps p.tables e below (T41.setTop (mkF m 61 #[.val (.int p1), .val (.ref b2), .val (.ref w3), .val (.int (0 : Int32))] [(.int (0 : Int32))])) _
    refine XS.iloadN X41.here hx rfl (hb hby at_61) rfl ?_
    show Steps p.tables e below (T41.setTop (mkF m 62 #[.val (.int p1), .val (.ref b2), .val (.ref w3), .val (.int (0 : Int32))] [(.int (0 : Int32)), (.int (0 : Int32))])) _
    refine XS.icmpNo X41.here hx rfl (hb hby at_62) rfl (teq (rfl : (0 : Int32) = (0 : Int32))).2 ?_
    show Steps p.tables e below (T41.setTop (mkF m 65 #[.val (.int p1), .val (.ref b2), .val (.ref w3), .val (.int (0 : Int32))] [])) _
    refine XS.iconst X41.here hx rfl (hb hby at_65) ?_
    show Steps p.tables e below (T41.setTop (mkF m 66 #[.val (.int p1), .val (.ref b2), .val (.ref w3), .val (.int (0 : Int32))] [(.int (1 : Int32))])) _
    refine XS.goto X41.here hx rfl (pc0 := 66) (pc' := 70) rfl (hb hby at_66) (by decide) (by decide) ?_
    show Steps p.tables e below (T41.setTop (mkF m 70 #[.val (.int p1), .val (.ref b2), .val (.ref w3), .val (.int (0 : Int32))] [(.int (1 : Int32))])) _
    exact retN X41 hx (t := .boolean) Bd.returns (by simp) (hb hby at_70) hr
  · exact ⟨rfl, N41⟩
def Q2_2 (Z : State) (a1 : Addr) (h0 : Heap) (n0 : Nat) (v : Option Value) (h : Heap) (L : List Loc) : Prop := v = some (.int (1 : Int32)) ∧ Fr n0 L ∧ h = h0
set_option maxRecDepth 65536 in
set_option maxHeartbeats 40000000 in
theorem rm2_2 (l : Launch) (Z : State) (a0 : Array Value) (hw : ∀ d ∈ tables_1, d.before a0 Z = true) (ws : List Jvm.Cond) (a1 : Addr) (h0 : Heap) (n0 : Nat) (Z0 : n0 ≤ h0.size) (F_ordinal_a1 : Fld Z h0 a1 "java/lang/Enum" "ordinal" "I" (.int (1 : Int32))) :
    MetFree l (⟨"java/lang/Enum", "ordinal", "()I"⟩ : MethodName) (head1 (Jvm.Cond.code (⟨"java/lang/Enum", "ordinal", "()I"⟩ : MethodName) jdk_37_method_2_code 1 (some .int) :: ws) ({ frames := 0, cells := 0, slots := 0, locals := 0 } : Room)) (fun a U => a = #[(.ref a1)] ∧ Z.Warmed39 U.vm ∧ U.heap = h0) (fun _ _ _ _ _ => True) (fun _ U o U' => ∃ v L, o = .returned v ∧ Q2_2 Z a1 h0 n0 v U'.heap L ∧ FrameEnd U o U' L ({ frames := 0, cells := 0, slots := 0, locals := 0 } : Room).cells ({ frames := 0, cells := 0, slots := 0, locals := 0 } : Room).slots) := by
  refine MetFree.of_bodySF (plainFor_of_name pn_2) hisR ?_
  intro p e s m args below meth c s₁ Bd hml0 hP hK
  obtain ⟨rfl, hZ, hh⟩ := hP
  have hx := Bd.exec
  have hby := Bd.bytes
  have hml : c.maxLocals = 1 := hml0
  have hown : s.vm.findClass "java/lang/Enum" = some m.cls := findClass_of_methodNamed Bd.named
  have hnm := (name_of_methodNamed Bd.named Bd.method).1
  have X0 : Stand p l e ({ frames := 0, cells := 0, slots := 0, locals := 0 } : Room) s m #[(.ref a1)] below meth c s₁ [] 0 0 := Stand.of_body Bd
  have e0 : s₁.heap = h0 := by rw [← hh, Bd.state]; rfl
  have N0 := Fr.nil n0
  have pre0 : ∀ t, Steps p.tables e below (s₁.setTop (mkF m 0 #[.val (.ref a1)] [])) t → Steps p.tables e below (s₁.setTop (entryFrame m #[(.ref a1)] 1)) t := fun t k => castTop (ef_2_R m a1) k
  obtain ⟨T2, X2, e2, st2⟩ := getF X0 hx hZ hown (host := "") (Or.inl (hw _ (List.mem_of_getElem? (i := 27) rfl))) Via.refl e0 F_ordinal_a1 (g := (mkF m 1 #[.val (.ref a1)] [(.ref a1)])) rfl rfl (hb hby d2_1)
  obtain ⟨fs, hr, hrun, hended, hW, hsame⟩ := X2.leave (v := some (.int (1 : Int32))) (fun h => by rw [Bd.returns] at h; cases h)
  refine ⟨_, _, pre0 _ ?_, hrun, hended, _, _, rfl, ?_, ⟨_, rfl⟩, hW, hsame.mono (by decide) (by decide)⟩
  · show Steps p.tables e below (s₁.setTop (mkF m 0 #[.val (.ref a1)] [])) _
    refine XS.aloadN X0.here hx rfl (hb hby d2_0) rfl rfl ?_
    show Steps p.tables e below (s₁.setTop (mkF m 1 #[.val (.ref a1)] [(.ref a1)])) _
    refine st2 _ ?_
    show Steps p.tables e below (T2.setTop (mkF m 4 #[.val (.ref a1)] [(.int (1 : Int32))])) _
    exact retI X2 hx Bd.returns (hb hby d2_4) hr
  · show Q2_2 Z a1 h0 n0 _ T2.heap _
    rw [e2]
    exact ⟨rfl, N0, rfl⟩
def Q1_2 (Z : State) (a1 : Addr) (h0 : Heap) (n0 : Nat) (v : Option Value) (h : Heap) (L : List Loc) : Prop := v = some (.int (0 : Int32)) ∧ Fr n0 L ∧ h = h0
set_option maxRecDepth 65536 in
set_option maxHeartbeats 40000000 in
theorem rm1_2 (l : Launch) (Z : State) (a0 : Array Value) (hw : ∀ d ∈ tables_1, d.before a0 Z = true) (ws : List Jvm.Cond) (a1 : Addr) (h0 : Heap) (n0 : Nat) (Z0 : n0 ≤ h0.size) (F_ordinal_a1 : Fld Z h0 a1 "java/lang/Enum" "ordinal" "I" (.int (1 : Int32))) (E_a1 : Exa Z h0 a1 "com/example/holdfast/holdfast/config/Source") :
    MetFree l (⟨"com/example/holdfast/holdfast/config/Source", "holdsLists", "()Z"⟩ : MethodName) (head1 (Jvm.Cond.code (⟨"com/example/holdfast/holdfast/config/Source", "holdsLists", "()Z"⟩ : MethodName) prog_7_method_9_code 1 (some .boolean) :: ws) ({ frames := 1, cells := 0, slots := 0, locals := 12 } : Room)) (fun a U => a = #[(.ref a1)] ∧ Z.Warmed39 U.vm ∧ U.heap = h0) (fun _ _ _ _ _ => True) (fun _ U o U' => ∃ v L, o = .returned v ∧ Q1_2 Z a1 h0 n0 v U'.heap L ∧ FrameEnd U o U' L ({ frames := 1, cells := 0, slots := 0, locals := 12 } : Room).cells ({ frames := 1, cells := 0, slots := 0, locals := 12 } : Room).slots) := by
  refine MetFree.of_bodySF (plainFor_of_name pn_1) hisR ?_
  intro p e s m args below meth c s₁ Bd hml0 hP hK
  obtain ⟨rfl, hZ, hh⟩ := hP
  have hx := Bd.exec
  have hby := Bd.bytes
  have hml : c.maxLocals = 1 := hml0
  have hown : s.vm.findClass "com/example/holdfast/holdfast/config/Source" = some m.cls := findClass_of_methodNamed Bd.named
  have hnm := (name_of_methodNamed Bd.named Bd.method).1
  have X0 : Stand p l e ({ frames := 1, cells := 0, slots := 0, locals := 12 } : Room) s m #[(.ref a1)] below meth c s₁ [] 0 0 := Stand.of_body Bd
  have e0 : s₁.heap = h0 := by rw [← hh, Bd.state]; rfl
  have N0 := Fr.nil n0
  have pre0 : ∀ t, Steps p.tables e below (s₁.setTop (mkF m 0 #[.val (.ref a1)] [])) t → Steps p.tables e below (s₁.setTop (entryFrame m #[(.ref a1)] 1)) t := fun t k => castTop (ef_1_R m a1) k
  obtain ⟨cq2, kq2, q2a, q2b, q2c⟩ := isOf hZ e0 E_a1
  obtain ⟨_, _, ⟨T2, L2, k2, n2⟩, -, X2, ⟨Lc2, hQ2, l2, y2, z2⟩, st2⟩ := X0.virtualBackUp hx (x := (⟨"com/example/holdfast/holdfast/config/Source", "ordinal", "()I"⟩ : MethodName)) (y := (⟨"java/lang/Enum", "ordinal", "()I"⟩ : MethodName)) (owner := "java/lang/Enum") hown (mvT hZ (hw _ (List.mem_of_getElem? (i := 20) rfl))) (mvT hZ (hw _ (List.mem_of_getElem? (i := 21) rfl))) (mvT hZ (hw _ (List.mem_of_getElem? (i := 22) rfl))) (by decide) (mvT hZ (hw _ (List.mem_of_getElem? (i := 24) rfl))) (mvT hZ (hw _ (List.mem_of_getElem? (i := 23) rfl))) (backOf (W := 0) (rm2_2 l Z a0 hw [] a1 h0 n0 Z0 F_ordinal_a1) hZ (hw _ (List.mem_of_getElem? (i := 26) rfl)) (hw _ (List.mem_of_getElem? (i := 25) rfl)) (by decide) (by decide)) q2a q2c (g := (mkF m 1 #[.val (.ref a1)] [(.ref a1)])) rfl (by rw [hml]; rfl) (Steps.refl _) (argsL := []) (rest := []) (lenOf pd_0 rfl) rfl (by show 2 * 0 + _ ≤ _; exact Nat.le_of_eq rfl) (hb hby d1_1) (fun _ _ => ⟨rfl, e0, (by decide : 0 + 0 ≤ _), (by decide : 0 + 0 ≤ _)⟩)
  dsimp only [Pt.U, Pt.locs, Pt.cells, Pt.slots] at X2 l2 y2 z2 st2 hQ2
  subst l2 y2 z2
  obtain ⟨rfl, Nq2, e2⟩ := hQ2
  have N2 := Fr.app N0 Nq2
  obtain ⟨fs, hr, hrun, hended, hW, hsame⟩ := X2.leave (v := some (.int (0 : Int32))) (fun h => by rw [Bd.returns] at h; cases h)
  refine ⟨_, _, pre0 _ ?_, hrun, hended, _, _, rfl, ?_, ⟨_, rfl⟩, hW, hsame.mono (by decide) (by decide)⟩
  · show Steps p.tables e below (s₁.setTop (mkF m 0 #[.val (.ref a1)] [])) _
    refine XS.aloadN X0.here hx rfl (hb hby d1_0) rfl rfl ?_
    show Steps p.tables e below (s₁.setTop (mkF m 1 #[.val (.ref a1)] [(.ref a1)])) _
    refine st2.trans ?_
    show Steps p.tables e below (T2.setTop (mkF m 4 #[.val (.ref a1)] [(.int (1 : Int32))])) _
    refine X2.tableswitchIn hx (g := (mkF m 4 #[.val (.ref a1)] [(.int (1 : Int32))])) rfl rfl (hb hby d1_4) (by decide) (off := 50) (by decide) (by show 0 ≤ ((4 : Nat) : Int) + 50; decide) _ ?_
    show Steps p.tables e below (T2.setTop (mkF m 54 #[.val (.ref a1)] [])) _
    refine XS.iconst X2.here hx rfl (hb hby d1_54) ?_
    show Steps p.tables e below (T2.setTop (mkF m 55 #[.val (.ref a1)] [(.int (0 : Int32))])) _
    exact retN X2 hx (t := .boolean) Bd.returns (by simp) (hb hby d1_55) hr
  · show Q1_2 Z a1 h0 n0 _ T2.heap _
    rw [e2]
    exact ⟨rfl, N2, rfl⟩
set_option maxRecDepth 65536 in
set_option maxHeartbeats 40000000 in
theorem rm0_2 (l : Launch) (Z : State) (a0 : Array Value) (hw : ∀ d ∈ tables_1, d.before a0 Z = true) (ws : List Jvm.Cond) (p1 : Int32) (w3 : Addr) (w9 : Addr) (w15 : Addr) (w21 : Addr) (w27 : Addr) (h0 : Heap) (n0 : Nat) (Z0 : n0 ≤ h0.size) (S_INIT_PARAMETER : Sta Z h0 "com/example/holdfast/holdfast/config/Source" "INIT_PARAMETER" "Lcom/example/holdfast/holdfast/config/Source;" (.ref w3)) (E_w3 : Exa Z h0 w3 "com/example/holdfast/holdfast/config/Source") (S_SYSTEM_PROPERTY : Sta Z h0 "com/example/holdfast/holdfast/config/Source" "SYSTEM_PROPERTY" "Lcom/example/holdfast/holdfast/config/Source;" (.ref w9)) (E_w9 : Exa Z h0 w9 "com/example/holdfast/holdfast/config/Source") (S_ENVIRONMENT : Sta Z h0 "com/example/holdfast/holdfast/config/Source" "ENVIRONMENT" "Lcom/example/holdfast/holdfast/config/Source;" (.ref w15)) (E_w15 : Exa Z h0 w15 "com/example/holdfast/holdfast/config/Source") (S_SPRING_BOOT : Sta Z h0 "com/example/holdfast/holdfast/config/Source" "SPRING_BOOT" "Lcom/example/holdfast/holdfast/config/Source;" (.ref w21)) (E_w21 : Exa Z h0 w21 "com/example/holdfast/holdfast/config/Source") (S_PROPERTIES_FILE : Sta Z h0 "com/example/holdfast/holdfast/config/Source" "PROPERTIES_FILE" "Lcom/example/holdfast/holdfast/config/Source;" (.ref w27)) (E_w27 : Exa Z h0 w27 "com/example/holdfast/holdfast/config/Source") (P34 : ((p1 &&& (2147483647 : Int32)) % (5 : Int32)) = (1 : Int32)) (P37 : ¬ (w9 = w21)) (F_ordinal_w9 : Fld Z h0 w9 "java/lang/Enum" "ordinal" "I" (.int (1 : Int32))) :
    MetFree l x (head1 (Jvm.Cond.code x code maxLocals ret :: ws) room_1) (fun a U => a = #[(.int p1)] ∧ Z.Warmed39 U.vm ∧ U.heap = h0) (fun _ _ _ _ _ => True) (fun _ U o U' => ∃ v L, o = .returned v ∧ own_QT n0 v L ∧ FrameEnd U o U' L room_1.cells room_1.slots) := by
  refine MetFree.of_bodySF (plainFor_of_name pn_0) hisR ?_
  intro p e s m args below meth c s₁ Bd hml0 hP hK
  obtain ⟨rfl, hZ, hh⟩ := hP
  have hx := Bd.exec
  have hby := Bd.bytes
  have hml : c.maxLocals = 4 := hml0
  have hown : s.vm.findClass "com/example/holdfast/holdfast/config/SourceHoldsListsPinLaw" = some m.cls := findClass_of_methodNamed Bd.named
  have hnm := (name_of_methodNamed Bd.named Bd.method).1
  have X0 : Stand p l e room_1 s m #[(.int p1)] below meth c s₁ [] 0 0 := Stand.of_body Bd
  have e0 : s₁.heap = h0 := by rw [← hh, Bd.state]; rfl
  have N0 := Fr.nil n0
  have pre0 : ∀ t, Steps p.tables e below (s₁.setTop (mkF m 0 #[.val (.int p1), .unset, .unset, .unset] [])) t → Steps p.tables e below (s₁.setTop (entryFrame m #[(.int p1)] maxLocals)) t := fun t k => castTop (ef_0_I m p1) k
  obtain ⟨T2, h2, k2, X2, e2, E2, A2, O2, st2⟩ := newR X0 hx hZ hown (hw _ (List.mem_of_getElem? (i := 0) rfl)) (hw _ (List.mem_of_getElem? (i := 1) rfl)) e0 (g := (mkF m 1 #[.val (.int p1), .unset, .unset, .unset] [(.int (5 : Int32))])) rfl (hb hby at_1) rfl (by decide) (cap := 5) (by decide) (by decide) (by decide) (by decide)
  obtain ⟨b2, g2⟩ : ∃ z, z = h0.size := ⟨_, rfl⟩
  rw [← g2] at A2 st2
  have sz_b2 : h0.size ≤ b2 := Nat.le_trans (Keep.refl h0 []).1 (Nat.le_of_eq g2.symm)
  have g_b2 : n0 ≤ b2 := Nat.le_trans Z0 sz_b2
  have K0_2 : Keep h0 h2 [] := (Keep.refl h0 []).ext E2
  have Z2 : n0 ≤ h2.size := Nat.le_trans Z0 E2.1
  have V_b2 : Arv Z h2 b2 k2 (.object "com/example/holdfast/holdfast/config/Source") (5 : Int32) [.null, .null, .null, .null, .null] .null := (Arv.new A2 (by decide)).pad (pad_rep [] .null 5)
  have f4 := (S_INIT_PARAMETER.ext E2)
  obtain ⟨T5, X5, e5, st5⟩ := getS2 X2 hx hZ hown (host := "") (Or.inl (hw _ (List.mem_of_getElem? (i := 2) rfl))) Via.refl e2 f4 (g := (mkF m 6 #[.val (.int p1), .unset, .unset, .unset] [(.int (0 : Int32)), (.ref b2), (.ref b2)])) rfl (hb hby at_6)
  obtain ⟨cl6, Ar6, q6, S6, N_6, H6, G6⟩ := V_b2
  have hin6 : ¬ ((0 : Int32) < 0 ∨ cl6.slots.size ≤ ((0 : Int32)).toNatClampNeg) := inb_of S6 ⟨by decide, (by decide : (0 : Int32) < (5 : Int32))⟩
  have f7 := (E_w3.ext E2)
  obtain ⟨T8, h8, X8, e8, W8, st8⟩ := stR X5 hx hZ e5 Ar6 (j := (0 : Int32)) hin6 rfl (Sto.ofV Ar6 q6 O2 (Ins.self f7)) (g := (mkF m 9 #[.val (.int p1), .unset, .unset, .unset] [(.ref w3), (.int (0 : Int32)), (.ref b2), (.ref b2)])) rfl rfl (hb hby at_9)
  have K0_8 : Keep h0 h8 [] := K0_2.wr W8 (Or.inr sz_b2)
  have N8 := Fr.snoc X8 N0 g_b2
  have Z8 : n0 ≤ h8.size := Nat.le_trans Z2 (Keep.of_wr W8).1
  have V8 : Arv Z h8 b2 k2 (.object "com/example/holdfast/holdfast/config/Source") (5 : Int32) [(.ref w3), .null, .null, .null, .null] .null := Arv.set Ar6 q6 S6 N_6 H6 G6 rfl W8 0 rfl (Nat.le_of_ble_eq_true rfl)
  have f10 := ((S_SYSTEM_PROPERTY.ext E2).wr W8)
  obtain ⟨T11, X11, e11, st11⟩ := getS2 X8 hx hZ hown (host := "") (Or.inl (hw _ (List.mem_of_getElem? (i := 6) rfl))) Via.refl e8 f10 (g := (mkF m 12 #[.val (.int p1), .unset, .unset, .unset] [(.int (1 : Int32)), (.ref b2), (.ref b2)])) rfl (hb hby at_12)
  obtain ⟨cl12, Ar12, q12, S12, N_12, H12, G12⟩ := V8
  have hin12 : ¬ ((1 : Int32) < 0 ∨ cl12.slots.size ≤ ((1 : Int32)).toNatClampNeg) := inb_of S12 ⟨by decide, (by decide : (1 : Int32) < (5 : Int32))⟩
  have f13 := ((E_w9.ext E2).wr W8)
  obtain ⟨T14, h14, X14, e14, W14, st14⟩ := stR X11 hx hZ e11 Ar12 (j := (1 : Int32)) hin12 rfl (Sto.ofV Ar12 q12 O2 (Ins.self f13)) (g := (mkF m 15 #[.val (.int p1), .unset, .unset, .unset] [(.ref w9), (.int (1 : Int32)), (.ref b2), (.ref b2)])) rfl rfl (hb hby at_15)
  have K0_14 : Keep h0 h14 [] := K0_8.wr W14 (Or.inr sz_b2)
  have N14 := Fr.snoc X14 N8 g_b2
  have Z14 : n0 ≤ h14.size := Nat.le_trans Z8 (Keep.of_wr W14).1
  have V14 : Arv Z h14 b2 k2 (.object "com/example/holdfast/holdfast/config/Source") (5 : Int32) [(.ref w3), (.ref w9), .null, .null, .null] .null := Arv.set Ar12 q12 S12 N_12 H12 G12 rfl W14 1 rfl (Nat.le_of_ble_eq_true rfl)
  have f16 := (((S_ENVIRONMENT.ext E2).wr W8).wr W14)
  obtain ⟨T17, X17, e17, st17⟩ := getS2 X14 hx hZ hown (host := "") (Or.inl (hw _ (List.mem_of_getElem? (i := 8) rfl))) Via.refl e14 f16 (g := (mkF m 18 #[.val (.int p1), .unset, .unset, .unset] [(.int (2 : Int32)), (.ref b2), (.ref b2)])) rfl (hb hby at_18)
  obtain ⟨cl18, Ar18, q18, S18, N_18, H18, G18⟩ := V14
  have hin18 : ¬ ((2 : Int32) < 0 ∨ cl18.slots.size ≤ ((2 : Int32)).toNatClampNeg) := inb_of S18 ⟨by decide, (by decide : (2 : Int32) < (5 : Int32))⟩
  have f19 := (((E_w15.ext E2).wr W8).wr W14)
  obtain ⟨T20, h20, X20, e20, W20, st20⟩ := stR X17 hx hZ e17 Ar18 (j := (2 : Int32)) hin18 rfl (Sto.ofV Ar18 q18 O2 (Ins.self f19)) (g := (mkF m 21 #[.val (.int p1), .unset, .unset, .unset] [(.ref w15), (.int (2 : Int32)), (.ref b2), (.ref b2)])) rfl rfl (hb hby at_21)
  have K0_20 : Keep h0 h20 [] := K0_14.wr W20 (Or.inr sz_b2)
  have N20 := Fr.snoc X20 N14 g_b2
  have Z20 : n0 ≤ h20.size := Nat.le_trans Z14 (Keep.of_wr W20).1
  have V20 : Arv Z h20 b2 k2 (.object "com/example/holdfast/holdfast/config/Source") (5 : Int32) [(.ref w3), (.ref w9), (.ref w15), .null, .null] .null := Arv.set Ar18 q18 S18 N_18 H18 G18 rfl W20 2 rfl (Nat.le_of_ble_eq_true rfl)
  have f22 := ((((S_SPRING_BOOT.ext E2).wr W8).wr W14).wr W20)
  obtain ⟨T23, X23, e23, st23⟩ := getS2 X20 hx hZ hown (host := "") (Or.inl (hw _ (List.mem_of_getElem? (i := 10) rfl))) Via.refl e20 f22 (g := (mkF m 24 #[.val (.int p1), .unset, .unset, .unset] [(.int (3 : Int32)), (.ref b2), (.ref b2)])) rfl (hb hby at_24)
  obtain ⟨cl24, Ar24, q24, S24, N_24, H24, G24⟩ := V20
  have hin24 : ¬ ((3 : Int32) < 0 ∨ cl24.slots.size ≤ ((3 : Int32)).toNatClampNeg) := inb_of S24 ⟨by decide, (by decide : (3 : Int32) < (5 : Int32))⟩
  have f25 := ((((E_w21.ext E2).wr W8).wr W14).wr W20)
  obtain ⟨T26, h26, X26, e26, W26, st26⟩ := stR X23 hx hZ e23 Ar24 (j := (3 : Int32)) hin24 rfl (Sto.ofV Ar24 q24 O2 (Ins.self f25)) (g := (mkF m 27 #[.val (.int p1), .unset, .unset, .unset] [(.ref w21), (.int (3 : Int32)), (.ref b2), (.ref b2)])) rfl rfl (hb hby at_27)
  have K0_26 : Keep h0 h26 [] := K0_20.wr W26 (Or.inr sz_b2)
  have N26 := Fr.snoc X26 N20 g_b2
  have Z26 : n0 ≤ h26.size := Nat.le_trans Z20 (Keep.of_wr W26).1
  have V26 : Arv Z h26 b2 k2 (.object "com/example/holdfast/holdfast/config/Source") (5 : Int32) [(.ref w3), (.ref w9), (.ref w15), (.ref w21), .null] .null := Arv.set Ar24 q24 S24 N_24 H24 G24 rfl W26 3 rfl (Nat.le_of_ble_eq_true rfl)
  have f28 := (((((S_PROPERTIES_FILE.ext E2).wr W8).wr W14).wr W20).wr W26)
  obtain ⟨T29, X29, e29, st29⟩ := getS2 X26 hx hZ hown (host := "") (Or.inl (hw _ (List.mem_of_getElem? (i := 12) rfl))) Via.refl e26 f28 (g := (mkF m 30 #[.val (.int p1), .unset, .unset, .unset] [(.int (4 : Int32)), (.ref b2), (.ref b2)])) rfl (hb hby at_30)
  obtain ⟨cl30, Ar30, q30, S30, N_30, H30, G30⟩ := V26
  have hin30 : ¬ ((4 : Int32) < 0 ∨ cl30.slots.size ≤ ((4 : Int32)).toNatClampNeg) := inb_of S30 ⟨by decide, (by decide : (4 : Int32) < (5 : Int32))⟩
  have f31 := (((((E_w27.ext E2).wr W8).wr W14).wr W20).wr W26)
  obtain ⟨T32, h32, X32, e32, W32, st32⟩ := stR X29 hx hZ e29 Ar30 (j := (4 : Int32)) hin30 rfl (Sto.ofV Ar30 q30 O2 (Ins.self f31)) (g := (mkF m 33 #[.val (.int p1), .unset, .unset, .unset] [(.ref w27), (.int (4 : Int32)), (.ref b2), (.ref b2)])) rfl rfl (hb hby at_33)
  have K0_32 : Keep h0 h32 [] := K0_26.wr W32 (Or.inr sz_b2)
  have N32 := Fr.snoc X32 N26 g_b2
  have Z32 : n0 ≤ h32.size := Nat.le_trans Z26 (Keep.of_wr W32).1
  have V32 : Arv Z h32 b2 k2 (.object "com/example/holdfast/holdfast/config/Source") (5 : Int32) [(.ref w3), (.ref w9), (.ref w15), (.ref w21), (.ref w27)] .null := Arv.set Ar30 q30 S30 N_30 H30 G30 rfl W32 4 rfl (Nat.le_of_ble_eq_true rfl)
  obtain ⟨cl33, Ar33, q33, S33, N_33, H33, G33⟩ := V32
  have hin33 : ¬ (((p1 &&& (2147483647 : Int32)) % (5 : Int32)) < 0 ∨ cl33.slots.size ≤ (((p1 &&& (2147483647 : Int32)) % (5 : Int32))).toNatClampNeg) := inb_of S33 ⟨by rw [P34]; decide, by rw [P34]; exact (by decide : (1 : Int32) < (5 : Int32))⟩
  have hat33 : cl33.slots[(((p1 &&& (2147483647 : Int32)) % (5 : Int32))).toNatClampNeg]? = some (.ref w9) := Has.at H33 hin33 (by rw [P34]; rfl)
  have f35 := ((f22.wr W26).wr W32)
  obtain ⟨T36, X36, e36, st36⟩ := getS2 X32 hx hZ hown (host := "") (Or.inl (hw _ (List.mem_of_getElem? (i := 10) rfl))) Via.refl e32 f35 (g := (mkF m 45 #[.val (.int p1), .val (.ref b2), .val (.ref w9), .unset] [(.ref w9)])) rfl (hb hby at_45)
  have ne38 : w9 ≠ b2 := Nat.ne_of_lt (Nat.lt_of_lt_of_le E_w9.lt (Nat.le_of_eq g2.symm))
  have f39 := ((((((F_ordinal_w9.ext E2).other W8 (Or.inl ne38)).other W14 (Or.inl ne38)).other W20 (Or.inl ne38)).other W26 (Or.inl ne38)).other W32 (Or.inl ne38))
  have f40 := ((((f13.wr W14).wr W20).wr W26).wr W32)
  obtain ⟨cq41, kq41, q41a, q41b, q41c⟩ := isOf hZ e36 f40
  obtain ⟨_, _, ⟨T41, L41, k41, n41⟩, -, X41, ⟨Lc41, hQ41, l41, y41, z41⟩, st41⟩ := X36.virtualBack hx (y := (⟨"com/example/holdfast/holdfast/config/Source", "holdsLists", "()Z"⟩ : MethodName)) (z := (⟨"com/example/holdfast/holdfast/config/Source", "holdsLists", "()Z"⟩ : MethodName)) hown (mvT hZ (hw _ (List.mem_of_getElem? (i := 15) rfl))) (mvT hZ (hw _ (List.mem_of_getElem? (i := 16) rfl))) (notFace_of_selects (args := #[]) (mvT hZ (hw _ (List.mem_of_getElem? (i := 18) rfl)))) (mvT hZ (hw _ (List.mem_of_getElem? (i := 18) rfl))) (mvT hZ (hw _ (List.mem_of_getElem? (i := 17) rfl))) (by decide) (backOf (W := 0) (rm1_2 l Z a0 hw [] w9 h32 n0 Z32 f39 f40) hZ (hw _ (List.mem_of_getElem? (i := 19) rfl)) (hw _ (List.mem_of_getElem? (i := 3) rfl)) (by decide) (by decide)) q41a q41c (g := (mkF m 58 #[.val (.int p1), .val (.ref b2), .val (.ref w9), .val (.int (0 : Int32))] [(.ref w9)])) rfl (by rw [hml]; rfl) (Steps.refl _) (argsL := []) (rest := []) (lenOf pd_1 rfl) rfl (by show 2 * 0 + _ ≤ _; exact Nat.le_of_eq rfl) (hb hby at_58) (fun _ _ => ⟨rfl, e36, (by decide : 1 + 0 ≤ _), (by decide : 5 + 0 ≤ _)⟩)
  dsimp only [Pt.U, Pt.locs, Pt.cells, Pt.slots] at X41 l41 y41 z41 st41 hQ41
  subst l41 y41 z41
  obtain ⟨rfl, Nq41, e41⟩ := hQ41
  have N41 := Fr.app N32 Nq41
  obtain ⟨fs, hr, hrun, hended, hW, hsame⟩ := X41.leave (v := some (.int (1 : Int32))) (fun h => by rw [Bd.returns] at h; cases h)
  refine ⟨_, _, pre0 _ ?_, hrun, hended, _, _, rfl, ?_, ⟨_, rfl⟩, hW, hsame.mono (by decide) (by decide)⟩
  · show Steps p.tables e below (s₁.setTop (mkF m 0 #[.val (.int p1), .unset, .unset, .unset] [])) _
    refine XS.iconst X0.here hx rfl (hb hby at_0) ?_
    show Steps p.tables e below (s₁.setTop (mkF m 1 #[.val (.int p1), .unset, .unset, .unset] [(.int (5 : Int32))])) _
    refine st2 _ ?_
    show Steps p.tables e below (T2.setTop (mkF m 4 #[.val (.int p1), .unset, .unset, .unset] [(.ref b2)])) _
    refine XS.dup X2.here hx rfl (hb hby at_4) rfl rfl ?_
    show Steps p.tables e below (T2.setTop (mkF m 5 #[.val (.int p1), .unset, .unset, .unset] [(.ref b2), (.ref b2)])) _
    refine XS.iconst X2.here hx rfl (hb hby at_5) ?_
    show Steps p.tables e below (T2.setTop (mkF m 6 #[.val (.int p1), .unset, .unset, .unset] [(.int (0 : Int32)), (.ref b2), (.ref b2)])) _
    refine st5 _ ?_
    show Steps p.tables e below (T5.setTop (mkF m 9 #[.val (.int p1), .unset, .unset, .unset] [(.ref w3), (.int (0 : Int32)), (.ref b2), (.ref b2)])) _
    refine st8 _ ?_
    show Steps p.tables e below (T8.setTop (mkF m 10 #[.val (.int p1), .unset, .unset, .unset] [(.ref b2)])) _
    refine XS.dup X8.here hx rfl (hb hby at_10) rfl rfl ?_
    show Steps p.tables e below (T8.setTop (mkF m 11 #[.val (.int p1), .unset, .unset, .unset] [(.ref b2), (.ref b2)])) _
    refine XS.iconst X8.here hx rfl (hb hby at_11) ?_
    show Steps p.tables e below (T8.setTop (mkF m 12 #[.val (.int p1), .unset, .unset, .unset] [(.int (1 : Int32)), (.ref b2), (.ref b2)])) _
    refine st11 _ ?_
    show Steps p.tables e below (T11.setTop (mkF m 15 #[.val (.int p1), .unset, .unset, .unset] [(.ref w9), (.int (1 : Int32)), (.ref b2), (.ref b2)])) _
    refine st14 _ ?_
    show Steps p.tables e below (T14.setTop (mkF m 16 #[.val (.int p1), .unset, .unset, .unset] [(.ref b2)])) _
    refine XS.dup X14.here hx rfl (hb hby at_16) rfl rfl ?_
    show Steps p.tables e below (T14.setTop (mkF m 17 #[.val (.int p1), .unset, .unset, .unset] [(.ref b2), (.ref b2)])) _
    refine XS.iconst X14.here hx rfl (hb hby at_17) ?_
    show Steps p.tables e below (T14.setTop (mkF m 18 #[.val (.int p1), .unset, .unset, .unset] [(.int (2 : Int32)), (.ref b2), (.ref b2)])) _
    refine st17 _ ?_
    show Steps p.tables e below (T17.setTop (mkF m 21 #[.val (.int p1), .unset, .unset, .unset] [(.ref w15), (.int (2 : Int32)), (.ref b2), (.ref b2)])) _
    refine st20 _ ?_
    show Steps p.tables e below (T20.setTop (mkF m 22 #[.val (.int p1), .unset, .unset, .unset] [(.ref b2)])) _
    refine XS.dup X20.here hx rfl (hb hby at_22) rfl rfl ?_
    show Steps p.tables e below (T20.setTop (mkF m 23 #[.val (.int p1), .unset, .unset, .unset] [(.ref b2), (.ref b2)])) _
    refine XS.iconst X20.here hx rfl (hb hby at_23) ?_
    show Steps p.tables e below (T20.setTop (mkF m 24 #[.val (.int p1), .unset, .unset, .unset] [(.int (3 : Int32)), (.ref b2), (.ref b2)])) _
    refine st23 _ ?_
    show Steps p.tables e below (T23.setTop (mkF m 27 #[.val (.int p1), .unset, .unset, .unset] [(.ref w21), (.int (3 : Int32)), (.ref b2), (.ref b2)])) _
    refine st26 _ ?_
    show Steps p.tables e below (T26.setTop (mkF m 28 #[.val (.int p1), .unset, .unset, .unset] [(.ref b2)])) _
    refine XS.dup X26.here hx rfl (hb hby at_28) rfl rfl ?_
    show Steps p.tables e below (T26.setTop (mkF m 29 #[.val (.int p1), .unset, .unset, .unset] [(.ref b2), (.ref b2)])) _
    refine XS.iconst X26.here hx rfl (hb hby at_29) ?_
    show Steps p.tables e below (T26.setTop (mkF m 30 #[.val (.int p1), .unset, .unset, .unset] [(.int (4 : Int32)), (.ref b2), (.ref b2)])) _
    refine st29 _ ?_
    show Steps p.tables e below (T29.setTop (mkF m 33 #[.val (.int p1), .unset, .unset, .unset] [(.ref w27), (.int (4 : Int32)), (.ref b2), (.ref b2)])) _
    refine st32 _ ?_
    show Steps p.tables e below (T32.setTop (mkF m 34 #[.val (.int p1), .unset, .unset, .unset] [(.ref b2)])) _
    refine XS.astoreN X32.here hx rfl (hb hby at_34) rfl rfl (l' := #[.val (.int p1), .val (.ref b2), .unset, .unset]) rfl ?_
    show Steps p.tables e below (T32.setTop (mkF m 35 #[.val (.int p1), .val (.ref b2), .unset, .unset] [])) _
    refine XS.aloadN X32.here hx rfl (hb hby at_35) rfl rfl ?_
    show Steps p.tables e below (T32.setTop (mkF m 36 #[.val (.int p1), .val (.ref b2), .unset, .unset] [(.ref b2)])) _
    refine XS.iloadN X32.here hx rfl (hb hby at_36) rfl ?_
    show Steps p.tables e below (T32.setTop (mkF m 37 #[.val (.int p1), .val (.ref b2), .unset, .unset] [(.int p1), (.ref b2)])) _
    refine X32.ldcInt hx hown (mvT hZ (hw _ (List.mem_of_getElem? (i := 14) rfl))) (g := (mkF m 37 #[.val (.int p1), .val (.ref b2), .unset, .unset] [(.int p1), (.ref b2)])) rfl (hb hby at_37) _ ?_
    show Steps p.tables e below (T32.setTop (mkF m 39 #[.val (.int p1), .val (.ref b2), .unset, .unset] [(.int (2147483647 : Int32)), (.int p1), (.ref b2)])) _
    refine XS.iand X32.here hx rfl (hb hby at_39) rfl ?_
    show Steps p.tables e below (T32.setTop (mkF m 40 #[.val (.int p1), .val (.ref b2), .unset, .unset] [(.int (p1 &&& (2147483647 : Int32))), (.ref b2)])) _
    refine XS.iconst X32.here hx rfl (hb hby at_40) ?_
    show Steps p.tables e below (T32.setTop (mkF m 41 #[.val (.int p1), .val (.ref b2), .unset, .unset] [(.int (5 : Int32)), (.int (p1 &&& (2147483647 : Int32))), (.ref b2)])) _
    refine iremM X32 hx rfl (hb hby at_41) rfl (by decide : ¬ ((5 : Int32) = (0 : Int32))) ?_
    show Steps p.tables e below (T32.setTop (mkF m 42 #[.val (.int p1), .val (.ref b2), .unset, .unset] [(.int ((p1 &&& (2147483647 : Int32)) % (5 : Int32))), (.ref b2)])) _
    refine X32.aaload hx (j := ((p1 &&& (2147483647 : Int32)) % (5 : Int32))) (v := (.ref w9)) (by rw [e32]; exact Ar33.1) (State.isArrayOf_alike hZ.alike Ar33.2.1) rfl Ar33.2.2 hin33 hat33 (g := (mkF m 42 #[.val (.int p1), .val (.ref b2), .unset, .unset] [(.int ((p1 &&& (2147483647 : Int32)) % (5 : Int32))), (.ref b2)])) rfl rfl (hb hby at_42) _ ?_
    show Steps p.tables e below (T32.setTop (mkF m 43 #[.val (.int p1), .val (.ref b2), .unset, .unset] [(.ref w9)])) _
    refine XS.astoreN X32.here hx rfl (hb hby at_43) rfl rfl (l' := #[.val (.int p1), .val (.ref b2), .val (.ref w9), .unset]) rfl ?_
    show Steps p.tables e below (T32.setTop (mkF m 44 #[.val (.int p1), .val (.ref b2), .val (.ref w9), .unset] [])) _
    refine XS.aloadN X32.here hx rfl (hb hby at_44) rfl rfl ?_
    show Steps p.tables e below (T32.setTop (mkF m 45 #[.val (.int p1), .val (.ref b2), .val (.ref w9), .unset] [(.ref w9)])) _
    refine st36 _ ?_
    show Steps p.tables e below (T36.setTop (mkF m 48 #[.val (.int p1), .val (.ref b2), .val (.ref w9), .unset] [(.ref w21), (.ref w9)])) _
    refine Jvm.RoadKit.acmp (g := (mkF m 48 #[.val (.int p1), .val (.ref b2), .val (.ref w9), .unset] [(.ref w21), (.ref w9)])) X36 hx rfl rfl rfl (pc0 := 48) (pc' := 55) (same := false) rfl (hb hby at_48) rfl (decide_eq_false fun q => P37 (Value.ref.inj q)) (by decide) (by decide) ?_
    show Steps p.tables e below (T36.setTop (mkF m 55 #[.val (.int p1), .val (.ref b2), .val (.ref w9), .unset] [])) _
    refine XS.iconst X36.here hx rfl (hb hby at_55) ?_
    show Steps p.tables e below (T36.setTop (mkF m 56 #[.val (.int p1), .val (.ref b2), .val (.ref w9), .unset] [(.int (0 : Int32))])) _
    refine XS.istoreN X36.here hx rfl (hb hby at_56) rfl (l' := #[.val (.int p1), .val (.ref b2), .val (.ref w9), .val (.int (0 : Int32))]) rfl ?_
    show Steps p.tables e below (T36.setTop (mkF m 57 #[.val (.int p1), .val (.ref b2), .val (.ref w9), .val (.int (0 : Int32))] [])) _
    refine XS.aloadN X36.here hx rfl (hb hby at_57) rfl rfl ?_
    show Steps p.tables e below (T36.setTop (mkF m 58 #[.val (.int p1), .val (.ref b2), .val (.ref w9), .val (.int (0 : Int32))] [(.ref w9)])) _
    refine st41.trans ?_
    show Steps p.tables e below (T41.setTop (mkF m 61 #[.val (.int p1), .val (.ref b2), .val (.ref w9), .val (.int (0 : Int32))] [(.int (0 : Int32))])) _
    refine XS.iloadN X41.here hx rfl (hb hby at_61) rfl ?_
    show Steps p.tables e below (T41.setTop (mkF m 62 #[.val (.int p1), .val (.ref b2), .val (.ref w9), .val (.int (0 : Int32))] [(.int (0 : Int32)), (.int (0 : Int32))])) _
    refine XS.icmpNo X41.here hx rfl (hb hby at_62) rfl (teq (rfl : (0 : Int32) = (0 : Int32))).2 ?_
    show Steps p.tables e below (T41.setTop (mkF m 65 #[.val (.int p1), .val (.ref b2), .val (.ref w9), .val (.int (0 : Int32))] [])) _
    refine XS.iconst X41.here hx rfl (hb hby at_65) ?_
    show Steps p.tables e below (T41.setTop (mkF m 66 #[.val (.int p1), .val (.ref b2), .val (.ref w9), .val (.int (0 : Int32))] [(.int (1 : Int32))])) _
    refine XS.goto X41.here hx rfl (pc0 := 66) (pc' := 70) rfl (hb hby at_66) (by decide) (by decide) ?_
    show Steps p.tables e below (T41.setTop (mkF m 70 #[.val (.int p1), .val (.ref b2), .val (.ref w9), .val (.int (0 : Int32))] [(.int (1 : Int32))])) _
    exact retN X41 hx (t := .boolean) Bd.returns (by simp) (hb hby at_70) hr
  · exact ⟨rfl, N41⟩
def Q2_3 (Z : State) (a1 : Addr) (h0 : Heap) (n0 : Nat) (v : Option Value) (h : Heap) (L : List Loc) : Prop := v = some (.int (2 : Int32)) ∧ Fr n0 L ∧ h = h0
set_option maxRecDepth 65536 in
set_option maxHeartbeats 40000000 in
theorem rm2_3 (l : Launch) (Z : State) (a0 : Array Value) (hw : ∀ d ∈ tables_1, d.before a0 Z = true) (ws : List Jvm.Cond) (a1 : Addr) (h0 : Heap) (n0 : Nat) (Z0 : n0 ≤ h0.size) (F_ordinal_a1 : Fld Z h0 a1 "java/lang/Enum" "ordinal" "I" (.int (2 : Int32))) :
    MetFree l (⟨"java/lang/Enum", "ordinal", "()I"⟩ : MethodName) (head1 (Jvm.Cond.code (⟨"java/lang/Enum", "ordinal", "()I"⟩ : MethodName) jdk_37_method_2_code 1 (some .int) :: ws) ({ frames := 0, cells := 0, slots := 0, locals := 0 } : Room)) (fun a U => a = #[(.ref a1)] ∧ Z.Warmed39 U.vm ∧ U.heap = h0) (fun _ _ _ _ _ => True) (fun _ U o U' => ∃ v L, o = .returned v ∧ Q2_3 Z a1 h0 n0 v U'.heap L ∧ FrameEnd U o U' L ({ frames := 0, cells := 0, slots := 0, locals := 0 } : Room).cells ({ frames := 0, cells := 0, slots := 0, locals := 0 } : Room).slots) := by
  refine MetFree.of_bodySF (plainFor_of_name pn_2) hisR ?_
  intro p e s m args below meth c s₁ Bd hml0 hP hK
  obtain ⟨rfl, hZ, hh⟩ := hP
  have hx := Bd.exec
  have hby := Bd.bytes
  have hml : c.maxLocals = 1 := hml0
  have hown : s.vm.findClass "java/lang/Enum" = some m.cls := findClass_of_methodNamed Bd.named
  have hnm := (name_of_methodNamed Bd.named Bd.method).1
  have X0 : Stand p l e ({ frames := 0, cells := 0, slots := 0, locals := 0 } : Room) s m #[(.ref a1)] below meth c s₁ [] 0 0 := Stand.of_body Bd
  have e0 : s₁.heap = h0 := by rw [← hh, Bd.state]; rfl
  have N0 := Fr.nil n0
  have pre0 : ∀ t, Steps p.tables e below (s₁.setTop (mkF m 0 #[.val (.ref a1)] [])) t → Steps p.tables e below (s₁.setTop (entryFrame m #[(.ref a1)] 1)) t := fun t k => castTop (ef_2_R m a1) k
  obtain ⟨T2, X2, e2, st2⟩ := getF X0 hx hZ hown (host := "") (Or.inl (hw _ (List.mem_of_getElem? (i := 27) rfl))) Via.refl e0 F_ordinal_a1 (g := (mkF m 1 #[.val (.ref a1)] [(.ref a1)])) rfl rfl (hb hby d2_1)
  obtain ⟨fs, hr, hrun, hended, hW, hsame⟩ := X2.leave (v := some (.int (2 : Int32))) (fun h => by rw [Bd.returns] at h; cases h)
  refine ⟨_, _, pre0 _ ?_, hrun, hended, _, _, rfl, ?_, ⟨_, rfl⟩, hW, hsame.mono (by decide) (by decide)⟩
  · show Steps p.tables e below (s₁.setTop (mkF m 0 #[.val (.ref a1)] [])) _
    refine XS.aloadN X0.here hx rfl (hb hby d2_0) rfl rfl ?_
    show Steps p.tables e below (s₁.setTop (mkF m 1 #[.val (.ref a1)] [(.ref a1)])) _
    refine st2 _ ?_
    show Steps p.tables e below (T2.setTop (mkF m 4 #[.val (.ref a1)] [(.int (2 : Int32))])) _
    exact retI X2 hx Bd.returns (hb hby d2_4) hr
  · show Q2_3 Z a1 h0 n0 _ T2.heap _
    rw [e2]
    exact ⟨rfl, N0, rfl⟩
def Q1_3 (Z : State) (a1 : Addr) (h0 : Heap) (n0 : Nat) (v : Option Value) (h : Heap) (L : List Loc) : Prop := v = some (.int (0 : Int32)) ∧ Fr n0 L ∧ h = h0
set_option maxRecDepth 65536 in
set_option maxHeartbeats 40000000 in
theorem rm1_3 (l : Launch) (Z : State) (a0 : Array Value) (hw : ∀ d ∈ tables_1, d.before a0 Z = true) (ws : List Jvm.Cond) (a1 : Addr) (h0 : Heap) (n0 : Nat) (Z0 : n0 ≤ h0.size) (F_ordinal_a1 : Fld Z h0 a1 "java/lang/Enum" "ordinal" "I" (.int (2 : Int32))) (E_a1 : Exa Z h0 a1 "com/example/holdfast/holdfast/config/Source") :
    MetFree l (⟨"com/example/holdfast/holdfast/config/Source", "holdsLists", "()Z"⟩ : MethodName) (head1 (Jvm.Cond.code (⟨"com/example/holdfast/holdfast/config/Source", "holdsLists", "()Z"⟩ : MethodName) prog_7_method_9_code 1 (some .boolean) :: ws) ({ frames := 1, cells := 0, slots := 0, locals := 12 } : Room)) (fun a U => a = #[(.ref a1)] ∧ Z.Warmed39 U.vm ∧ U.heap = h0) (fun _ _ _ _ _ => True) (fun _ U o U' => ∃ v L, o = .returned v ∧ Q1_3 Z a1 h0 n0 v U'.heap L ∧ FrameEnd U o U' L ({ frames := 1, cells := 0, slots := 0, locals := 12 } : Room).cells ({ frames := 1, cells := 0, slots := 0, locals := 12 } : Room).slots) := by
  refine MetFree.of_bodySF (plainFor_of_name pn_1) hisR ?_
  intro p e s m args below meth c s₁ Bd hml0 hP hK
  obtain ⟨rfl, hZ, hh⟩ := hP
  have hx := Bd.exec
  have hby := Bd.bytes
  have hml : c.maxLocals = 1 := hml0
  have hown : s.vm.findClass "com/example/holdfast/holdfast/config/Source" = some m.cls := findClass_of_methodNamed Bd.named
  have hnm := (name_of_methodNamed Bd.named Bd.method).1
  have X0 : Stand p l e ({ frames := 1, cells := 0, slots := 0, locals := 12 } : Room) s m #[(.ref a1)] below meth c s₁ [] 0 0 := Stand.of_body Bd
  have e0 : s₁.heap = h0 := by rw [← hh, Bd.state]; rfl
  have N0 := Fr.nil n0
  have pre0 : ∀ t, Steps p.tables e below (s₁.setTop (mkF m 0 #[.val (.ref a1)] [])) t → Steps p.tables e below (s₁.setTop (entryFrame m #[(.ref a1)] 1)) t := fun t k => castTop (ef_1_R m a1) k
  obtain ⟨cq2, kq2, q2a, q2b, q2c⟩ := isOf hZ e0 E_a1
  obtain ⟨_, _, ⟨T2, L2, k2, n2⟩, -, X2, ⟨Lc2, hQ2, l2, y2, z2⟩, st2⟩ := X0.virtualBackUp hx (x := (⟨"com/example/holdfast/holdfast/config/Source", "ordinal", "()I"⟩ : MethodName)) (y := (⟨"java/lang/Enum", "ordinal", "()I"⟩ : MethodName)) (owner := "java/lang/Enum") hown (mvT hZ (hw _ (List.mem_of_getElem? (i := 20) rfl))) (mvT hZ (hw _ (List.mem_of_getElem? (i := 21) rfl))) (mvT hZ (hw _ (List.mem_of_getElem? (i := 22) rfl))) (by decide) (mvT hZ (hw _ (List.mem_of_getElem? (i := 24) rfl))) (mvT hZ (hw _ (List.mem_of_getElem? (i := 23) rfl))) (backOf (W := 0) (rm2_3 l Z a0 hw [] a1 h0 n0 Z0 F_ordinal_a1) hZ (hw _ (List.mem_of_getElem? (i := 26) rfl)) (hw _ (List.mem_of_getElem? (i := 25) rfl)) (by decide) (by decide)) q2a q2c (g := (mkF m 1 #[.val (.ref a1)] [(.ref a1)])) rfl (by rw [hml]; rfl) (Steps.refl _) (argsL := []) (rest := []) (lenOf pd_0 rfl) rfl (by show 2 * 0 + _ ≤ _; exact Nat.le_of_eq rfl) (hb hby d1_1) (fun _ _ => ⟨rfl, e0, (by decide : 0 + 0 ≤ _), (by decide : 0 + 0 ≤ _)⟩)
  dsimp only [Pt.U, Pt.locs, Pt.cells, Pt.slots] at X2 l2 y2 z2 st2 hQ2
  subst l2 y2 z2
  obtain ⟨rfl, Nq2, e2⟩ := hQ2
  have N2 := Fr.app N0 Nq2
  obtain ⟨fs, hr, hrun, hended, hW, hsame⟩ := X2.leave (v := some (.int (0 : Int32))) (fun h => by rw [Bd.returns] at h; cases h)
  refine ⟨_, _, pre0 _ ?_, hrun, hended, _, _, rfl, ?_, ⟨_, rfl⟩, hW, hsame.mono (by decide) (by decide)⟩
  · show Steps p.tables e below (s₁.setTop (mkF m 0 #[.val (.ref a1)] [])) _
    refine XS.aloadN X0.here hx rfl (hb hby d1_0) rfl rfl ?_
    show Steps p.tables e below (s₁.setTop (mkF m 1 #[.val (.ref a1)] [(.ref a1)])) _
    refine st2.trans ?_
    show Steps p.tables e below (T2.setTop (mkF m 4 #[.val (.ref a1)] [(.int (2 : Int32))])) _
    refine X2.tableswitchIn hx (g := (mkF m 4 #[.val (.ref a1)] [(.int (2 : Int32))])) rfl rfl (hb hby d1_4) (by decide) (off := 50) (by decide) (by show 0 ≤ ((4 : Nat) : Int) + 50; decide) _ ?_
    show Steps p.tables e below (T2.setTop (mkF m 54 #[.val (.ref a1)] [])) _
    refine XS.iconst X2.here hx rfl (hb hby d1_54) ?_
    show Steps p.tables e below (T2.setTop (mkF m 55 #[.val (.ref a1)] [(.int (0 : Int32))])) _
    exact retN X2 hx (t := .boolean) Bd.returns (by simp) (hb hby d1_55) hr
  · show Q1_3 Z a1 h0 n0 _ T2.heap _
    rw [e2]
    exact ⟨rfl, N2, rfl⟩
set_option maxRecDepth 65536 in
set_option maxHeartbeats 40000000 in
theorem rm0_3 (l : Launch) (Z : State) (a0 : Array Value) (hw : ∀ d ∈ tables_1, d.before a0 Z = true) (ws : List Jvm.Cond) (p1 : Int32) (w3 : Addr) (w9 : Addr) (w15 : Addr) (w21 : Addr) (w27 : Addr) (h0 : Heap) (n0 : Nat) (Z0 : n0 ≤ h0.size) (S_INIT_PARAMETER : Sta Z h0 "com/example/holdfast/holdfast/config/Source" "INIT_PARAMETER" "Lcom/example/holdfast/holdfast/config/Source;" (.ref w3)) (E_w3 : Exa Z h0 w3 "com/example/holdfast/holdfast/config/Source") (S_SYSTEM_PROPERTY : Sta Z h0 "com/example/holdfast/holdfast/config/Source" "SYSTEM_PROPERTY" "Lcom/example/holdfast/holdfast/config/Source;" (.ref w9)) (E_w9 : Exa Z h0 w9 "com/example/holdfast/holdfast/config/Source") (S_ENVIRONMENT : Sta Z h0 "com/example/holdfast/holdfast/config/Source" "ENVIRONMENT" "Lcom/example/holdfast/holdfast/config/Source;" (.ref w15)) (E_w15 : Exa Z h0 w15 "com/example/holdfast/holdfast/config/Source") (S_SPRING_BOOT : Sta Z h0 "com/example/holdfast/holdfast/config/Source" "SPRING_BOOT" "Lcom/example/holdfast/holdfast/config/Source;" (.ref w21)) (E_w21 : Exa Z h0 w21 "com/example/holdfast/holdfast/config/Source") (S_PROPERTIES_FILE : Sta Z h0 "com/example/holdfast/holdfast/config/Source" "PROPERTIES_FILE" "Lcom/example/holdfast/holdfast/config/Source;" (.ref w27)) (E_w27 : Exa Z h0 w27 "com/example/holdfast/holdfast/config/Source") (P34 : ((p1 &&& (2147483647 : Int32)) % (5 : Int32)) = (2 : Int32)) (P37 : ¬ (w15 = w21)) (F_ordinal_w15 : Fld Z h0 w15 "java/lang/Enum" "ordinal" "I" (.int (2 : Int32))) :
    MetFree l x (head1 (Jvm.Cond.code x code maxLocals ret :: ws) room_1) (fun a U => a = #[(.int p1)] ∧ Z.Warmed39 U.vm ∧ U.heap = h0) (fun _ _ _ _ _ => True) (fun _ U o U' => ∃ v L, o = .returned v ∧ own_QT n0 v L ∧ FrameEnd U o U' L room_1.cells room_1.slots) := by
  refine MetFree.of_bodySF (plainFor_of_name pn_0) hisR ?_
  intro p e s m args below meth c s₁ Bd hml0 hP hK
  obtain ⟨rfl, hZ, hh⟩ := hP
  have hx := Bd.exec
  have hby := Bd.bytes
  have hml : c.maxLocals = 4 := hml0
  have hown : s.vm.findClass "com/example/holdfast/holdfast/config/SourceHoldsListsPinLaw" = some m.cls := findClass_of_methodNamed Bd.named
  have hnm := (name_of_methodNamed Bd.named Bd.method).1
  have X0 : Stand p l e room_1 s m #[(.int p1)] below meth c s₁ [] 0 0 := Stand.of_body Bd
  have e0 : s₁.heap = h0 := by rw [← hh, Bd.state]; rfl
  have N0 := Fr.nil n0
  have pre0 : ∀ t, Steps p.tables e below (s₁.setTop (mkF m 0 #[.val (.int p1), .unset, .unset, .unset] [])) t → Steps p.tables e below (s₁.setTop (entryFrame m #[(.int p1)] maxLocals)) t := fun t k => castTop (ef_0_I m p1) k
  obtain ⟨T2, h2, k2, X2, e2, E2, A2, O2, st2⟩ := newR X0 hx hZ hown (hw _ (List.mem_of_getElem? (i := 0) rfl)) (hw _ (List.mem_of_getElem? (i := 1) rfl)) e0 (g := (mkF m 1 #[.val (.int p1), .unset, .unset, .unset] [(.int (5 : Int32))])) rfl (hb hby at_1) rfl (by decide) (cap := 5) (by decide) (by decide) (by decide) (by decide)
  obtain ⟨b2, g2⟩ : ∃ z, z = h0.size := ⟨_, rfl⟩
  rw [← g2] at A2 st2
  have sz_b2 : h0.size ≤ b2 := Nat.le_trans (Keep.refl h0 []).1 (Nat.le_of_eq g2.symm)
  have g_b2 : n0 ≤ b2 := Nat.le_trans Z0 sz_b2
  have K0_2 : Keep h0 h2 [] := (Keep.refl h0 []).ext E2
  have Z2 : n0 ≤ h2.size := Nat.le_trans Z0 E2.1
  have V_b2 : Arv Z h2 b2 k2 (.object "com/example/holdfast/holdfast/config/Source") (5 : Int32) [.null, .null, .null, .null, .null] .null := (Arv.new A2 (by decide)).pad (pad_rep [] .null 5)
  have f4 := (S_INIT_PARAMETER.ext E2)
  obtain ⟨T5, X5, e5, st5⟩ := getS2 X2 hx hZ hown (host := "") (Or.inl (hw _ (List.mem_of_getElem? (i := 2) rfl))) Via.refl e2 f4 (g := (mkF m 6 #[.val (.int p1), .unset, .unset, .unset] [(.int (0 : Int32)), (.ref b2), (.ref b2)])) rfl (hb hby at_6)
  obtain ⟨cl6, Ar6, q6, S6, N_6, H6, G6⟩ := V_b2
  have hin6 : ¬ ((0 : Int32) < 0 ∨ cl6.slots.size ≤ ((0 : Int32)).toNatClampNeg) := inb_of S6 ⟨by decide, (by decide : (0 : Int32) < (5 : Int32))⟩
  have f7 := (E_w3.ext E2)
  obtain ⟨T8, h8, X8, e8, W8, st8⟩ := stR X5 hx hZ e5 Ar6 (j := (0 : Int32)) hin6 rfl (Sto.ofV Ar6 q6 O2 (Ins.self f7)) (g := (mkF m 9 #[.val (.int p1), .unset, .unset, .unset] [(.ref w3), (.int (0 : Int32)), (.ref b2), (.ref b2)])) rfl rfl (hb hby at_9)
  have K0_8 : Keep h0 h8 [] := K0_2.wr W8 (Or.inr sz_b2)
  have N8 := Fr.snoc X8 N0 g_b2
  have Z8 : n0 ≤ h8.size := Nat.le_trans Z2 (Keep.of_wr W8).1
  have V8 : Arv Z h8 b2 k2 (.object "com/example/holdfast/holdfast/config/Source") (5 : Int32) [(.ref w3), .null, .null, .null, .null] .null := Arv.set Ar6 q6 S6 N_6 H6 G6 rfl W8 0 rfl (Nat.le_of_ble_eq_true rfl)
  have f10 := ((S_SYSTEM_PROPERTY.ext E2).wr W8)
  obtain ⟨T11, X11, e11, st11⟩ := getS2 X8 hx hZ hown (host := "") (Or.inl (hw _ (List.mem_of_getElem? (i := 6) rfl))) Via.refl e8 f10 (g := (mkF m 12 #[.val (.int p1), .unset, .unset, .unset] [(.int (1 : Int32)), (.ref b2), (.ref b2)])) rfl (hb hby at_12)
  obtain ⟨cl12, Ar12, q12, S12, N_12, H12, G12⟩ := V8
  have hin12 : ¬ ((1 : Int32) < 0 ∨ cl12.slots.size ≤ ((1 : Int32)).toNatClampNeg) := inb_of S12 ⟨by decide, (by decide : (1 : Int32) < (5 : Int32))⟩
  have f13 := ((E_w9.ext E2).wr W8)
  obtain ⟨T14, h14, X14, e14, W14, st14⟩ := stR X11 hx hZ e11 Ar12 (j := (1 : Int32)) hin12 rfl (Sto.ofV Ar12 q12 O2 (Ins.self f13)) (g := (mkF m 15 #[.val (.int p1), .unset, .unset, .unset] [(.ref w9), (.int (1 : Int32)), (.ref b2), (.ref b2)])) rfl rfl (hb hby at_15)
  have K0_14 : Keep h0 h14 [] := K0_8.wr W14 (Or.inr sz_b2)
  have N14 := Fr.snoc X14 N8 g_b2
  have Z14 : n0 ≤ h14.size := Nat.le_trans Z8 (Keep.of_wr W14).1
  have V14 : Arv Z h14 b2 k2 (.object "com/example/holdfast/holdfast/config/Source") (5 : Int32) [(.ref w3), (.ref w9), .null, .null, .null] .null := Arv.set Ar12 q12 S12 N_12 H12 G12 rfl W14 1 rfl (Nat.le_of_ble_eq_true rfl)
  have f16 := (((S_ENVIRONMENT.ext E2).wr W8).wr W14)
  obtain ⟨T17, X17, e17, st17⟩ := getS2 X14 hx hZ hown (host := "") (Or.inl (hw _ (List.mem_of_getElem? (i := 8) rfl))) Via.refl e14 f16 (g := (mkF m 18 #[.val (.int p1), .unset, .unset, .unset] [(.int (2 : Int32)), (.ref b2), (.ref b2)])) rfl (hb hby at_18)
  obtain ⟨cl18, Ar18, q18, S18, N_18, H18, G18⟩ := V14
  have hin18 : ¬ ((2 : Int32) < 0 ∨ cl18.slots.size ≤ ((2 : Int32)).toNatClampNeg) := inb_of S18 ⟨by decide, (by decide : (2 : Int32) < (5 : Int32))⟩
  have f19 := (((E_w15.ext E2).wr W8).wr W14)
  obtain ⟨T20, h20, X20, e20, W20, st20⟩ := stR X17 hx hZ e17 Ar18 (j := (2 : Int32)) hin18 rfl (Sto.ofV Ar18 q18 O2 (Ins.self f19)) (g := (mkF m 21 #[.val (.int p1), .unset, .unset, .unset] [(.ref w15), (.int (2 : Int32)), (.ref b2), (.ref b2)])) rfl rfl (hb hby at_21)
  have K0_20 : Keep h0 h20 [] := K0_14.wr W20 (Or.inr sz_b2)
  have N20 := Fr.snoc X20 N14 g_b2
  have Z20 : n0 ≤ h20.size := Nat.le_trans Z14 (Keep.of_wr W20).1
  have V20 : Arv Z h20 b2 k2 (.object "com/example/holdfast/holdfast/config/Source") (5 : Int32) [(.ref w3), (.ref w9), (.ref w15), .null, .null] .null := Arv.set Ar18 q18 S18 N_18 H18 G18 rfl W20 2 rfl (Nat.le_of_ble_eq_true rfl)
  have f22 := ((((S_SPRING_BOOT.ext E2).wr W8).wr W14).wr W20)
  obtain ⟨T23, X23, e23, st23⟩ := getS2 X20 hx hZ hown (host := "") (Or.inl (hw _ (List.mem_of_getElem? (i := 10) rfl))) Via.refl e20 f22 (g := (mkF m 24 #[.val (.int p1), .unset, .unset, .unset] [(.int (3 : Int32)), (.ref b2), (.ref b2)])) rfl (hb hby at_24)
  obtain ⟨cl24, Ar24, q24, S24, N_24, H24, G24⟩ := V20
  have hin24 : ¬ ((3 : Int32) < 0 ∨ cl24.slots.size ≤ ((3 : Int32)).toNatClampNeg) := inb_of S24 ⟨by decide, (by decide : (3 : Int32) < (5 : Int32))⟩
  have f25 := ((((E_w21.ext E2).wr W8).wr W14).wr W20)
  obtain ⟨T26, h26, X26, e26, W26, st26⟩ := stR X23 hx hZ e23 Ar24 (j := (3 : Int32)) hin24 rfl (Sto.ofV Ar24 q24 O2 (Ins.self f25)) (g := (mkF m 27 #[.val (.int p1), .unset, .unset, .unset] [(.ref w21), (.int (3 : Int32)), (.ref b2), (.ref b2)])) rfl rfl (hb hby at_27)
  have K0_26 : Keep h0 h26 [] := K0_20.wr W26 (Or.inr sz_b2)
  have N26 := Fr.snoc X26 N20 g_b2
  have Z26 : n0 ≤ h26.size := Nat.le_trans Z20 (Keep.of_wr W26).1
  have V26 : Arv Z h26 b2 k2 (.object "com/example/holdfast/holdfast/config/Source") (5 : Int32) [(.ref w3), (.ref w9), (.ref w15), (.ref w21), .null] .null := Arv.set Ar24 q24 S24 N_24 H24 G24 rfl W26 3 rfl (Nat.le_of_ble_eq_true rfl)
  have f28 := (((((S_PROPERTIES_FILE.ext E2).wr W8).wr W14).wr W20).wr W26)
  obtain ⟨T29, X29, e29, st29⟩ := getS2 X26 hx hZ hown (host := "") (Or.inl (hw _ (List.mem_of_getElem? (i := 12) rfl))) Via.refl e26 f28 (g := (mkF m 30 #[.val (.int p1), .unset, .unset, .unset] [(.int (4 : Int32)), (.ref b2), (.ref b2)])) rfl (hb hby at_30)
  obtain ⟨cl30, Ar30, q30, S30, N_30, H30, G30⟩ := V26
  have hin30 : ¬ ((4 : Int32) < 0 ∨ cl30.slots.size ≤ ((4 : Int32)).toNatClampNeg) := inb_of S30 ⟨by decide, (by decide : (4 : Int32) < (5 : Int32))⟩
  have f31 := (((((E_w27.ext E2).wr W8).wr W14).wr W20).wr W26)
  obtain ⟨T32, h32, X32, e32, W32, st32⟩ := stR X29 hx hZ e29 Ar30 (j := (4 : Int32)) hin30 rfl (Sto.ofV Ar30 q30 O2 (Ins.self f31)) (g := (mkF m 33 #[.val (.int p1), .unset, .unset, .unset] [(.ref w27), (.int (4 : Int32)), (.ref b2), (.ref b2)])) rfl rfl (hb hby at_33)
  have K0_32 : Keep h0 h32 [] := K0_26.wr W32 (Or.inr sz_b2)
  have N32 := Fr.snoc X32 N26 g_b2
  have Z32 : n0 ≤ h32.size := Nat.le_trans Z26 (Keep.of_wr W32).1
  have V32 : Arv Z h32 b2 k2 (.object "com/example/holdfast/holdfast/config/Source") (5 : Int32) [(.ref w3), (.ref w9), (.ref w15), (.ref w21), (.ref w27)] .null := Arv.set Ar30 q30 S30 N_30 H30 G30 rfl W32 4 rfl (Nat.le_of_ble_eq_true rfl)
  obtain ⟨cl33, Ar33, q33, S33, N_33, H33, G33⟩ := V32
  have hin33 : ¬ (((p1 &&& (2147483647 : Int32)) % (5 : Int32)) < 0 ∨ cl33.slots.size ≤ (((p1 &&& (2147483647 : Int32)) % (5 : Int32))).toNatClampNeg) := inb_of S33 ⟨by rw [P34]; decide, by rw [P34]; exact (by decide : (2 : Int32) < (5 : Int32))⟩
  have hat33 : cl33.slots[(((p1 &&& (2147483647 : Int32)) % (5 : Int32))).toNatClampNeg]? = some (.ref w15) := Has.at H33 hin33 (by rw [P34]; rfl)
  have f35 := ((f22.wr W26).wr W32)
  obtain ⟨T36, X36, e36, st36⟩ := getS2 X32 hx hZ hown (host := "") (Or.inl (hw _ (List.mem_of_getElem? (i := 10) rfl))) Via.refl e32 f35 (g := (mkF m 45 #[.val (.int p1), .val (.ref b2), .val (.ref w15), .unset] [(.ref w15)])) rfl (hb hby at_45)
  have ne38 : w15 ≠ b2 := Nat.ne_of_lt (Nat.lt_of_lt_of_le E_w15.lt (Nat.le_of_eq g2.symm))
  have f39 := ((((((F_ordinal_w15.ext E2).other W8 (Or.inl ne38)).other W14 (Or.inl ne38)).other W20 (Or.inl ne38)).other W26 (Or.inl ne38)).other W32 (Or.inl ne38))
  have f40 := (((f19.wr W20).wr W26).wr W32)
  obtain ⟨cq41, kq41, q41a, q41b, q41c⟩ := isOf hZ e36 f40
  obtain ⟨_, _, ⟨T41, L41, k41, n41⟩, -, X41, ⟨Lc41, hQ41, l41, y41, z41⟩, st41⟩ := X36.virtualBack hx (y := (⟨"com/example/holdfast/holdfast/config/Source", "holdsLists", "()Z"⟩ : MethodName)) (z := (⟨"com/example/holdfast/holdfast/config/Source", "holdsLists", "()Z"⟩ : MethodName)) hown (mvT hZ (hw _ (List.mem_of_getElem? (i := 15) rfl))) (mvT hZ (hw _ (List.mem_of_getElem? (i := 16) rfl))) (notFace_of_selects (args := #[]) (mvT hZ (hw _ (List.mem_of_getElem? (i := 18) rfl)))) (mvT hZ (hw _ (List.mem_of_getElem? (i := 18) rfl))) (mvT hZ (hw _ (List.mem_of_getElem? (i := 17) rfl))) (by decide) (backOf (W := 0) (rm1_3 l Z a0 hw [] w15 h32 n0 Z32 f39 f40) hZ (hw _ (List.mem_of_getElem? (i := 19) rfl)) (hw _ (List.mem_of_getElem? (i := 3) rfl)) (by decide) (by decide)) q41a q41c (g := (mkF m 58 #[.val (.int p1), .val (.ref b2), .val (.ref w15), .val (.int (0 : Int32))] [(.ref w15)])) rfl (by rw [hml]; rfl) (Steps.refl _) (argsL := []) (rest := []) (lenOf pd_1 rfl) rfl (by show 2 * 0 + _ ≤ _; exact Nat.le_of_eq rfl) (hb hby at_58) (fun _ _ => ⟨rfl, e36, (by decide : 1 + 0 ≤ _), (by decide : 5 + 0 ≤ _)⟩)
  dsimp only [Pt.U, Pt.locs, Pt.cells, Pt.slots] at X41 l41 y41 z41 st41 hQ41
  subst l41 y41 z41
  obtain ⟨rfl, Nq41, e41⟩ := hQ41
  have N41 := Fr.app N32 Nq41
  obtain ⟨fs, hr, hrun, hended, hW, hsame⟩ := X41.leave (v := some (.int (1 : Int32))) (fun h => by rw [Bd.returns] at h; cases h)
  refine ⟨_, _, pre0 _ ?_, hrun, hended, _, _, rfl, ?_, ⟨_, rfl⟩, hW, hsame.mono (by decide) (by decide)⟩
  · show Steps p.tables e below (s₁.setTop (mkF m 0 #[.val (.int p1), .unset, .unset, .unset] [])) _
    refine XS.iconst X0.here hx rfl (hb hby at_0) ?_
    show Steps p.tables e below (s₁.setTop (mkF m 1 #[.val (.int p1), .unset, .unset, .unset] [(.int (5 : Int32))])) _
    refine st2 _ ?_
    show Steps p.tables e below (T2.setTop (mkF m 4 #[.val (.int p1), .unset, .unset, .unset] [(.ref b2)])) _
    refine XS.dup X2.here hx rfl (hb hby at_4) rfl rfl ?_
    show Steps p.tables e below (T2.setTop (mkF m 5 #[.val (.int p1), .unset, .unset, .unset] [(.ref b2), (.ref b2)])) _
    refine XS.iconst X2.here hx rfl (hb hby at_5) ?_
    show Steps p.tables e below (T2.setTop (mkF m 6 #[.val (.int p1), .unset, .unset, .unset] [(.int (0 : Int32)), (.ref b2), (.ref b2)])) _
    refine st5 _ ?_
    show Steps p.tables e below (T5.setTop (mkF m 9 #[.val (.int p1), .unset, .unset, .unset] [(.ref w3), (.int (0 : Int32)), (.ref b2), (.ref b2)])) _
    refine st8 _ ?_
    show Steps p.tables e below (T8.setTop (mkF m 10 #[.val (.int p1), .unset, .unset, .unset] [(.ref b2)])) _
    refine XS.dup X8.here hx rfl (hb hby at_10) rfl rfl ?_
    show Steps p.tables e below (T8.setTop (mkF m 11 #[.val (.int p1), .unset, .unset, .unset] [(.ref b2), (.ref b2)])) _
    refine XS.iconst X8.here hx rfl (hb hby at_11) ?_
    show Steps p.tables e below (T8.setTop (mkF m 12 #[.val (.int p1), .unset, .unset, .unset] [(.int (1 : Int32)), (.ref b2), (.ref b2)])) _
    refine st11 _ ?_
    show Steps p.tables e below (T11.setTop (mkF m 15 #[.val (.int p1), .unset, .unset, .unset] [(.ref w9), (.int (1 : Int32)), (.ref b2), (.ref b2)])) _
    refine st14 _ ?_
    show Steps p.tables e below (T14.setTop (mkF m 16 #[.val (.int p1), .unset, .unset, .unset] [(.ref b2)])) _
    refine XS.dup X14.here hx rfl (hb hby at_16) rfl rfl ?_
    show Steps p.tables e below (T14.setTop (mkF m 17 #[.val (.int p1), .unset, .unset, .unset] [(.ref b2), (.ref b2)])) _
    refine XS.iconst X14.here hx rfl (hb hby at_17) ?_
    show Steps p.tables e below (T14.setTop (mkF m 18 #[.val (.int p1), .unset, .unset, .unset] [(.int (2 : Int32)), (.ref b2), (.ref b2)])) _
    refine st17 _ ?_
    show Steps p.tables e below (T17.setTop (mkF m 21 #[.val (.int p1), .unset, .unset, .unset] [(.ref w15), (.int (2 : Int32)), (.ref b2), (.ref b2)])) _
    refine st20 _ ?_
    show Steps p.tables e below (T20.setTop (mkF m 22 #[.val (.int p1), .unset, .unset, .unset] [(.ref b2)])) _
    refine XS.dup X20.here hx rfl (hb hby at_22) rfl rfl ?_
    show Steps p.tables e below (T20.setTop (mkF m 23 #[.val (.int p1), .unset, .unset, .unset] [(.ref b2), (.ref b2)])) _
    refine XS.iconst X20.here hx rfl (hb hby at_23) ?_
    show Steps p.tables e below (T20.setTop (mkF m 24 #[.val (.int p1), .unset, .unset, .unset] [(.int (3 : Int32)), (.ref b2), (.ref b2)])) _
    refine st23 _ ?_
    show Steps p.tables e below (T23.setTop (mkF m 27 #[.val (.int p1), .unset, .unset, .unset] [(.ref w21), (.int (3 : Int32)), (.ref b2), (.ref b2)])) _
    refine st26 _ ?_
    show Steps p.tables e below (T26.setTop (mkF m 28 #[.val (.int p1), .unset, .unset, .unset] [(.ref b2)])) _
    refine XS.dup X26.here hx rfl (hb hby at_28) rfl rfl ?_
    show Steps p.tables e below (T26.setTop (mkF m 29 #[.val (.int p1), .unset, .unset, .unset] [(.ref b2), (.ref b2)])) _
    refine XS.iconst X26.here hx rfl (hb hby at_29) ?_
    show Steps p.tables e below (T26.setTop (mkF m 30 #[.val (.int p1), .unset, .unset, .unset] [(.int (4 : Int32)), (.ref b2), (.ref b2)])) _
    refine st29 _ ?_
    show Steps p.tables e below (T29.setTop (mkF m 33 #[.val (.int p1), .unset, .unset, .unset] [(.ref w27), (.int (4 : Int32)), (.ref b2), (.ref b2)])) _
    refine st32 _ ?_
    show Steps p.tables e below (T32.setTop (mkF m 34 #[.val (.int p1), .unset, .unset, .unset] [(.ref b2)])) _
    refine XS.astoreN X32.here hx rfl (hb hby at_34) rfl rfl (l' := #[.val (.int p1), .val (.ref b2), .unset, .unset]) rfl ?_
    show Steps p.tables e below (T32.setTop (mkF m 35 #[.val (.int p1), .val (.ref b2), .unset, .unset] [])) _
    refine XS.aloadN X32.here hx rfl (hb hby at_35) rfl rfl ?_
    show Steps p.tables e below (T32.setTop (mkF m 36 #[.val (.int p1), .val (.ref b2), .unset, .unset] [(.ref b2)])) _
    refine XS.iloadN X32.here hx rfl (hb hby at_36) rfl ?_
    show Steps p.tables e below (T32.setTop (mkF m 37 #[.val (.int p1), .val (.ref b2), .unset, .unset] [(.int p1), (.ref b2)])) _
    refine X32.ldcInt hx hown (mvT hZ (hw _ (List.mem_of_getElem? (i := 14) rfl))) (g := (mkF m 37 #[.val (.int p1), .val (.ref b2), .unset, .unset] [(.int p1), (.ref b2)])) rfl (hb hby at_37) _ ?_
    show Steps p.tables e below (T32.setTop (mkF m 39 #[.val (.int p1), .val (.ref b2), .unset, .unset] [(.int (2147483647 : Int32)), (.int p1), (.ref b2)])) _
    refine XS.iand X32.here hx rfl (hb hby at_39) rfl ?_
    show Steps p.tables e below (T32.setTop (mkF m 40 #[.val (.int p1), .val (.ref b2), .unset, .unset] [(.int (p1 &&& (2147483647 : Int32))), (.ref b2)])) _
    refine XS.iconst X32.here hx rfl (hb hby at_40) ?_
    show Steps p.tables e below (T32.setTop (mkF m 41 #[.val (.int p1), .val (.ref b2), .unset, .unset] [(.int (5 : Int32)), (.int (p1 &&& (2147483647 : Int32))), (.ref b2)])) _
    refine iremM X32 hx rfl (hb hby at_41) rfl (by decide : ¬ ((5 : Int32) = (0 : Int32))) ?_
    show Steps p.tables e below (T32.setTop (mkF m 42 #[.val (.int p1), .val (.ref b2), .unset, .unset] [(.int ((p1 &&& (2147483647 : Int32)) % (5 : Int32))), (.ref b2)])) _
    refine X32.aaload hx (j := ((p1 &&& (2147483647 : Int32)) % (5 : Int32))) (v := (.ref w15)) (by rw [e32]; exact Ar33.1) (State.isArrayOf_alike hZ.alike Ar33.2.1) rfl Ar33.2.2 hin33 hat33 (g := (mkF m 42 #[.val (.int p1), .val (.ref b2), .unset, .unset] [(.int ((p1 &&& (2147483647 : Int32)) % (5 : Int32))), (.ref b2)])) rfl rfl (hb hby at_42) _ ?_
    show Steps p.tables e below (T32.setTop (mkF m 43 #[.val (.int p1), .val (.ref b2), .unset, .unset] [(.ref w15)])) _
    refine XS.astoreN X32.here hx rfl (hb hby at_43) rfl rfl (l' := #[.val (.int p1), .val (.ref b2), .val (.ref w15), .unset]) rfl ?_
    show Steps p.tables e below (T32.setTop (mkF m 44 #[.val (.int p1), .val (.ref b2), .val (.ref w15), .unset] [])) _
    refine XS.aloadN X32.here hx rfl (hb hby at_44) rfl rfl ?_
    show Steps p.tables e below (T32.setTop (mkF m 45 #[.val (.int p1), .val (.ref b2), .val (.ref w15), .unset] [(.ref w15)])) _
    refine st36 _ ?_
    show Steps p.tables e below (T36.setTop (mkF m 48 #[.val (.int p1), .val (.ref b2), .val (.ref w15), .unset] [(.ref w21), (.ref w15)])) _
    refine Jvm.RoadKit.acmp (g := (mkF m 48 #[.val (.int p1), .val (.ref b2), .val (.ref w15), .unset] [(.ref w21), (.ref w15)])) X36 hx rfl rfl rfl (pc0 := 48) (pc' := 55) (same := false) rfl (hb hby at_48) rfl (decide_eq_false fun q => P37 (Value.ref.inj q)) (by decide) (by decide) ?_
    show Steps p.tables e below (T36.setTop (mkF m 55 #[.val (.int p1), .val (.ref b2), .val (.ref w15), .unset] [])) _
    refine XS.iconst X36.here hx rfl (hb hby at_55) ?_
    show Steps p.tables e below (T36.setTop (mkF m 56 #[.val (.int p1), .val (.ref b2), .val (.ref w15), .unset] [(.int (0 : Int32))])) _
    refine XS.istoreN X36.here hx rfl (hb hby at_56) rfl (l' := #[.val (.int p1), .val (.ref b2), .val (.ref w15), .val (.int (0 : Int32))]) rfl ?_
    show Steps p.tables e below (T36.setTop (mkF m 57 #[.val (.int p1), .val (.ref b2), .val (.ref w15), .val (.int (0 : Int32))] [])) _
    refine XS.aloadN X36.here hx rfl (hb hby at_57) rfl rfl ?_
    show Steps p.tables e below (T36.setTop (mkF m 58 #[.val (.int p1), .val (.ref b2), .val (.ref w15), .val (.int (0 : Int32))] [(.ref w15)])) _
    refine st41.trans ?_
    show Steps p.tables e below (T41.setTop (mkF m 61 #[.val (.int p1), .val (.ref b2), .val (.ref w15), .val (.int (0 : Int32))] [(.int (0 : Int32))])) _
    refine XS.iloadN X41.here hx rfl (hb hby at_61) rfl ?_
    show Steps p.tables e below (T41.setTop (mkF m 62 #[.val (.int p1), .val (.ref b2), .val (.ref w15), .val (.int (0 : Int32))] [(.int (0 : Int32)), (.int (0 : Int32))])) _
    refine XS.icmpNo X41.here hx rfl (hb hby at_62) rfl (teq (rfl : (0 : Int32) = (0 : Int32))).2 ?_
    show Steps p.tables e below (T41.setTop (mkF m 65 #[.val (.int p1), .val (.ref b2), .val (.ref w15), .val (.int (0 : Int32))] [])) _
    refine XS.iconst X41.here hx rfl (hb hby at_65) ?_
    show Steps p.tables e below (T41.setTop (mkF m 66 #[.val (.int p1), .val (.ref b2), .val (.ref w15), .val (.int (0 : Int32))] [(.int (1 : Int32))])) _
    refine XS.goto X41.here hx rfl (pc0 := 66) (pc' := 70) rfl (hb hby at_66) (by decide) (by decide) ?_
    show Steps p.tables e below (T41.setTop (mkF m 70 #[.val (.int p1), .val (.ref b2), .val (.ref w15), .val (.int (0 : Int32))] [(.int (1 : Int32))])) _
    exact retN X41 hx (t := .boolean) Bd.returns (by simp) (hb hby at_70) hr
  · exact ⟨rfl, N41⟩
def Q2_4 (Z : State) (a1 : Addr) (h0 : Heap) (n0 : Nat) (v : Option Value) (h : Heap) (L : List Loc) : Prop := v = some (.int (3 : Int32)) ∧ Fr n0 L ∧ h = h0
set_option maxRecDepth 65536 in
set_option maxHeartbeats 40000000 in
theorem rm2_4 (l : Launch) (Z : State) (a0 : Array Value) (hw : ∀ d ∈ tables_1, d.before a0 Z = true) (ws : List Jvm.Cond) (a1 : Addr) (h0 : Heap) (n0 : Nat) (Z0 : n0 ≤ h0.size) (F_ordinal_a1 : Fld Z h0 a1 "java/lang/Enum" "ordinal" "I" (.int (3 : Int32))) :
    MetFree l (⟨"java/lang/Enum", "ordinal", "()I"⟩ : MethodName) (head1 (Jvm.Cond.code (⟨"java/lang/Enum", "ordinal", "()I"⟩ : MethodName) jdk_37_method_2_code 1 (some .int) :: ws) ({ frames := 0, cells := 0, slots := 0, locals := 0 } : Room)) (fun a U => a = #[(.ref a1)] ∧ Z.Warmed39 U.vm ∧ U.heap = h0) (fun _ _ _ _ _ => True) (fun _ U o U' => ∃ v L, o = .returned v ∧ Q2_4 Z a1 h0 n0 v U'.heap L ∧ FrameEnd U o U' L ({ frames := 0, cells := 0, slots := 0, locals := 0 } : Room).cells ({ frames := 0, cells := 0, slots := 0, locals := 0 } : Room).slots) := by
  refine MetFree.of_bodySF (plainFor_of_name pn_2) hisR ?_
  intro p e s m args below meth c s₁ Bd hml0 hP hK
  obtain ⟨rfl, hZ, hh⟩ := hP
  have hx := Bd.exec
  have hby := Bd.bytes
  have hml : c.maxLocals = 1 := hml0
  have hown : s.vm.findClass "java/lang/Enum" = some m.cls := findClass_of_methodNamed Bd.named
  have hnm := (name_of_methodNamed Bd.named Bd.method).1
  have X0 : Stand p l e ({ frames := 0, cells := 0, slots := 0, locals := 0 } : Room) s m #[(.ref a1)] below meth c s₁ [] 0 0 := Stand.of_body Bd
  have e0 : s₁.heap = h0 := by rw [← hh, Bd.state]; rfl
  have N0 := Fr.nil n0
  have pre0 : ∀ t, Steps p.tables e below (s₁.setTop (mkF m 0 #[.val (.ref a1)] [])) t → Steps p.tables e below (s₁.setTop (entryFrame m #[(.ref a1)] 1)) t := fun t k => castTop (ef_2_R m a1) k
  obtain ⟨T2, X2, e2, st2⟩ := getF X0 hx hZ hown (host := "") (Or.inl (hw _ (List.mem_of_getElem? (i := 27) rfl))) Via.refl e0 F_ordinal_a1 (g := (mkF m 1 #[.val (.ref a1)] [(.ref a1)])) rfl rfl (hb hby d2_1)
  obtain ⟨fs, hr, hrun, hended, hW, hsame⟩ := X2.leave (v := some (.int (3 : Int32))) (fun h => by rw [Bd.returns] at h; cases h)
  refine ⟨_, _, pre0 _ ?_, hrun, hended, _, _, rfl, ?_, ⟨_, rfl⟩, hW, hsame.mono (by decide) (by decide)⟩
  · show Steps p.tables e below (s₁.setTop (mkF m 0 #[.val (.ref a1)] [])) _
    refine XS.aloadN X0.here hx rfl (hb hby d2_0) rfl rfl ?_
    show Steps p.tables e below (s₁.setTop (mkF m 1 #[.val (.ref a1)] [(.ref a1)])) _
    refine st2 _ ?_
    show Steps p.tables e below (T2.setTop (mkF m 4 #[.val (.ref a1)] [(.int (3 : Int32))])) _
    exact retI X2 hx Bd.returns (hb hby d2_4) hr
  · show Q2_4 Z a1 h0 n0 _ T2.heap _
    rw [e2]
    exact ⟨rfl, N0, rfl⟩
theorem d1_50 : decode prog_7_method_9_code 50 = .ok (.iconst 1, 1) := by decide +kernel
theorem d1_51 : decode prog_7_method_9_code 51 = .ok (.goto 4, 3) := by decide +kernel
def Q1_4 (Z : State) (a1 : Addr) (h0 : Heap) (n0 : Nat) (v : Option Value) (h : Heap) (L : List Loc) : Prop := v = some (.int (1 : Int32)) ∧ Fr n0 L ∧ h = h0
set_option maxRecDepth 65536 in
set_option maxHeartbeats 40000000 in
theorem rm1_4 (l : Launch) (Z : State) (a0 : Array Value) (hw : ∀ d ∈ tables_1, d.before a0 Z = true) (ws : List Jvm.Cond) (a1 : Addr) (h0 : Heap) (n0 : Nat) (Z0 : n0 ≤ h0.size) (F_ordinal_a1 : Fld Z h0 a1 "java/lang/Enum" "ordinal" "I" (.int (3 : Int32))) (E_a1 : Exa Z h0 a1 "com/example/holdfast/holdfast/config/Source") :
    MetFree l (⟨"com/example/holdfast/holdfast/config/Source", "holdsLists", "()Z"⟩ : MethodName) (head1 (Jvm.Cond.code (⟨"com/example/holdfast/holdfast/config/Source", "holdsLists", "()Z"⟩ : MethodName) prog_7_method_9_code 1 (some .boolean) :: ws) ({ frames := 1, cells := 0, slots := 0, locals := 12 } : Room)) (fun a U => a = #[(.ref a1)] ∧ Z.Warmed39 U.vm ∧ U.heap = h0) (fun _ _ _ _ _ => True) (fun _ U o U' => ∃ v L, o = .returned v ∧ Q1_4 Z a1 h0 n0 v U'.heap L ∧ FrameEnd U o U' L ({ frames := 1, cells := 0, slots := 0, locals := 12 } : Room).cells ({ frames := 1, cells := 0, slots := 0, locals := 12 } : Room).slots) := by
  refine MetFree.of_bodySF (plainFor_of_name pn_1) hisR ?_
  intro p e s m args below meth c s₁ Bd hml0 hP hK
  obtain ⟨rfl, hZ, hh⟩ := hP
  have hx := Bd.exec
  have hby := Bd.bytes
  have hml : c.maxLocals = 1 := hml0
  have hown : s.vm.findClass "com/example/holdfast/holdfast/config/Source" = some m.cls := findClass_of_methodNamed Bd.named
  have hnm := (name_of_methodNamed Bd.named Bd.method).1
  have X0 : Stand p l e ({ frames := 1, cells := 0, slots := 0, locals := 12 } : Room) s m #[(.ref a1)] below meth c s₁ [] 0 0 := Stand.of_body Bd
  have e0 : s₁.heap = h0 := by rw [← hh, Bd.state]; rfl
  have N0 := Fr.nil n0
  have pre0 : ∀ t, Steps p.tables e below (s₁.setTop (mkF m 0 #[.val (.ref a1)] [])) t → Steps p.tables e below (s₁.setTop (entryFrame m #[(.ref a1)] 1)) t := fun t k => castTop (ef_1_R m a1) k
  obtain ⟨cq2, kq2, q2a, q2b, q2c⟩ := isOf hZ e0 E_a1
  obtain ⟨_, _, ⟨T2, L2, k2, n2⟩, -, X2, ⟨Lc2, hQ2, l2, y2, z2⟩, st2⟩ := X0.virtualBackUp hx (x := (⟨"com/example/holdfast/holdfast/config/Source", "ordinal", "()I"⟩ : MethodName)) (y := (⟨"java/lang/Enum", "ordinal", "()I"⟩ : MethodName)) (owner := "java/lang/Enum") hown (mvT hZ (hw _ (List.mem_of_getElem? (i := 20) rfl))) (mvT hZ (hw _ (List.mem_of_getElem? (i := 21) rfl))) (mvT hZ (hw _ (List.mem_of_getElem? (i := 22) rfl))) (by decide) (mvT hZ (hw _ (List.mem_of_getElem? (i := 24) rfl))) (mvT hZ (hw _ (List.mem_of_getElem? (i := 23) rfl))) (backOf (W := 0) (rm2_4 l Z a0 hw [] a1 h0 n0 Z0 F_ordinal_a1) hZ (hw _ (List.mem_of_getElem? (i := 26) rfl)) (hw _ (List.mem_of_getElem? (i := 25) rfl)) (by decide) (by decide)) q2a q2c (g := (mkF m 1 #[.val (.ref a1)] [(.ref a1)])) rfl (by rw [hml]; rfl) (Steps.refl _) (argsL := []) (rest := []) (lenOf pd_0 rfl) rfl (by show 2 * 0 + _ ≤ _; exact Nat.le_of_eq rfl) (hb hby d1_1) (fun _ _ => ⟨rfl, e0, (by decide : 0 + 0 ≤ _), (by decide : 0 + 0 ≤ _)⟩)
  dsimp only [Pt.U, Pt.locs, Pt.cells, Pt.slots] at X2 l2 y2 z2 st2 hQ2
  subst l2 y2 z2
  obtain ⟨rfl, Nq2, e2⟩ := hQ2
  have N2 := Fr.app N0 Nq2
  obtain ⟨fs, hr, hrun, hended, hW, hsame⟩ := X2.leave (v := some (.int (1 : Int32))) (fun h => by rw [Bd.returns] at h; cases h)
  refine ⟨_, _, pre0 _ ?_, hrun, hended, _, _, rfl, ?_, ⟨_, rfl⟩, hW, hsame.mono (by decide) (by decide)⟩
  · show Steps p.tables e below (s₁.setTop (mkF m 0 #[.val (.ref a1)] [])) _
    refine XS.aloadN X0.here hx rfl (hb hby d1_0) rfl rfl ?_
    show Steps p.tables e below (s₁.setTop (mkF m 1 #[.val (.ref a1)] [(.ref a1)])) _
    refine st2.trans ?_
    show Steps p.tables e below (T2.setTop (mkF m 4 #[.val (.ref a1)] [(.int (3 : Int32))])) _
    refine X2.tableswitchIn hx (g := (mkF m 4 #[.val (.ref a1)] [(.int (3 : Int32))])) rfl rfl (hb hby d1_4) (by decide) (off := 46) (by decide) (by show 0 ≤ ((4 : Nat) : Int) + 46; decide) _ ?_
    show Steps p.tables e below (T2.setTop (mkF m 50 #[.val (.ref a1)] [])) _
    refine XS.iconst X2.here hx rfl (hb hby d1_50) ?_
    show Steps p.tables e below (T2.setTop (mkF m 51 #[.val (.ref a1)] [(.int (1 : Int32))])) _
    refine XS.goto X2.here hx rfl (pc0 := 51) (pc' := 55) rfl (hb hby d1_51) (by decide) (by decide) ?_
    show Steps p.tables e below (T2.setTop (mkF m 55 #[.val (.ref a1)] [(.int (1 : Int32))])) _
    exact retN X2 hx (t := .boolean) Bd.returns (by simp) (hb hby d1_55) hr
  · show Q1_4 Z a1 h0 n0 _ T2.heap _
    rw [e2]
    exact ⟨rfl, N2, rfl⟩
set_option maxRecDepth 65536 in
set_option maxHeartbeats 40000000 in
theorem rm0_4 (l : Launch) (Z : State) (a0 : Array Value) (hw : ∀ d ∈ tables_1, d.before a0 Z = true) (ws : List Jvm.Cond) (p1 : Int32) (w3 : Addr) (w9 : Addr) (w15 : Addr) (w21 : Addr) (w27 : Addr) (h0 : Heap) (n0 : Nat) (Z0 : n0 ≤ h0.size) (S_INIT_PARAMETER : Sta Z h0 "com/example/holdfast/holdfast/config/Source" "INIT_PARAMETER" "Lcom/example/holdfast/holdfast/config/Source;" (.ref w3)) (E_w3 : Exa Z h0 w3 "com/example/holdfast/holdfast/config/Source") (S_SYSTEM_PROPERTY : Sta Z h0 "com/example/holdfast/holdfast/config/Source" "SYSTEM_PROPERTY" "Lcom/example/holdfast/holdfast/config/Source;" (.ref w9)) (E_w9 : Exa Z h0 w9 "com/example/holdfast/holdfast/config/Source") (S_ENVIRONMENT : Sta Z h0 "com/example/holdfast/holdfast/config/Source" "ENVIRONMENT" "Lcom/example/holdfast/holdfast/config/Source;" (.ref w15)) (E_w15 : Exa Z h0 w15 "com/example/holdfast/holdfast/config/Source") (S_SPRING_BOOT : Sta Z h0 "com/example/holdfast/holdfast/config/Source" "SPRING_BOOT" "Lcom/example/holdfast/holdfast/config/Source;" (.ref w21)) (E_w21 : Exa Z h0 w21 "com/example/holdfast/holdfast/config/Source") (S_PROPERTIES_FILE : Sta Z h0 "com/example/holdfast/holdfast/config/Source" "PROPERTIES_FILE" "Lcom/example/holdfast/holdfast/config/Source;" (.ref w27)) (E_w27 : Exa Z h0 w27 "com/example/holdfast/holdfast/config/Source") (P34 : ((p1 &&& (2147483647 : Int32)) % (5 : Int32)) = (3 : Int32)) (F_ordinal_w21 : Fld Z h0 w21 "java/lang/Enum" "ordinal" "I" (.int (3 : Int32))) :
    MetFree l x (head1 (Jvm.Cond.code x code maxLocals ret :: ws) room_1) (fun a U => a = #[(.int p1)] ∧ Z.Warmed39 U.vm ∧ U.heap = h0) (fun _ _ _ _ _ => True) (fun _ U o U' => ∃ v L, o = .returned v ∧ own_QT n0 v L ∧ FrameEnd U o U' L room_1.cells room_1.slots) := by
  refine MetFree.of_bodySF (plainFor_of_name pn_0) hisR ?_
  intro p e s m args below meth c s₁ Bd hml0 hP hK
  obtain ⟨rfl, hZ, hh⟩ := hP
  have hx := Bd.exec
  have hby := Bd.bytes
  have hml : c.maxLocals = 4 := hml0
  have hown : s.vm.findClass "com/example/holdfast/holdfast/config/SourceHoldsListsPinLaw" = some m.cls := findClass_of_methodNamed Bd.named
  have hnm := (name_of_methodNamed Bd.named Bd.method).1
  have X0 : Stand p l e room_1 s m #[(.int p1)] below meth c s₁ [] 0 0 := Stand.of_body Bd
  have e0 : s₁.heap = h0 := by rw [← hh, Bd.state]; rfl
  have N0 := Fr.nil n0
  have pre0 : ∀ t, Steps p.tables e below (s₁.setTop (mkF m 0 #[.val (.int p1), .unset, .unset, .unset] [])) t → Steps p.tables e below (s₁.setTop (entryFrame m #[(.int p1)] maxLocals)) t := fun t k => castTop (ef_0_I m p1) k
  obtain ⟨T2, h2, k2, X2, e2, E2, A2, O2, st2⟩ := newR X0 hx hZ hown (hw _ (List.mem_of_getElem? (i := 0) rfl)) (hw _ (List.mem_of_getElem? (i := 1) rfl)) e0 (g := (mkF m 1 #[.val (.int p1), .unset, .unset, .unset] [(.int (5 : Int32))])) rfl (hb hby at_1) rfl (by decide) (cap := 5) (by decide) (by decide) (by decide) (by decide)
  obtain ⟨b2, g2⟩ : ∃ z, z = h0.size := ⟨_, rfl⟩
  rw [← g2] at A2 st2
  have sz_b2 : h0.size ≤ b2 := Nat.le_trans (Keep.refl h0 []).1 (Nat.le_of_eq g2.symm)
  have g_b2 : n0 ≤ b2 := Nat.le_trans Z0 sz_b2
  have K0_2 : Keep h0 h2 [] := (Keep.refl h0 []).ext E2
  have Z2 : n0 ≤ h2.size := Nat.le_trans Z0 E2.1
  have V_b2 : Arv Z h2 b2 k2 (.object "com/example/holdfast/holdfast/config/Source") (5 : Int32) [.null, .null, .null, .null, .null] .null := (Arv.new A2 (by decide)).pad (pad_rep [] .null 5)
  have f4 := (S_INIT_PARAMETER.ext E2)
  obtain ⟨T5, X5, e5, st5⟩ := getS2 X2 hx hZ hown (host := "") (Or.inl (hw _ (List.mem_of_getElem? (i := 2) rfl))) Via.refl e2 f4 (g := (mkF m 6 #[.val (.int p1), .unset, .unset, .unset] [(.int (0 : Int32)), (.ref b2), (.ref b2)])) rfl (hb hby at_6)
  obtain ⟨cl6, Ar6, q6, S6, N_6, H6, G6⟩ := V_b2
  have hin6 : ¬ ((0 : Int32) < 0 ∨ cl6.slots.size ≤ ((0 : Int32)).toNatClampNeg) := inb_of S6 ⟨by decide, (by decide : (0 : Int32) < (5 : Int32))⟩
  have f7 := (E_w3.ext E2)
  obtain ⟨T8, h8, X8, e8, W8, st8⟩ := stR X5 hx hZ e5 Ar6 (j := (0 : Int32)) hin6 rfl (Sto.ofV Ar6 q6 O2 (Ins.self f7)) (g := (mkF m 9 #[.val (.int p1), .unset, .unset, .unset] [(.ref w3), (.int (0 : Int32)), (.ref b2), (.ref b2)])) rfl rfl (hb hby at_9)
  have K0_8 : Keep h0 h8 [] := K0_2.wr W8 (Or.inr sz_b2)
  have N8 := Fr.snoc X8 N0 g_b2
  have Z8 : n0 ≤ h8.size := Nat.le_trans Z2 (Keep.of_wr W8).1
  have V8 : Arv Z h8 b2 k2 (.object "com/example/holdfast/holdfast/config/Source") (5 : Int32) [(.ref w3), .null, .null, .null, .null] .null := Arv.set Ar6 q6 S6 N_6 H6 G6 rfl W8 0 rfl (Nat.le_of_ble_eq_true rfl)
  have f10 := ((S_SYSTEM_PROPERTY.ext E2).wr W8)
  obtain ⟨T11, X11, e11, st11⟩ := getS2 X8 hx hZ hown (host := "") (Or.inl (hw _ (List.mem_of_getElem? (i := 6) rfl))) Via.refl e8 f10 (g := (mkF m 12 #[.val (.int p1), .unset, .unset, .unset] [(.int (1 : Int32)), (.ref b2), (.ref b2)])) rfl (hb hby at_12)
  obtain ⟨cl12, Ar12, q12, S12, N_12, H12, G12⟩ := V8
  have hin12 : ¬ ((1 : Int32) < 0 ∨ cl12.slots.size ≤ ((1 : Int32)).toNatClampNeg) := inb_of S12 ⟨by decide, (by decide : (1 : Int32) < (5 : Int32))⟩
  have f13 := ((E_w9.ext E2).wr W8)
  obtain ⟨T14, h14, X14, e14, W14, st14⟩ := stR X11 hx hZ e11 Ar12 (j := (1 : Int32)) hin12 rfl (Sto.ofV Ar12 q12 O2 (Ins.self f13)) (g := (mkF m 15 #[.val (.int p1), .unset, .unset, .unset] [(.ref w9), (.int (1 : Int32)), (.ref b2), (.ref b2)])) rfl rfl (hb hby at_15)
  have K0_14 : Keep h0 h14 [] := K0_8.wr W14 (Or.inr sz_b2)
  have N14 := Fr.snoc X14 N8 g_b2
  have Z14 : n0 ≤ h14.size := Nat.le_trans Z8 (Keep.of_wr W14).1
  have V14 : Arv Z h14 b2 k2 (.object "com/example/holdfast/holdfast/config/Source") (5 : Int32) [(.ref w3), (.ref w9), .null, .null, .null] .null := Arv.set Ar12 q12 S12 N_12 H12 G12 rfl W14 1 rfl (Nat.le_of_ble_eq_true rfl)
  have f16 := (((S_ENVIRONMENT.ext E2).wr W8).wr W14)
  obtain ⟨T17, X17, e17, st17⟩ := getS2 X14 hx hZ hown (host := "") (Or.inl (hw _ (List.mem_of_getElem? (i := 8) rfl))) Via.refl e14 f16 (g := (mkF m 18 #[.val (.int p1), .unset, .unset, .unset] [(.int (2 : Int32)), (.ref b2), (.ref b2)])) rfl (hb hby at_18)
  obtain ⟨cl18, Ar18, q18, S18, N_18, H18, G18⟩ := V14
  have hin18 : ¬ ((2 : Int32) < 0 ∨ cl18.slots.size ≤ ((2 : Int32)).toNatClampNeg) := inb_of S18 ⟨by decide, (by decide : (2 : Int32) < (5 : Int32))⟩
  have f19 := (((E_w15.ext E2).wr W8).wr W14)
  obtain ⟨T20, h20, X20, e20, W20, st20⟩ := stR X17 hx hZ e17 Ar18 (j := (2 : Int32)) hin18 rfl (Sto.ofV Ar18 q18 O2 (Ins.self f19)) (g := (mkF m 21 #[.val (.int p1), .unset, .unset, .unset] [(.ref w15), (.int (2 : Int32)), (.ref b2), (.ref b2)])) rfl rfl (hb hby at_21)
  have K0_20 : Keep h0 h20 [] := K0_14.wr W20 (Or.inr sz_b2)
  have N20 := Fr.snoc X20 N14 g_b2
  have Z20 : n0 ≤ h20.size := Nat.le_trans Z14 (Keep.of_wr W20).1
  have V20 : Arv Z h20 b2 k2 (.object "com/example/holdfast/holdfast/config/Source") (5 : Int32) [(.ref w3), (.ref w9), (.ref w15), .null, .null] .null := Arv.set Ar18 q18 S18 N_18 H18 G18 rfl W20 2 rfl (Nat.le_of_ble_eq_true rfl)
  have f22 := ((((S_SPRING_BOOT.ext E2).wr W8).wr W14).wr W20)
  obtain ⟨T23, X23, e23, st23⟩ := getS2 X20 hx hZ hown (host := "") (Or.inl (hw _ (List.mem_of_getElem? (i := 10) rfl))) Via.refl e20 f22 (g := (mkF m 24 #[.val (.int p1), .unset, .unset, .unset] [(.int (3 : Int32)), (.ref b2), (.ref b2)])) rfl (hb hby at_24)
  obtain ⟨cl24, Ar24, q24, S24, N_24, H24, G24⟩ := V20
  have hin24 : ¬ ((3 : Int32) < 0 ∨ cl24.slots.size ≤ ((3 : Int32)).toNatClampNeg) := inb_of S24 ⟨by decide, (by decide : (3 : Int32) < (5 : Int32))⟩
  have f25 := ((((E_w21.ext E2).wr W8).wr W14).wr W20)
  obtain ⟨T26, h26, X26, e26, W26, st26⟩ := stR X23 hx hZ e23 Ar24 (j := (3 : Int32)) hin24 rfl (Sto.ofV Ar24 q24 O2 (Ins.self f25)) (g := (mkF m 27 #[.val (.int p1), .unset, .unset, .unset] [(.ref w21), (.int (3 : Int32)), (.ref b2), (.ref b2)])) rfl rfl (hb hby at_27)
  have K0_26 : Keep h0 h26 [] := K0_20.wr W26 (Or.inr sz_b2)
  have N26 := Fr.snoc X26 N20 g_b2
  have Z26 : n0 ≤ h26.size := Nat.le_trans Z20 (Keep.of_wr W26).1
  have V26 : Arv Z h26 b2 k2 (.object "com/example/holdfast/holdfast/config/Source") (5 : Int32) [(.ref w3), (.ref w9), (.ref w15), (.ref w21), .null] .null := Arv.set Ar24 q24 S24 N_24 H24 G24 rfl W26 3 rfl (Nat.le_of_ble_eq_true rfl)
  have f28 := (((((S_PROPERTIES_FILE.ext E2).wr W8).wr W14).wr W20).wr W26)
  obtain ⟨T29, X29, e29, st29⟩ := getS2 X26 hx hZ hown (host := "") (Or.inl (hw _ (List.mem_of_getElem? (i := 12) rfl))) Via.refl e26 f28 (g := (mkF m 30 #[.val (.int p1), .unset, .unset, .unset] [(.int (4 : Int32)), (.ref b2), (.ref b2)])) rfl (hb hby at_30)
  obtain ⟨cl30, Ar30, q30, S30, N_30, H30, G30⟩ := V26
  have hin30 : ¬ ((4 : Int32) < 0 ∨ cl30.slots.size ≤ ((4 : Int32)).toNatClampNeg) := inb_of S30 ⟨by decide, (by decide : (4 : Int32) < (5 : Int32))⟩
  have f31 := (((((E_w27.ext E2).wr W8).wr W14).wr W20).wr W26)
  obtain ⟨T32, h32, X32, e32, W32, st32⟩ := stR X29 hx hZ e29 Ar30 (j := (4 : Int32)) hin30 rfl (Sto.ofV Ar30 q30 O2 (Ins.self f31)) (g := (mkF m 33 #[.val (.int p1), .unset, .unset, .unset] [(.ref w27), (.int (4 : Int32)), (.ref b2), (.ref b2)])) rfl rfl (hb hby at_33)
  have K0_32 : Keep h0 h32 [] := K0_26.wr W32 (Or.inr sz_b2)
  have N32 := Fr.snoc X32 N26 g_b2
  have Z32 : n0 ≤ h32.size := Nat.le_trans Z26 (Keep.of_wr W32).1
  have V32 : Arv Z h32 b2 k2 (.object "com/example/holdfast/holdfast/config/Source") (5 : Int32) [(.ref w3), (.ref w9), (.ref w15), (.ref w21), (.ref w27)] .null := Arv.set Ar30 q30 S30 N_30 H30 G30 rfl W32 4 rfl (Nat.le_of_ble_eq_true rfl)
  obtain ⟨cl33, Ar33, q33, S33, N_33, H33, G33⟩ := V32
  have hin33 : ¬ (((p1 &&& (2147483647 : Int32)) % (5 : Int32)) < 0 ∨ cl33.slots.size ≤ (((p1 &&& (2147483647 : Int32)) % (5 : Int32))).toNatClampNeg) := inb_of S33 ⟨by rw [P34]; decide, by rw [P34]; exact (by decide : (3 : Int32) < (5 : Int32))⟩
  have hat33 : cl33.slots[(((p1 &&& (2147483647 : Int32)) % (5 : Int32))).toNatClampNeg]? = some (.ref w21) := Has.at H33 hin33 (by rw [P34]; rfl)
  have f35 := ((f22.wr W26).wr W32)
  obtain ⟨T36, X36, e36, st36⟩ := getS2 X32 hx hZ hown (host := "") (Or.inl (hw _ (List.mem_of_getElem? (i := 10) rfl))) Via.refl e32 f35 (g := (mkF m 45 #[.val (.int p1), .val (.ref b2), .val (.ref w21), .unset] [(.ref w21)])) rfl (hb hby at_45)
  have ne37 : w21 ≠ b2 := Nat.ne_of_lt (Nat.lt_of_lt_of_le E_w21.lt (Nat.le_of_eq g2.symm))
  have f38 := ((((((F_ordinal_w21.ext E2).other W8 (Or.inl ne37)).other W14 (Or.inl ne37)).other W20 (Or.inl ne37)).other W26 (Or.inl ne37)).other W32 (Or.inl ne37))
  have f39 := ((f25.wr W26).wr W32)
  obtain ⟨cq40, kq40, q40a, q40b, q40c⟩ := isOf hZ e36 f39
  obtain ⟨_, _, ⟨T40, L40, k40, n40⟩, -, X40, ⟨Lc40, hQ40, l40, y40, z40⟩, st40⟩ := X36.virtualBack hx (y := (⟨"com/example/holdfast/holdfast/config/Source", "holdsLists", "()Z"⟩ : MethodName)) (z := (⟨"com/example/holdfast/holdfast/config/Source", "holdsLists", "()Z"⟩ : MethodName)) hown (mvT hZ (hw _ (List.mem_of_getElem? (i := 15) rfl))) (mvT hZ (hw _ (List.mem_of_getElem? (i := 16) rfl))) (notFace_of_selects (args := #[]) (mvT hZ (hw _ (List.mem_of_getElem? (i := 18) rfl)))) (mvT hZ (hw _ (List.mem_of_getElem? (i := 18) rfl))) (mvT hZ (hw _ (List.mem_of_getElem? (i := 17) rfl))) (by decide) (backOf (W := 0) (rm1_4 l Z a0 hw [] w21 h32 n0 Z32 f38 f39) hZ (hw _ (List.mem_of_getElem? (i := 19) rfl)) (hw _ (List.mem_of_getElem? (i := 3) rfl)) (by decide) (by decide)) q40a q40c (g := (mkF m 58 #[.val (.int p1), .val (.ref b2), .val (.ref w21), .val (.int (1 : Int32))] [(.ref w21)])) rfl (by rw [hml]; rfl) (Steps.refl _) (argsL := []) (rest := []) (lenOf pd_1 rfl) rfl (by show 2 * 0 + _ ≤ _; exact Nat.le_of_eq rfl) (hb hby at_58) (fun _ _ => ⟨rfl, e36, (by decide : 1 + 0 ≤ _), (by decide : 5 + 0 ≤ _)⟩)
  dsimp only [Pt.U, Pt.locs, Pt.cells, Pt.slots] at X40 l40 y40 z40 st40 hQ40
  subst l40 y40 z40
  obtain ⟨rfl, Nq40, e40⟩ := hQ40
  have N40 := Fr.app N32 Nq40
  obtain ⟨fs, hr, hrun, hended, hW, hsame⟩ := X40.leave (v := some (.int (1 : Int32))) (fun h => by rw [Bd.returns] at h; cases h)
  refine ⟨_, _, pre0 _ ?_, hrun, hended, _, _, rfl, ?_, ⟨_, rfl⟩, hW, hsame.mono (by decide) (by decide)⟩
  · show Steps p.tables e below (s₁.setTop (mkF m 0 #[.val (.int p1), .unset, .unset, .unset] [])) _
    refine XS.iconst X0.here hx rfl (hb hby at_0) ?_
    show Steps p.tables e below (s₁.setTop (mkF m 1 #[.val (.int p1), .unset, .unset, .unset] [(.int (5 : Int32))])) _
    refine st2 _ ?_
    show Steps p.tables e below (T2.setTop (mkF m 4 #[.val (.int p1), .unset, .unset, .unset] [(.ref b2)])) _
    refine XS.dup X2.here hx rfl (hb hby at_4) rfl rfl ?_
    show Steps p.tables e below (T2.setTop (mkF m 5 #[.val (.int p1), .unset, .unset, .unset] [(.ref b2), (.ref b2)])) _
    refine XS.iconst X2.here hx rfl (hb hby at_5) ?_
    show Steps p.tables e below (T2.setTop (mkF m 6 #[.val (.int p1), .unset, .unset, .unset] [(.int (0 : Int32)), (.ref b2), (.ref b2)])) _
    refine st5 _ ?_
    show Steps p.tables e below (T5.setTop (mkF m 9 #[.val (.int p1), .unset, .unset, .unset] [(.ref w3), (.int (0 : Int32)), (.ref b2), (.ref b2)])) _
    refine st8 _ ?_
    show Steps p.tables e below (T8.setTop (mkF m 10 #[.val (.int p1), .unset, .unset, .unset] [(.ref b2)])) _
    refine XS.dup X8.here hx rfl (hb hby at_10) rfl rfl ?_
    show Steps p.tables e below (T8.setTop (mkF m 11 #[.val (.int p1), .unset, .unset, .unset] [(.ref b2), (.ref b2)])) _
    refine XS.iconst X8.here hx rfl (hb hby at_11) ?_
    show Steps p.tables e below (T8.setTop (mkF m 12 #[.val (.int p1), .unset, .unset, .unset] [(.int (1 : Int32)), (.ref b2), (.ref b2)])) _
    refine st11 _ ?_
    show Steps p.tables e below (T11.setTop (mkF m 15 #[.val (.int p1), .unset, .unset, .unset] [(.ref w9), (.int (1 : Int32)), (.ref b2), (.ref b2)])) _
    refine st14 _ ?_
    show Steps p.tables e below (T14.setTop (mkF m 16 #[.val (.int p1), .unset, .unset, .unset] [(.ref b2)])) _
    refine XS.dup X14.here hx rfl (hb hby at_16) rfl rfl ?_
    show Steps p.tables e below (T14.setTop (mkF m 17 #[.val (.int p1), .unset, .unset, .unset] [(.ref b2), (.ref b2)])) _
    refine XS.iconst X14.here hx rfl (hb hby at_17) ?_
    show Steps p.tables e below (T14.setTop (mkF m 18 #[.val (.int p1), .unset, .unset, .unset] [(.int (2 : Int32)), (.ref b2), (.ref b2)])) _
    refine st17 _ ?_
    show Steps p.tables e below (T17.setTop (mkF m 21 #[.val (.int p1), .unset, .unset, .unset] [(.ref w15), (.int (2 : Int32)), (.ref b2), (.ref b2)])) _
    refine st20 _ ?_
    show Steps p.tables e below (T20.setTop (mkF m 22 #[.val (.int p1), .unset, .unset, .unset] [(.ref b2)])) _
    refine XS.dup X20.here hx rfl (hb hby at_22) rfl rfl ?_
    show Steps p.tables e below (T20.setTop (mkF m 23 #[.val (.int p1), .unset, .unset, .unset] [(.ref b2), (.ref b2)])) _
    refine XS.iconst X20.here hx rfl (hb hby at_23) ?_
    show Steps p.tables e below (T20.setTop (mkF m 24 #[.val (.int p1), .unset, .unset, .unset] [(.int (3 : Int32)), (.ref b2), (.ref b2)])) _
    refine st23 _ ?_
    show Steps p.tables e below (T23.setTop (mkF m 27 #[.val (.int p1), .unset, .unset, .unset] [(.ref w21), (.int (3 : Int32)), (.ref b2), (.ref b2)])) _
    refine st26 _ ?_
    show Steps p.tables e below (T26.setTop (mkF m 28 #[.val (.int p1), .unset, .unset, .unset] [(.ref b2)])) _
    refine XS.dup X26.here hx rfl (hb hby at_28) rfl rfl ?_
    show Steps p.tables e below (T26.setTop (mkF m 29 #[.val (.int p1), .unset, .unset, .unset] [(.ref b2), (.ref b2)])) _
    refine XS.iconst X26.here hx rfl (hb hby at_29) ?_
    show Steps p.tables e below (T26.setTop (mkF m 30 #[.val (.int p1), .unset, .unset, .unset] [(.int (4 : Int32)), (.ref b2), (.ref b2)])) _
    refine st29 _ ?_
    show Steps p.tables e below (T29.setTop (mkF m 33 #[.val (.int p1), .unset, .unset, .unset] [(.ref w27), (.int (4 : Int32)), (.ref b2), (.ref b2)])) _
    refine st32 _ ?_
    show Steps p.tables e below (T32.setTop (mkF m 34 #[.val (.int p1), .unset, .unset, .unset] [(.ref b2)])) _
    refine XS.astoreN X32.here hx rfl (hb hby at_34) rfl rfl (l' := #[.val (.int p1), .val (.ref b2), .unset, .unset]) rfl ?_
    show Steps p.tables e below (T32.setTop (mkF m 35 #[.val (.int p1), .val (.ref b2), .unset, .unset] [])) _
    refine XS.aloadN X32.here hx rfl (hb hby at_35) rfl rfl ?_
    show Steps p.tables e below (T32.setTop (mkF m 36 #[.val (.int p1), .val (.ref b2), .unset, .unset] [(.ref b2)])) _
    refine XS.iloadN X32.here hx rfl (hb hby at_36) rfl ?_
    show Steps p.tables e below (T32.setTop (mkF m 37 #[.val (.int p1), .val (.ref b2), .unset, .unset] [(.int p1), (.ref b2)])) _
    refine X32.ldcInt hx hown (mvT hZ (hw _ (List.mem_of_getElem? (i := 14) rfl))) (g := (mkF m 37 #[.val (.int p1), .val (.ref b2), .unset, .unset] [(.int p1), (.ref b2)])) rfl (hb hby at_37) _ ?_
    show Steps p.tables e below (T32.setTop (mkF m 39 #[.val (.int p1), .val (.ref b2), .unset, .unset] [(.int (2147483647 : Int32)), (.int p1), (.ref b2)])) _
    refine XS.iand X32.here hx rfl (hb hby at_39) rfl ?_
    show Steps p.tables e below (T32.setTop (mkF m 40 #[.val (.int p1), .val (.ref b2), .unset, .unset] [(.int (p1 &&& (2147483647 : Int32))), (.ref b2)])) _
    refine XS.iconst X32.here hx rfl (hb hby at_40) ?_
    show Steps p.tables e below (T32.setTop (mkF m 41 #[.val (.int p1), .val (.ref b2), .unset, .unset] [(.int (5 : Int32)), (.int (p1 &&& (2147483647 : Int32))), (.ref b2)])) _
    refine iremM X32 hx rfl (hb hby at_41) rfl (by decide : ¬ ((5 : Int32) = (0 : Int32))) ?_
    show Steps p.tables e below (T32.setTop (mkF m 42 #[.val (.int p1), .val (.ref b2), .unset, .unset] [(.int ((p1 &&& (2147483647 : Int32)) % (5 : Int32))), (.ref b2)])) _
    refine X32.aaload hx (j := ((p1 &&& (2147483647 : Int32)) % (5 : Int32))) (v := (.ref w21)) (by rw [e32]; exact Ar33.1) (State.isArrayOf_alike hZ.alike Ar33.2.1) rfl Ar33.2.2 hin33 hat33 (g := (mkF m 42 #[.val (.int p1), .val (.ref b2), .unset, .unset] [(.int ((p1 &&& (2147483647 : Int32)) % (5 : Int32))), (.ref b2)])) rfl rfl (hb hby at_42) _ ?_
    show Steps p.tables e below (T32.setTop (mkF m 43 #[.val (.int p1), .val (.ref b2), .unset, .unset] [(.ref w21)])) _
    refine XS.astoreN X32.here hx rfl (hb hby at_43) rfl rfl (l' := #[.val (.int p1), .val (.ref b2), .val (.ref w21), .unset]) rfl ?_
    show Steps p.tables e below (T32.setTop (mkF m 44 #[.val (.int p1), .val (.ref b2), .val (.ref w21), .unset] [])) _
    refine XS.aloadN X32.here hx rfl (hb hby at_44) rfl rfl ?_
    show Steps p.tables e below (T32.setTop (mkF m 45 #[.val (.int p1), .val (.ref b2), .val (.ref w21), .unset] [(.ref w21)])) _
    refine st36 _ ?_
    show Steps p.tables e below (T36.setTop (mkF m 48 #[.val (.int p1), .val (.ref b2), .val (.ref w21), .unset] [(.ref w21), (.ref w21)])) _
    refine Jvm.RoadKit.acmp (g := (mkF m 48 #[.val (.int p1), .val (.ref b2), .val (.ref w21), .unset] [(.ref w21), (.ref w21)])) X36 hx rfl rfl rfl (pc0 := 48) (pc' := 51) (same := true) rfl (hb hby at_48) rfl (decide_eq_true rfl) (by decide) (by decide) ?_
    show Steps p.tables e below (T36.setTop (mkF m 51 #[.val (.int p1), .val (.ref b2), .val (.ref w21), .unset] [])) _
    refine XS.iconst X36.here hx rfl (hb hby at_51) ?_
    show Steps p.tables e below (T36.setTop (mkF m 52 #[.val (.int p1), .val (.ref b2), .val (.ref w21), .unset] [(.int (1 : Int32))])) _
    refine XS.goto X36.here hx rfl (pc0 := 52) (pc' := 56) rfl (hb hby at_52) (by decide) (by decide) ?_
    show Steps p.tables e below (T36.setTop (mkF m 56 #[.val (.int p1), .val (.ref b2), .val (.ref w21), .unset] [(.int (1 : Int32))])) _
    refine XS.istoreN X36.here hx rfl (hb hby at_56) rfl (l' := #[.val (.int p1), .val (.ref b2), .val (.ref w21), .val (.int (1 : Int32))]) rfl ?_
    show Steps p.tables e below (T36.setTop (mkF m 57 #[.val (.int p1), .val (.ref b2), .val (.ref w21), .val (.int (1 : Int32))] [])) _
    refine XS.aloadN X36.here hx rfl (hb hby at_57) rfl rfl ?_
    show Steps p.tables e below (T36.setTop (mkF m 58 #[.val (.int p1), .val (.ref b2), .val (.ref w21), .val (.int (1 : Int32))] [(.ref w21)])) _
    refine st40.trans ?_
    show Steps p.tables e below (T40.setTop (mkF m 61 #[.val (.int p1), .val (.ref b2), .val (.ref w21), .val (.int (1 : Int32))] [(.int (1 : Int32))])) _
    refine XS.iloadN X40.here hx rfl (hb hby at_61) rfl ?_
    show Steps p.tables e below (T40.setTop (mkF m 62 #[.val (.int p1), .val (.ref b2), .val (.ref w21), .val (.int (1 : Int32))] [(.int (1 : Int32)), (.int (1 : Int32))])) _
    refine XS.icmpNo X40.here hx rfl (hb hby at_62) rfl (teq (rfl : (1 : Int32) = (1 : Int32))).2 ?_
    show Steps p.tables e below (T40.setTop (mkF m 65 #[.val (.int p1), .val (.ref b2), .val (.ref w21), .val (.int (1 : Int32))] [])) _
    refine XS.iconst X40.here hx rfl (hb hby at_65) ?_
    show Steps p.tables e below (T40.setTop (mkF m 66 #[.val (.int p1), .val (.ref b2), .val (.ref w21), .val (.int (1 : Int32))] [(.int (1 : Int32))])) _
    refine XS.goto X40.here hx rfl (pc0 := 66) (pc' := 70) rfl (hb hby at_66) (by decide) (by decide) ?_
    show Steps p.tables e below (T40.setTop (mkF m 70 #[.val (.int p1), .val (.ref b2), .val (.ref w21), .val (.int (1 : Int32))] [(.int (1 : Int32))])) _
    exact retN X40 hx (t := .boolean) Bd.returns (by simp) (hb hby at_70) hr
  · exact ⟨rfl, N40⟩
def Q2_5 (Z : State) (a1 : Addr) (h0 : Heap) (n0 : Nat) (v : Option Value) (h : Heap) (L : List Loc) : Prop := v = some (.int (4 : Int32)) ∧ Fr n0 L ∧ h = h0
set_option maxRecDepth 65536 in
set_option maxHeartbeats 40000000 in
theorem rm2_5 (l : Launch) (Z : State) (a0 : Array Value) (hw : ∀ d ∈ tables_1, d.before a0 Z = true) (ws : List Jvm.Cond) (a1 : Addr) (h0 : Heap) (n0 : Nat) (Z0 : n0 ≤ h0.size) (F_ordinal_a1 : Fld Z h0 a1 "java/lang/Enum" "ordinal" "I" (.int (4 : Int32))) :
    MetFree l (⟨"java/lang/Enum", "ordinal", "()I"⟩ : MethodName) (head1 (Jvm.Cond.code (⟨"java/lang/Enum", "ordinal", "()I"⟩ : MethodName) jdk_37_method_2_code 1 (some .int) :: ws) ({ frames := 0, cells := 0, slots := 0, locals := 0 } : Room)) (fun a U => a = #[(.ref a1)] ∧ Z.Warmed39 U.vm ∧ U.heap = h0) (fun _ _ _ _ _ => True) (fun _ U o U' => ∃ v L, o = .returned v ∧ Q2_5 Z a1 h0 n0 v U'.heap L ∧ FrameEnd U o U' L ({ frames := 0, cells := 0, slots := 0, locals := 0 } : Room).cells ({ frames := 0, cells := 0, slots := 0, locals := 0 } : Room).slots) := by
  refine MetFree.of_bodySF (plainFor_of_name pn_2) hisR ?_
  intro p e s m args below meth c s₁ Bd hml0 hP hK
  obtain ⟨rfl, hZ, hh⟩ := hP
  have hx := Bd.exec
  have hby := Bd.bytes
  have hml : c.maxLocals = 1 := hml0
  have hown : s.vm.findClass "java/lang/Enum" = some m.cls := findClass_of_methodNamed Bd.named
  have hnm := (name_of_methodNamed Bd.named Bd.method).1
  have X0 : Stand p l e ({ frames := 0, cells := 0, slots := 0, locals := 0 } : Room) s m #[(.ref a1)] below meth c s₁ [] 0 0 := Stand.of_body Bd
  have e0 : s₁.heap = h0 := by rw [← hh, Bd.state]; rfl
  have N0 := Fr.nil n0
  have pre0 : ∀ t, Steps p.tables e below (s₁.setTop (mkF m 0 #[.val (.ref a1)] [])) t → Steps p.tables e below (s₁.setTop (entryFrame m #[(.ref a1)] 1)) t := fun t k => castTop (ef_2_R m a1) k
  obtain ⟨T2, X2, e2, st2⟩ := getF X0 hx hZ hown (host := "") (Or.inl (hw _ (List.mem_of_getElem? (i := 27) rfl))) Via.refl e0 F_ordinal_a1 (g := (mkF m 1 #[.val (.ref a1)] [(.ref a1)])) rfl rfl (hb hby d2_1)
  obtain ⟨fs, hr, hrun, hended, hW, hsame⟩ := X2.leave (v := some (.int (4 : Int32))) (fun h => by rw [Bd.returns] at h; cases h)
  refine ⟨_, _, pre0 _ ?_, hrun, hended, _, _, rfl, ?_, ⟨_, rfl⟩, hW, hsame.mono (by decide) (by decide)⟩
  · show Steps p.tables e below (s₁.setTop (mkF m 0 #[.val (.ref a1)] [])) _
    refine XS.aloadN X0.here hx rfl (hb hby d2_0) rfl rfl ?_
    show Steps p.tables e below (s₁.setTop (mkF m 1 #[.val (.ref a1)] [(.ref a1)])) _
    refine st2 _ ?_
    show Steps p.tables e below (T2.setTop (mkF m 4 #[.val (.ref a1)] [(.int (4 : Int32))])) _
    exact retI X2 hx Bd.returns (hb hby d2_4) hr
  · show Q2_5 Z a1 h0 n0 _ T2.heap _
    rw [e2]
    exact ⟨rfl, N0, rfl⟩
def Q1_5 (Z : State) (a1 : Addr) (h0 : Heap) (n0 : Nat) (v : Option Value) (h : Heap) (L : List Loc) : Prop := v = some (.int (0 : Int32)) ∧ Fr n0 L ∧ h = h0
set_option maxRecDepth 65536 in
set_option maxHeartbeats 40000000 in
theorem rm1_5 (l : Launch) (Z : State) (a0 : Array Value) (hw : ∀ d ∈ tables_1, d.before a0 Z = true) (ws : List Jvm.Cond) (a1 : Addr) (h0 : Heap) (n0 : Nat) (Z0 : n0 ≤ h0.size) (F_ordinal_a1 : Fld Z h0 a1 "java/lang/Enum" "ordinal" "I" (.int (4 : Int32))) (E_a1 : Exa Z h0 a1 "com/example/holdfast/holdfast/config/Source") :
    MetFree l (⟨"com/example/holdfast/holdfast/config/Source", "holdsLists", "()Z"⟩ : MethodName) (head1 (Jvm.Cond.code (⟨"com/example/holdfast/holdfast/config/Source", "holdsLists", "()Z"⟩ : MethodName) prog_7_method_9_code 1 (some .boolean) :: ws) ({ frames := 1, cells := 0, slots := 0, locals := 12 } : Room)) (fun a U => a = #[(.ref a1)] ∧ Z.Warmed39 U.vm ∧ U.heap = h0) (fun _ _ _ _ _ => True) (fun _ U o U' => ∃ v L, o = .returned v ∧ Q1_5 Z a1 h0 n0 v U'.heap L ∧ FrameEnd U o U' L ({ frames := 1, cells := 0, slots := 0, locals := 12 } : Room).cells ({ frames := 1, cells := 0, slots := 0, locals := 12 } : Room).slots) := by
  refine MetFree.of_bodySF (plainFor_of_name pn_1) hisR ?_
  intro p e s m args below meth c s₁ Bd hml0 hP hK
  obtain ⟨rfl, hZ, hh⟩ := hP
  have hx := Bd.exec
  have hby := Bd.bytes
  have hml : c.maxLocals = 1 := hml0
  have hown : s.vm.findClass "com/example/holdfast/holdfast/config/Source" = some m.cls := findClass_of_methodNamed Bd.named
  have hnm := (name_of_methodNamed Bd.named Bd.method).1
  have X0 : Stand p l e ({ frames := 1, cells := 0, slots := 0, locals := 12 } : Room) s m #[(.ref a1)] below meth c s₁ [] 0 0 := Stand.of_body Bd
  have e0 : s₁.heap = h0 := by rw [← hh, Bd.state]; rfl
  have N0 := Fr.nil n0
  have pre0 : ∀ t, Steps p.tables e below (s₁.setTop (mkF m 0 #[.val (.ref a1)] [])) t → Steps p.tables e below (s₁.setTop (entryFrame m #[(.ref a1)] 1)) t := fun t k => castTop (ef_1_R m a1) k
  obtain ⟨cq2, kq2, q2a, q2b, q2c⟩ := isOf hZ e0 E_a1
  obtain ⟨_, _, ⟨T2, L2, k2, n2⟩, -, X2, ⟨Lc2, hQ2, l2, y2, z2⟩, st2⟩ := X0.virtualBackUp hx (x := (⟨"com/example/holdfast/holdfast/config/Source", "ordinal", "()I"⟩ : MethodName)) (y := (⟨"java/lang/Enum", "ordinal", "()I"⟩ : MethodName)) (owner := "java/lang/Enum") hown (mvT hZ (hw _ (List.mem_of_getElem? (i := 20) rfl))) (mvT hZ (hw _ (List.mem_of_getElem? (i := 21) rfl))) (mvT hZ (hw _ (List.mem_of_getElem? (i := 22) rfl))) (by decide) (mvT hZ (hw _ (List.mem_of_getElem? (i := 24) rfl))) (mvT hZ (hw _ (List.mem_of_getElem? (i := 23) rfl))) (backOf (W := 0) (rm2_5 l Z a0 hw [] a1 h0 n0 Z0 F_ordinal_a1) hZ (hw _ (List.mem_of_getElem? (i := 26) rfl)) (hw _ (List.mem_of_getElem? (i := 25) rfl)) (by decide) (by decide)) q2a q2c (g := (mkF m 1 #[.val (.ref a1)] [(.ref a1)])) rfl (by rw [hml]; rfl) (Steps.refl _) (argsL := []) (rest := []) (lenOf pd_0 rfl) rfl (by show 2 * 0 + _ ≤ _; exact Nat.le_of_eq rfl) (hb hby d1_1) (fun _ _ => ⟨rfl, e0, (by decide : 0 + 0 ≤ _), (by decide : 0 + 0 ≤ _)⟩)
  dsimp only [Pt.U, Pt.locs, Pt.cells, Pt.slots] at X2 l2 y2 z2 st2 hQ2
  subst l2 y2 z2
  obtain ⟨rfl, Nq2, e2⟩ := hQ2
  have N2 := Fr.app N0 Nq2
  obtain ⟨fs, hr, hrun, hended, hW, hsame⟩ := X2.leave (v := some (.int (0 : Int32))) (fun h => by rw [Bd.returns] at h; cases h)
  refine ⟨_, _, pre0 _ ?_, hrun, hended, _, _, rfl, ?_, ⟨_, rfl⟩, hW, hsame.mono (by decide) (by decide)⟩
  · show Steps p.tables e below (s₁.setTop (mkF m 0 #[.val (.ref a1)] [])) _
    refine XS.aloadN X0.here hx rfl (hb hby d1_0) rfl rfl ?_
    show Steps p.tables e below (s₁.setTop (mkF m 1 #[.val (.ref a1)] [(.ref a1)])) _
    refine st2.trans ?_
    show Steps p.tables e below (T2.setTop (mkF m 4 #[.val (.ref a1)] [(.int (4 : Int32))])) _
    refine X2.tableswitchIn hx (g := (mkF m 4 #[.val (.ref a1)] [(.int (4 : Int32))])) rfl rfl (hb hby d1_4) (by decide) (off := 50) (by decide) (by show 0 ≤ ((4 : Nat) : Int) + 50; decide) _ ?_
    show Steps p.tables e below (T2.setTop (mkF m 54 #[.val (.ref a1)] [])) _
    refine XS.iconst X2.here hx rfl (hb hby d1_54) ?_
    show Steps p.tables e below (T2.setTop (mkF m 55 #[.val (.ref a1)] [(.int (0 : Int32))])) _
    exact retN X2 hx (t := .boolean) Bd.returns (by simp) (hb hby d1_55) hr
  · show Q1_5 Z a1 h0 n0 _ T2.heap _
    rw [e2]
    exact ⟨rfl, N2, rfl⟩
set_option maxRecDepth 65536 in
set_option maxHeartbeats 40000000 in
theorem rm0_5 (l : Launch) (Z : State) (a0 : Array Value) (hw : ∀ d ∈ tables_1, d.before a0 Z = true) (ws : List Jvm.Cond) (p1 : Int32) (w3 : Addr) (w9 : Addr) (w15 : Addr) (w21 : Addr) (w27 : Addr) (h0 : Heap) (n0 : Nat) (Z0 : n0 ≤ h0.size) (S_INIT_PARAMETER : Sta Z h0 "com/example/holdfast/holdfast/config/Source" "INIT_PARAMETER" "Lcom/example/holdfast/holdfast/config/Source;" (.ref w3)) (E_w3 : Exa Z h0 w3 "com/example/holdfast/holdfast/config/Source") (S_SYSTEM_PROPERTY : Sta Z h0 "com/example/holdfast/holdfast/config/Source" "SYSTEM_PROPERTY" "Lcom/example/holdfast/holdfast/config/Source;" (.ref w9)) (E_w9 : Exa Z h0 w9 "com/example/holdfast/holdfast/config/Source") (S_ENVIRONMENT : Sta Z h0 "com/example/holdfast/holdfast/config/Source" "ENVIRONMENT" "Lcom/example/holdfast/holdfast/config/Source;" (.ref w15)) (E_w15 : Exa Z h0 w15 "com/example/holdfast/holdfast/config/Source") (S_SPRING_BOOT : Sta Z h0 "com/example/holdfast/holdfast/config/Source" "SPRING_BOOT" "Lcom/example/holdfast/holdfast/config/Source;" (.ref w21)) (E_w21 : Exa Z h0 w21 "com/example/holdfast/holdfast/config/Source") (S_PROPERTIES_FILE : Sta Z h0 "com/example/holdfast/holdfast/config/Source" "PROPERTIES_FILE" "Lcom/example/holdfast/holdfast/config/Source;" (.ref w27)) (E_w27 : Exa Z h0 w27 "com/example/holdfast/holdfast/config/Source") (P34 : ((p1 &&& (2147483647 : Int32)) % (5 : Int32)) = (4 : Int32)) (P37 : ¬ (w27 = w21)) (F_ordinal_w27 : Fld Z h0 w27 "java/lang/Enum" "ordinal" "I" (.int (4 : Int32))) :
    MetFree l x (head1 (Jvm.Cond.code x code maxLocals ret :: ws) room_1) (fun a U => a = #[(.int p1)] ∧ Z.Warmed39 U.vm ∧ U.heap = h0) (fun _ _ _ _ _ => True) (fun _ U o U' => ∃ v L, o = .returned v ∧ own_QT n0 v L ∧ FrameEnd U o U' L room_1.cells room_1.slots) := by
  refine MetFree.of_bodySF (plainFor_of_name pn_0) hisR ?_
  intro p e s m args below meth c s₁ Bd hml0 hP hK
  obtain ⟨rfl, hZ, hh⟩ := hP
  have hx := Bd.exec
  have hby := Bd.bytes
  have hml : c.maxLocals = 4 := hml0
  have hown : s.vm.findClass "com/example/holdfast/holdfast/config/SourceHoldsListsPinLaw" = some m.cls := findClass_of_methodNamed Bd.named
  have hnm := (name_of_methodNamed Bd.named Bd.method).1
  have X0 : Stand p l e room_1 s m #[(.int p1)] below meth c s₁ [] 0 0 := Stand.of_body Bd
  have e0 : s₁.heap = h0 := by rw [← hh, Bd.state]; rfl
  have N0 := Fr.nil n0
  have pre0 : ∀ t, Steps p.tables e below (s₁.setTop (mkF m 0 #[.val (.int p1), .unset, .unset, .unset] [])) t → Steps p.tables e below (s₁.setTop (entryFrame m #[(.int p1)] maxLocals)) t := fun t k => castTop (ef_0_I m p1) k
  obtain ⟨T2, h2, k2, X2, e2, E2, A2, O2, st2⟩ := newR X0 hx hZ hown (hw _ (List.mem_of_getElem? (i := 0) rfl)) (hw _ (List.mem_of_getElem? (i := 1) rfl)) e0 (g := (mkF m 1 #[.val (.int p1), .unset, .unset, .unset] [(.int (5 : Int32))])) rfl (hb hby at_1) rfl (by decide) (cap := 5) (by decide) (by decide) (by decide) (by decide)
  obtain ⟨b2, g2⟩ : ∃ z, z = h0.size := ⟨_, rfl⟩
  rw [← g2] at A2 st2
  have sz_b2 : h0.size ≤ b2 := Nat.le_trans (Keep.refl h0 []).1 (Nat.le_of_eq g2.symm)
  have g_b2 : n0 ≤ b2 := Nat.le_trans Z0 sz_b2
  have K0_2 : Keep h0 h2 [] := (Keep.refl h0 []).ext E2
  have Z2 : n0 ≤ h2.size := Nat.le_trans Z0 E2.1
  have V_b2 : Arv Z h2 b2 k2 (.object "com/example/holdfast/holdfast/config/Source") (5 : Int32) [.null, .null, .null, .null, .null] .null := (Arv.new A2 (by decide)).pad (pad_rep [] .null 5)
  have f4 := (S_INIT_PARAMETER.ext E2)
  obtain ⟨T5, X5, e5, st5⟩ := getS2 X2 hx hZ hown (host := "") (Or.inl (hw _ (List.mem_of_getElem? (i := 2) rfl))) Via.refl e2 f4 (g := (mkF m 6 #[.val (.int p1), .unset, .unset, .unset] [(.int (0 : Int32)), (.ref b2), (.ref b2)])) rfl (hb hby at_6)
  obtain ⟨cl6, Ar6, q6, S6, N_6, H6, G6⟩ := V_b2
  have hin6 : ¬ ((0 : Int32) < 0 ∨ cl6.slots.size ≤ ((0 : Int32)).toNatClampNeg) := inb_of S6 ⟨by decide, (by decide : (0 : Int32) < (5 : Int32))⟩
  have f7 := (E_w3.ext E2)
  obtain ⟨T8, h8, X8, e8, W8, st8⟩ := stR X5 hx hZ e5 Ar6 (j := (0 : Int32)) hin6 rfl (Sto.ofV Ar6 q6 O2 (Ins.self f7)) (g := (mkF m 9 #[.val (.int p1), .unset, .unset, .unset] [(.ref w3), (.int (0 : Int32)), (.ref b2), (.ref b2)])) rfl rfl (hb hby at_9)
  have K0_8 : Keep h0 h8 [] := K0_2.wr W8 (Or.inr sz_b2)
  have N8 := Fr.snoc X8 N0 g_b2
  have Z8 : n0 ≤ h8.size := Nat.le_trans Z2 (Keep.of_wr W8).1
  have V8 : Arv Z h8 b2 k2 (.object "com/example/holdfast/holdfast/config/Source") (5 : Int32) [(.ref w3), .null, .null, .null, .null] .null := Arv.set Ar6 q6 S6 N_6 H6 G6 rfl W8 0 rfl (Nat.le_of_ble_eq_true rfl)
  have f10 := ((S_SYSTEM_PROPERTY.ext E2).wr W8)
  obtain ⟨T11, X11, e11, st11⟩ := getS2 X8 hx hZ hown (host := "") (Or.inl (hw _ (List.mem_of_getElem? (i := 6) rfl))) Via.refl e8 f10 (g := (mkF m 12 #[.val (.int p1), .unset, .unset, .unset] [(.int (1 : Int32)), (.ref b2), (.ref b2)])) rfl (hb hby at_12)
  obtain ⟨cl12, Ar12, q12, S12, N_12, H12, G12⟩ := V8
  have hin12 : ¬ ((1 : Int32) < 0 ∨ cl12.slots.size ≤ ((1 : Int32)).toNatClampNeg) := inb_of S12 ⟨by decide, (by decide : (1 : Int32) < (5 : Int32))⟩
  have f13 := ((E_w9.ext E2).wr W8)
  obtain ⟨T14, h14, X14, e14, W14, st14⟩ := stR X11 hx hZ e11 Ar12 (j := (1 : Int32)) hin12 rfl (Sto.ofV Ar12 q12 O2 (Ins.self f13)) (g := (mkF m 15 #[.val (.int p1), .unset, .unset, .unset] [(.ref w9), (.int (1 : Int32)), (.ref b2), (.ref b2)])) rfl rfl (hb hby at_15)
  have K0_14 : Keep h0 h14 [] := K0_8.wr W14 (Or.inr sz_b2)
  have N14 := Fr.snoc X14 N8 g_b2
  have Z14 : n0 ≤ h14.size := Nat.le_trans Z8 (Keep.of_wr W14).1
  have V14 : Arv Z h14 b2 k2 (.object "com/example/holdfast/holdfast/config/Source") (5 : Int32) [(.ref w3), (.ref w9), .null, .null, .null] .null := Arv.set Ar12 q12 S12 N_12 H12 G12 rfl W14 1 rfl (Nat.le_of_ble_eq_true rfl)
  have f16 := (((S_ENVIRONMENT.ext E2).wr W8).wr W14)
  obtain ⟨T17, X17, e17, st17⟩ := getS2 X14 hx hZ hown (host := "") (Or.inl (hw _ (List.mem_of_getElem? (i := 8) rfl))) Via.refl e14 f16 (g := (mkF m 18 #[.val (.int p1), .unset, .unset, .unset] [(.int (2 : Int32)), (.ref b2), (.ref b2)])) rfl (hb hby at_18)
  obtain ⟨cl18, Ar18, q18, S18, N_18, H18, G18⟩ := V14
  have hin18 : ¬ ((2 : Int32) < 0 ∨ cl18.slots.size ≤ ((2 : Int32)).toNatClampNeg) := inb_of S18 ⟨by decide, (by decide : (2 : Int32) < (5 : Int32))⟩
  have f19 := (((E_w15.ext E2).wr W8).wr W14)
  obtain ⟨T20, h20, X20, e20, W20, st20⟩ := stR X17 hx hZ e17 Ar18 (j := (2 : Int32)) hin18 rfl (Sto.ofV Ar18 q18 O2 (Ins.self f19)) (g := (mkF m 21 #[.val (.int p1), .unset, .unset, .unset] [(.ref w15), (.int (2 : Int32)), (.ref b2), (.ref b2)])) rfl rfl (hb hby at_21)
  have K0_20 : Keep h0 h20 [] := K0_14.wr W20 (Or.inr sz_b2)
  have N20 := Fr.snoc X20 N14 g_b2
  have Z20 : n0 ≤ h20.size := Nat.le_trans Z14 (Keep.of_wr W20).1
  have V20 : Arv Z h20 b2 k2 (.object "com/example/holdfast/holdfast/config/Source") (5 : Int32) [(.ref w3), (.ref w9), (.ref w15), .null, .null] .null := Arv.set Ar18 q18 S18 N_18 H18 G18 rfl W20 2 rfl (Nat.le_of_ble_eq_true rfl)
  have f22 := ((((S_SPRING_BOOT.ext E2).wr W8).wr W14).wr W20)
  obtain ⟨T23, X23, e23, st23⟩ := getS2 X20 hx hZ hown (host := "") (Or.inl (hw _ (List.mem_of_getElem? (i := 10) rfl))) Via.refl e20 f22 (g := (mkF m 24 #[.val (.int p1), .unset, .unset, .unset] [(.int (3 : Int32)), (.ref b2), (.ref b2)])) rfl (hb hby at_24)
  obtain ⟨cl24, Ar24, q24, S24, N_24, H24, G24⟩ := V20
  have hin24 : ¬ ((3 : Int32) < 0 ∨ cl24.slots.size ≤ ((3 : Int32)).toNatClampNeg) := inb_of S24 ⟨by decide, (by decide : (3 : Int32) < (5 : Int32))⟩
  have f25 := ((((E_w21.ext E2).wr W8).wr W14).wr W20)
  obtain ⟨T26, h26, X26, e26, W26, st26⟩ := stR X23 hx hZ e23 Ar24 (j := (3 : Int32)) hin24 rfl (Sto.ofV Ar24 q24 O2 (Ins.self f25)) (g := (mkF m 27 #[.val (.int p1), .unset, .unset, .unset] [(.ref w21), (.int (3 : Int32)), (.ref b2), (.ref b2)])) rfl rfl (hb hby at_27)
  have K0_26 : Keep h0 h26 [] := K0_20.wr W26 (Or.inr sz_b2)
  have N26 := Fr.snoc X26 N20 g_b2
  have Z26 : n0 ≤ h26.size := Nat.le_trans Z20 (Keep.of_wr W26).1
  have V26 : Arv Z h26 b2 k2 (.object "com/example/holdfast/holdfast/config/Source") (5 : Int32) [(.ref w3), (.ref w9), (.ref w15), (.ref w21), .null] .null := Arv.set Ar24 q24 S24 N_24 H24 G24 rfl W26 3 rfl (Nat.le_of_ble_eq_true rfl)
  have f28 := (((((S_PROPERTIES_FILE.ext E2).wr W8).wr W14).wr W20).wr W26)
  obtain ⟨T29, X29, e29, st29⟩ := getS2 X26 hx hZ hown (host := "") (Or.inl (hw _ (List.mem_of_getElem? (i := 12) rfl))) Via.refl e26 f28 (g := (mkF m 30 #[.val (.int p1), .unset, .unset, .unset] [(.int (4 : Int32)), (.ref b2), (.ref b2)])) rfl (hb hby at_30)
  obtain ⟨cl30, Ar30, q30, S30, N_30, H30, G30⟩ := V26
  have hin30 : ¬ ((4 : Int32) < 0 ∨ cl30.slots.size ≤ ((4 : Int32)).toNatClampNeg) := inb_of S30 ⟨by decide, (by decide : (4 : Int32) < (5 : Int32))⟩
  have f31 := (((((E_w27.ext E2).wr W8).wr W14).wr W20).wr W26)
  obtain ⟨T32, h32, X32, e32, W32, st32⟩ := stR X29 hx hZ e29 Ar30 (j := (4 : Int32)) hin30 rfl (Sto.ofV Ar30 q30 O2 (Ins.self f31)) (g := (mkF m 33 #[.val (.int p1), .unset, .unset, .unset] [(.ref w27), (.int (4 : Int32)), (.ref b2), (.ref b2)])) rfl rfl (hb hby at_33)
  have K0_32 : Keep h0 h32 [] := K0_26.wr W32 (Or.inr sz_b2)
  have N32 := Fr.snoc X32 N26 g_b2
  have Z32 : n0 ≤ h32.size := Nat.le_trans Z26 (Keep.of_wr W32).1
  have V32 : Arv Z h32 b2 k2 (.object "com/example/holdfast/holdfast/config/Source") (5 : Int32) [(.ref w3), (.ref w9), (.ref w15), (.ref w21), (.ref w27)] .null := Arv.set Ar30 q30 S30 N_30 H30 G30 rfl W32 4 rfl (Nat.le_of_ble_eq_true rfl)
  obtain ⟨cl33, Ar33, q33, S33, N_33, H33, G33⟩ := V32
  have hin33 : ¬ (((p1 &&& (2147483647 : Int32)) % (5 : Int32)) < 0 ∨ cl33.slots.size ≤ (((p1 &&& (2147483647 : Int32)) % (5 : Int32))).toNatClampNeg) := inb_of S33 ⟨by rw [P34]; decide, by rw [P34]; exact (by decide : (4 : Int32) < (5 : Int32))⟩
  have hat33 : cl33.slots[(((p1 &&& (2147483647 : Int32)) % (5 : Int32))).toNatClampNeg]? = some (.ref w27) := Has.at H33 hin33 (by rw [P34]; rfl)
  have f35 := ((f22.wr W26).wr W32)
  obtain ⟨T36, X36, e36, st36⟩ := getS2 X32 hx hZ hown (host := "") (Or.inl (hw _ (List.mem_of_getElem? (i := 10) rfl))) Via.refl e32 f35 (g := (mkF m 45 #[.val (.int p1), .val (.ref b2), .val (.ref w27), .unset] [(.ref w27)])) rfl (hb hby at_45)
  have ne38 : w27 ≠ b2 := Nat.ne_of_lt (Nat.lt_of_lt_of_le E_w27.lt (Nat.le_of_eq g2.symm))
  have f39 := ((((((F_ordinal_w27.ext E2).other W8 (Or.inl ne38)).other W14 (Or.inl ne38)).other W20 (Or.inl ne38)).other W26 (Or.inl ne38)).other W32 (Or.inl ne38))
  have f40 := (f31.wr W32)
  obtain ⟨cq41, kq41, q41a, q41b, q41c⟩ := isOf hZ e36 f40
  obtain ⟨_, _, ⟨T41, L41, k41, n41⟩, -, X41, ⟨Lc41, hQ41, l41, y41, z41⟩, st41⟩ := X36.virtualBack hx (y := (⟨"com/example/holdfast/holdfast/config/Source", "holdsLists", "()Z"⟩ : MethodName)) (z := (⟨"com/example/holdfast/holdfast/config/Source", "holdsLists", "()Z"⟩ : MethodName)) hown (mvT hZ (hw _ (List.mem_of_getElem? (i := 15) rfl))) (mvT hZ (hw _ (List.mem_of_getElem? (i := 16) rfl))) (notFace_of_selects (args := #[]) (mvT hZ (hw _ (List.mem_of_getElem? (i := 18) rfl)))) (mvT hZ (hw _ (List.mem_of_getElem? (i := 18) rfl))) (mvT hZ (hw _ (List.mem_of_getElem? (i := 17) rfl))) (by decide) (backOf (W := 0) (rm1_5 l Z a0 hw [] w27 h32 n0 Z32 f39 f40) hZ (hw _ (List.mem_of_getElem? (i := 19) rfl)) (hw _ (List.mem_of_getElem? (i := 3) rfl)) (by decide) (by decide)) q41a q41c (g := (mkF m 58 #[.val (.int p1), .val (.ref b2), .val (.ref w27), .val (.int (0 : Int32))] [(.ref w27)])) rfl (by rw [hml]; rfl) (Steps.refl _) (argsL := []) (rest := []) (lenOf pd_1 rfl) rfl (by show 2 * 0 + _ ≤ _; exact Nat.le_of_eq rfl) (hb hby at_58) (fun _ _ => ⟨rfl, e36, (by decide : 1 + 0 ≤ _), (by decide : 5 + 0 ≤ _)⟩)
  dsimp only [Pt.U, Pt.locs, Pt.cells, Pt.slots] at X41 l41 y41 z41 st41 hQ41
  subst l41 y41 z41
  obtain ⟨rfl, Nq41, e41⟩ := hQ41
  have N41 := Fr.app N32 Nq41
  obtain ⟨fs, hr, hrun, hended, hW, hsame⟩ := X41.leave (v := some (.int (1 : Int32))) (fun h => by rw [Bd.returns] at h; cases h)
  refine ⟨_, _, pre0 _ ?_, hrun, hended, _, _, rfl, ?_, ⟨_, rfl⟩, hW, hsame.mono (by decide) (by decide)⟩
  · show Steps p.tables e below (s₁.setTop (mkF m 0 #[.val (.int p1), .unset, .unset, .unset] [])) _
    refine XS.iconst X0.here hx rfl (hb hby at_0) ?_
    show Steps p.tables e below (s₁.setTop (mkF m 1 #[.val (.int p1), .unset, .unset, .unset] [(.int (5 : Int32))])) _
    refine st2 _ ?_
    show Steps p.tables e below (T2.setTop (mkF m 4 #[.val (.int p1), .unset, .unset, .unset] [(.ref b2)])) _
    refine XS.dup X2.here hx rfl (hb hby at_4) rfl rfl ?_
    show Steps p.tables e below (T2.setTop (mkF m 5 #[.val (.int p1), .unset, .unset, .unset] [(.ref b2), (.ref b2)])) _
    refine XS.iconst X2.here hx rfl (hb hby at_5) ?_
    show Steps p.tables e below (T2.setTop (mkF m 6 #[.val (.int p1), .unset, .unset, .unset] [(.int (0 : Int32)), (.ref b2), (.ref b2)])) _
    refine st5 _ ?_
    show Steps p.tables e below (T5.setTop (mkF m 9 #[.val (.int p1), .unset, .unset, .unset] [(.ref w3), (.int (0 : Int32)), (.ref b2), (.ref b2)])) _
    refine st8 _ ?_
    show Steps p.tables e below (T8.setTop (mkF m 10 #[.val (.int p1), .unset, .unset, .unset] [(.ref b2)])) _
    refine XS.dup X8.here hx rfl (hb hby at_10) rfl rfl ?_
    show Steps p.tables e below (T8.setTop (mkF m 11 #[.val (.int p1), .unset, .unset, .unset] [(.ref b2), (.ref b2)])) _
    refine XS.iconst X8.here hx rfl (hb hby at_11) ?_
    show Steps p.tables e below (T8.setTop (mkF m 12 #[.val (.int p1), .unset, .unset, .unset] [(.int (1 : Int32)), (.ref b2), (.ref b2)])) _
    refine st11 _ ?_
    show Steps p.tables e below (T11.setTop (mkF m 15 #[.val (.int p1), .unset, .unset, .unset] [(.ref w9), (.int (1 : Int32)), (.ref b2), (.ref b2)])) _
    refine st14 _ ?_
    show Steps p.tables e below (T14.setTop (mkF m 16 #[.val (.int p1), .unset, .unset, .unset] [(.ref b2)])) _
    refine XS.dup X14.here hx rfl (hb hby at_16) rfl rfl ?_
    show Steps p.tables e below (T14.setTop (mkF m 17 #[.val (.int p1), .unset, .unset, .unset] [(.ref b2), (.ref b2)])) _
    refine XS.iconst X14.here hx rfl (hb hby at_17) ?_
    show Steps p.tables e below (T14.setTop (mkF m 18 #[.val (.int p1), .unset, .unset, .unset] [(.int (2 : Int32)), (.ref b2), (.ref b2)])) _
    refine st17 _ ?_
    show Steps p.tables e below (T17.setTop (mkF m 21 #[.val (.int p1), .unset, .unset, .unset] [(.ref w15), (.int (2 : Int32)), (.ref b2), (.ref b2)])) _
    refine st20 _ ?_
    show Steps p.tables e below (T20.setTop (mkF m 22 #[.val (.int p1), .unset, .unset, .unset] [(.ref b2)])) _
    refine XS.dup X20.here hx rfl (hb hby at_22) rfl rfl ?_
    show Steps p.tables e below (T20.setTop (mkF m 23 #[.val (.int p1), .unset, .unset, .unset] [(.ref b2), (.ref b2)])) _
    refine XS.iconst X20.here hx rfl (hb hby at_23) ?_
    show Steps p.tables e below (T20.setTop (mkF m 24 #[.val (.int p1), .unset, .unset, .unset] [(.int (3 : Int32)), (.ref b2), (.ref b2)])) _
    refine st23 _ ?_
    show Steps p.tables e below (T23.setTop (mkF m 27 #[.val (.int p1), .unset, .unset, .unset] [(.ref w21), (.int (3 : Int32)), (.ref b2), (.ref b2)])) _
    refine st26 _ ?_
    show Steps p.tables e below (T26.setTop (mkF m 28 #[.val (.int p1), .unset, .unset, .unset] [(.ref b2)])) _
    refine XS.dup X26.here hx rfl (hb hby at_28) rfl rfl ?_
    show Steps p.tables e below (T26.setTop (mkF m 29 #[.val (.int p1), .unset, .unset, .unset] [(.ref b2), (.ref b2)])) _
    refine XS.iconst X26.here hx rfl (hb hby at_29) ?_
    show Steps p.tables e below (T26.setTop (mkF m 30 #[.val (.int p1), .unset, .unset, .unset] [(.int (4 : Int32)), (.ref b2), (.ref b2)])) _
    refine st29 _ ?_
    show Steps p.tables e below (T29.setTop (mkF m 33 #[.val (.int p1), .unset, .unset, .unset] [(.ref w27), (.int (4 : Int32)), (.ref b2), (.ref b2)])) _
    refine st32 _ ?_
    show Steps p.tables e below (T32.setTop (mkF m 34 #[.val (.int p1), .unset, .unset, .unset] [(.ref b2)])) _
    refine XS.astoreN X32.here hx rfl (hb hby at_34) rfl rfl (l' := #[.val (.int p1), .val (.ref b2), .unset, .unset]) rfl ?_
    show Steps p.tables e below (T32.setTop (mkF m 35 #[.val (.int p1), .val (.ref b2), .unset, .unset] [])) _
    refine XS.aloadN X32.here hx rfl (hb hby at_35) rfl rfl ?_
    show Steps p.tables e below (T32.setTop (mkF m 36 #[.val (.int p1), .val (.ref b2), .unset, .unset] [(.ref b2)])) _
    refine XS.iloadN X32.here hx rfl (hb hby at_36) rfl ?_
    show Steps p.tables e below (T32.setTop (mkF m 37 #[.val (.int p1), .val (.ref b2), .unset, .unset] [(.int p1), (.ref b2)])) _
    refine X32.ldcInt hx hown (mvT hZ (hw _ (List.mem_of_getElem? (i := 14) rfl))) (g := (mkF m 37 #[.val (.int p1), .val (.ref b2), .unset, .unset] [(.int p1), (.ref b2)])) rfl (hb hby at_37) _ ?_
    show Steps p.tables e below (T32.setTop (mkF m 39 #[.val (.int p1), .val (.ref b2), .unset, .unset] [(.int (2147483647 : Int32)), (.int p1), (.ref b2)])) _
    refine XS.iand X32.here hx rfl (hb hby at_39) rfl ?_
    show Steps p.tables e below (T32.setTop (mkF m 40 #[.val (.int p1), .val (.ref b2), .unset, .unset] [(.int (p1 &&& (2147483647 : Int32))), (.ref b2)])) _
    refine XS.iconst X32.here hx rfl (hb hby at_40) ?_
    show Steps p.tables e below (T32.setTop (mkF m 41 #[.val (.int p1), .val (.ref b2), .unset, .unset] [(.int (5 : Int32)), (.int (p1 &&& (2147483647 : Int32))), (.ref b2)])) _
    refine iremM X32 hx rfl (hb hby at_41) rfl (by decide : ¬ ((5 : Int32) = (0 : Int32))) ?_
    show Steps p.tables e below (T32.setTop (mkF m 42 #[.val (.int p1), .val (.ref b2), .unset, .unset] [(.int ((p1 &&& (2147483647 : Int32)) % (5 : Int32))), (.ref b2)])) _
    refine X32.aaload hx (j := ((p1 &&& (2147483647 : Int32)) % (5 : Int32))) (v := (.ref w27)) (by rw [e32]; exact Ar33.1) (State.isArrayOf_alike hZ.alike Ar33.2.1) rfl Ar33.2.2 hin33 hat33 (g := (mkF m 42 #[.val (.int p1), .val (.ref b2), .unset, .unset] [(.int ((p1 &&& (2147483647 : Int32)) % (5 : Int32))), (.ref b2)])) rfl rfl (hb hby at_42) _ ?_
    show Steps p.tables e below (T32.setTop (mkF m 43 #[.val (.int p1), .val (.ref b2), .unset, .unset] [(.ref w27)])) _
    refine XS.astoreN X32.here hx rfl (hb hby at_43) rfl rfl (l' := #[.val (.int p1), .val (.ref b2), .val (.ref w27), .unset]) rfl ?_
    show Steps p.tables e below (T32.setTop (mkF m 44 #[.val (.int p1), .val (.ref b2), .val (.ref w27), .unset] [])) _
    refine XS.aloadN X32.here hx rfl (hb hby at_44) rfl rfl ?_
    show Steps p.tables e below (T32.setTop (mkF m 45 #[.val (.int p1), .val (.ref b2), .val (.ref w27), .unset] [(.ref w27)])) _
    refine st36 _ ?_
    show Steps p.tables e below (T36.setTop (mkF m 48 #[.val (.int p1), .val (.ref b2), .val (.ref w27), .unset] [(.ref w21), (.ref w27)])) _
    refine Jvm.RoadKit.acmp (g := (mkF m 48 #[.val (.int p1), .val (.ref b2), .val (.ref w27), .unset] [(.ref w21), (.ref w27)])) X36 hx rfl rfl rfl (pc0 := 48) (pc' := 55) (same := false) rfl (hb hby at_48) rfl (decide_eq_false fun q => P37 (Value.ref.inj q)) (by decide) (by decide) ?_
    show Steps p.tables e below (T36.setTop (mkF m 55 #[.val (.int p1), .val (.ref b2), .val (.ref w27), .unset] [])) _
    refine XS.iconst X36.here hx rfl (hb hby at_55) ?_
    show Steps p.tables e below (T36.setTop (mkF m 56 #[.val (.int p1), .val (.ref b2), .val (.ref w27), .unset] [(.int (0 : Int32))])) _
    refine XS.istoreN X36.here hx rfl (hb hby at_56) rfl (l' := #[.val (.int p1), .val (.ref b2), .val (.ref w27), .val (.int (0 : Int32))]) rfl ?_
    show Steps p.tables e below (T36.setTop (mkF m 57 #[.val (.int p1), .val (.ref b2), .val (.ref w27), .val (.int (0 : Int32))] [])) _
    refine XS.aloadN X36.here hx rfl (hb hby at_57) rfl rfl ?_
    show Steps p.tables e below (T36.setTop (mkF m 58 #[.val (.int p1), .val (.ref b2), .val (.ref w27), .val (.int (0 : Int32))] [(.ref w27)])) _
    refine st41.trans ?_
    show Steps p.tables e below (T41.setTop (mkF m 61 #[.val (.int p1), .val (.ref b2), .val (.ref w27), .val (.int (0 : Int32))] [(.int (0 : Int32))])) _
    refine XS.iloadN X41.here hx rfl (hb hby at_61) rfl ?_
    show Steps p.tables e below (T41.setTop (mkF m 62 #[.val (.int p1), .val (.ref b2), .val (.ref w27), .val (.int (0 : Int32))] [(.int (0 : Int32)), (.int (0 : Int32))])) _
    refine XS.icmpNo X41.here hx rfl (hb hby at_62) rfl (teq (rfl : (0 : Int32) = (0 : Int32))).2 ?_
    show Steps p.tables e below (T41.setTop (mkF m 65 #[.val (.int p1), .val (.ref b2), .val (.ref w27), .val (.int (0 : Int32))] [])) _
    refine XS.iconst X41.here hx rfl (hb hby at_65) ?_
    show Steps p.tables e below (T41.setTop (mkF m 66 #[.val (.int p1), .val (.ref b2), .val (.ref w27), .val (.int (0 : Int32))] [(.int (1 : Int32))])) _
    refine XS.goto X41.here hx rfl (pc0 := 66) (pc' := 70) rfl (hb hby at_66) (by decide) (by decide) ?_
    show Steps p.tables e below (T41.setTop (mkF m 70 #[.val (.int p1), .val (.ref b2), .val (.ref w27), .val (.int (0 : Int32))] [(.int (1 : Int32))])) _
    exact retN X41 hx (t := .boolean) Bd.returns (by simp) (hb hby at_70) hr
  · exact ⟨rfl, N41⟩
theorem own_dead_1 (i0 : Int32) (hc1 : ¬ (((i0 &&& (2147483647 : Int32)) % (5 : Int32)) = (0 : Int32))) (hc2 : ¬ (((i0 &&& (2147483647 : Int32)) % (5 : Int32)) = (1 : Int32))) (hc3 : ¬ (((i0 &&& (2147483647 : Int32)) % (5 : Int32)) = (2 : Int32))) (hc4 : ¬ (((i0 &&& (2147483647 : Int32)) % (5 : Int32)) = (3 : Int32))) (hc5 : ¬ (((i0 &&& (2147483647 : Int32)) % (5 : Int32)) = (4 : Int32))) : False := by
  have q1 := rng32 i0
  have q2 : (i0 &&& (2147483647 : Int32)).toInt = i0.toInt % 2147483648 := Jvm.Kit.i32_mask i0 (2147483647 : Int32) (k := 31) (by decide) (by decide)
  have q3 := rng32 (i0 &&& (2147483647 : Int32))
  have q4 : (5 : Int32).toInt = 5 := rfl
  have q5 : ((i0 &&& (2147483647 : Int32)) % (5 : Int32)).toInt = (i0 &&& (2147483647 : Int32)).toInt % 5 := Jvm.Kit.i32_rem_nonneg (y := (5 : Int32)) (by omega)
  have q6 := rng32 ((i0 &&& (2147483647 : Int32)) % (5 : Int32))
  have q7 : (0 : Int32).toInt = 0 := rfl
  have q8 := mt (fun z : (((i0 &&& (2147483647 : Int32)) % (5 : Int32))).toInt = ((0 : Int32)).toInt => Int32.toInt_inj.mp z) hc1
  have q9 : (1 : Int32).toInt = 1 := rfl
  have q10 := mt (fun z : (((i0 &&& (2147483647 : Int32)) % (5 : Int32))).toInt = ((1 : Int32)).toInt => Int32.toInt_inj.mp z) hc2
  have q11 : (2 : Int32).toInt = 2 := rfl
  have q12 := mt (fun z : (((i0 &&& (2147483647 : Int32)) % (5 : Int32))).toInt = ((2 : Int32)).toInt => Int32.toInt_inj.mp z) hc3
  have q13 : (3 : Int32).toInt = 3 := rfl
  have q14 := mt (fun z : (((i0 &&& (2147483647 : Int32)) % (5 : Int32))).toInt = ((3 : Int32)).toInt => Int32.toInt_inj.mp z) hc4
  have q15 : (4 : Int32).toInt = 4 := rfl
  have q16 := mt (fun z : (((i0 &&& (2147483647 : Int32)) % (5 : Int32))).toInt = ((4 : Int32)).toInt => Int32.toInt_inj.mp z) hc5
  omega
set_option maxRecDepth 65536 in
set_option maxHeartbeats 40000000 in
theorem comes_1 {Post : Tables → Env → Array Value → State → Outcome → State → Prop} (hpost : ∀ tb e args s v u, (limb_1_1.after args s (.returned v) u = true ∧ limb_1_2.after args s (.returned v) u = true ∧ True) → FrameEnd s (.returned v) u (Jvm.fieldLocs frame_1_writes args s ++ Jvm.arrayLocs frame_1_arrays args s ++ Jvm.staticLocs frame_1_statics s) 16 128 → Post tb e args s (.returned v) u) :
    ArmFor flags0 classFile x code maxLocals ret World_1 tables_1 room_1 Calls_1 rest_1 Pre_1 Post := by
  intro l hfl _ _ p e ha hc hk s m args below hf hA hF happ hP
  obtain ⟨hcalls, hrest, hpre⟩ := hP
  obtain ⟨-, -, -, hnamed, -, -, -, hat⟩ := (Spec.applies_iff hf).mp happ
  obtain ⟨hg, hn⟩ := and_e (Cond.before_iff.mp (show (Jvm.Cond.and given_1 narrow_1).before args s = true from hpre))
  obtain ⟨g0, gr0⟩ := and_e hg
  obtain ⟨w0, rfl⟩ : ∃ w0 : Value, args = #[w0] := by
    have hs : args.size = 1 := by simpa [Cond.value, given_1] using g0
    obtain ⟨L⟩ := args
    match L, hs with
    | [w0], _ => exact ⟨w0, rfl⟩
  have hw := fun d (hd : d ∈ tables_1) => atoms_spec (ws := Jvm.Cond.code x code maxLocals ret :: tables_1) hat d (List.mem_cons_of_mem _ hd)
  have hfit : Fit s := fun {y c} hc i hi => by
    obtain ⟨ha, rfl⟩ := Array.getElem?_eq_some_iff.mp hc
    have q := List.all_eq_true.mp ((Array.all_eq_true_iff_forall_mem.mp hF) _ (Array.getElem_mem ha)) i (List.mem_range.mpr hi)
    simpa [Array.getElem?_eq_getElem hi] using q
  obtain ⟨i0, ei0⟩ := is_v gr0
  obtain rfl : w0 = (.int i0) := Option.some.inj ei0
  obtain ⟨c0, cr0⟩ := and_e hn
  obtain ⟨c1, cr1⟩ := and_e cr0
  obtain ⟨c2, cr2⟩ := and_e cr1
  obtain ⟨c3, cr3⟩ := and_e cr2
  obtain ⟨c4, cr4⟩ := and_e cr3
  obtain ⟨c5, cr5⟩ := and_e cr4
  obtain ⟨c6, cr6⟩ := and_e cr5
  obtain ⟨c7, cr7⟩ := and_e cr6
  obtain ⟨c8, cr8⟩ := and_e cr7
  obtain ⟨x_INIT_PARAMETER_0, ev_INIT_PARAMETER_0⟩ := exa_v c0
  have S_INIT_PARAMETER_0 := Sta.start ev_INIT_PARAMETER_0 (Or.inr ⟨(hw _ (List.mem_of_getElem? (i := 3) rfl)), (hw _ (List.mem_of_getElem? (i := 4) rfl))⟩)
  have E_INIT_PARAMETER_0 := Exa.start ev_INIT_PARAMETER_0 c0
  obtain ⟨x_SYSTEM_PROPERTY_1, ev_SYSTEM_PROPERTY_1⟩ := exa_v c1
  have S_SYSTEM_PROPERTY_1 := Sta.start ev_SYSTEM_PROPERTY_1 (Or.inr ⟨(hw _ (List.mem_of_getElem? (i := 3) rfl)), (hw _ (List.mem_of_getElem? (i := 7) rfl))⟩)
  have E_SYSTEM_PROPERTY_1 := Exa.start ev_SYSTEM_PROPERTY_1 c1
  obtain ⟨x_ENVIRONMENT_2, ev_ENVIRONMENT_2⟩ := exa_v c2
  have S_ENVIRONMENT_2 := Sta.start ev_ENVIRONMENT_2 (Or.inr ⟨(hw _ (List.mem_of_getElem? (i := 3) rfl)), (hw _ (List.mem_of_getElem? (i := 9) rfl))⟩)
  have E_ENVIRONMENT_2 := Exa.start ev_ENVIRONMENT_2 c2
  obtain ⟨x_SPRING_BOOT_3, ev_SPRING_BOOT_3⟩ := exa_v c3
  have S_SPRING_BOOT_3 := Sta.start ev_SPRING_BOOT_3 (Or.inr ⟨(hw _ (List.mem_of_getElem? (i := 3) rfl)), (hw _ (List.mem_of_getElem? (i := 11) rfl))⟩)
  have E_SPRING_BOOT_3 := Exa.start ev_SPRING_BOOT_3 c3
  obtain ⟨x_PROPERTIES_FILE_4, ev_PROPERTIES_FILE_4⟩ := exa_v c4
  have S_PROPERTIES_FILE_4 := Sta.start ev_PROPERTIES_FILE_4 (Or.inr ⟨(hw _ (List.mem_of_getElem? (i := 3) rfl)), (hw _ (List.mem_of_getElem? (i := 13) rfl))⟩)
  have E_PROPERTIES_FILE_4 := Exa.start ev_PROPERTIES_FILE_4 c4
  have F_INIT_PARAMETER_0_ordinal := own_fld_int ev_INIT_PARAMETER_0 c5
  have F_SPRING_BOOT_3_ordinal := own_fld_int ev_SPRING_BOOT_3 c6
  have F_SYSTEM_PROPERTY_1_ordinal := own_fld_int ev_SYSTEM_PROPERTY_1 c7
  have F_PROPERTIES_FILE_4_ordinal := own_fld_int ev_PROPERTIES_FILE_4 c8
  have F_ENVIRONMENT_2_ordinal := own_fld_int ev_ENVIRONMENT_2 cr8
  have hM : MetFree l x (head1 (Jvm.Cond.code x code maxLocals ret :: tables_1) room_1) (fun a U => a = #[(.int i0)] ∧ s.Warmed39 U.vm ∧ U.heap = s.heap) (fun _ _ _ _ _ => True) (fun _ U o U' => ∃ v L, o = .returned v ∧ own_QT s.heap.size v L ∧ FrameEnd U o U' L room_1.cells room_1.slots) := by
    by_cases hc1 : ((i0 &&& (2147483647 : Int32)) % (5 : Int32)) = (0 : Int32)
    · exact rm0_1 l s _ hw tables_1 i0 x_INIT_PARAMETER_0 x_SYSTEM_PROPERTY_1 x_ENVIRONMENT_2 x_SPRING_BOOT_3 x_PROPERTIES_FILE_4 s.heap s.heap.size (Nat.le_refl _) S_INIT_PARAMETER_0 E_INIT_PARAMETER_0 S_SYSTEM_PROPERTY_1 E_SYSTEM_PROPERTY_1 S_ENVIRONMENT_2 E_ENVIRONMENT_2 S_SPRING_BOOT_3 E_SPRING_BOOT_3 S_PROPERTIES_FILE_4 E_PROPERTIES_FILE_4 hc1 (Fld.ne F_INIT_PARAMETER_0_ordinal F_SPRING_BOOT_3_ordinal (own_ne_int (by decide))) F_INIT_PARAMETER_0_ordinal
    · by_cases hc2 : ((i0 &&& (2147483647 : Int32)) % (5 : Int32)) = (1 : Int32)
      · exact rm0_2 l s _ hw tables_1 i0 x_INIT_PARAMETER_0 x_SYSTEM_PROPERTY_1 x_ENVIRONMENT_2 x_SPRING_BOOT_3 x_PROPERTIES_FILE_4 s.heap s.heap.size (Nat.le_refl _) S_INIT_PARAMETER_0 E_INIT_PARAMETER_0 S_SYSTEM_PROPERTY_1 E_SYSTEM_PROPERTY_1 S_ENVIRONMENT_2 E_ENVIRONMENT_2 S_SPRING_BOOT_3 E_SPRING_BOOT_3 S_PROPERTIES_FILE_4 E_PROPERTIES_FILE_4 hc2 (Fld.ne F_SYSTEM_PROPERTY_1_ordinal F_SPRING_BOOT_3_ordinal (own_ne_int (by decide))) F_SYSTEM_PROPERTY_1_ordinal
      · by_cases hc3 : ((i0 &&& (2147483647 : Int32)) % (5 : Int32)) = (2 : Int32)
        · exact rm0_3 l s _ hw tables_1 i0 x_INIT_PARAMETER_0 x_SYSTEM_PROPERTY_1 x_ENVIRONMENT_2 x_SPRING_BOOT_3 x_PROPERTIES_FILE_4 s.heap s.heap.size (Nat.le_refl _) S_INIT_PARAMETER_0 E_INIT_PARAMETER_0 S_SYSTEM_PROPERTY_1 E_SYSTEM_PROPERTY_1 S_ENVIRONMENT_2 E_ENVIRONMENT_2 S_SPRING_BOOT_3 E_SPRING_BOOT_3 S_PROPERTIES_FILE_4 E_PROPERTIES_FILE_4 hc3 (Fld.ne F_ENVIRONMENT_2_ordinal F_SPRING_BOOT_3_ordinal (own_ne_int (by decide))) F_ENVIRONMENT_2_ordinal
        · by_cases hc4 : ((i0 &&& (2147483647 : Int32)) % (5 : Int32)) = (3 : Int32)
          · exact rm0_4 l s _ hw tables_1 i0 x_INIT_PARAMETER_0 x_SYSTEM_PROPERTY_1 x_ENVIRONMENT_2 x_SPRING_BOOT_3 x_PROPERTIES_FILE_4 s.heap s.heap.size (Nat.le_refl _) S_INIT_PARAMETER_0 E_INIT_PARAMETER_0 S_SYSTEM_PROPERTY_1 E_SYSTEM_PROPERTY_1 S_ENVIRONMENT_2 E_ENVIRONMENT_2 S_SPRING_BOOT_3 E_SPRING_BOOT_3 S_PROPERTIES_FILE_4 E_PROPERTIES_FILE_4 hc4 F_SPRING_BOOT_3_ordinal
          · by_cases hc5 : ((i0 &&& (2147483647 : Int32)) % (5 : Int32)) = (4 : Int32)
            · exact rm0_5 l s _ hw tables_1 i0 x_INIT_PARAMETER_0 x_SYSTEM_PROPERTY_1 x_ENVIRONMENT_2 x_SPRING_BOOT_3 x_PROPERTIES_FILE_4 s.heap s.heap.size (Nat.le_refl _) S_INIT_PARAMETER_0 E_INIT_PARAMETER_0 S_SYSTEM_PROPERTY_1 E_SYSTEM_PROPERTY_1 S_ENVIRONMENT_2 E_ENVIRONMENT_2 S_SPRING_BOOT_3 E_SPRING_BOOT_3 S_PROPERTIES_FILE_4 E_PROPERTIES_FILE_4 hc5 (Fld.ne F_PROPERTIES_FILE_4_ordinal F_SPRING_BOOT_3_ordinal (own_ne_int (by decide))) F_PROPERTIES_FILE_4_ordinal
            · exact (own_dead_1 i0 hc1 hc2 hc3 hc4 hc5).elim
  obtain ⟨n, o, h1, h2, h3, _, L, rfl, ⟨rfl, N⟩, hq⟩ := hM p e ha hc hk s m _ below hf ((Spec.applies_iff_loose hf).mp happ).1 ⟨rfl, State.Warmed39.refl s, rfl⟩ trivial
  refine ⟨n, _, h1, h2, h3, hpost _ _ _ _ _ _ ⟨Cond.after_iff.mpr rfl, Cond.after_iff.mpr (eq_i res_at (Term.int_eval (1)) rfl), trivial⟩ ⟨hq.1, hq.2.1, (hq.2.2.sift fun y hy => Or.inr (N y hy)).mono (by decide) (by decide)⟩⟩
theorem main_1_1 : Claimed_1_1 := comes_1 fun _ _ _ _ _ _ h hF => ⟨h.1, hF⟩
theorem main_1_2 : Claimed_1_2 := comes_1 fun _ _ _ _ _ _ h hF => ⟨h.2.1, hF⟩
end Jvm.Pilot.@@N@@
namespace Jvm.Pilot.@@N@@
open Jvm Jvm.ClassFile Sem Op Lib Jvm.Free Jvm.Stand Jvm.Pilot.@@N@@.Jvm.D
/-! MADE BY PROGRAM (witnessworld.py) out of the Statement's table words and the real class files: 13 classes; the members and pool entries that the words name. The judged class is class 1, her method 1. -/
namespace start1
open Jvm.ClassFile
def u (s : String) : CpInfo := .utf8 (stringToUtf16 s)
/-- a pool by its gaps: so many unusable entries, then the entry; so many at the end -/
def gap : Nat → List CpInfo → List CpInfo
  | 0, r => r
  | n + 1, r => .unusable :: gap n r
def poolList (es : List (Nat × CpInfo)) (last : Nat) : List CpInfo := es.foldr (fun e r => gap e.1 (e.2 :: r)) (gap last [])
def pool (es : List (Nat × CpInfo)) (last : Nat) : Array CpInfo := ⟨poolList es last⟩
def fileOf (pool : Array CpInfo) (this : Nat) (attrs : Array Attribute := #[]) (ms : Array MethodInfo := #[]) (fl : Nat := 33) (sup : Nat := 0) (ifs : Array Nat := #[]) (fds : Array FieldInfo := #[]) : ClassFile where
  minorVersion := 0
  majorVersion := 65
  constantPool := pool
  accessFlags := fl
  thisClass := this
  superClass := sup
  interfaces := ifs
  fields := fds
  methods := ms
  attributes := attrs
def plain (name : String) (sup : Option ClassId) : Class where
  name := name
  kind := .ordinary
  loader := none
  accessFlags := 33
  super := sup
  interfaces := #[]
  cf := none
  fields := #[]
  methods := #[]
  instanceTypes := #[]
  staticTypes := #[]
  resolved := #[]
  callSites := []
  init := .initialized
  statics := none
  mirror := none

def pool0 : Array CpInfo := pool [(5, u "<init>"), (0, u "()V"), (1, .class_ 10), (1, u "java/lang/Object")] 113

def k0m0 : Method := { name := "<init>", desc := "()V", sig := { parameters := [], returnType := none }, accessFlags := 1, code := none }
/-- java/lang/Object -/
def k0 : Class := { plain "java/lang/Object" none with
  accessFlags := 33
  interfaces := #[]
  cf := some (fileOf pool0 8 #[] #[{ accessFlags := 1, nameIndex := 5, descriptorIndex := 6, attributes := #[] }] 33 0 #[] #[])
  fields := #[]
  methods := #[k0m0]
  instanceTypes := #[]
  staticTypes := #[]
  resolved := Array.replicate 124 none
  statics := none }

def pool1 : Array CpInfo := pool [(2, .class_ 4), (1, u "java/lang/Object"), (0, u "<init>"), (0, u "()V"), (0, .class_ 8), (0, u "com/example/holdfast/holdfast/config/Source"), (0, .fieldref 7 10), (0, .nameAndType 11 12), (0, u "INIT_PARAMETER"), (0, u "Lcom/example/holdfast/holdfast/config/Source;"), (0, .fieldref 7 14), (0, .nameAndType 15 12), (0, u "SYSTEM_PROPERTY"), (0, .fieldref 7 17), (0, .nameAndType 18 12), (0, u "ENVIRONMENT"), (0, .fieldref 7 20), (0, .nameAndType 21 12), (0, u "SPRING_BOOT"), (0, .fieldref 7 23), (0, .nameAndType 24 12), (0, u "PROPERTIES_FILE"), (0, .integer 2147483647), (0, .methodref 7 27), (0, .nameAndType 28 29), (0, u "holdsLists"), (0, u "()Z"), (0, .class_ 31), (0, u "com/example/holdfast/holdfast/config/SourceHoldsListsPinLaw"), (2, u "law"), (0, u "(I)Z")] 5

def k1m0 : Method := { name := "<init>", desc := "()V", sig := { parameters := [], returnType := none }, accessFlags := 1, code := none }
def k1c1 : Code := { maxStack := 4, maxLocals := 4, code := code, exceptionTable := #[], attributes := #[] }
def k1m1 : Method := { name := "law", desc := "(I)Z", sig := { parameters := [.int], returnType := some .boolean }, accessFlags := 9, code := some k1c1 }
/-- com/example/holdfast/holdfast/config/SourceHoldsListsPinLaw -/
def k1 : Class := { plain "com/example/holdfast/holdfast/config/SourceHoldsListsPinLaw" (some 0) with
  accessFlags := 49
  interfaces := #[]
  cf := some (fileOf pool1 30 #[] #[{ accessFlags := 1, nameIndex := 5, descriptorIndex := 6, attributes := #[] }, { accessFlags := 9, nameIndex := 34, descriptorIndex := 35, attributes := #[] }] 49 2 #[] #[])
  fields := #[]
  methods := #[k1m0, k1m1]
  instanceTypes := #[]
  staticTypes := #[]
  resolved := Array.replicate 41 none
  statics := none }

def pool2 : Array CpInfo := pool [(1, .class_ 2), (0, u "java/lang/constant/Constable"), (0, .class_ 4), (0, u "java/lang/Object")] 6

/-- java/lang/constant/Constable -/
def k2 : Class := { plain "java/lang/constant/Constable" (some 0) with
  accessFlags := 1537
  interfaces := #[]
  cf := some (fileOf pool2 1 #[] #[] 1537 3 #[] #[])
  fields := #[]
  methods := #[]
  instanceTypes := #[]
  staticTypes := #[]
  resolved := Array.replicate 11 none
  statics := none }

def pool3 : Array CpInfo := pool [(1, .class_ 2), (0, u "java/lang/Comparable"), (0, .class_ 4), (0, u "java/lang/Object")] 7

/-- java/lang/Comparable -/
def k3 : Class := { plain "java/lang/Comparable" (some 0) with
  accessFlags := 1537
  interfaces := #[]
  cf := some (fileOf pool3 1 #[] #[] 1537 3 #[] #[])
  fields := #[]
  methods := #[]
  instanceTypes := #[]
  staticTypes := #[]
  resolved := Array.replicate 12 none
  statics := none }

def pool4 : Array CpInfo := pool [(1, .class_ 2), (0, u "java/io/Serializable"), (0, .class_ 4), (0, u "java/lang/Object")] 2

/-- java/io/Serializable -/
def k4 : Class := { plain "java/io/Serializable" (some 0) with
  accessFlags := 1537
  interfaces := #[]
  cf := some (fileOf pool4 1 #[] #[] 1537 3 #[] #[])
  fields := #[]
  methods := #[]
  instanceTypes := #[]
  staticTypes := #[]
  resolved := Array.replicate 7 none
  statics := none }

def pool5 : Array CpInfo := pool [(2, .class_ 4), (1, u "java/lang/Enum"), (0, u "name"), (0, u "Ljava/lang/String;"), (0, .fieldref 2 8), (0, .nameAndType 9 10), (0, u "ordinal"), (0, u "I"), (1, .class_ 14), (1, u "java/lang/Object"), (4, u "hash"), (86, .class_ 108), (1, u "java/lang/Enum$EnumDesc"), (2, .class_ 112), (0, u "java/lang/constant/Constable"), (0, .class_ 114), (0, u "java/lang/Comparable"), (0, .class_ 116), (0, u "java/io/Serializable"), (9, u "()I")] 77

def k5c0 : Code := { maxStack := 1, maxLocals := 1, code := jdk_37_method_2_code, exceptionTable := #[], attributes := #[] }
def k5m0 : Method := { name := "ordinal", desc := "()I", sig := { parameters := [], returnType := some .int }, accessFlags := 17, code := some k5c0 }
/-- java/lang/Enum -/
def k5 : Class := { plain "java/lang/Enum" (some 0) with
  accessFlags := 1057
  interfaces := #[2, 3, 4]
  cf := some (fileOf pool5 2 #[.nestMembers #[106]] #[{ accessFlags := 17, nameIndex := 9, descriptorIndex := 126, attributes := #[] }] 1057 12 #[111, 113, 115] #[{ accessFlags := 18, nameIndex := 5, descriptorIndex := 6, attributes := #[] }, { accessFlags := 18, nameIndex := 9, descriptorIndex := 10, attributes := #[] }, { accessFlags := 2, nameIndex := 19, descriptorIndex := 10, attributes := #[] }])
  fields := #[{ name := "name", type := (.object "java/lang/String"), accessFlags := 18, slot := 0, constantValue := 0 }, { name := "ordinal", type := .int, accessFlags := 18, slot := 1, constantValue := 0 }, { name := "hash", type := .int, accessFlags := 2, slot := 2, constantValue := 0 }]
  methods := #[k5m0]
  instanceTypes := #[(.object "java/lang/String"), .int, .int]
  staticTypes := #[]
  resolved := Array.replicate 204 none
  statics := none }

def pool6 : Array CpInfo := pool [(1, .class_ 2), (0, u "com/example/holdfast/holdfast/config/Source"), (2, u "INIT_PARAMETER"), (0, u "Lcom/example/holdfast/holdfast/config/Source;"), (2, u "SYSTEM_PROPERTY"), (2, u "ENVIRONMENT"), (2, u "SPRING_BOOT"), (2, u "PROPERTIES_FILE"), (2, u "$VALUES"), (0, u "[Lcom/example/holdfast/holdfast/config/Source;"), (6, .class_ 31), (1, u "java/lang/Enum"), (55, .methodref 1 88), (0, .nameAndType 89 90), (0, u "ordinal"), (0, u "()I"), (44, u "()Z"), (53, .class_ 190), (0, u "com/example/holdfast/holdfast/config/Source$RepeatTrackingProperties"), (176, u "PROPERTIES_FILE_NAME"), (0, u "Ljava/lang/String;"), (1, u "SETTING_PREFIX"), (0, u "BYTE_ORDER_MARK"), (14, u "holdsLists")] 42

def k6c0 : Code := { maxStack := 4, maxLocals := 1, code := prog_7_method_9_code, exceptionTable := #[], attributes := #[] }
def k6m0 : Method := { name := "holdsLists", desc := "()Z", sig := { parameters := [], returnType := some .boolean }, accessFlags := 0, code := some k6c0 }
/-- com/example/holdfast/holdfast/config/Source -/
def k6 : Class := { plain "com/example/holdfast/holdfast/config/Source" (some 5) with
  accessFlags := 16433
  interfaces := #[]
  cf := some (fileOf pool6 1 #[.nestMembers #[189]] #[{ accessFlags := 0, nameIndex := 386, descriptorIndex := 135, attributes := #[] }] 16433 29 #[] #[{ accessFlags := 16409, nameIndex := 5, descriptorIndex := 6, attributes := #[] }, { accessFlags := 16409, nameIndex := 9, descriptorIndex := 6, attributes := #[] }, { accessFlags := 16409, nameIndex := 12, descriptorIndex := 6, attributes := #[] }, { accessFlags := 16409, nameIndex := 15, descriptorIndex := 6, attributes := #[] }, { accessFlags := 16409, nameIndex := 18, descriptorIndex := 6, attributes := #[] }, { accessFlags := 25, nameIndex := 367, descriptorIndex := 368, attributes := #[] }, { accessFlags := 26, nameIndex := 370, descriptorIndex := 368, attributes := #[] }, { accessFlags := 26, nameIndex := 371, descriptorIndex := 368, attributes := #[] }, { accessFlags := 4122, nameIndex := 21, descriptorIndex := 22, attributes := #[] }])
  fields := #[{ name := "INIT_PARAMETER", type := (.object "com/example/holdfast/holdfast/config/Source"), accessFlags := 16409, slot := 0, constantValue := 0 }, { name := "SYSTEM_PROPERTY", type := (.object "com/example/holdfast/holdfast/config/Source"), accessFlags := 16409, slot := 1, constantValue := 0 }, { name := "ENVIRONMENT", type := (.object "com/example/holdfast/holdfast/config/Source"), accessFlags := 16409, slot := 2, constantValue := 0 }, { name := "SPRING_BOOT", type := (.object "com/example/holdfast/holdfast/config/Source"), accessFlags := 16409, slot := 3, constantValue := 0 }, { name := "PROPERTIES_FILE", type := (.object "com/example/holdfast/holdfast/config/Source"), accessFlags := 16409, slot := 4, constantValue := 0 }, { name := "PROPERTIES_FILE_NAME", type := (.object "java/lang/String"), accessFlags := 25, slot := 5, constantValue := 0 }, { name := "SETTING_PREFIX", type := (.object "java/lang/String"), accessFlags := 26, slot := 6, constantValue := 0 }, { name := "BYTE_ORDER_MARK", type := (.object "java/lang/String"), accessFlags := 26, slot := 7, constantValue := 0 }, { name := "$VALUES", type := (.array (.object "com/example/holdfast/holdfast/config/Source")), accessFlags := 4122, slot := 8, constantValue := 0 }]
  methods := #[k6m0]
  instanceTypes := #[(.object "java/lang/String"), .int, .int]
  staticTypes := #[(.object "com/example/holdfast/holdfast/config/Source"), (.object "com/example/holdfast/holdfast/config/Source"), (.object "com/example/holdfast/holdfast/config/Source"), (.object "com/example/holdfast/holdfast/config/Source"), (.object "com/example/holdfast/holdfast/config/Source"), (.object "java/lang/String"), (.object "java/lang/String"), (.object "java/lang/String"), (.array (.object "com/example/holdfast/holdfast/config/Source"))]
  resolved := Array.replicate 429 none
  statics := some 0 }

def pool7 : Array CpInfo := pool [(1, u "java/lang/Cloneable"), (0, .class_ 1), (0, u "java/lang/Object"), (0, .class_ 3)] 3

/-- java/lang/Cloneable -/
def k7 : Class := { plain "java/lang/Cloneable" (some 0) with
  accessFlags := 1537
  interfaces := #[]
  cf := some (fileOf pool7 2 #[] #[] 1537 4 #[] #[])
  fields := #[]
  methods := #[]
  instanceTypes := #[]
  staticTypes := #[]
  resolved := Array.replicate 8 none
  statics := none }

/-- the primitive byte -/
def k8 : Class := { plain "byte" none with kind := .primitive 'B', accessFlags := 0x411 }
/-- [B -/
def k9 : Class := { plain "[B" (some 0) with kind := .array 8 .byte, interfaces := #[7, 4], accessFlags := 1041 }

/-- the primitive int -/
def k10 : Class := { plain "int" none with kind := .primitive 'I', accessFlags := 0x411 }
/-- [I -/
def k11 : Class := { plain "[I" (some 0) with kind := .array 10 .int, interfaces := #[7, 4], accessFlags := 1041 }

/-- [Lcom/example/holdfast/holdfast/config/Source; -/
def k12 : Class := { plain "[Lcom/example/holdfast/holdfast/config/Source;" (some 0) with kind := .array 6 (.object "com/example/holdfast/holdfast/config/Source"), interfaces := #[7, 4], accessFlags := 1041 }

def heap : Heap := #[{ cls := 6, slots := #[.ref 1, .ref 2, .ref 3, .ref 4, .ref 5, .null, .null, .null, .null], vm := .statics 6 },
  { cls := 6, slots := #[.null, .int 0, .int 0], vm := .none },
  { cls := 6, slots := #[.null, .int 1, .int 0], vm := .none },
  { cls := 6, slots := #[.null, .int 2, .int 0], vm := .none },
  { cls := 6, slots := #[.null, .int 3, .int 0], vm := .none },
  { cls := 6, slots := #[.null, .int 4, .int 0], vm := .none }]
def classes : Array Class := #[k0, k1, k2, k3, k4, k5, k6, k7, k8, k9, k10, k11, k12]
def interned : List (Array UInt16 × Addr) := []
def slotsUsed : Nat := 24
def theMethod : MethodId := ⟨1, 1⟩
def args0 : Array Value := #[.int 5]
def aboutOver (below : List Frame) : State where
  vm := { classes := classes, interned := interned.toArray }
  heap := heap
  slotsUsed := slotsUsed
  threads := #[{ frames := .invoking theMethod args0 :: below }]
def below0 : List Frame := [.native { method := ⟨0, 0⟩, args := #[] }]
def about1 : State := aboutOver below0
def p0 : Program := .bare "" "" ""
def e0 : Env := launch0.env 0 0 0
theorem w_frames : about1.frames = Frame.invoking theMethod args0 :: below0 := rfl
set_option maxRecDepth 65536 in
theorem w_args : argsFit about1.vm theMethod args0 = true := by decide +kernel
set_option maxRecDepth 65536 in
theorem w_heap : heapFits about1 = true := by decide +kernel
set_option maxRecDepth 65536 in
theorem w_runnable : about1.curStatus? = some .runnable := by decide +kernel
set_option maxRecDepth 65536 in
theorem w_alone : about1.alone = true := by decide +kernel
set_option maxRecDepth 65536 in
theorem w_named : about1.methodNamed? x = some theMethod := by decide +kernel
set_option maxRecDepth 65536 in
theorem w_hears : about1.hears theMethod below0 = true := by decide +kernel
set_option maxRecDepth 65536 in
theorem w_ripe : about1.ripe theMethod args0 below0 = true := by decide +kernel
theorem w_running : about1.status = .running := rfl
set_option maxRecDepth 65536 in
theorem w_room : about1.hasRoom e0.platform room_1 = true :=
  launch0.hasRoom_least _ room_1 (by decide +kernel) (by decide +kernel) (by decide +kernel) (by decide +kernel) (by decide +kernel) (by decide +kernel)
theorem allAtoms_all (ts : List Jvm.Cond) (a : Array Jvm.Value) (st : Jvm.State) : (allAtoms ts).before a st = ts.all (fun c => c.before a st) := by
  induction ts with
  | nil => rfl
  | cons c t ih =>
    show (Jvm.Cond.and c (allAtoms t)).before a st = _
    rw [Jvm.Cond.before_and, ih, List.all_cons]
def words1 : List Jvm.Cond := Jvm.Cond.code x code maxLocals ret :: tables_1
/-- a 'code' word, met by the world's own term for the bytes: nothing is compared byte by byte -/
theorem code_word {y : MethodName} {bytes : ByteArray} {mx : Nat} {rt : Option FieldType} {a : Array Value} {s : State} {m : MethodId} {meth : Method} {c : Code} (h1 : s.methodNamed? y = some m) (h2 : s.vm.method? m = some meth) (h3 : meth.code = some c) (h4 : c.code = bytes)
    (h5 : (c.maxLocals == mx && c.exceptionTable.isEmpty && decide (c.maxStack ≤ mostOperands) && decide (meth.sig.returnType = rt) && !meth.locks && decide (parseMethodDescriptor y.desc = some meth.sig)) = true) : (Jvm.Cond.code y bytes mx rt).before a s = true := by
  simp only [Bool.and_eq_true, beq_iff_eq, Bool.not_eq_true', decide_eq_true_eq] at h5
  obtain ⟨⟨⟨⟨⟨g1, g2⟩, g3⟩, g4⟩, g5⟩, g6⟩ := h5
  simp [Cond.before, Cond.holds, Cond.value, h1, h2, h3, h4, g1, g2, g3, g4, g5, g6]
def isCode : Jvm.Cond → Bool
  | .code _ _ _ _ => true
  | _ => false
theorem all_split {L : List Jvm.Cond} {P : Jvm.Cond → Bool} (h1 : L.all (fun c => isCode c || P c) = true) (h2 : ∀ c ∈ L.filter isCode, P c = true) : L.all P = true := by
  refine List.all_eq_true.mpr fun c hc => ?_
  have h := List.all_eq_true.mp h1 c hc
  rcases Bool.eq_false_or_eq_true (isCode c) with hi | hi
  · exact h2 c (List.mem_filter.mpr ⟨hc, hi⟩)
  · simpa [hi] using h
set_option maxRecDepth 65536 in
theorem w_c0 : (Jvm.Cond.code x code maxLocals ret).before args0 about1 = true := code_word (m := ⟨1, 1⟩) (meth := k1m1) (c := k1c1) (by decide +kernel) rfl rfl rfl (by decide +kernel)
set_option maxRecDepth 65536 in
theorem w_c1 : (Jvm.Cond.code ({ cls := "com/example/holdfast/holdfast/config/Source", name := "holdsLists", desc := "()Z" } : Jvm.MethodName) prog_7_method_9_code (1 : Nat) (Option.some Jvm.ClassFile.FieldType.boolean)).before args0 about1 = true := code_word (m := ⟨6, 0⟩) (meth := k6m0) (c := k6c0) (by decide +kernel) rfl rfl rfl (by decide +kernel)
set_option maxRecDepth 65536 in
theorem w_c2 : (Jvm.Cond.code ({ cls := "java/lang/Enum", name := "ordinal", desc := "()I" } : Jvm.MethodName) jdk_37_method_2_code (1 : Nat) (Option.some Jvm.ClassFile.FieldType.int)).before args0 about1 = true := code_word (m := ⟨5, 0⟩) (meth := k5m0) (c := k5c0) (by decide +kernel) rfl rfl rfl (by decide +kernel)
def codes1 : List Jvm.Cond := [Jvm.Cond.code x code maxLocals ret, Jvm.Cond.code ({ cls := "com/example/holdfast/holdfast/config/Source", name := "holdsLists", desc := "()Z" } : Jvm.MethodName) prog_7_method_9_code (1 : Nat) (Option.some Jvm.ClassFile.FieldType.boolean), Jvm.Cond.code ({ cls := "java/lang/Enum", name := "ordinal", desc := "()I" } : Jvm.MethodName) jdk_37_method_2_code (1 : Nat) (Option.some Jvm.ClassFile.FieldType.int)]
set_option maxRecDepth 65536 in
theorem codes_eq : words1.filter isCode = codes1 := rfl
theorem w_codes : ∀ c ∈ words1.filter isCode, c.before args0 about1 = true := by
  rw [codes_eq]
  intro c hc
  simp only [codes1, List.mem_cons, List.not_mem_nil, or_false] at hc
  rcases hc with rfl | rfl | rfl
  · exact w_c0
  · exact w_c1
  · exact w_c2
set_option maxRecDepth 65536 in
theorem w_t1 : (words1.take 24).all (fun c => isCode c || c.before args0 about1) = true := by decide +kernel
set_option maxRecDepth 65536 in
theorem w_t2 : (words1.drop 24).all (fun c => isCode c || c.before args0 about1) = true := by decide +kernel
theorem w_tables : (allAtoms (Jvm.Cond.code x code maxLocals ret :: tables_1)).before args0 about1 = true := by
  rw [allAtoms_all]
  show words1.all (fun c => c.before args0 about1) = true
  refine all_split ?_ w_codes
  rw [← List.take_append_drop 24 words1, List.all_append, w_t1, w_t2]
  rfl
set_option maxRecDepth 65536 in
theorem w_case : (Jvm.Cond.and given_1 narrow_1).before args0 about1 = true := by decide +kernel
theorem w_applies : (headSpec (Jvm.Cond.code x code maxLocals ret :: tables_1) room_1).applies x e0.platform about1 = true :=
  (Spec.applies_iff w_frames).mpr ⟨w_running, w_runnable, w_alone, w_named, w_hears, w_ripe, w_room, w_tables⟩
theorem atStart : AtStart classFile x code maxLocals ret World_1 tables_1 room_1 Calls_1 rest_1 Pre_1 launch0 p0 e0 about1 theMethod args0 below0 :=
  ⟨lists_1, trivial, launch0.admits_env _ _ _, launch0.least_env, fairChoices_fair.cas, fairChoices_fair.clock, w_frames, w_args, w_heap, w_applies, trivial, trivial, w_case⟩
end start1
theorem witness_1 : WitnessClaimed_1 := ⟨start1.p0, start1.e0, start1.about1, start1.theMethod, start1.args0, start1.below0, start1.atStart⟩
end Jvm.Pilot.@@N@@
