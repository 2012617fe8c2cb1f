import JvmDerived
import JvmDerived.Pilot.@@N@@Statement
import JvmDerived.Pilot.@@N@@Code
set_option linter.unusedVariables false
set_option linter.unusedSimpArgs false
@@BLOCK:NumsL.lean.txt@@
namespace Jvm.RoadKit
open Sem ClassFile Op Lib Jvm.Stand Jvm.Free Jvm.LawKit
section New
variable {p : Program} {l : Launch} {e : Env} {R : Room} {s : State} {m : MethodId} {args : Array Value} {below : List Frame} {meth : Method} {c : Code} {T : State} {locs : List Loc} {cells slots : Nat}
theorem retI (X : Stand p l e R s m args below meth c T locs cells slots) (hx : p.tables.exec = Jvm.exec) {pc : Nat} {Ls : Array Slot} {z : Int32} {rest : List Value} (hret : meth.sig.returnType = some .int) (hd : decode c.code pc = .ok (.ireturn, 1)) {fs : List Frame}
    (hl : ∀ (f : JFrame) (acts : List Action), f.method = m → f.locked = none → f.entered = [] → (doReturn e (T.setTop f) acts (some (.int z))).1 = T.setFrames fs) : Steps p.tables e below (T.setTop (mkF m pc Ls (.int z :: rest))) (T.setFrames fs) := by
  have hm' : T.vm.method? m = some meth := X.method'
  have hn : narrow .int (.int z) = .int z := rfl
  show Steps p.tables e below (T.setTop { method := m, pc := pc, locals := Ls, stack := _ :: rest, locked := none }) _
  jvm_step X.here [X.here.top, hx, hd, hm', hret, hn]
  first | (intro acts; rw [hl _ acts rfl rfl rfl]) | rw [hl _ _ rfl rfl rfl]
  exact Steps.refl _
end New
end Jvm.RoadKit
namespace Jvm.Pilot.@@N@@
open Jvm Jvm.ClassFile Sem Op Lib Jvm.Free Jvm.Stand Jvm.LawKit Jvm.RoadKit Bundle Jvm.Pilot.@@N@@.Jvm.D
def own_QT (n0 : Nat) (v : Option Value) (L : List Loc) : Prop := v = some (.int (1 : Int32)) ∧ Fr n0 L
theorem own_b8 (x : Int32) : nar .byte (x.toInt8.toInt32) = x.toInt8.toInt32 := by simp [nar]
theorem own_nost {Z : State} {h : Heap} {a : Addr} {C : String} (F : Exa Z h a C) : ∃ cell : Cell, h[a]? = some cell ∧ cell.vm.isStatics = false := by
  obtain ⟨cell, k, h1, -, -, h4, -⟩ := F; exact ⟨cell, h1, h4⟩
theorem own_nostV {Z : State} {h : Heap} {a : Addr} {k : ClassId} {ty : FieldType} {z : Int32} {vs : List Value} {dv : Value} (F : Arv Z h a k ty z vs dv) : ∃ cell : Cell, h[a]? = some cell ∧ cell.vm.isStatics = false := by
  obtain ⟨cell, A, -⟩ := F; exact ⟨cell, A.1, A.plain⟩
theorem own_arr_keep {Z : State} {h h' : Heap} {ws : List Addr} {a : Addr} {c : Cell} {ty : FieldType} (F : Arr Z h a c ty) (K : Keep h h' ws) (q : a ∉ ws) : Arr Z h' a c ty := ⟨K.2.1 a c F.1 q, F.2⟩
theorem own_sta_keep {Z : State} {h h' : Heap} {ws : List Addr} {C n d : String} {v : Value} (F : Sta Z h C n d v) (K : Keep h h' ws) (q : ∀ x ∈ ws, ∃ cell : Cell, h[x]? = some cell ∧ cell.vm.isStatics = false) : Sta Z h' C n d v := by
  obtain ⟨cf, i, k, f, st, cell, h1, h2, h3, h4, h5, h6, h7⟩ := F
  refine ⟨cf, i, k, f, st, cell, h1, h2, h3, h4, K.2.1 _ _ h5 fun hm => ?_, h6, h7⟩
  obtain ⟨c2, g1, g2⟩ := q _ hm
  cases h5.symm.trans g1
  rw [h6] at g2; cases g2
theorem own_fld_int {Z : State} {args : Array Value} {ts : Term} {C n d : String} {k : Int32} {x : Addr} (ev : ts.eval args Z none [] Z = some (.ref x)) (h : (Jvm.Cond.eq (.field ts C n d) (.int k)).value args Z none Z [] = some true) : Fld Z Z.heap x C n d (.int k) := by
  apply Fld.start
  obtain ⟨u, w, e1, e2, k1, k2⟩ := cmp_v (Or.inl h)
  rw [fld_at ev] at e1
  have e3 : w = .int k := (Option.some.inj (e2.symm.trans (Term.int_eval k)))
  subst e3
  obtain ⟨z, rfl⟩ : ∃ z, u = .int z := k2
  have e4 : (Term.field ts C n d).eval args Z none [] Z = some (.int z) := (fld_at ev).trans e1
  have : z = k := by simpa [Cond.value, e4, e2] using h
  rw [e1, this]
theorem own_fld_long {Z : State} {args : Array Value} {ts : Term} {C n d : String} {k : Int64} {x : Addr} (ev : ts.eval args Z none [] Z = some (.ref x)) (h : (Jvm.Cond.eq (.field ts C n d) (.long k)).value args Z none Z [] = some true) : Fld Z Z.heap x C n d (.long k) := by
  apply Fld.start
  obtain ⟨u, w, e1, e2, k1, k2⟩ := cmp_v (Or.inl h)
  rw [fld_at ev] at e1
  have e3 : w = .long k := (Option.some.inj (e2.symm.trans (long_at k)))
  subst e3
  obtain ⟨z, rfl⟩ : ∃ z, u = .long z := k2
  have e4 : (Term.field ts C n d).eval args Z none [] Z = some (.long z) := (fld_at ev).trans e1
  have : z = k := by simpa [Cond.value, e4, e2] using h
  rw [e1, this]
theorem own_fld_ref {Z : State} {args : Array Value} {ts us : Term} {C n d : String} {x y : Addr} (ev : ts.eval args Z none [] Z = some (.ref x)) (eu : us.eval args Z none [] Z = some (.ref y)) (h : (Jvm.Cond.eq (.field ts C n d) us).value args Z none Z [] = some true) : Fld Z Z.heap x C n d (.ref y) := by
  apply Fld.start
  obtain ⟨u, w, e1, e2, k1, k2⟩ := cmp_v (Or.inl h)
  rw [fld_at ev] at e1
  cases e2.symm.trans eu
  have e4 : (Term.field ts C n d).eval args Z none [] Z = some u := (fld_at ev).trans e1
  have hu : u.isRef = true := k2.2
  have : u = .ref y := gotT (eq_R e4 e2 hu rfl) h
  rw [e1, this]
theorem own_fld_null {Z : State} {args : Array Value} {ts : Term} {C n d : String} {x : Addr} (ev : ts.eval args Z none [] Z = some (.ref x)) (h : (Jvm.Cond.eq (.field ts C n d) .null).value args Z none Z [] = some true) : Fld Z Z.heap x C n d .null :=
  Fld.start ((fld_at ev).symm.trans (null_v h))
theorem own_len {Z : State} {args : Array Value} {ts : Term} {k : Int32} {x : Addr} {c : Cell} {ty : FieldType} (A : Arr Z Z.heap x c ty) (ev : ts.eval args Z none [] Z = some (.ref x)) (h : (Jvm.Cond.eq (.length ts) (.int k)).value args Z none Z [] = some true) : c.slots.size < 2 ^ 31 ∧ c.slots.size.toInt32 = k := by
  obtain ⟨u, w, e1, e2, k1, k2⟩ := cmp_v (Or.inl h)
  have hA := Arr.fin (Vm.Alike.refl _) A
  have hl : c.slots.size < 2 ^ 31 := by
    apply Decidable.byContradiction
    intro hn
    have hn' : ¬ c.slots.size < 2147483648 := hn
    simp [Term.eval, ev, hA, hn'] at e1
  have e4 := len_f ev hA hl
  have e3 : w = .int k := (Option.some.inj (e2.symm.trans (Term.int_eval k)))
  subst e3
  exact ⟨hl, by simpa [Cond.value, e4, e2] using h⟩
theorem own_elem_ref {Z : State} {args : Array Value} {ts us : Term} {j : Int32} {x y : Addr} {c : Cell} {ty : FieldType} (A : Arr Z Z.heap x c ty) (ev : ts.eval args Z none [] Z = some (.ref x)) (eu : us.eval args Z none [] Z = some (.ref y)) (h : (Jvm.Cond.eq (.elem ts (.int j)) us).value args Z none Z [] = some true) (i : Nat) (hi : j.toNatClampNeg = i) : c.slots[i]? = some (.ref y) := by
  obtain ⟨u, w, e1, e2, k1, k2⟩ := cmp_v (Or.inl h)
  cases e2.symm.trans eu
  have hu : u.isRef = true := k2.2
  have e5 : u = .ref y := gotT (eq_R e1 e2 hu rfl) h
  rw [← hi, (elem_in e1 ev (Term.int_eval j) A.1).2, e5]
theorem own_elem_int {Z : State} {args : Array Value} {ts : Term} {j k : Int32} {x : Addr} {c : Cell} {ty : FieldType} (A : Arr Z Z.heap x c ty) (ev : ts.eval args Z none [] Z = some (.ref x)) (h : (Jvm.Cond.eq (.elem ts (.int j)) (.int k)).value args Z none Z [] = some true) (i : Nat) (hi : j.toNatClampNeg = i) : c.slots[i]? = some (.int k) := by
  obtain ⟨u, w, e1, e2, k1, k2⟩ := cmp_v (Or.inl h)
  have e3 : w = .int k := (Option.some.inj (e2.symm.trans (Term.int_eval k)))
  subst e3
  obtain ⟨z, rfl⟩ : ∃ z, u = .int z := k2
  have e5 : z = k := by simpa [Cond.value, e1, e2] using h
  rw [← hi, (elem_in e1 ev (Term.int_eval j) A.1).2, e5]
theorem own_sub {Z : State} {args : Array Value} {j k : Int32} (nn : ¬ j < 0) : (Term.sub (Term.index 0) (Term.int k)).eval args Z none [j.toNatClampNeg] Z = some (.int (j - k)) := by
  have e1 : (Term.index 0).eval args Z none [j.toNatClampNeg] Z = some (.int j) := idx_at nn
  have e2 : (Term.int k).eval args Z none [j.toNatClampNeg] Z = some (.int k) := Term.int_eval k
  simp [Term.eval] at e1 e2 ⊢
  simp [e1]
theorem own_ne_int {a b : Int32} (h : a ≠ b) : Value.int a ≠ Value.int b := fun q => h (Value.int.inj q)

theorem d1_0 : decode method_2_code 0 = .ok (.iload_n 0, 1) := by decide +kernel
theorem d1_1 : decode method_2_code 1 = .ok (.ifCond .ne 7, 3) := by decide +kernel
theorem d1_4 : decode method_2_code 4 = .ok (.getstatic 7, 3) := by decide +kernel
theorem d1_7 : decode method_2_code 7 = .ok (.areturn, 1) := by decide +kernel
theorem ef_1_I (m : MethodId) (x0 : Int32) : entryFrame m #[(.int x0)] 1 = mkF m 0 #[.val (.int x0)] [] := by first | (simp [entryFrame, mkF, argsToLocals, Value.category]; done) | rfl
theorem pn_1 : plainName "org/callerscope/model/ObjectTypeHoldsPinLaw" = true := by first | (simp [plainName, overriddenIn]; done) | decide +kernel
def Q1_1 (Z : State) (p1 : Int32) (w3 : Addr) (h0 : Heap) (n0 : Nat) (v : Option Value) (h : Heap) (L : List Loc) : Prop := v = some (.ref w3) ∧ Fr n0 L ∧ h = h0
set_option maxRecDepth 65536 in
set_option maxHeartbeats 40000000 in
theorem rm1_1 (l : Launch) (Z : State) (a0 : Array Value) (hw : ∀ d ∈ tables_1, d.before a0 Z = true) (ws : List Jvm.Cond) (p1 : Int32) (w3 : Addr) (h0 : Heap) (n0 : Nat) (Z0 : n0 ≤ h0.size) (P2 : p1 = (0 : Int32)) (S_ACCOUNT : Sta Z h0 "org/callerscope/model/ObjectType" "ACCOUNT" "Lorg/callerscope/model/ObjectType;" (.ref w3)) :
    MetFree l (⟨"org/callerscope/model/ObjectTypeHoldsPinLaw", "type", "(I)Lorg/callerscope/model/ObjectType;"⟩ : MethodName) (head1 (Jvm.Cond.code (⟨"org/callerscope/model/ObjectTypeHoldsPinLaw", "type", "(I)Lorg/callerscope/model/ObjectType;"⟩ : MethodName) method_2_code 1 (some (.object "org/callerscope/model/ObjectType")) :: ws) ({ frames := 0, cells := 0, slots := 0, locals := 0 } : Room)) (fun a U => a = #[(.int p1)] ∧ Z.Warmed39 U.vm ∧ U.heap = h0) (fun _ _ _ _ _ => True) (fun _ U o U' => ∃ v L, o = .returned v ∧ Q1_1 Z p1 w3 h0 n0 v U'.heap L ∧ FrameEnd U o U' L ({ frames := 0, cells := 0, slots := 0, locals := 0 } : Room).cells ({ frames := 0, cells := 0, slots := 0, locals := 0 } : Room).slots) := by
  refine MetFree.of_bodySF (plainFor_of_name pn_1) hisR ?_
  intro p e s m args below meth c s₁ Bd hml0 hP hK
  obtain ⟨rfl, hZ, hh⟩ := hP
  have hx := Bd.exec
  have hby := Bd.bytes
  have hml : c.maxLocals = 1 := hml0
  have hown : s.vm.findClass "org/callerscope/model/ObjectTypeHoldsPinLaw" = some m.cls := findClass_of_methodNamed Bd.named
  have hnm := (name_of_methodNamed Bd.named Bd.method).1
  have X0 : Stand p l e ({ frames := 0, cells := 0, slots := 0, locals := 0 } : Room) s m #[(.int p1)] below meth c s₁ [] 0 0 := Stand.of_body Bd
  have e0 : s₁.heap = h0 := by rw [← hh, Bd.state]; rfl
  have N0 := Fr.nil n0
  have pre0 : ∀ t, Steps p.tables e below (s₁.setTop (mkF m 0 #[.val (.int p1)] [])) t → Steps p.tables e below (s₁.setTop (entryFrame m #[(.int p1)] 1)) t := fun t k => castTop (ef_1_I m p1) k
  obtain ⟨T4, X4, e4, st4⟩ := getS2 X0 hx hZ hown (host := "") (Or.inl (hw _ (List.mem_of_getElem? (i := 5) rfl))) Via.refl e0 S_ACCOUNT (g := (mkF m 4 #[.val (.int p1)] [])) rfl (hb hby d1_4)
  obtain ⟨fs, hr, hrun, hended, hW, hsame⟩ := X4.leave (v := some (.ref w3)) (fun h => by rw [Bd.returns] at h; cases h)
  refine ⟨_, _, pre0 _ ?_, hrun, hended, _, _, rfl, ?_, ⟨_, rfl⟩, hW, hsame.mono (by decide) (by decide)⟩
  · show Steps p.tables e below (s₁.setTop (mkF m 0 #[.val (.int p1)] [])) _
    refine XS.iloadN X0.here hx rfl (hb hby d1_0) rfl ?_
    show Steps p.tables e below (s₁.setTop (mkF m 1 #[.val (.int p1)] [(.int p1)])) _
    refine XS.ifNo X0.here hx rfl (hb hby d1_1) rfl ((if0 _ _).trans (teq P2).2) ?_
    show Steps p.tables e below (s₁.setTop (mkF m 4 #[.val (.int p1)] [])) _
    refine st4 _ ?_
    show Steps p.tables e below (T4.setTop (mkF m 7 #[.val (.int p1)] [(.ref w3)])) _
    jvm_step X4.here [X4.here.top, hx, (hb hby d1_7), X4.method', Bd.returns, Value.isRef, FieldType.isReference]
    first | (intro acts; rw [hr _ acts rfl rfl rfl]) | rw [hr _ _ rfl rfl rfl]
    exact Steps.refl _
  · show Q1_1 Z p1 w3 h0 n0 _ T4.heap _
    rw [e4]
    exact ⟨rfl, N0, rfl⟩
def own_Pur1 (l : Launch) (Z : State) (as : Array Value) (h0 : Heap) (n0 : Nat) (v0 : Option Value) : Prop := MetFree l (⟨"org/callerscope/model/ObjectTypeHoldsPinLaw", "type", "(I)Lorg/callerscope/model/ObjectType;"⟩ : MethodName) (head1 [Jvm.Cond.code (⟨"org/callerscope/model/ObjectTypeHoldsPinLaw", "type", "(I)Lorg/callerscope/model/ObjectType;"⟩ : MethodName) method_2_code 1 (some (.object "org/callerscope/model/ObjectType"))] ({ frames := 0, cells := 0, slots := 0, locals := 0 } : Room)) (fun a U => a = as ∧ Z.Warmed39 U.vm ∧ U.heap = h0) (fun _ _ _ _ _ => True) (fun _ U o U' => ∃ v L, o = .returned v ∧ (v = v0 ∧ Fr n0 L ∧ U'.heap = h0) ∧ FrameEnd U o U' L 0 0)
theorem pd_0 : parseMethodDescriptor "(I)Lorg/callerscope/model/ObjectType;" = some ⟨[.int], some (.object "org/callerscope/model/ObjectType")⟩ := by decide +kernel
theorem d2_0 : decode prog_12_method_7_code 0 = .ok (.aload_n 1, 1) := by decide +kernel
theorem d2_1 : decode prog_12_method_7_code 1 = .ok (.getfield 44, 3) := by decide +kernel
theorem d2_4 : decode prog_12_method_7_code 4 = .ok (.astore_n 2, 1) := by decide +kernel
theorem d2_5 : decode prog_12_method_7_code 5 = .ok (.aload_n 2, 1) := by decide +kernel
theorem d2_6 : decode prog_12_method_7_code 6 = .ok (.ifnull 18, 3) := by decide +kernel
theorem d2_24 : decode prog_12_method_7_code 24 = .ok (.iconst 0, 1) := by decide +kernel
theorem d2_25 : decode prog_12_method_7_code 25 = .ok (.ireturn, 1) := by decide +kernel
theorem ef_2_RR (m : MethodId) (x0 : Addr) (x1 : Addr) : entryFrame m #[(.ref x0), (.ref x1)] 3 = mkF m 0 #[.val (.ref x0), .val (.ref x1), .unset] [] := by first | (simp [entryFrame, mkF, argsToLocals, Value.category]; done) | rfl
theorem pn_2 : plainName "org/callerscope/model/ObjectType" = true := by first | (simp [plainName, overriddenIn]; done) | decide +kernel
def Q2_1 (Z : State) (a1 : Addr) (h0 : Heap) (n0 : Nat) (v : Option Value) (h : Heap) (L : List Loc) : Prop := v = some (.int (0 : Int32)) ∧ Fr n0 L ∧ h = h0
set_option maxRecDepth 65536 in
set_option maxHeartbeats 40000000 in
theorem rm2_1 (l : Launch) (Z : State) (a0 : Array Value) (hw : ∀ d ∈ tables_1, d.before a0 Z = true) (ws : List Jvm.Cond) (a1 : Addr) (h0 : Heap) (n0 : Nat) (Z0 : n0 ≤ h0.size) (F_container_a1 : Fld Z h0 a1 "org/callerscope/model/ObjectType" "container" "Lorg/callerscope/model/ObjectType;" .null) :
    MetFree l (⟨"org/callerscope/model/ObjectType", "holds", "(Lorg/callerscope/model/ObjectType;)Z"⟩ : MethodName) (head1 (Jvm.Cond.code (⟨"org/callerscope/model/ObjectType", "holds", "(Lorg/callerscope/model/ObjectType;)Z"⟩ : MethodName) prog_12_method_7_code 3 (some .boolean) :: ws) ({ frames := 0, cells := 0, slots := 0, locals := 0 } : Room)) (fun a U => a = #[(.ref a1), (.ref a1)] ∧ Z.Warmed39 U.vm ∧ U.heap = h0) (fun _ _ _ _ _ => True) (fun _ U o U' => ∃ v L, o = .returned v ∧ Q2_1 Z a1 h0 n0 v U'.heap L ∧ FrameEnd U o U' L ({ frames := 0, cells := 0, slots := 0, locals := 0 } : Room).cells ({ frames := 0, cells := 0, slots := 0, locals := 0 } : Room).slots) := by
  refine MetFree.of_bodySF (plainFor_of_name pn_2) hisR ?_
  intro p e s m args below meth c s₁ Bd hml0 hP hK
  obtain ⟨rfl, hZ, hh⟩ := hP
  have hx := Bd.exec
  have hby := Bd.bytes
  have hml : c.maxLocals = 3 := hml0
  have hown : s.vm.findClass "org/callerscope/model/ObjectType" = some m.cls := findClass_of_methodNamed Bd.named
  have hnm := (name_of_methodNamed Bd.named Bd.method).1
  have X0 : Stand p l e ({ frames := 0, cells := 0, slots := 0, locals := 0 } : Room) s m #[(.ref a1), (.ref a1)] below meth c s₁ [] 0 0 := Stand.of_body Bd
  have e0 : s₁.heap = h0 := by rw [← hh, Bd.state]; rfl
  have N0 := Fr.nil n0
  have pre0 : ∀ t, Steps p.tables e below (s₁.setTop (mkF m 0 #[.val (.ref a1), .val (.ref a1), .unset] [])) t → Steps p.tables e below (s₁.setTop (entryFrame m #[(.ref a1), (.ref a1)] 3)) t := fun t k => castTop (ef_2_RR m a1 a1) k
  obtain ⟨T2, X2, e2, st2⟩ := getF X0 hx hZ hown (host := "") (Or.inl (hw _ (List.mem_of_getElem? (i := 15) rfl))) Via.refl e0 F_container_a1 (g := (mkF m 1 #[.val (.ref a1), .val (.ref a1), .unset] [(.ref a1)])) rfl rfl (hb hby d2_1)
  obtain ⟨fs, hr, hrun, hended, hW, hsame⟩ := X2.leave (v := some (.int (0 : Int32))) (fun h => by rw [Bd.returns] at h; cases h)
  refine ⟨_, _, pre0 _ ?_, hrun, hended, _, _, rfl, ?_, ⟨_, rfl⟩, hW, hsame.mono (by decide) (by decide)⟩
  · show Steps p.tables e below (s₁.setTop (mkF m 0 #[.val (.ref a1), .val (.ref a1), .unset] [])) _
    refine XS.aloadN X0.here hx rfl (hb hby d2_0) rfl rfl ?_
    show Steps p.tables e below (s₁.setTop (mkF m 1 #[.val (.ref a1), .val (.ref a1), .unset] [(.ref a1)])) _
    refine st2 _ ?_
    show Steps p.tables e below (T2.setTop (mkF m 4 #[.val (.ref a1), .val (.ref a1), .unset] [.null])) _
    refine XS.astoreN X2.here hx rfl (hb hby d2_4) rfl rfl (l' := #[.val (.ref a1), .val (.ref a1), .val .null]) rfl ?_
    show Steps p.tables e below (T2.setTop (mkF m 5 #[.val (.ref a1), .val (.ref a1), .val .null] [])) _
    refine XS.aloadN X2.here hx rfl (hb hby d2_5) rfl rfl ?_
    show Steps p.tables e below (T2.setTop (mkF m 6 #[.val (.ref a1), .val (.ref a1), .val .null] [.null])) _
    refine XS.ifnullYes X2.here hx rfl (pc0 := 6) (pc' := 24) rfl (hb hby d2_6) rfl (by decide) (by decide) ?_
    show Steps p.tables e below (T2.setTop (mkF m 24 #[.val (.ref a1), .val (.ref a1), .val .null] [])) _
    refine XS.iconst X2.here hx rfl (hb hby d2_24) ?_
    show Steps p.tables e below (T2.setTop (mkF m 25 #[.val (.ref a1), .val (.ref a1), .val .null] [(.int (0 : Int32))])) _
    exact retN X2 hx (t := .boolean) Bd.returns (by simp) (hb hby d2_25) hr
  · show Q2_1 Z a1 h0 n0 _ T2.heap _
    rw [e2]
    exact ⟨rfl, N0, rfl⟩
def own_Pur2 (l : Launch) (Z : State) (as : Array Value) (h0 : Heap) (n0 : Nat) (v0 : Option Value) : Prop := MetFree l (⟨"org/callerscope/model/ObjectType", "holds", "(Lorg/callerscope/model/ObjectType;)Z"⟩ : MethodName) (head1 [Jvm.Cond.code (⟨"org/callerscope/model/ObjectType", "holds", "(Lorg/callerscope/model/ObjectType;)Z"⟩ : MethodName) prog_12_method_7_code 3 (some .boolean)] ({ frames := 0, cells := 0, slots := 0, locals := 0 } : Room)) (fun a U => a = as ∧ Z.Warmed39 U.vm ∧ U.heap = h0) (fun _ _ _ _ _ => True) (fun _ U o U' => ∃ v L, o = .returned v ∧ (v = v0 ∧ Fr n0 L ∧ U'.heap = h0) ∧ FrameEnd U o U' L 0 0)
theorem pd_1 : parseMethodDescriptor "(Lorg/callerscope/model/ObjectType;)Z" = some ⟨[(.object "org/callerscope/model/ObjectType")], some .boolean⟩ := by decide +kernel
theorem d3_0 : decode method_3_code 0 = .ok (.iload_n 0, 1) := by decide +kernel
theorem d3_1 : decode method_3_code 1 = .ok (.iconst 1, 1) := by decide +kernel
theorem d3_2 : decode method_3_code 2 = .ok (.if_icmp .ne 14, 3) := by decide +kernel
theorem d3_16 : decode method_3_code 16 = .ok (.iload_n 0, 1) := by decide +kernel
theorem d3_17 : decode method_3_code 17 = .ok (.iconst 2, 1) := by decide +kernel
theorem d3_18 : decode method_3_code 18 = .ok (.if_icmp .ne 14, 3) := by decide +kernel
theorem d3_32 : decode method_3_code 32 = .ok (.iconst 0, 1) := by decide +kernel
theorem d3_33 : decode method_3_code 33 = .ok (.ireturn, 1) := by decide +kernel
theorem ef_3_II (m : MethodId) (x0 : Int32) (x1 : Int32) : entryFrame m #[(.int x0), (.int x1)] 2 = mkF m 0 #[.val (.int x0), .val (.int x1)] [] := by first | (simp [entryFrame, mkF, argsToLocals, Value.category]; done) | rfl
theorem pn_3 : plainName "org/callerscope/model/ObjectTypeHoldsPinLaw" = true := by first | (simp [plainName, overriddenIn]; done) | decide +kernel
def Q3_1 (Z : State) (p1 : Int32) (p2 : Int32) (h0 : Heap) (n0 : Nat) (v : Option Value) (h : Heap) (L : List Loc) : Prop := v = some (.int (0 : Int32)) ∧ Fr n0 L ∧ h = h0
set_option maxRecDepth 65536 in
set_option maxHeartbeats 40000000 in
theorem rm3_1 (l : Launch) (Z : State) (a0 : Array Value) (hw : ∀ d ∈ tables_1, d.before a0 Z = true) (ws : List Jvm.Cond) (p1 : Int32) (p2 : Int32) (h0 : Heap) (n0 : Nat) (Z0 : n0 ≤ h0.size) (P3 : ¬ (p1 = (1 : Int32))) (P4 : ¬ (p1 = (2 : Int32))) :
    MetFree l (⟨"org/callerscope/model/ObjectTypeHoldsPinLaw", "expected", "(II)Z"⟩ : MethodName) (head1 (Jvm.Cond.code (⟨"org/callerscope/model/ObjectTypeHoldsPinLaw", "expected", "(II)Z"⟩ : MethodName) method_3_code 2 (some .boolean) :: ws) ({ frames := 0, cells := 0, slots := 0, locals := 0 } : Room)) (fun a U => a = #[(.int p1), (.int p2)] ∧ Z.Warmed39 U.vm ∧ U.heap = h0) (fun _ _ _ _ _ => True) (fun _ U o U' => ∃ v L, o = .returned v ∧ Q3_1 Z p1 p2 h0 n0 v U'.heap L ∧ FrameEnd U o U' L ({ frames := 0, cells := 0, slots := 0, locals := 0 } : Room).cells ({ frames := 0, cells := 0, slots := 0, locals := 0 } : Room).slots) := by
  refine MetFree.of_bodySF (plainFor_of_name pn_3) hisR ?_
  intro p e s m args below meth c s₁ Bd hml0 hP hK
  obtain ⟨rfl, hZ, hh⟩ := hP
  have hx := Bd.exec
  have hby := Bd.bytes
  have hml : c.maxLocals = 2 := hml0
  have hown : s.vm.findClass "org/callerscope/model/ObjectTypeHoldsPinLaw" = some m.cls := findClass_of_methodNamed Bd.named
  have hnm := (name_of_methodNamed Bd.named Bd.method).1
  have X0 : Stand p l e ({ frames := 0, cells := 0, slots := 0, locals := 0 } : Room) s m #[(.int p1), (.int p2)] below meth c s₁ [] 0 0 := Stand.of_body Bd
  have e0 : s₁.heap = h0 := by rw [← hh, Bd.state]; rfl
  have N0 := Fr.nil n0
  have pre0 : ∀ t, Steps p.tables e below (s₁.setTop (mkF m 0 #[.val (.int p1), .val (.int p2)] [])) t → Steps p.tables e below (s₁.setTop (entryFrame m #[(.int p1), (.int p2)] 2)) t := fun t k => castTop (ef_3_II m p1 p2) k
  obtain ⟨fs, hr, hrun, hended, hW, hsame⟩ := X0.leave (v := some (.int (0 : Int32))) (fun h => by rw [Bd.returns] at h; cases h)
  refine ⟨_, _, pre0 _ ?_, hrun, hended, _, _, rfl, ?_, ⟨_, rfl⟩, hW, hsame.mono (by decide) (by decide)⟩
  · show Steps p.tables e below (s₁.setTop (mkF m 0 #[.val (.int p1), .val (.int p2)] [])) _
    refine XS.iloadN X0.here hx rfl (hb hby d3_0) rfl ?_
    show Steps p.tables e below (s₁.setTop (mkF m 1 #[.val (.int p1), .val (.int p2)] [(.int p1)])) _
    refine XS.iconst X0.here hx rfl (hb hby d3_1) ?_
    show Steps p.tables e below (s₁.setTop (mkF m 2 #[.val (.int p1), .val (.int p2)] [(.int (1 : Int32)), (.int p1)])) _
    refine XS.icmpYes X0.here hx rfl (pc0 := 2) (pc' := 16) rfl (hb hby d3_2) rfl (feq P3).2 (by decide) (by decide) ?_
    show Steps p.tables e below (s₁.setTop (mkF m 16 #[.val (.int p1), .val (.int p2)] [])) _
    refine XS.iloadN X0.here hx rfl (hb hby d3_16) rfl ?_
    show Steps p.tables e below (s₁.setTop (mkF m 17 #[.val (.int p1), .val (.int p2)] [(.int p1)])) _
    refine XS.iconst X0.here hx rfl (hb hby d3_17) ?_
    show Steps p.tables e below (s₁.setTop (mkF m 18 #[.val (.int p1), .val (.int p2)] [(.int (2 : Int32)), (.int p1)])) _
    refine XS.icmpYes X0.here hx rfl (pc0 := 18) (pc' := 32) rfl (hb hby d3_18) rfl (feq P4).2 (by decide) (by decide) ?_
    show Steps p.tables e below (s₁.setTop (mkF m 32 #[.val (.int p1), .val (.int p2)] [])) _
    refine XS.iconst X0.here hx rfl (hb hby d3_32) ?_
    show Steps p.tables e below (s₁.setTop (mkF m 33 #[.val (.int p1), .val (.int p2)] [(.int (0 : Int32))])) _
    exact retN X0 hx (t := .boolean) Bd.returns (by simp) (hb hby d3_33) hr
  · show Q3_1 Z p1 p2 h0 n0 _ s₁.heap _
    rw [e0]
    exact ⟨rfl, N0, rfl⟩
def own_Pur3 (l : Launch) (Z : State) (as : Array Value) (h0 : Heap) (n0 : Nat) (v0 : Option Value) : Prop := MetFree l (⟨"org/callerscope/model/ObjectTypeHoldsPinLaw", "expected", "(II)Z"⟩ : MethodName) (head1 [Jvm.Cond.code (⟨"org/callerscope/model/ObjectTypeHoldsPinLaw", "expected", "(II)Z"⟩ : MethodName) method_3_code 2 (some .boolean)] ({ frames := 0, cells := 0, slots := 0, locals := 0 } : Room)) (fun a U => a = as ∧ Z.Warmed39 U.vm ∧ U.heap = h0) (fun _ _ _ _ _ => True) (fun _ U o U' => ∃ v L, o = .returned v ∧ (v = v0 ∧ Fr n0 L ∧ U'.heap = h0) ∧ FrameEnd U o U' L 0 0)
theorem pd_2 : parseMethodDescriptor "(II)Z" = some ⟨[.int, .int], some .boolean⟩ := by decide +kernel
theorem ef_0_II (m : MethodId) (x0 : Int32) (x1 : Int32) : entryFrame m #[(.int x0), (.int x1)] maxLocals = mkF m 0 #[.val (.int x0), .val (.int x1), .unset, .unset, .unset, .unset] [] := by first | (simp [entryFrame, mkF, argsToLocals, Value.category, maxLocals]; done) | rfl
theorem pn_0 : plainName "org/callerscope/model/ObjectTypeHoldsPinLaw" = true := by first | (simp [plainName, overriddenIn]; done) | decide +kernel
set_option maxRecDepth 65536 in
set_option maxHeartbeats 40000000 in
theorem rm0_1 (l : Launch) (Z : State) (a0 : Array Value) (hw : ∀ d ∈ tables_1, d.before a0 Z = true) (ws : List Jvm.Cond) (p1 : Int32) (p2 : Int32) (w4 : Addr) (r9 : Int32) (r12 : Int32) (h0 : Heap) (n0 : Nat) (Z0 : n0 ≤ h0.size) (P5 : own_Pur1 l Z #[(.int ((p1 &&& (2147483647 : Int32)) % (7 : Int32)))] h0 n0 (some (.ref w4))) (P7 : own_Pur1 l Z #[(.int ((p2 &&& (2147483647 : Int32)) % (7 : Int32)))] h0 n0 (some (.ref w4))) (P10 : own_Pur2 l Z #[(.ref w4), (.ref w4)] h0 n0 (some (.int r9))) (E_w4 : Exa Z h0 w4 "org/callerscope/model/ObjectType") (P13 : own_Pur3 l Z #[(.int ((p1 &&& (2147483647 : Int32)) % (7 : Int32))), (.int ((p2 &&& (2147483647 : Int32)) % (7 : Int32)))] h0 n0 (some (.int r12))) (P14 : r9 = r12) :
    MetFree l x (head1 (Jvm.Cond.code x code maxLocals ret :: ws) room_1) (fun a U => a = #[(.int p1), (.int p2)] ∧ Z.Warmed39 U.vm ∧ U.heap = h0) (fun _ _ _ _ _ => True) (fun _ U o U' => ∃ v L, o = .returned v ∧ own_QT n0 v L ∧ FrameEnd U o U' L room_1.cells room_1.slots) := by
  refine MetFree.of_bodySF (plainFor_of_name pn_0) hisR ?_
  intro p e s m args below meth c s₁ Bd hml0 hP hK
  obtain ⟨rfl, hZ, hh⟩ := hP
  have hx := Bd.exec
  have hby := Bd.bytes
  have hml : c.maxLocals = 6 := hml0
  have hown : s.vm.findClass "org/callerscope/model/ObjectTypeHoldsPinLaw" = some m.cls := findClass_of_methodNamed Bd.named
  have hnm := (name_of_methodNamed Bd.named Bd.method).1
  have X0 : Stand p l e room_1 s m #[(.int p1), (.int p2)] below meth c s₁ [] 0 0 := Stand.of_body Bd
  have e0 : s₁.heap = h0 := by rw [← hh, Bd.state]; rfl
  have N0 := Fr.nil n0
  have pre0 : ∀ t, Steps p.tables e below (s₁.setTop (mkF m 0 #[.val (.int p1), .val (.int p2), .unset, .unset, .unset, .unset] [])) t → Steps p.tables e below (s₁.setTop (entryFrame m #[(.int p1), (.int p2)] maxLocals)) t := fun t k => castTop (ef_0_II m p1 p2) k
  obtain ⟨_, _, ⟨T3, L3, k3, n3⟩, -, X3, ⟨Lc3, hQ3, l3, y3, z3⟩, st3⟩ := Jvm.LawKit.callS X0 hx (y := (⟨"org/callerscope/model/ObjectTypeHoldsPinLaw", "type", "(I)Lorg/callerscope/model/ObjectType;"⟩ : MethodName)) hown (mvT hZ (hw _ (List.mem_of_getElem? (i := 1) rfl))) (mvT hZ (hw _ (List.mem_of_getElem? (i := 2) rfl))) (mvT hZ (hw _ (List.mem_of_getElem? (i := 3) rfl))) (mvT hZ (hw _ (List.mem_of_getElem? (i := 4) rfl))) (by decide) (backOf (W := 0) (Q := fun v h L => v = some (.ref w4) ∧ Fr n0 L ∧ h = h0) (rm := { frames := 0, cells := 0, slots := 0, locals := 0 }) P5 hZ (hw _ (List.mem_of_getElem? (i := 4) rfl)) (hw _ (List.mem_of_getElem? (i := 3) rfl)) (by decide) (by decide)) (g := (mkF m 17 #[.val (.int p1), .val (.int p2), .val (.int ((p1 &&& (2147483647 : Int32)) % (7 : Int32))), .val (.int ((p2 &&& (2147483647 : Int32)) % (7 : Int32))), .unset, .unset] [(.int ((p1 &&& (2147483647 : Int32)) % (7 : Int32)))])) rfl (by rw [hml]; rfl) (argsL := [(.int ((p1 &&& (2147483647 : Int32)) % (7 : Int32)))]) (rest := []) (lenOf pd_0 rfl) rfl (by show 2 * 0 + _ ≤ _; exact Nat.le_of_eq rfl) (hb hby at_17) (fun _ _ => ⟨rfl, e0, (by decide : 0 + 0 ≤ _), (by decide : 0 + 0 ≤ _)⟩)
  dsimp only [Pt.U, Pt.locs, Pt.cells, Pt.slots] at X3 l3 y3 z3 st3 hQ3
  subst l3 y3 z3
  obtain ⟨rfl, Nq3, e3⟩ := hQ3
  have N3 := Fr.app N0 Nq3
  obtain ⟨_, _, ⟨T6, L6, k6, n6⟩, -, X6, ⟨Lc6, hQ6, l6, y6, z6⟩, st6⟩ := Jvm.LawKit.callS X3 hx (y := (⟨"org/callerscope/model/ObjectTypeHoldsPinLaw", "type", "(I)Lorg/callerscope/model/ObjectType;"⟩ : MethodName)) hown (mvT hZ (hw _ (List.mem_of_getElem? (i := 1) rfl))) (mvT hZ (hw _ (List.mem_of_getElem? (i := 2) rfl))) (mvT hZ (hw _ (List.mem_of_getElem? (i := 3) rfl))) (mvT hZ (hw _ (List.mem_of_getElem? (i := 4) rfl))) (by decide) (backOf (W := 0) (Q := fun v h L => v = some (.ref w4) ∧ Fr n0 L ∧ h = h0) (rm := { frames := 0, cells := 0, slots := 0, locals := 0 }) P7 hZ (hw _ (List.mem_of_getElem? (i := 4) rfl)) (hw _ (List.mem_of_getElem? (i := 3) rfl)) (by decide) (by decide)) (g := (mkF m 23 #[.val (.int p1), .val (.int p2), .val (.int ((p1 &&& (2147483647 : Int32)) % (7 : Int32))), .val (.int ((p2 &&& (2147483647 : Int32)) % (7 : Int32))), .val (.ref w4), .unset] [(.int ((p2 &&& (2147483647 : Int32)) % (7 : Int32)))])) rfl (by rw [hml]; rfl) (argsL := [(.int ((p2 &&& (2147483647 : Int32)) % (7 : Int32)))]) (rest := []) (lenOf pd_0 rfl) rfl (by show 2 * 0 + _ ≤ _; exact Nat.le_of_eq rfl) (hb hby at_23) (fun _ _ => ⟨rfl, e3, (by decide : 0 + 0 ≤ _), (by decide : 0 + 0 ≤ _)⟩)
  dsimp only [Pt.U, Pt.locs, Pt.cells, Pt.slots] at X6 l6 y6 z6 st6 hQ6
  subst l6 y6 z6
  obtain ⟨rfl, Nq6, e6⟩ := hQ6
  have N6 := Fr.app N3 Nq6
  obtain ⟨cq8, kq8, q8a, q8b, q8c⟩ := isOf hZ e6 E_w4
  obtain ⟨_, _, ⟨T8, L8, k8, n8⟩, -, X8, ⟨Lc8, hQ8, l8, y8, z8⟩, st8⟩ := X6.virtualBack hx (y := (⟨"org/callerscope/model/ObjectType", "holds", "(Lorg/callerscope/model/ObjectType;)Z"⟩ : MethodName)) (z := (⟨"org/callerscope/model/ObjectType", "holds", "(Lorg/callerscope/model/ObjectType;)Z"⟩ : MethodName)) hown (mvT hZ (hw _ (List.mem_of_getElem? (i := 10) rfl))) (mvT hZ (hw _ (List.mem_of_getElem? (i := 11) rfl))) (notFace_of_selects (args := #[]) (mvT hZ (hw _ (List.mem_of_getElem? (i := 13) rfl)))) (mvT hZ (hw _ (List.mem_of_getElem? (i := 13) rfl))) (mvT hZ (hw _ (List.mem_of_getElem? (i := 12) rfl))) (by decide) (backOf (W := 0) (Q := fun v h L => v = some (.int r9) ∧ Fr n0 L ∧ h = h0) (rm := { frames := 0, cells := 0, slots := 0, locals := 0 }) P10 hZ (hw _ (List.mem_of_getElem? (i := 14) rfl)) (hw _ (List.mem_of_getElem? (i := 6) rfl)) (by decide) (by decide)) q8a q8c (g := (mkF m 32 #[.val (.int p1), .val (.int p2), .val (.int ((p1 &&& (2147483647 : Int32)) % (7 : Int32))), .val (.int ((p2 &&& (2147483647 : Int32)) % (7 : Int32))), .val (.ref w4), .val (.ref w4)] [(.ref w4), (.ref w4)])) rfl (by rw [hml]; rfl) (Steps.refl _) (argsL := [(.ref w4)]) (rest := []) (lenOf pd_1 rfl) rfl (by show 2 * 0 + _ ≤ _; exact Nat.le_of_eq rfl) (hb hby at_32) (fun _ _ => ⟨rfl, e6, (by decide : 0 + 0 ≤ _), (by decide : 0 + 0 ≤ _)⟩)
  dsimp only [Pt.U, Pt.locs, Pt.cells, Pt.slots] at X8 l8 y8 z8 st8 hQ8
  subst l8 y8 z8
  obtain ⟨rfl, Nq8, e8⟩ := hQ8
  have N8 := Fr.app N6 Nq8
  obtain ⟨_, _, ⟨T11, L11, k11, n11⟩, -, X11, ⟨Lc11, hQ11, l11, y11, z11⟩, st11⟩ := Jvm.LawKit.callS X8 hx (y := (⟨"org/callerscope/model/ObjectTypeHoldsPinLaw", "expected", "(II)Z"⟩ : MethodName)) hown (mvT hZ (hw _ (List.mem_of_getElem? (i := 19) rfl))) (mvT hZ (hw _ (List.mem_of_getElem? (i := 20) rfl))) (mvT hZ (hw _ (List.mem_of_getElem? (i := 3) rfl))) (mvT hZ (hw _ (List.mem_of_getElem? (i := 21) rfl))) (by decide) (backOf (W := 1) (Q := fun v h L => v = some (.int r12) ∧ Fr n0 L ∧ h = h0) (rm := { frames := 0, cells := 0, slots := 0, locals := 0 }) P13 hZ (hw _ (List.mem_of_getElem? (i := 21) rfl)) (hw _ (List.mem_of_getElem? (i := 3) rfl)) (by decide) (by decide)) (g := (mkF m 37 #[.val (.int p1), .val (.int p2), .val (.int ((p1 &&& (2147483647 : Int32)) % (7 : Int32))), .val (.int ((p2 &&& (2147483647 : Int32)) % (7 : Int32))), .val (.ref w4), .val (.ref w4)] [(.int ((p2 &&& (2147483647 : Int32)) % (7 : Int32))), (.int ((p1 &&& (2147483647 : Int32)) % (7 : Int32))), (.int r9)])) rfl (by rw [hml]; rfl) (argsL := [(.int ((p1 &&& (2147483647 : Int32)) % (7 : Int32))), (.int ((p2 &&& (2147483647 : Int32)) % (7 : Int32)))]) (rest := [(.int r9)]) (lenOf pd_2 rfl) rfl (by show 2 * 0 + _ ≤ _; exact Nat.le_of_eq rfl) (hb hby at_37) (fun _ _ => ⟨rfl, e8, (by decide : 0 + 0 ≤ _), (by decide : 0 + 0 ≤ _)⟩)
  dsimp only [Pt.U, Pt.locs, Pt.cells, Pt.slots] at X11 l11 y11 z11 st11 hQ11
  subst l11 y11 z11
  obtain ⟨rfl, Nq11, e11⟩ := hQ11
  have N11 := Fr.app N8 Nq11
  obtain ⟨fs, hr, hrun, hended, hW, hsame⟩ := X11.leave (v := some (.int (1 : Int32))) (fun h => by rw [Bd.returns] at h; cases h)
  refine ⟨_, _, pre0 _ ?_, hrun, hended, _, _, rfl, ?_, ⟨_, rfl⟩, hW, hsame.mono (by decide) (by decide)⟩
  · show Steps p.tables e below (s₁.setTop (mkF m 0 #[.val (.int p1), .val (.int p2), .unset, .unset, .unset, .unset] [])) _
    refine XS.iloadN X0.here hx rfl (hb hby at_0) rfl ?_
    show Steps p.tables e below (s₁.setTop (mkF m 1 #[.val (.int p1), .val (.int p2), .unset, .unset, .unset, .unset] [(.int p1)])) _
    refine X0.ldcInt hx hown (mvT hZ (hw _ (List.mem_of_getElem? (i := 0) rfl))) (g := (mkF m 1 #[.val (.int p1), .val (.int p2), .unset, .unset, .unset, .unset] [(.int p1)])) rfl (hb hby at_1) _ ?_
    show Steps p.tables e below (s₁.setTop (mkF m 3 #[.val (.int p1), .val (.int p2), .unset, .unset, .unset, .unset] [(.int (2147483647 : Int32)), (.int p1)])) _
    refine XS.iand X0.here hx rfl (hb hby at_3) rfl ?_
    show Steps p.tables e below (s₁.setTop (mkF m 4 #[.val (.int p1), .val (.int p2), .unset, .unset, .unset, .unset] [(.int (p1 &&& (2147483647 : Int32)))])) _
    refine XS.bipush X0.here hx rfl (hb hby at_4) ?_
    show Steps p.tables e below (s₁.setTop (mkF m 6 #[.val (.int p1), .val (.int p2), .unset, .unset, .unset, .unset] [(.int (7 : Int32)), (.int (p1 &&& (2147483647 : Int32)))])) _
    refine iremM X0 hx rfl (hb hby at_6) rfl (by decide : ¬ ((7 : Int32) = (0 : Int32))) ?_
    show Steps p.tables e below (s₁.setTop (mkF m 7 #[.val (.int p1), .val (.int p2), .unset, .unset, .unset, .unset] [(.int ((p1 &&& (2147483647 : Int32)) % (7 : Int32)))])) _
    refine XS.istoreN X0.here hx rfl (hb hby at_7) rfl (l' := #[.val (.int p1), .val (.int p2), .val (.int ((p1 &&& (2147483647 : Int32)) % (7 : Int32))), .unset, .unset, .unset]) rfl ?_
    show Steps p.tables e below (s₁.setTop (mkF m 8 #[.val (.int p1), .val (.int p2), .val (.int ((p1 &&& (2147483647 : Int32)) % (7 : Int32))), .unset, .unset, .unset] [])) _
    refine XS.iloadN X0.here hx rfl (hb hby at_8) rfl ?_
    show Steps p.tables e below (s₁.setTop (mkF m 9 #[.val (.int p1), .val (.int p2), .val (.int ((p1 &&& (2147483647 : Int32)) % (7 : Int32))), .unset, .unset, .unset] [(.int p2)])) _
    refine X0.ldcInt hx hown (mvT hZ (hw _ (List.mem_of_getElem? (i := 0) rfl))) (g := (mkF m 9 #[.val (.int p1), .val (.int p2), .val (.int ((p1 &&& (2147483647 : Int32)) % (7 : Int32))), .unset, .unset, .unset] [(.int p2)])) rfl (hb hby at_9) _ ?_
    show Steps p.tables e below (s₁.setTop (mkF m 11 #[.val (.int p1), .val (.int p2), .val (.int ((p1 &&& (2147483647 : Int32)) % (7 : Int32))), .unset, .unset, .unset] [(.int (2147483647 : Int32)), (.int p2)])) _
    refine XS.iand X0.here hx rfl (hb hby at_11) rfl ?_
    show Steps p.tables e below (s₁.setTop (mkF m 12 #[.val (.int p1), .val (.int p2), .val (.int ((p1 &&& (2147483647 : Int32)) % (7 : Int32))), .unset, .unset, .unset] [(.int (p2 &&& (2147483647 : Int32)))])) _
    refine XS.bipush X0.here hx rfl (hb hby at_12) ?_
    show Steps p.tables e below (s₁.setTop (mkF m 14 #[.val (.int p1), .val (.int p2), .val (.int ((p1 &&& (2147483647 : Int32)) % (7 : Int32))), .unset, .unset, .unset] [(.int (7 : Int32)), (.int (p2 &&& (2147483647 : Int32)))])) _
    refine iremM X0 hx rfl (hb hby at_14) rfl (by decide : ¬ ((7 : Int32) = (0 : Int32))) ?_
    show Steps p.tables e below (s₁.setTop (mkF m 15 #[.val (.int p1), .val (.int p2), .val (.int ((p1 &&& (2147483647 : Int32)) % (7 : Int32))), .unset, .unset, .unset] [(.int ((p2 &&& (2147483647 : Int32)) % (7 : Int32)))])) _
    refine XS.istoreN X0.here hx rfl (hb hby at_15) rfl (l' := #[.val (.int p1), .val (.int p2), .val (.int ((p1 &&& (2147483647 : Int32)) % (7 : Int32))), .val (.int ((p2 &&& (2147483647 : Int32)) % (7 : Int32))), .unset, .unset]) rfl ?_
    show Steps p.tables e below (s₁.setTop (mkF m 16 #[.val (.int p1), .val (.int p2), .val (.int ((p1 &&& (2147483647 : Int32)) % (7 : Int32))), .val (.int ((p2 &&& (2147483647 : Int32)) % (7 : Int32))), .unset, .unset] [])) _
    refine XS.iloadN X0.here hx rfl (hb hby at_16) rfl ?_
    show Steps p.tables e below (s₁.setTop (mkF m 17 #[.val (.int p1), .val (.int p2), .val (.int ((p1 &&& (2147483647 : Int32)) % (7 : Int32))), .val (.int ((p2 &&& (2147483647 : Int32)) % (7 : Int32))), .unset, .unset] [(.int ((p1 &&& (2147483647 : Int32)) % (7 : Int32)))])) _
    refine st3 _ ?_
    show Steps p.tables e below (T3.setTop (mkF m 20 #[.val (.int p1), .val (.int p2), .val (.int ((p1 &&& (2147483647 : Int32)) % (7 : Int32))), .val (.int ((p2 &&& (2147483647 : Int32)) % (7 : Int32))), .unset, .unset] [(.ref w4)])) _
    refine XS.astore X3.here hx rfl (hb hby at_20) rfl rfl (l' := #[.val (.int p1), .val (.int p2), .val (.int ((p1 &&& (2147483647 : Int32)) % (7 : Int32))), .val (.int ((p2 &&& (2147483647 : Int32)) % (7 : Int32))), .val (.ref w4), .unset]) rfl ?_
    show Steps p.tables e below (T3.setTop (mkF m 22 #[.val (.int p1), .val (.int p2), .val (.int ((p1 &&& (2147483647 : Int32)) % (7 : Int32))), .val (.int ((p2 &&& (2147483647 : Int32)) % (7 : Int32))), .val (.ref w4), .unset] [])) _
    refine XS.iloadN X3.here hx rfl (hb hby at_22) rfl ?_
    show Steps p.tables e below (T3.setTop (mkF m 23 #[.val (.int p1), .val (.int p2), .val (.int ((p1 &&& (2147483647 : Int32)) % (7 : Int32))), .val (.int ((p2 &&& (2147483647 : Int32)) % (7 : Int32))), .val (.ref w4), .unset] [(.int ((p2 &&& (2147483647 : Int32)) % (7 : Int32)))])) _
    refine st6 _ ?_
    show Steps p.tables e below (T6.setTop (mkF m 26 #[.val (.int p1), .val (.int p2), .val (.int ((p1 &&& (2147483647 : Int32)) % (7 : Int32))), .val (.int ((p2 &&& (2147483647 : Int32)) % (7 : Int32))), .val (.ref w4), .unset] [(.ref w4)])) _
    refine XS.astore X6.here hx rfl (hb hby at_26) rfl rfl (l' := #[.val (.int p1), .val (.int p2), .val (.int ((p1 &&& (2147483647 : Int32)) % (7 : Int32))), .val (.int ((p2 &&& (2147483647 : Int32)) % (7 : Int32))), .val (.ref w4), .val (.ref w4)]) rfl ?_
    show Steps p.tables e below (T6.setTop (mkF m 28 #[.val (.int p1), .val (.int p2), .val (.int ((p1 &&& (2147483647 : Int32)) % (7 : Int32))), .val (.int ((p2 &&& (2147483647 : Int32)) % (7 : Int32))), .val (.ref w4), .val (.ref w4)] [])) _
    refine XS.aload X6.here hx rfl (hb hby at_28) rfl rfl ?_
    show Steps p.tables e below (T6.setTop (mkF m 30 #[.val (.int p1), .val (.int p2), .val (.int ((p1 &&& (2147483647 : Int32)) % (7 : Int32))), .val (.int ((p2 &&& (2147483647 : Int32)) % (7 : Int32))), .val (.ref w4), .val (.ref w4)] [(.ref w4)])) _
    refine XS.aload X6.here hx rfl (hb hby at_30) rfl rfl ?_
    show Steps p.tables e below (T6.setTop (mkF m 32 #[.val (.int p1), .val (.int p2), .val (.int ((p1 &&& (2147483647 : Int32)) % (7 : Int32))), .val (.int ((p2 &&& (2147483647 : Int32)) % (7 : Int32))), .val (.ref w4), .val (.ref w4)] [(.ref w4), (.ref w4)])) _
    refine st8.trans ?_
    show Steps p.tables e below (T8.setTop (mkF m 35 #[.val (.int p1), .val (.int p2), .val (.int ((p1 &&& (2147483647 : Int32)) % (7 : Int32))), .val (.int ((p2 &&& (2147483647 : Int32)) % (7 : Int32))), .val (.ref w4), .val (.ref w4)] [(.int r9)])) _
    refine XS.iloadN X8.here hx rfl (hb hby at_35) rfl ?_
    show Steps p.tables e below (T8.setTop (mkF m 36 #[.val (.int p1), .val (.int p2), .val (.int ((p1 &&& (2147483647 : Int32)) % (7 : Int32))), .val (.int ((p2 &&& (2147483647 : Int32)) % (7 : Int32))), .val (.ref w4), .val (.ref w4)] [(.int ((p1 &&& (2147483647 : Int32)) % (7 : Int32))), (.int r9)])) _
    refine XS.iloadN X8.here hx rfl (hb hby at_36) rfl ?_
    show Steps p.tables e below (T8.setTop (mkF m 37 #[.val (.int p1), .val (.int p2), .val (.int ((p1 &&& (2147483647 : Int32)) % (7 : Int32))), .val (.int ((p2 &&& (2147483647 : Int32)) % (7 : Int32))), .val (.ref w4), .val (.ref w4)] [(.int ((p2 &&& (2147483647 : Int32)) % (7 : Int32))), (.int ((p1 &&& (2147483647 : Int32)) % (7 : Int32))), (.int r9)])) _
    refine st11 _ ?_
    show Steps p.tables e below (T11.setTop (mkF m 40 #[.val (.int p1), .val (.int p2), .val (.int ((p1 &&& (2147483647 : Int32)) % (7 : Int32))), .val (.int ((p2 &&& (2147483647 : Int32)) % (7 : Int32))), .val (.ref w4), .val (.ref w4)] [(.int r12), (.int r9)])) _
    refine XS.icmpNo X11.here hx rfl (hb hby at_40) rfl (teq P14).2 ?_
    show Steps p.tables e below (T11.setTop (mkF m 43 #[.val (.int p1), .val (.int p2), .val (.int ((p1 &&& (2147483647 : Int32)) % (7 : Int32))), .val (.int ((p2 &&& (2147483647 : Int32)) % (7 : Int32))), .val (.ref w4), .val (.ref w4)] [])) _
    refine XS.iconst X11.here hx rfl (hb hby at_43) ?_
    show Steps p.tables e below (T11.setTop (mkF m 44 #[.val (.int p1), .val (.int p2), .val (.int ((p1 &&& (2147483647 : Int32)) % (7 : Int32))), .val (.int ((p2 &&& (2147483647 : Int32)) % (7 : Int32))), .val (.ref w4), .val (.ref w4)] [(.int (1 : Int32))])) _
    refine XS.goto X11.here hx rfl (pc0 := 44) (pc' := 48) rfl (hb hby at_44) (by decide) (by decide) ?_
    show Steps p.tables e below (T11.setTop (mkF m 48 #[.val (.int p1), .val (.int p2), .val (.int ((p1 &&& (2147483647 : Int32)) % (7 : Int32))), .val (.int ((p2 &&& (2147483647 : Int32)) % (7 : Int32))), .val (.ref w4), .val (.ref w4)] [(.int (1 : Int32))])) _
    exact retN X11 hx (t := .boolean) Bd.returns (by simp) (hb hby at_48) hr
  · exact ⟨rfl, N11⟩
theorem d1_8 : decode method_2_code 8 = .ok (.iload_n 0, 1) := by decide +kernel
theorem d1_9 : decode method_2_code 9 = .ok (.iconst 1, 1) := by decide +kernel
theorem d1_10 : decode method_2_code 10 = .ok (.if_icmp .ne 7, 3) := by decide +kernel
theorem d1_13 : decode method_2_code 13 = .ok (.getstatic 13, 3) := by decide +kernel
theorem d1_16 : decode method_2_code 16 = .ok (.areturn, 1) := by decide +kernel
def Q1_2 (Z : State) (p1 : Int32) (w4 : Addr) (h0 : Heap) (n0 : Nat) (v : Option Value) (h : Heap) (L : List Loc) : Prop := v = some (.ref w4) ∧ Fr n0 L ∧ h = h0
set_option maxRecDepth 65536 in
set_option maxHeartbeats 40000000 in
theorem rm1_2 (l : Launch) (Z : State) (a0 : Array Value) (hw : ∀ d ∈ tables_1, d.before a0 Z = true) (ws : List Jvm.Cond) (p1 : Int32) (w4 : Addr) (h0 : Heap) (n0 : Nat) (Z0 : n0 ≤ h0.size) (P2 : ¬ (p1 = (0 : Int32))) (P3 : p1 = (1 : Int32)) (S_DATABASE : Sta Z h0 "org/callerscope/model/ObjectType" "DATABASE" "Lorg/callerscope/model/ObjectType;" (.ref w4)) :
    MetFree l (⟨"org/callerscope/model/ObjectTypeHoldsPinLaw", "type", "(I)Lorg/callerscope/model/ObjectType;"⟩ : MethodName) (head1 (Jvm.Cond.code (⟨"org/callerscope/model/ObjectTypeHoldsPinLaw", "type", "(I)Lorg/callerscope/model/ObjectType;"⟩ : MethodName) method_2_code 1 (some (.object "org/callerscope/model/ObjectType")) :: ws) ({ frames := 0, cells := 0, slots := 0, locals := 0 } : Room)) (fun a U => a = #[(.int p1)] ∧ Z.Warmed39 U.vm ∧ U.heap = h0) (fun _ _ _ _ _ => True) (fun _ U o U' => ∃ v L, o = .returned v ∧ Q1_2 Z p1 w4 h0 n0 v U'.heap L ∧ FrameEnd U o U' L ({ frames := 0, cells := 0, slots := 0, locals := 0 } : Room).cells ({ frames := 0, cells := 0, slots := 0, locals := 0 } : Room).slots) := by
  refine MetFree.of_bodySF (plainFor_of_name pn_1) hisR ?_
  intro p e s m args below meth c s₁ Bd hml0 hP hK
  obtain ⟨rfl, hZ, hh⟩ := hP
  have hx := Bd.exec
  have hby := Bd.bytes
  have hml : c.maxLocals = 1 := hml0
  have hown : s.vm.findClass "org/callerscope/model/ObjectTypeHoldsPinLaw" = some m.cls := findClass_of_methodNamed Bd.named
  have hnm := (name_of_methodNamed Bd.named Bd.method).1
  have X0 : Stand p l e ({ frames := 0, cells := 0, slots := 0, locals := 0 } : Room) s m #[(.int p1)] below meth c s₁ [] 0 0 := Stand.of_body Bd
  have e0 : s₁.heap = h0 := by rw [← hh, Bd.state]; rfl
  have N0 := Fr.nil n0
  have pre0 : ∀ t, Steps p.tables e below (s₁.setTop (mkF m 0 #[.val (.int p1)] [])) t → Steps p.tables e below (s₁.setTop (entryFrame m #[(.int p1)] 1)) t := fun t k => castTop (ef_1_I m p1) k
  obtain ⟨T5, X5, e5, st5⟩ := getS2 X0 hx hZ hown (host := "") (Or.inl (hw _ (List.mem_of_getElem? (i := 22) rfl))) Via.refl e0 S_DATABASE (g := (mkF m 13 #[.val (.int p1)] [])) rfl (hb hby d1_13)
  obtain ⟨fs, hr, hrun, hended, hW, hsame⟩ := X5.leave (v := some (.ref w4)) (fun h => by rw [Bd.returns] at h; cases h)
  refine ⟨_, _, pre0 _ ?_, hrun, hended, _, _, rfl, ?_, ⟨_, rfl⟩, hW, hsame.mono (by decide) (by decide)⟩
  · show Steps p.tables e below (s₁.setTop (mkF m 0 #[.val (.int p1)] [])) _
    refine XS.iloadN X0.here hx rfl (hb hby d1_0) rfl ?_
    show Steps p.tables e below (s₁.setTop (mkF m 1 #[.val (.int p1)] [(.int p1)])) _
    refine XS.ifYes X0.here hx rfl (pc0 := 1) (pc' := 8) rfl (hb hby d1_1) rfl ((if0 _ _).trans (feq P2).2) (by decide) (by decide) ?_
    show Steps p.tables e below (s₁.setTop (mkF m 8 #[.val (.int p1)] [])) _
    refine XS.iloadN X0.here hx rfl (hb hby d1_8) rfl ?_
    show Steps p.tables e below (s₁.setTop (mkF m 9 #[.val (.int p1)] [(.int p1)])) _
    refine XS.iconst X0.here hx rfl (hb hby d1_9) ?_
    show Steps p.tables e below (s₁.setTop (mkF m 10 #[.val (.int p1)] [(.int (1 : Int32)), (.int p1)])) _
    refine XS.icmpNo X0.here hx rfl (hb hby d1_10) rfl (teq P3).2 ?_
    show Steps p.tables e below (s₁.setTop (mkF m 13 #[.val (.int p1)] [])) _
    refine st5 _ ?_
    show Steps p.tables e below (T5.setTop (mkF m 16 #[.val (.int p1)] [(.ref w4)])) _
    jvm_step X5.here [X5.here.top, hx, (hb hby d1_16), X5.method', Bd.returns, Value.isRef, FieldType.isReference]
    first | (intro acts; rw [hr _ acts rfl rfl rfl]) | rw [hr _ _ rfl rfl rfl]
    exact Steps.refl _
  · show Q1_2 Z p1 w4 h0 n0 _ T5.heap _
    rw [e5]
    exact ⟨rfl, N0, rfl⟩
def Q2_2 (Z : State) (a1 : Addr) (a2 : Addr) (h0 : Heap) (n0 : Nat) (v : Option Value) (h : Heap) (L : List Loc) : Prop := v = some (.int (0 : Int32)) ∧ Fr n0 L ∧ h = h0
set_option maxRecDepth 65536 in
set_option maxHeartbeats 40000000 in
theorem rm2_2 (l : Launch) (Z : State) (a0 : Array Value) (hw : ∀ d ∈ tables_1, d.before a0 Z = true) (ws : List Jvm.Cond) (a1 : Addr) (a2 : Addr) (h0 : Heap) (n0 : Nat) (Z0 : n0 ≤ h0.size) (F_container_a2 : Fld Z h0 a2 "org/callerscope/model/ObjectType" "container" "Lorg/callerscope/model/ObjectType;" .null) :
    MetFree l (⟨"org/callerscope/model/ObjectType", "holds", "(Lorg/callerscope/model/ObjectType;)Z"⟩ : MethodName) (head1 (Jvm.Cond.code (⟨"org/callerscope/model/ObjectType", "holds", "(Lorg/callerscope/model/ObjectType;)Z"⟩ : MethodName) prog_12_method_7_code 3 (some .boolean) :: ws) ({ frames := 0, cells := 0, slots := 0, locals := 0 } : Room)) (fun a U => a = #[(.ref a1), (.ref a2)] ∧ Z.Warmed39 U.vm ∧ U.heap = h0) (fun _ _ _ _ _ => True) (fun _ U o U' => ∃ v L, o = .returned v ∧ Q2_2 Z a1 a2 h0 n0 v U'.heap L ∧ FrameEnd U o U' L ({ frames := 0, cells := 0, slots := 0, locals := 0 } : Room).cells ({ frames := 0, cells := 0, slots := 0, locals := 0 } : Room).slots) := by
  refine MetFree.of_bodySF (plainFor_of_name pn_2) hisR ?_
  intro p e s m args below meth c s₁ Bd hml0 hP hK
  obtain ⟨rfl, hZ, hh⟩ := hP
  have hx := Bd.exec
  have hby := Bd.bytes
  have hml : c.maxLocals = 3 := hml0
  have hown : s.vm.findClass "org/callerscope/model/ObjectType" = some m.cls := findClass_of_methodNamed Bd.named
  have hnm := (name_of_methodNamed Bd.named Bd.method).1
  have X0 : Stand p l e ({ frames := 0, cells := 0, slots := 0, locals := 0 } : Room) s m #[(.ref a1), (.ref a2)] below meth c s₁ [] 0 0 := Stand.of_body Bd
  have e0 : s₁.heap = h0 := by rw [← hh, Bd.state]; rfl
  have N0 := Fr.nil n0
  have pre0 : ∀ t, Steps p.tables e below (s₁.setTop (mkF m 0 #[.val (.ref a1), .val (.ref a2), .unset] [])) t → Steps p.tables e below (s₁.setTop (entryFrame m #[(.ref a1), (.ref a2)] 3)) t := fun t k => castTop (ef_2_RR m a1 a2) k
  obtain ⟨T3, X3, e3, st3⟩ := getF X0 hx hZ hown (host := "") (Or.inl (hw _ (List.mem_of_getElem? (i := 15) rfl))) Via.refl e0 F_container_a2 (g := (mkF m 1 #[.val (.ref a1), .val (.ref a2), .unset] [(.ref a2)])) rfl rfl (hb hby d2_1)
  obtain ⟨fs, hr, hrun, hended, hW, hsame⟩ := X3.leave (v := some (.int (0 : Int32))) (fun h => by rw [Bd.returns] at h; cases h)
  refine ⟨_, _, pre0 _ ?_, hrun, hended, _, _, rfl, ?_, ⟨_, rfl⟩, hW, hsame.mono (by decide) (by decide)⟩
  · show Steps p.tables e below (s₁.setTop (mkF m 0 #[.val (.ref a1), .val (.ref a2), .unset] [])) _
    refine XS.aloadN X0.here hx rfl (hb hby d2_0) rfl rfl ?_
    show Steps p.tables e below (s₁.setTop (mkF m 1 #[.val (.ref a1), .val (.ref a2), .unset] [(.ref a2)])) _
    refine st3 _ ?_
    show Steps p.tables e below (T3.setTop (mkF m 4 #[.val (.ref a1), .val (.ref a2), .unset] [.null])) _
    refine XS.astoreN X3.here hx rfl (hb hby d2_4) rfl rfl (l' := #[.val (.ref a1), .val (.ref a2), .val .null]) rfl ?_
    show Steps p.tables e below (T3.setTop (mkF m 5 #[.val (.ref a1), .val (.ref a2), .val .null] [])) _
    refine XS.aloadN X3.here hx rfl (hb hby d2_5) rfl rfl ?_
    show Steps p.tables e below (T3.setTop (mkF m 6 #[.val (.ref a1), .val (.ref a2), .val .null] [.null])) _
    refine XS.ifnullYes X3.here hx rfl (pc0 := 6) (pc' := 24) rfl (hb hby d2_6) rfl (by decide) (by decide) ?_
    show Steps p.tables e below (T3.setTop (mkF m 24 #[.val (.ref a1), .val (.ref a2), .val .null] [])) _
    refine XS.iconst X3.here hx rfl (hb hby d2_24) ?_
    show Steps p.tables e below (T3.setTop (mkF m 25 #[.val (.ref a1), .val (.ref a2), .val .null] [(.int (0 : Int32))])) _
    exact retN X3 hx (t := .boolean) Bd.returns (by simp) (hb hby d2_25) hr
  · show Q2_2 Z a1 a2 h0 n0 _ T3.heap _
    rw [e3]
    exact ⟨rfl, N0, rfl⟩
set_option maxRecDepth 65536 in
set_option maxHeartbeats 40000000 in
theorem rm0_2 (l : Launch) (Z : State) (a0 : Array Value) (hw : ∀ d ∈ tables_1, d.before a0 Z = true) (ws : List Jvm.Cond) (p1 : Int32) (p2 : Int32) (w4 : Addr) (w7 : Addr) (r10 : Int32) (r13 : Int32) (h0 : Heap) (n0 : Nat) (Z0 : n0 ≤ h0.size) (P5 : own_Pur1 l Z #[(.int ((p1 &&& (2147483647 : Int32)) % (7 : Int32)))] h0 n0 (some (.ref w4))) (P8 : own_Pur1 l Z #[(.int ((p2 &&& (2147483647 : Int32)) % (7 : Int32)))] h0 n0 (some (.ref w7))) (P11 : own_Pur2 l Z #[(.ref w4), (.ref w7)] h0 n0 (some (.int r10))) (E_w4 : Exa Z h0 w4 "org/callerscope/model/ObjectType") (P14 : own_Pur3 l Z #[(.int ((p1 &&& (2147483647 : Int32)) % (7 : Int32))), (.int ((p2 &&& (2147483647 : Int32)) % (7 : Int32)))] h0 n0 (some (.int r13))) (P15 : r10 = r13) :
    MetFree l x (head1 (Jvm.Cond.code x code maxLocals ret :: ws) room_1) (fun a U => a = #[(.int p1), (.int p2)] ∧ Z.Warmed39 U.vm ∧ U.heap = h0) (fun _ _ _ _ _ => True) (fun _ U o U' => ∃ v L, o = .returned v ∧ own_QT n0 v L ∧ FrameEnd U o U' L room_1.cells room_1.slots) := by
  refine MetFree.of_bodySF (plainFor_of_name pn_0) hisR ?_
  intro p e s m args below meth c s₁ Bd hml0 hP hK
  obtain ⟨rfl, hZ, hh⟩ := hP
  have hx := Bd.exec
  have hby := Bd.bytes
  have hml : c.maxLocals = 6 := hml0
  have hown : s.vm.findClass "org/callerscope/model/ObjectTypeHoldsPinLaw" = some m.cls := findClass_of_methodNamed Bd.named
  have hnm := (name_of_methodNamed Bd.named Bd.method).1
  have X0 : Stand p l e room_1 s m #[(.int p1), (.int p2)] below meth c s₁ [] 0 0 := Stand.of_body Bd
  have e0 : s₁.heap = h0 := by rw [← hh, Bd.state]; rfl
  have N0 := Fr.nil n0
  have pre0 : ∀ t, Steps p.tables e below (s₁.setTop (mkF m 0 #[.val (.int p1), .val (.int p2), .unset, .unset, .unset, .unset] [])) t → Steps p.tables e below (s₁.setTop (entryFrame m #[(.int p1), (.int p2)] maxLocals)) t := fun t k => castTop (ef_0_II m p1 p2) k
  obtain ⟨_, _, ⟨T3, L3, k3, n3⟩, -, X3, ⟨Lc3, hQ3, l3, y3, z3⟩, st3⟩ := Jvm.LawKit.callS X0 hx (y := (⟨"org/callerscope/model/ObjectTypeHoldsPinLaw", "type", "(I)Lorg/callerscope/model/ObjectType;"⟩ : MethodName)) hown (mvT hZ (hw _ (List.mem_of_getElem? (i := 1) rfl))) (mvT hZ (hw _ (List.mem_of_getElem? (i := 2) rfl))) (mvT hZ (hw _ (List.mem_of_getElem? (i := 3) rfl))) (mvT hZ (hw _ (List.mem_of_getElem? (i := 4) rfl))) (by decide) (backOf (W := 0) (Q := fun v h L => v = some (.ref w4) ∧ Fr n0 L ∧ h = h0) (rm := { frames := 0, cells := 0, slots := 0, locals := 0 }) P5 hZ (hw _ (List.mem_of_getElem? (i := 4) rfl)) (hw _ (List.mem_of_getElem? (i := 3) rfl)) (by decide) (by decide)) (g := (mkF m 17 #[.val (.int p1), .val (.int p2), .val (.int ((p1 &&& (2147483647 : Int32)) % (7 : Int32))), .val (.int ((p2 &&& (2147483647 : Int32)) % (7 : Int32))), .unset, .unset] [(.int ((p1 &&& (2147483647 : Int32)) % (7 : Int32)))])) rfl (by rw [hml]; rfl) (argsL := [(.int ((p1 &&& (2147483647 : Int32)) % (7 : Int32)))]) (rest := []) (lenOf pd_0 rfl) rfl (by show 2 * 0 + _ ≤ _; exact Nat.le_of_eq rfl) (hb hby at_17) (fun _ _ => ⟨rfl, e0, (by decide : 0 + 0 ≤ _), (by decide : 0 + 0 ≤ _)⟩)
  dsimp only [Pt.U, Pt.locs, Pt.cells, Pt.slots] at X3 l3 y3 z3 st3 hQ3
  subst l3 y3 z3
  obtain ⟨rfl, Nq3, e3⟩ := hQ3
  have N3 := Fr.app N0 Nq3
  obtain ⟨_, _, ⟨T6, L6, k6, n6⟩, -, X6, ⟨Lc6, hQ6, l6, y6, z6⟩, st6⟩ := Jvm.LawKit.callS X3 hx (y := (⟨"org/callerscope/model/ObjectTypeHoldsPinLaw", "type", "(I)Lorg/callerscope/model/ObjectType;"⟩ : MethodName)) hown (mvT hZ (hw _ (List.mem_of_getElem? (i := 1) rfl))) (mvT hZ (hw _ (List.mem_of_getElem? (i := 2) rfl))) (mvT hZ (hw _ (List.mem_of_getElem? (i := 3) rfl))) (mvT hZ (hw _ (List.mem_of_getElem? (i := 4) rfl))) (by decide) (backOf (W := 0) (Q := fun v h L => v = some (.ref w7) ∧ Fr n0 L ∧ h = h0) (rm := { frames := 0, cells := 0, slots := 0, locals := 0 }) P8 hZ (hw _ (List.mem_of_getElem? (i := 4) rfl)) (hw _ (List.mem_of_getElem? (i := 3) rfl)) (by decide) (by decide)) (g := (mkF m 23 #[.val (.int p1), .val (.int p2), .val (.int ((p1 &&& (2147483647 : Int32)) % (7 : Int32))), .val (.int ((p2 &&& (2147483647 : Int32)) % (7 : Int32))), .val (.ref w4), .unset] [(.int ((p2 &&& (2147483647 : Int32)) % (7 : Int32)))])) rfl (by rw [hml]; rfl) (argsL := [(.int ((p2 &&& (2147483647 : Int32)) % (7 : Int32)))]) (rest := []) (lenOf pd_0 rfl) rfl (by show 2 * 0 + _ ≤ _; exact Nat.le_of_eq rfl) (hb hby at_23) (fun _ _ => ⟨rfl, e3, (by decide : 0 + 0 ≤ _), (by decide : 0 + 0 ≤ _)⟩)
  dsimp only [Pt.U, Pt.locs, Pt.cells, Pt.slots] at X6 l6 y6 z6 st6 hQ6
  subst l6 y6 z6
  obtain ⟨rfl, Nq6, e6⟩ := hQ6
  have N6 := Fr.app N3 Nq6
  obtain ⟨cq9, kq9, q9a, q9b, q9c⟩ := isOf hZ e6 E_w4
  obtain ⟨_, _, ⟨T9, L9, k9, n9⟩, -, X9, ⟨Lc9, hQ9, l9, y9, z9⟩, st9⟩ := X6.virtualBack hx (y := (⟨"org/callerscope/model/ObjectType", "holds", "(Lorg/callerscope/model/ObjectType;)Z"⟩ : MethodName)) (z := (⟨"org/callerscope/model/ObjectType", "holds", "(Lorg/callerscope/model/ObjectType;)Z"⟩ : MethodName)) hown (mvT hZ (hw _ (List.mem_of_getElem? (i := 10) rfl))) (mvT hZ (hw _ (List.mem_of_getElem? (i := 11) rfl))) (notFace_of_selects (args := #[]) (mvT hZ (hw _ (List.mem_of_getElem? (i := 13) rfl)))) (mvT hZ (hw _ (List.mem_of_getElem? (i := 13) rfl))) (mvT hZ (hw _ (List.mem_of_getElem? (i := 12) rfl))) (by decide) (backOf (W := 0) (Q := fun v h L => v = some (.int r10) ∧ Fr n0 L ∧ h = h0) (rm := { frames := 0, cells := 0, slots := 0, locals := 0 }) P11 hZ (hw _ (List.mem_of_getElem? (i := 14) rfl)) (hw _ (List.mem_of_getElem? (i := 6) rfl)) (by decide) (by decide)) q9a q9c (g := (mkF m 32 #[.val (.int p1), .val (.int p2), .val (.int ((p1 &&& (2147483647 : Int32)) % (7 : Int32))), .val (.int ((p2 &&& (2147483647 : Int32)) % (7 : Int32))), .val (.ref w4), .val (.ref w7)] [(.ref w7), (.ref w4)])) rfl (by rw [hml]; rfl) (Steps.refl _) (argsL := [(.ref w7)]) (rest := []) (lenOf pd_1 rfl) rfl (by show 2 * 0 + _ ≤ _; exact Nat.le_of_eq rfl) (hb hby at_32) (fun _ _ => ⟨rfl, e6, (by decide : 0 + 0 ≤ _), (by decide : 0 + 0 ≤ _)⟩)
  dsimp only [Pt.U, Pt.locs, Pt.cells, Pt.slots] at X9 l9 y9 z9 st9 hQ9
  subst l9 y9 z9
  obtain ⟨rfl, Nq9, e9⟩ := hQ9
  have N9 := Fr.app N6 Nq9
  obtain ⟨_, _, ⟨T12, L12, k12, n12⟩, -, X12, ⟨Lc12, hQ12, l12, y12, z12⟩, st12⟩ := Jvm.LawKit.callS X9 hx (y := (⟨"org/callerscope/model/ObjectTypeHoldsPinLaw", "expected", "(II)Z"⟩ : MethodName)) hown (mvT hZ (hw _ (List.mem_of_getElem? (i := 19) rfl))) (mvT hZ (hw _ (List.mem_of_getElem? (i := 20) rfl))) (mvT hZ (hw _ (List.mem_of_getElem? (i := 3) rfl))) (mvT hZ (hw _ (List.mem_of_getElem? (i := 21) rfl))) (by decide) (backOf (W := 1) (Q := fun v h L => v = some (.int r13) ∧ Fr n0 L ∧ h = h0) (rm := { frames := 0, cells := 0, slots := 0, locals := 0 }) P14 hZ (hw _ (List.mem_of_getElem? (i := 21) rfl)) (hw _ (List.mem_of_getElem? (i := 3) rfl)) (by decide) (by decide)) (g := (mkF m 37 #[.val (.int p1), .val (.int p2), .val (.int ((p1 &&& (2147483647 : Int32)) % (7 : Int32))), .val (.int ((p2 &&& (2147483647 : Int32)) % (7 : Int32))), .val (.ref w4), .val (.ref w7)] [(.int ((p2 &&& (2147483647 : Int32)) % (7 : Int32))), (.int ((p1 &&& (2147483647 : Int32)) % (7 : Int32))), (.int r10)])) rfl (by rw [hml]; rfl) (argsL := [(.int ((p1 &&& (2147483647 : Int32)) % (7 : Int32))), (.int ((p2 &&& (2147483647 : Int32)) % (7 : Int32)))]) (rest := [(.int r10)]) (lenOf pd_2 rfl) rfl (by show 2 * 0 + _ ≤ _; exact Nat.le_of_eq rfl) (hb hby at_37) (fun _ _ => ⟨rfl, e9, (by decide : 0 + 0 ≤ _), (by decide : 0 + 0 ≤ _)⟩)
  dsimp only [Pt.U, Pt.locs, Pt.cells, Pt.slots] at X12 l12 y12 z12 st12 hQ12
  subst l12 y12 z12
  obtain ⟨rfl, Nq12, e12⟩ := hQ12
  have N12 := Fr.app N9 Nq12
  obtain ⟨fs, hr, hrun, hended, hW, hsame⟩ := X12.leave (v := some (.int (1 : Int32))) (fun h => by rw [Bd.returns] at h; cases h)
  refine ⟨_, _, pre0 _ ?_, hrun, hended, _, _, rfl, ?_, ⟨_, rfl⟩, hW, hsame.mono (by decide) (by decide)⟩
  · show Steps p.tables e below (s₁.setTop (mkF m 0 #[.val (.int p1), .val (.int p2), .unset, .unset, .unset, .unset] [])) _
    refine XS.iloadN X0.here hx rfl (hb hby at_0) rfl ?_
    show Steps p.tables e below (s₁.setTop (mkF m 1 #[.val (.int p1), .val (.int p2), .unset, .unset, .unset, .unset] [(.int p1)])) _
    refine X0.ldcInt hx hown (mvT hZ (hw _ (List.mem_of_getElem? (i := 0) rfl))) (g := (mkF m 1 #[.val (.int p1), .val (.int p2), .unset, .unset, .unset, .unset] [(.int p1)])) rfl (hb hby at_1) _ ?_
    show Steps p.tables e below (s₁.setTop (mkF m 3 #[.val (.int p1), .val (.int p2), .unset, .unset, .unset, .unset] [(.int (2147483647 : Int32)), (.int p1)])) _
    refine XS.iand X0.here hx rfl (hb hby at_3) rfl ?_
    show Steps p.tables e below (s₁.setTop (mkF m 4 #[.val (.int p1), .val (.int p2), .unset, .unset, .unset, .unset] [(.int (p1 &&& (2147483647 : Int32)))])) _
    refine XS.bipush X0.here hx rfl (hb hby at_4) ?_
    show Steps p.tables e below (s₁.setTop (mkF m 6 #[.val (.int p1), .val (.int p2), .unset, .unset, .unset, .unset] [(.int (7 : Int32)), (.int (p1 &&& (2147483647 : Int32)))])) _
    refine iremM X0 hx rfl (hb hby at_6) rfl (by decide : ¬ ((7 : Int32) = (0 : Int32))) ?_
    show Steps p.tables e below (s₁.setTop (mkF m 7 #[.val (.int p1), .val (.int p2), .unset, .unset, .unset, .unset] [(.int ((p1 &&& (2147483647 : Int32)) % (7 : Int32)))])) _
    refine XS.istoreN X0.here hx rfl (hb hby at_7) rfl (l' := #[.val (.int p1), .val (.int p2), .val (.int ((p1 &&& (2147483647 : Int32)) % (7 : Int32))), .unset, .unset, .unset]) rfl ?_
    show Steps p.tables e below (s₁.setTop (mkF m 8 #[.val (.int p1), .val (.int p2), .val (.int ((p1 &&& (2147483647 : Int32)) % (7 : Int32))), .unset, .unset, .unset] [])) _
    refine XS.iloadN X0.here hx rfl (hb hby at_8) rfl ?_
    show Steps p.tables e below (s₁.setTop (mkF m 9 #[.val (.int p1), .val (.int p2), .val (.int ((p1 &&& (2147483647 : Int32)) % (7 : Int32))), .unset, .unset, .unset] [(.int p2)])) _
    refine X0.ldcInt hx hown (mvT hZ (hw _ (List.mem_of_getElem? (i := 0) rfl))) (g := (mkF m 9 #[.val (.int p1), .val (.int p2), .val (.int ((p1 &&& (2147483647 : Int32)) % (7 : Int32))), .unset, .unset, .unset] [(.int p2)])) rfl (hb hby at_9) _ ?_
    show Steps p.tables e below (s₁.setTop (mkF m 11 #[.val (.int p1), .val (.int p2), .val (.int ((p1 &&& (2147483647 : Int32)) % (7 : Int32))), .unset, .unset, .unset] [(.int (2147483647 : Int32)), (.int p2)])) _
    refine XS.iand X0.here hx rfl (hb hby at_11) rfl ?_
    show Steps p.tables e below (s₁.setTop (mkF m 12 #[.val (.int p1), .val (.int p2), .val (.int ((p1 &&& (2147483647 : Int32)) % (7 : Int32))), .unset, .unset, .unset] [(.int (p2 &&& (2147483647 : Int32)))])) _
    refine XS.bipush X0.here hx rfl (hb hby at_12) ?_
    show Steps p.tables e below (s₁.setTop (mkF m 14 #[.val (.int p1), .val (.int p2), .val (.int ((p1 &&& (2147483647 : Int32)) % (7 : Int32))), .unset, .unset, .unset] [(.int (7 : Int32)), (.int (p2 &&& (2147483647 : Int32)))])) _
    refine iremM X0 hx rfl (hb hby at_14) rfl (by decide : ¬ ((7 : Int32) = (0 : Int32))) ?_
    show Steps p.tables e below (s₁.setTop (mkF m 15 #[.val (.int p1), .val (.int p2), .val (.int ((p1 &&& (2147483647 : Int32)) % (7 : Int32))), .unset, .unset, .unset] [(.int ((p2 &&& (2147483647 : Int32)) % (7 : Int32)))])) _
    refine XS.istoreN X0.here hx rfl (hb hby at_15) rfl (l' := #[.val (.int p1), .val (.int p2), .val (.int ((p1 &&& (2147483647 : Int32)) % (7 : Int32))), .val (.int ((p2 &&& (2147483647 : Int32)) % (7 : Int32))), .unset, .unset]) rfl ?_
    show Steps p.tables e below (s₁.setTop (mkF m 16 #[.val (.int p1), .val (.int p2), .val (.int ((p1 &&& (2147483647 : Int32)) % (7 : Int32))), .val (.int ((p2 &&& (2147483647 : Int32)) % (7 : Int32))), .unset, .unset] [])) _
    refine XS.iloadN X0.here hx rfl (hb hby at_16) rfl ?_
    show Steps p.tables e below (s₁.setTop (mkF m 17 #[.val (.int p1), .val (.int p2), .val (.int ((p1 &&& (2147483647 : Int32)) % (7 : Int32))), .val (.int ((p2 &&& (2147483647 : Int32)) % (7 : Int32))), .unset, .unset] [(.int ((p1 &&& (2147483647 : Int32)) % (7 : Int32)))])) _
    refine st3 _ ?_
    show Steps p.tables e below (T3.setTop (mkF m 20 #[.val (.int p1), .val (.int p2), .val (.int ((p1 &&& (2147483647 : Int32)) % (7 : Int32))), .val (.int ((p2 &&& (2147483647 : Int32)) % (7 : Int32))), .unset, .unset] [(.ref w4)])) _
    refine XS.astore X3.here hx rfl (hb hby at_20) rfl rfl (l' := #[.val (.int p1), .val (.int p2), .val (.int ((p1 &&& (2147483647 : Int32)) % (7 : Int32))), .val (.int ((p2 &&& (2147483647 : Int32)) % (7 : Int32))), .val (.ref w4), .unset]) rfl ?_
    show Steps p.tables e below (T3.setTop (mkF m 22 #[.val (.int p1), .val (.int p2), .val (.int ((p1 &&& (2147483647 : Int32)) % (7 : Int32))), .val (.int ((p2 &&& (2147483647 : Int32)) % (7 : Int32))), .val (.ref w4), .unset] [])) _
    refine XS.iloadN X3.here hx rfl (hb hby at_22) rfl ?_
    show Steps p.tables e below (T3.setTop (mkF m 23 #[.val (.int p1), .val (.int p2), .val (.int ((p1 &&& (2147483647 : Int32)) % (7 : Int32))), .val (.int ((p2 &&& (2147483647 : Int32)) % (7 : Int32))), .val (.ref w4), .unset] [(.int ((p2 &&& (2147483647 : Int32)) % (7 : Int32)))])) _
    refine st6 _ ?_
    show Steps p.tables e below (T6.setTop (mkF m 26 #[.val (.int p1), .val (.int p2), .val (.int ((p1 &&& (2147483647 : Int32)) % (7 : Int32))), .val (.int ((p2 &&& (2147483647 : Int32)) % (7 : Int32))), .val (.ref w4), .unset] [(.ref w7)])) _
    refine XS.astore X6.here hx rfl (hb hby at_26) rfl rfl (l' := #[.val (.int p1), .val (.int p2), .val (.int ((p1 &&& (2147483647 : Int32)) % (7 : Int32))), .val (.int ((p2 &&& (2147483647 : Int32)) % (7 : Int32))), .val (.ref w4), .val (.ref w7)]) rfl ?_
    show Steps p.tables e below (T6.setTop (mkF m 28 #[.val (.int p1), .val (.int p2), .val (.int ((p1 &&& (2147483647 : Int32)) % (7 : Int32))), .val (.int ((p2 &&& (2147483647 : Int32)) % (7 : Int32))), .val (.ref w4), .val (.ref w7)] [])) _
    refine XS.aload X6.here hx rfl (hb hby at_28) rfl rfl ?_
    show Steps p.tables e below (T6.setTop (mkF m 30 #[.val (.int p1), .val (.int p2), .val (.int ((p1 &&& (2147483647 : Int32)) % (7 : Int32))), .val (.int ((p2 &&& (2147483647 : Int32)) % (7 : Int32))), .val (.ref w4), .val (.ref w7)] [(.ref w4)])) _
    refine XS.aload X6.here hx rfl (hb hby at_30) rfl rfl ?_
    show Steps p.tables e below (T6.setTop (mkF m 32 #[.val (.int p1), .val (.int p2), .val (.int ((p1 &&& (2147483647 : Int32)) % (7 : Int32))), .val (.int ((p2 &&& (2147483647 : Int32)) % (7 : Int32))), .val (.ref w4), .val (.ref w7)] [(.ref w7), (.ref w4)])) _
    refine st9.trans ?_
    show Steps p.tables e below (T9.setTop (mkF m 35 #[.val (.int p1), .val (.int p2), .val (.int ((p1 &&& (2147483647 : Int32)) % (7 : Int32))), .val (.int ((p2 &&& (2147483647 : Int32)) % (7 : Int32))), .val (.ref w4), .val (.ref w7)] [(.int r10)])) _
    refine XS.iloadN X9.here hx rfl (hb hby at_35) rfl ?_
    show Steps p.tables e below (T9.setTop (mkF m 36 #[.val (.int p1), .val (.int p2), .val (.int ((p1 &&& (2147483647 : Int32)) % (7 : Int32))), .val (.int ((p2 &&& (2147483647 : Int32)) % (7 : Int32))), .val (.ref w4), .val (.ref w7)] [(.int ((p1 &&& (2147483647 : Int32)) % (7 : Int32))), (.int r10)])) _
    refine XS.iloadN X9.here hx rfl (hb hby at_36) rfl ?_
    show Steps p.tables e below (T9.setTop (mkF m 37 #[.val (.int p1), .val (.int p2), .val (.int ((p1 &&& (2147483647 : Int32)) % (7 : Int32))), .val (.int ((p2 &&& (2147483647 : Int32)) % (7 : Int32))), .val (.ref w4), .val (.ref w7)] [(.int ((p2 &&& (2147483647 : Int32)) % (7 : Int32))), (.int ((p1 &&& (2147483647 : Int32)) % (7 : Int32))), (.int r10)])) _
    refine st12 _ ?_
    show Steps p.tables e below (T12.setTop (mkF m 40 #[.val (.int p1), .val (.int p2), .val (.int ((p1 &&& (2147483647 : Int32)) % (7 : Int32))), .val (.int ((p2 &&& (2147483647 : Int32)) % (7 : Int32))), .val (.ref w4), .val (.ref w7)] [(.int r13), (.int r10)])) _
    refine XS.icmpNo X12.here hx rfl (hb hby at_40) rfl (teq P15).2 ?_
    show Steps p.tables e below (T12.setTop (mkF m 43 #[.val (.int p1), .val (.int p2), .val (.int ((p1 &&& (2147483647 : Int32)) % (7 : Int32))), .val (.int ((p2 &&& (2147483647 : Int32)) % (7 : Int32))), .val (.ref w4), .val (.ref w7)] [])) _
    refine XS.iconst X12.here hx rfl (hb hby at_43) ?_
    show Steps p.tables e below (T12.setTop (mkF m 44 #[.val (.int p1), .val (.int p2), .val (.int ((p1 &&& (2147483647 : Int32)) % (7 : Int32))), .val (.int ((p2 &&& (2147483647 : Int32)) % (7 : Int32))), .val (.ref w4), .val (.ref w7)] [(.int (1 : Int32))])) _
    refine XS.goto X12.here hx rfl (pc0 := 44) (pc' := 48) rfl (hb hby at_44) (by decide) (by decide) ?_
    show Steps p.tables e below (T12.setTop (mkF m 48 #[.val (.int p1), .val (.int p2), .val (.int ((p1 &&& (2147483647 : Int32)) % (7 : Int32))), .val (.int ((p2 &&& (2147483647 : Int32)) % (7 : Int32))), .val (.ref w4), .val (.ref w7)] [(.int (1 : Int32))])) _
    exact retN X12 hx (t := .boolean) Bd.returns (by simp) (hb hby at_48) hr
  · exact ⟨rfl, N12⟩
theorem d1_17 : decode method_2_code 17 = .ok (.iload_n 0, 1) := by decide +kernel
theorem d1_18 : decode method_2_code 18 = .ok (.iconst 2, 1) := by decide +kernel
theorem d1_19 : decode method_2_code 19 = .ok (.if_icmp .ne 7, 3) := by decide +kernel
theorem d1_22 : decode method_2_code 22 = .ok (.getstatic 16, 3) := by decide +kernel
theorem d1_25 : decode method_2_code 25 = .ok (.areturn, 1) := by decide +kernel
def Q1_3 (Z : State) (p1 : Int32) (w5 : Addr) (h0 : Heap) (n0 : Nat) (v : Option Value) (h : Heap) (L : List Loc) : Prop := v = some (.ref w5) ∧ Fr n0 L ∧ h = h0
set_option maxRecDepth 65536 in
set_option maxHeartbeats 40000000 in
theorem rm1_3 (l : Launch) (Z : State) (a0 : Array Value) (hw : ∀ d ∈ tables_1, d.before a0 Z = true) (ws : List Jvm.Cond) (p1 : Int32) (w5 : Addr) (h0 : Heap) (n0 : Nat) (Z0 : n0 ≤ h0.size) (P2 : ¬ (p1 = (0 : Int32))) (P3 : ¬ (p1 = (1 : Int32))) (P4 : p1 = (2 : Int32)) (S_SCHEMA : Sta Z h0 "org/callerscope/model/ObjectType" "SCHEMA" "Lorg/callerscope/model/ObjectType;" (.ref w5)) :
    MetFree l (⟨"org/callerscope/model/ObjectTypeHoldsPinLaw", "type", "(I)Lorg/callerscope/model/ObjectType;"⟩ : MethodName) (head1 (Jvm.Cond.code (⟨"org/callerscope/model/ObjectTypeHoldsPinLaw", "type", "(I)Lorg/callerscope/model/ObjectType;"⟩ : MethodName) method_2_code 1 (some (.object "org/callerscope/model/ObjectType")) :: ws) ({ frames := 0, cells := 0, slots := 0, locals := 0 } : Room)) (fun a U => a = #[(.int p1)] ∧ Z.Warmed39 U.vm ∧ U.heap = h0) (fun _ _ _ _ _ => True) (fun _ U o U' => ∃ v L, o = .returned v ∧ Q1_3 Z p1 w5 h0 n0 v U'.heap L ∧ FrameEnd U o U' L ({ frames := 0, cells := 0, slots := 0, locals := 0 } : Room).cells ({ frames := 0, cells := 0, slots := 0, locals := 0 } : Room).slots) := by
  refine MetFree.of_bodySF (plainFor_of_name pn_1) hisR ?_
  intro p e s m args below meth c s₁ Bd hml0 hP hK
  obtain ⟨rfl, hZ, hh⟩ := hP
  have hx := Bd.exec
  have hby := Bd.bytes
  have hml : c.maxLocals = 1 := hml0
  have hown : s.vm.findClass "org/callerscope/model/ObjectTypeHoldsPinLaw" = some m.cls := findClass_of_methodNamed Bd.named
  have hnm := (name_of_methodNamed Bd.named Bd.method).1
  have X0 : Stand p l e ({ frames := 0, cells := 0, slots := 0, locals := 0 } : Room) s m #[(.int p1)] below meth c s₁ [] 0 0 := Stand.of_body Bd
  have e0 : s₁.heap = h0 := by rw [← hh, Bd.state]; rfl
  have N0 := Fr.nil n0
  have pre0 : ∀ t, Steps p.tables e below (s₁.setTop (mkF m 0 #[.val (.int p1)] [])) t → Steps p.tables e below (s₁.setTop (entryFrame m #[(.int p1)] 1)) t := fun t k => castTop (ef_1_I m p1) k
  obtain ⟨T6, X6, e6, st6⟩ := getS2 X0 hx hZ hown (host := "") (Or.inl (hw _ (List.mem_of_getElem? (i := 25) rfl))) Via.refl e0 S_SCHEMA (g := (mkF m 22 #[.val (.int p1)] [])) rfl (hb hby d1_22)
  obtain ⟨fs, hr, hrun, hended, hW, hsame⟩ := X6.leave (v := some (.ref w5)) (fun h => by rw [Bd.returns] at h; cases h)
  refine ⟨_, _, pre0 _ ?_, hrun, hended, _, _, rfl, ?_, ⟨_, rfl⟩, hW, hsame.mono (by decide) (by decide)⟩
  · show Steps p.tables e below (s₁.setTop (mkF m 0 #[.val (.int p1)] [])) _
    refine XS.iloadN X0.here hx rfl (hb hby d1_0) rfl ?_
    show Steps p.tables e below (s₁.setTop (mkF m 1 #[.val (.int p1)] [(.int p1)])) _
    refine XS.ifYes X0.here hx rfl (pc0 := 1) (pc' := 8) rfl (hb hby d1_1) rfl ((if0 _ _).trans (feq P2).2) (by decide) (by decide) ?_
    show Steps p.tables e below (s₁.setTop (mkF m 8 #[.val (.int p1)] [])) _
    refine XS.iloadN X0.here hx rfl (hb hby d1_8) rfl ?_
    show Steps p.tables e below (s₁.setTop (mkF m 9 #[.val (.int p1)] [(.int p1)])) _
    refine XS.iconst X0.here hx rfl (hb hby d1_9) ?_
    show Steps p.tables e below (s₁.setTop (mkF m 10 #[.val (.int p1)] [(.int (1 : Int32)), (.int p1)])) _
    refine XS.icmpYes X0.here hx rfl (pc0 := 10) (pc' := 17) rfl (hb hby d1_10) rfl (feq P3).2 (by decide) (by decide) ?_
    show Steps p.tables e below (s₁.setTop (mkF m 17 #[.val (.int p1)] [])) _
    refine XS.iloadN X0.here hx rfl (hb hby d1_17) rfl ?_
    show Steps p.tables e below (s₁.setTop (mkF m 18 #[.val (.int p1)] [(.int p1)])) _
    refine XS.iconst X0.here hx rfl (hb hby d1_18) ?_
    show Steps p.tables e below (s₁.setTop (mkF m 19 #[.val (.int p1)] [(.int (2 : Int32)), (.int p1)])) _
    refine XS.icmpNo X0.here hx rfl (hb hby d1_19) rfl (teq P4).2 ?_
    show Steps p.tables e below (s₁.setTop (mkF m 22 #[.val (.int p1)] [])) _
    refine st6 _ ?_
    show Steps p.tables e below (T6.setTop (mkF m 25 #[.val (.int p1)] [(.ref w5)])) _
    jvm_step X6.here [X6.here.top, hx, (hb hby d1_25), X6.method', Bd.returns, Value.isRef, FieldType.isReference]
    first | (intro acts; rw [hr _ acts rfl rfl rfl]) | rw [hr _ _ rfl rfl rfl]
    exact Steps.refl _
  · show Q1_3 Z p1 w5 h0 n0 _ T6.heap _
    rw [e6]
    exact ⟨rfl, N0, rfl⟩
theorem d2_9 : decode prog_12_method_7_code 9 = .ok (.aload_n 2, 1) := by decide +kernel
theorem d2_10 : decode prog_12_method_7_code 10 = .ok (.aload_n 0, 1) := by decide +kernel
theorem d2_11 : decode prog_12_method_7_code 11 = .ok (.if_acmp .ne 5, 3) := by decide +kernel
theorem d2_16 : decode prog_12_method_7_code 16 = .ok (.aload_n 2, 1) := by decide +kernel
theorem d2_17 : decode prog_12_method_7_code 17 = .ok (.getfield 44, 3) := by decide +kernel
theorem d2_20 : decode prog_12_method_7_code 20 = .ok (.astore_n 2, 1) := by decide +kernel
theorem d2_21 : decode prog_12_method_7_code 21 = .ok (.goto (-16), 3) := by decide +kernel
def Q2_3 (Z : State) (a1 : Addr) (a2 : Addr) (w3 : Addr) (h0 : Heap) (n0 : Nat) (v : Option Value) (h : Heap) (L : List Loc) : Prop := v = some (.int (0 : Int32)) ∧ Fr n0 L ∧ h = h0
set_option maxRecDepth 65536 in
set_option maxHeartbeats 40000000 in
theorem rm2_3 (l : Launch) (Z : State) (a0 : Array Value) (hw : ∀ d ∈ tables_1, d.before a0 Z = true) (ws : List Jvm.Cond) (a1 : Addr) (a2 : Addr) (w3 : Addr) (h0 : Heap) (n0 : Nat) (Z0 : n0 ≤ h0.size) (F_container_a2 : Fld Z h0 a2 "org/callerscope/model/ObjectType" "container" "Lorg/callerscope/model/ObjectType;" (.ref w3)) (P5 : ¬ (w3 = a1)) (F_container_w3 : Fld Z h0 w3 "org/callerscope/model/ObjectType" "container" "Lorg/callerscope/model/ObjectType;" .null) :
    MetFree l (⟨"org/callerscope/model/ObjectType", "holds", "(Lorg/callerscope/model/ObjectType;)Z"⟩ : MethodName) (head1 (Jvm.Cond.code (⟨"org/callerscope/model/ObjectType", "holds", "(Lorg/callerscope/model/ObjectType;)Z"⟩ : MethodName) prog_12_method_7_code 3 (some .boolean) :: ws) ({ frames := 0, cells := 0, slots := 0, locals := 0 } : Room)) (fun a U => a = #[(.ref a1), (.ref a2)] ∧ Z.Warmed39 U.vm ∧ U.heap = h0) (fun _ _ _ _ _ => True) (fun _ U o U' => ∃ v L, o = .returned v ∧ Q2_3 Z a1 a2 w3 h0 n0 v U'.heap L ∧ FrameEnd U o U' L ({ frames := 0, cells := 0, slots := 0, locals := 0 } : Room).cells ({ frames := 0, cells := 0, slots := 0, locals := 0 } : Room).slots) := by
  refine MetFree.of_bodySF (plainFor_of_name pn_2) hisR ?_
  intro p e s m args below meth c s₁ Bd hml0 hP hK
  obtain ⟨rfl, hZ, hh⟩ := hP
  have hx := Bd.exec
  have hby := Bd.bytes
  have hml : c.maxLocals = 3 := hml0
  have hown : s.vm.findClass "org/callerscope/model/ObjectType" = some m.cls := findClass_of_methodNamed Bd.named
  have hnm := (name_of_methodNamed Bd.named Bd.method).1
  have X0 : Stand p l e ({ frames := 0, cells := 0, slots := 0, locals := 0 } : Room) s m #[(.ref a1), (.ref a2)] below meth c s₁ [] 0 0 := Stand.of_body Bd
  have e0 : s₁.heap = h0 := by rw [← hh, Bd.state]; rfl
  have N0 := Fr.nil n0
  have pre0 : ∀ t, Steps p.tables e below (s₁.setTop (mkF m 0 #[.val (.ref a1), .val (.ref a2), .unset] [])) t → Steps p.tables e below (s₁.setTop (entryFrame m #[(.ref a1), (.ref a2)] 3)) t := fun t k => castTop (ef_2_RR m a1 a2) k
  obtain ⟨T4, X4, e4, st4⟩ := getF X0 hx hZ hown (host := "") (Or.inl (hw _ (List.mem_of_getElem? (i := 15) rfl))) Via.refl e0 F_container_a2 (g := (mkF m 1 #[.val (.ref a1), .val (.ref a2), .unset] [(.ref a2)])) rfl rfl (hb hby d2_1)
  obtain ⟨T6, X6, e6, st6⟩ := getF X4 hx hZ hown (host := "") (Or.inl (hw _ (List.mem_of_getElem? (i := 15) rfl))) Via.refl e4 F_container_w3 (g := (mkF m 17 #[.val (.ref a1), .val (.ref a2), .val (.ref w3)] [(.ref w3)])) rfl rfl (hb hby d2_17)
  obtain ⟨fs, hr, hrun, hended, hW, hsame⟩ := X6.leave (v := some (.int (0 : Int32))) (fun h => by rw [Bd.returns] at h; cases h)
  refine ⟨_, _, pre0 _ ?_, hrun, hended, _, _, rfl, ?_, ⟨_, rfl⟩, hW, hsame.mono (by decide) (by decide)⟩
  · show Steps p.tables e below (s₁.setTop (mkF m 0 #[.val (.ref a1), .val (.ref a2), .unset] [])) _
    refine XS.aloadN X0.here hx rfl (hb hby d2_0) rfl rfl ?_
    show Steps p.tables e below (s₁.setTop (mkF m 1 #[.val (.ref a1), .val (.ref a2), .unset] [(.ref a2)])) _
    refine st4 _ ?_
    show Steps p.tables e below (T4.setTop (mkF m 4 #[.val (.ref a1), .val (.ref a2), .unset] [(.ref w3)])) _
    refine XS.astoreN X4.here hx rfl (hb hby d2_4) rfl rfl (l' := #[.val (.ref a1), .val (.ref a2), .val (.ref w3)]) rfl ?_
    show Steps p.tables e below (T4.setTop (mkF m 5 #[.val (.ref a1), .val (.ref a2), .val (.ref w3)] [])) _
    refine XS.aloadN X4.here hx rfl (hb hby d2_5) rfl rfl ?_
    show Steps p.tables e below (T4.setTop (mkF m 6 #[.val (.ref a1), .val (.ref a2), .val (.ref w3)] [(.ref w3)])) _
    refine XS.ifnullNo X4.here hx rfl (hb hby d2_6) rfl ?_
    show Steps p.tables e below (T4.setTop (mkF m 9 #[.val (.ref a1), .val (.ref a2), .val (.ref w3)] [])) _
    refine XS.aloadN X4.here hx rfl (hb hby d2_9) rfl rfl ?_
    show Steps p.tables e below (T4.setTop (mkF m 10 #[.val (.ref a1), .val (.ref a2), .val (.ref w3)] [(.ref w3)])) _
    refine XS.aloadN X4.here hx rfl (hb hby d2_10) rfl rfl ?_
    show Steps p.tables e below (T4.setTop (mkF m 11 #[.val (.ref a1), .val (.ref a2), .val (.ref w3)] [(.ref a1), (.ref w3)])) _
    refine Jvm.RoadKit.acmp (g := (mkF m 11 #[.val (.ref a1), .val (.ref a2), .val (.ref w3)] [(.ref a1), (.ref w3)])) X4 hx rfl rfl rfl (pc0 := 11) (pc' := 16) (same := false) rfl (hb hby d2_11) rfl (decide_eq_false fun q => P5 (Value.ref.inj q)) (by decide) (by decide) ?_
    show Steps p.tables e below (T4.setTop (mkF m 16 #[.val (.ref a1), .val (.ref a2), .val (.ref w3)] [])) _
    refine XS.aloadN X4.here hx rfl (hb hby d2_16) rfl rfl ?_
    show Steps p.tables e below (T4.setTop (mkF m 17 #[.val (.ref a1), .val (.ref a2), .val (.ref w3)] [(.ref w3)])) _
    refine st6 _ ?_
    show Steps p.tables e below (T6.setTop (mkF m 20 #[.val (.ref a1), .val (.ref a2), .val (.ref w3)] [.null])) _
    refine XS.astoreN X6.here hx rfl (hb hby d2_20) rfl rfl (l' := #[.val (.ref a1), .val (.ref a2), .val .null]) rfl ?_
    show Steps p.tables e below (T6.setTop (mkF m 21 #[.val (.ref a1), .val (.ref a2), .val .null] [])) _
    refine XS.goto X6.here hx rfl (pc0 := 21) (pc' := 5) rfl (hb hby d2_21) (by decide) (by decide) ?_
    show Steps p.tables e below (T6.setTop (mkF m 5 #[.val (.ref a1), .val (.ref a2), .val .null] [])) _
    refine XS.aloadN X6.here hx rfl (hb hby d2_5) rfl rfl ?_
    show Steps p.tables e below (T6.setTop (mkF m 6 #[.val (.ref a1), .val (.ref a2), .val .null] [.null])) _
    refine XS.ifnullYes X6.here hx rfl (pc0 := 6) (pc' := 24) rfl (hb hby d2_6) rfl (by decide) (by decide) ?_
    show Steps p.tables e below (T6.setTop (mkF m 24 #[.val (.ref a1), .val (.ref a2), .val .null] [])) _
    refine XS.iconst X6.here hx rfl (hb hby d2_24) ?_
    show Steps p.tables e below (T6.setTop (mkF m 25 #[.val (.ref a1), .val (.ref a2), .val .null] [(.int (0 : Int32))])) _
    exact retN X6 hx (t := .boolean) Bd.returns (by simp) (hb hby d2_25) hr
  · show Q2_3 Z a1 a2 w3 h0 n0 _ T6.heap _
    rw [e6]
    exact ⟨rfl, N0, rfl⟩
theorem d1_26 : decode method_2_code 26 = .ok (.iload_n 0, 1) := by decide +kernel
theorem d1_27 : decode method_2_code 27 = .ok (.iconst 3, 1) := by decide +kernel
theorem d1_28 : decode method_2_code 28 = .ok (.if_icmp .ne 7, 3) := by decide +kernel
theorem d1_31 : decode method_2_code 31 = .ok (.getstatic 19, 3) := by decide +kernel
theorem d1_34 : decode method_2_code 34 = .ok (.areturn, 1) := by decide +kernel
def Q1_4 (Z : State) (p1 : Int32) (w6 : Addr) (h0 : Heap) (n0 : Nat) (v : Option Value) (h : Heap) (L : List Loc) : Prop := v = some (.ref w6) ∧ Fr n0 L ∧ h = h0
set_option maxRecDepth 65536 in
set_option maxHeartbeats 40000000 in
theorem rm1_4 (l : Launch) (Z : State) (a0 : Array Value) (hw : ∀ d ∈ tables_1, d.before a0 Z = true) (ws : List Jvm.Cond) (p1 : Int32) (w6 : Addr) (h0 : Heap) (n0 : Nat) (Z0 : n0 ≤ h0.size) (P2 : ¬ (p1 = (0 : Int32))) (P3 : ¬ (p1 = (1 : Int32))) (P4 : ¬ (p1 = (2 : Int32))) (P5 : p1 = (3 : Int32)) (S_TABLE : Sta Z h0 "org/callerscope/model/ObjectType" "TABLE" "Lorg/callerscope/model/ObjectType;" (.ref w6)) :
    MetFree l (⟨"org/callerscope/model/ObjectTypeHoldsPinLaw", "type", "(I)Lorg/callerscope/model/ObjectType;"⟩ : MethodName) (head1 (Jvm.Cond.code (⟨"org/callerscope/model/ObjectTypeHoldsPinLaw", "type", "(I)Lorg/callerscope/model/ObjectType;"⟩ : MethodName) method_2_code 1 (some (.object "org/callerscope/model/ObjectType")) :: ws) ({ frames := 0, cells := 0, slots := 0, locals := 0 } : Room)) (fun a U => a = #[(.int p1)] ∧ Z.Warmed39 U.vm ∧ U.heap = h0) (fun _ _ _ _ _ => True) (fun _ U o U' => ∃ v L, o = .returned v ∧ Q1_4 Z p1 w6 h0 n0 v U'.heap L ∧ FrameEnd U o U' L ({ frames := 0, cells := 0, slots := 0, locals := 0 } : Room).cells ({ frames := 0, cells := 0, slots := 0, locals := 0 } : Room).slots) := by
  refine MetFree.of_bodySF (plainFor_of_name pn_1) hisR ?_
  intro p e s m args below meth c s₁ Bd hml0 hP hK
  obtain ⟨rfl, hZ, hh⟩ := hP
  have hx := Bd.exec
  have hby := Bd.bytes
  have hml : c.maxLocals = 1 := hml0
  have hown : s.vm.findClass "org/callerscope/model/ObjectTypeHoldsPinLaw" = some m.cls := findClass_of_methodNamed Bd.named
  have hnm := (name_of_methodNamed Bd.named Bd.method).1
  have X0 : Stand p l e ({ frames := 0, cells := 0, slots := 0, locals := 0 } : Room) s m #[(.int p1)] below meth c s₁ [] 0 0 := Stand.of_body Bd
  have e0 : s₁.heap = h0 := by rw [← hh, Bd.state]; rfl
  have N0 := Fr.nil n0
  have pre0 : ∀ t, Steps p.tables e below (s₁.setTop (mkF m 0 #[.val (.int p1)] [])) t → Steps p.tables e below (s₁.setTop (entryFrame m #[(.int p1)] 1)) t := fun t k => castTop (ef_1_I m p1) k
  obtain ⟨T7, X7, e7, st7⟩ := getS2 X0 hx hZ hown (host := "") (Or.inl (hw _ (List.mem_of_getElem? (i := 8) rfl))) Via.refl e0 S_TABLE (g := (mkF m 31 #[.val (.int p1)] [])) rfl (hb hby d1_31)
  obtain ⟨fs, hr, hrun, hended, hW, hsame⟩ := X7.leave (v := some (.ref w6)) (fun h => by rw [Bd.returns] at h; cases h)
  refine ⟨_, _, pre0 _ ?_, hrun, hended, _, _, rfl, ?_, ⟨_, rfl⟩, hW, hsame.mono (by decide) (by decide)⟩
  · show Steps p.tables e below (s₁.setTop (mkF m 0 #[.val (.int p1)] [])) _
    refine XS.iloadN X0.here hx rfl (hb hby d1_0) rfl ?_
    show Steps p.tables e below (s₁.setTop (mkF m 1 #[.val (.int p1)] [(.int p1)])) _
    refine XS.ifYes X0.here hx rfl (pc0 := 1) (pc' := 8) rfl (hb hby d1_1) rfl ((if0 _ _).trans (feq P2).2) (by decide) (by decide) ?_
    show Steps p.tables e below (s₁.setTop (mkF m 8 #[.val (.int p1)] [])) _
    refine XS.iloadN X0.here hx rfl (hb hby d1_8) rfl ?_
    show Steps p.tables e below (s₁.setTop (mkF m 9 #[.val (.int p1)] [(.int p1)])) _
    refine XS.iconst X0.here hx rfl (hb hby d1_9) ?_
    show Steps p.tables e below (s₁.setTop (mkF m 10 #[.val (.int p1)] [(.int (1 : Int32)), (.int p1)])) _
    refine XS.icmpYes X0.here hx rfl (pc0 := 10) (pc' := 17) rfl (hb hby d1_10) rfl (feq P3).2 (by decide) (by decide) ?_
    show Steps p.tables e below (s₁.setTop (mkF m 17 #[.val (.int p1)] [])) _
    refine XS.iloadN X0.here hx rfl (hb hby d1_17) rfl ?_
    show Steps p.tables e below (s₁.setTop (mkF m 18 #[.val (.int p1)] [(.int p1)])) _
    refine XS.iconst X0.here hx rfl (hb hby d1_18) ?_
    show Steps p.tables e below (s₁.setTop (mkF m 19 #[.val (.int p1)] [(.int (2 : Int32)), (.int p1)])) _
    refine XS.icmpYes X0.here hx rfl (pc0 := 19) (pc' := 26) rfl (hb hby d1_19) rfl (feq P4).2 (by decide) (by decide) ?_
    show Steps p.tables e below (s₁.setTop (mkF m 26 #[.val (.int p1)] [])) _
    refine XS.iloadN X0.here hx rfl (hb hby d1_26) rfl ?_
    show Steps p.tables e below (s₁.setTop (mkF m 27 #[.val (.int p1)] [(.int p1)])) _
    refine XS.iconst X0.here hx rfl (hb hby d1_27) ?_
    show Steps p.tables e below (s₁.setTop (mkF m 28 #[.val (.int p1)] [(.int (3 : Int32)), (.int p1)])) _
    refine XS.icmpNo X0.here hx rfl (hb hby d1_28) rfl (teq P5).2 ?_
    show Steps p.tables e below (s₁.setTop (mkF m 31 #[.val (.int p1)] [])) _
    refine st7 _ ?_
    show Steps p.tables e below (T7.setTop (mkF m 34 #[.val (.int p1)] [(.ref w6)])) _
    jvm_step X7.here [X7.here.top, hx, (hb hby d1_34), X7.method', Bd.returns, Value.isRef, FieldType.isReference]
    first | (intro acts; rw [hr _ acts rfl rfl rfl]) | rw [hr _ _ rfl rfl rfl]
    exact Steps.refl _
  · show Q1_4 Z p1 w6 h0 n0 _ T7.heap _
    rw [e7]
    exact ⟨rfl, N0, rfl⟩
def Q2_4 (Z : State) (a1 : Addr) (a2 : Addr) (w3 : Addr) (w6 : Addr) (h0 : Heap) (n0 : Nat) (v : Option Value) (h : Heap) (L : List Loc) : Prop := v = some (.int (0 : Int32)) ∧ Fr n0 L ∧ h = h0
set_option maxRecDepth 65536 in
set_option maxHeartbeats 40000000 in
theorem rm2_4 (l : Launch) (Z : State) (a0 : Array Value) (hw : ∀ d ∈ tables_1, d.before a0 Z = true) (ws : List Jvm.Cond) (a1 : Addr) (a2 : Addr) (w3 : Addr) (w6 : Addr) (h0 : Heap) (n0 : Nat) (Z0 : n0 ≤ h0.size) (F_container_a2 : Fld Z h0 a2 "org/callerscope/model/ObjectType" "container" "Lorg/callerscope/model/ObjectType;" (.ref w3)) (P5 : ¬ (w3 = a1)) (F_container_w3 : Fld Z h0 w3 "org/callerscope/model/ObjectType" "container" "Lorg/callerscope/model/ObjectType;" (.ref w6)) (P8 : ¬ (w6 = a1)) (F_container_w6 : Fld Z h0 w6 "org/callerscope/model/ObjectType" "container" "Lorg/callerscope/model/ObjectType;" .null) :
    MetFree l (⟨"org/callerscope/model/ObjectType", "holds", "(Lorg/callerscope/model/ObjectType;)Z"⟩ : MethodName) (head1 (Jvm.Cond.code (⟨"org/callerscope/model/ObjectType", "holds", "(Lorg/callerscope/model/ObjectType;)Z"⟩ : MethodName) prog_12_method_7_code 3 (some .boolean) :: ws) ({ frames := 0, cells := 0, slots := 0, locals := 0 } : Room)) (fun a U => a = #[(.ref a1), (.ref a2)] ∧ Z.Warmed39 U.vm ∧ U.heap = h0) (fun _ _ _ _ _ => True) (fun _ U o U' => ∃ v L, o = .returned v ∧ Q2_4 Z a1 a2 w3 w6 h0 n0 v U'.heap L ∧ FrameEnd U o U' L ({ frames := 0, cells := 0, slots := 0, locals := 0 } : Room).cells ({ frames := 0, cells := 0, slots := 0, locals := 0 } : Room).slots) := by
  refine MetFree.of_bodySF (plainFor_of_name pn_2) hisR ?_
  intro p e s m args below meth c s₁ Bd hml0 hP hK
  obtain ⟨rfl, hZ, hh⟩ := hP
  have hx := Bd.exec
  have hby := Bd.bytes
  have hml : c.maxLocals = 3 := hml0
  have hown : s.vm.findClass "org/callerscope/model/ObjectType" = some m.cls := findClass_of_methodNamed Bd.named
  have hnm := (name_of_methodNamed Bd.named Bd.method).1
  have X0 : Stand p l e ({ frames := 0, cells := 0, slots := 0, locals := 0 } : Room) s m #[(.ref a1), (.ref a2)] below meth c s₁ [] 0 0 := Stand.of_body Bd
  have e0 : s₁.heap = h0 := by rw [← hh, Bd.state]; rfl
  have N0 := Fr.nil n0
  have pre0 : ∀ t, Steps p.tables e below (s₁.setTop (mkF m 0 #[.val (.ref a1), .val (.ref a2), .unset] [])) t → Steps p.tables e below (s₁.setTop (entryFrame m #[(.ref a1), (.ref a2)] 3)) t := fun t k => castTop (ef_2_RR m a1 a2) k
  obtain ⟨T4, X4, e4, st4⟩ := getF X0 hx hZ hown (host := "") (Or.inl (hw _ (List.mem_of_getElem? (i := 15) rfl))) Via.refl e0 F_container_a2 (g := (mkF m 1 #[.val (.ref a1), .val (.ref a2), .unset] [(.ref a2)])) rfl rfl (hb hby d2_1)
  obtain ⟨T7, X7, e7, st7⟩ := getF X4 hx hZ hown (host := "") (Or.inl (hw _ (List.mem_of_getElem? (i := 15) rfl))) Via.refl e4 F_container_w3 (g := (mkF m 17 #[.val (.ref a1), .val (.ref a2), .val (.ref w3)] [(.ref w3)])) rfl rfl (hb hby d2_17)
  obtain ⟨T9, X9, e9, st9⟩ := getF X7 hx hZ hown (host := "") (Or.inl (hw _ (List.mem_of_getElem? (i := 15) rfl))) Via.refl e7 F_container_w6 (g := (mkF m 17 #[.val (.ref a1), .val (.ref a2), .val (.ref w6)] [(.ref w6)])) rfl rfl (hb hby d2_17)
  obtain ⟨fs, hr, hrun, hended, hW, hsame⟩ := X9.leave (v := some (.int (0 : Int32))) (fun h => by rw [Bd.returns] at h; cases h)
  refine ⟨_, _, pre0 _ ?_, hrun, hended, _, _, rfl, ?_, ⟨_, rfl⟩, hW, hsame.mono (by decide) (by decide)⟩
  · show Steps p.tables e below (s₁.setTop (mkF m 0 #[.val (.ref a1), .val (.ref a2), .unset] [])) _
    refine XS.aloadN X0.here hx rfl (hb hby d2_0) rfl rfl ?_
    show Steps p.tables e below (s₁.setTop (mkF m 1 #[.val (.ref a1), .val (.ref a2), .unset] [(.ref a2)])) _
    refine st4 _ ?_
    show Steps p.tables e below (T4.setTop (mkF m 4 #[.val (.ref a1), .val (.ref a2), .unset] [(.ref w3)])) _
    refine XS.astoreN X4.here hx rfl (hb hby d2_4) rfl rfl (l' := #[.val (.ref a1), .val (.ref a2), .val (.ref w3)]) rfl ?_
    show Steps p.tables e below (T4.setTop (mkF m 5 #[.val (.ref a1), .val (.ref a2), .val (.ref w3)] [])) _
    refine XS.aloadN X4.here hx rfl (hb hby d2_5) rfl rfl ?_
    show Steps p.tables e below (T4.setTop (mkF m 6 #[.val (.ref a1), .val (.ref a2), .val (.ref w3)] [(.ref w3)])) _
    refine XS.ifnullNo X4.here hx rfl (hb hby d2_6) rfl ?_
    show Steps p.tables e below (T4.setTop (mkF m 9 #[.val (.ref a1), .val (.ref a2), .val (.ref w3)] [])) _
    refine XS.aloadN X4.here hx rfl (hb hby d2_9) rfl rfl ?_
    show Steps p.tables e below (T4.setTop (mkF m 10 #[.val (.ref a1), .val (.ref a2), .val (.ref w3)] [(.ref w3)])) _
    refine XS.aloadN X4.here hx rfl (hb hby d2_10) rfl rfl ?_
    show Steps p.tables e below (T4.setTop (mkF m 11 #[.val (.ref a1), .val (.ref a2), .val (.ref w3)] [(.ref a1), (.ref w3)])) _
    refine Jvm.RoadKit.acmp (g := (mkF m 11 #[.val (.ref a1), .val (.ref a2), .val (.ref w3)] [(.ref a1), (.ref w3)])) X4 hx rfl rfl rfl (pc0 := 11) (pc' := 16) (same := false) rfl (hb hby d2_11) rfl (decide_eq_false fun q => P5 (Value.ref.inj q)) (by decide) (by decide) ?_
    show Steps p.tables e below (T4.setTop (mkF m 16 #[.val (.ref a1), .val (.ref a2), .val (.ref w3)] [])) _
    refine XS.aloadN X4.here hx rfl (hb hby d2_16) rfl rfl ?_
    show Steps p.tables e below (T4.setTop (mkF m 17 #[.val (.ref a1), .val (.ref a2), .val (.ref w3)] [(.ref w3)])) _
    refine st7 _ ?_
    show Steps p.tables e below (T7.setTop (mkF m 20 #[.val (.ref a1), .val (.ref a2), .val (.ref w3)] [(.ref w6)])) _
    refine XS.astoreN X7.here hx rfl (hb hby d2_20) rfl rfl (l' := #[.val (.ref a1), .val (.ref a2), .val (.ref w6)]) rfl ?_
    show Steps p.tables e below (T7.setTop (mkF m 21 #[.val (.ref a1), .val (.ref a2), .val (.ref w6)] [])) _
    refine XS.goto X7.here hx rfl (pc0 := 21) (pc' := 5) rfl (hb hby d2_21) (by decide) (by decide) ?_
    show Steps p.tables e below (T7.setTop (mkF m 5 #[.val (.ref a1), .val (.ref a2), .val (.ref w6)] [])) _
    refine XS.aloadN X7.here hx rfl (hb hby d2_5) rfl rfl ?_
    show Steps p.tables e below (T7.setTop (mkF m 6 #[.val (.ref a1), .val (.ref a2), .val (.ref w6)] [(.ref w6)])) _
    refine XS.ifnullNo X7.here hx rfl (hb hby d2_6) rfl ?_
    show Steps p.tables e below (T7.setTop (mkF m 9 #[.val (.ref a1), .val (.ref a2), .val (.ref w6)] [])) _
    refine XS.aloadN X7.here hx rfl (hb hby d2_9) rfl rfl ?_
    show Steps p.tables e below (T7.setTop (mkF m 10 #[.val (.ref a1), .val (.ref a2), .val (.ref w6)] [(.ref w6)])) _
    refine XS.aloadN X7.here hx rfl (hb hby d2_10) rfl rfl ?_
    show Steps p.tables e below (T7.setTop (mkF m 11 #[.val (.ref a1), .val (.ref a2), .val (.ref w6)] [(.ref a1), (.ref w6)])) _
    refine Jvm.RoadKit.acmp (g := (mkF m 11 #[.val (.ref a1), .val (.ref a2), .val (.ref w6)] [(.ref a1), (.ref w6)])) X7 hx rfl rfl rfl (pc0 := 11) (pc' := 16) (same := false) rfl (hb hby d2_11) rfl (decide_eq_false fun q => P8 (Value.ref.inj q)) (by decide) (by decide) ?_
    show Steps p.tables e below (T7.setTop (mkF m 16 #[.val (.ref a1), .val (.ref a2), .val (.ref w6)] [])) _
    refine XS.aloadN X7.here hx rfl (hb hby d2_16) rfl rfl ?_
    show Steps p.tables e below (T7.setTop (mkF m 17 #[.val (.ref a1), .val (.ref a2), .val (.ref w6)] [(.ref w6)])) _
    refine st9 _ ?_
    show Steps p.tables e below (T9.setTop (mkF m 20 #[.val (.ref a1), .val (.ref a2), .val (.ref w6)] [.null])) _
    refine XS.astoreN X9.here hx rfl (hb hby d2_20) rfl rfl (l' := #[.val (.ref a1), .val (.ref a2), .val .null]) rfl ?_
    show Steps p.tables e below (T9.setTop (mkF m 21 #[.val (.ref a1), .val (.ref a2), .val .null] [])) _
    refine XS.goto X9.here hx rfl (pc0 := 21) (pc' := 5) rfl (hb hby d2_21) (by decide) (by decide) ?_
    show Steps p.tables e below (T9.setTop (mkF m 5 #[.val (.ref a1), .val (.ref a2), .val .null] [])) _
    refine XS.aloadN X9.here hx rfl (hb hby d2_5) rfl rfl ?_
    show Steps p.tables e below (T9.setTop (mkF m 6 #[.val (.ref a1), .val (.ref a2), .val .null] [.null])) _
    refine XS.ifnullYes X9.here hx rfl (pc0 := 6) (pc' := 24) rfl (hb hby d2_6) rfl (by decide) (by decide) ?_
    show Steps p.tables e below (T9.setTop (mkF m 24 #[.val (.ref a1), .val (.ref a2), .val .null] [])) _
    refine XS.iconst X9.here hx rfl (hb hby d2_24) ?_
    show Steps p.tables e below (T9.setTop (mkF m 25 #[.val (.ref a1), .val (.ref a2), .val .null] [(.int (0 : Int32))])) _
    exact retN X9 hx (t := .boolean) Bd.returns (by simp) (hb hby d2_25) hr
  · show Q2_4 Z a1 a2 w3 w6 h0 n0 _ T9.heap _
    rw [e9]
    exact ⟨rfl, N0, rfl⟩
theorem d1_35 : decode method_2_code 35 = .ok (.iload_n 0, 1) := by decide +kernel
theorem d1_36 : decode method_2_code 36 = .ok (.iconst 4, 1) := by decide +kernel
theorem d1_37 : decode method_2_code 37 = .ok (.if_icmp .ne 7, 3) := by decide +kernel
theorem d1_40 : decode method_2_code 40 = .ok (.getstatic 22, 3) := by decide +kernel
theorem d1_43 : decode method_2_code 43 = .ok (.areturn, 1) := by decide +kernel
def Q1_5 (Z : State) (p1 : Int32) (w7 : Addr) (h0 : Heap) (n0 : Nat) (v : Option Value) (h : Heap) (L : List Loc) : Prop := v = some (.ref w7) ∧ Fr n0 L ∧ h = h0
set_option maxRecDepth 65536 in
set_option maxHeartbeats 40000000 in
theorem rm1_5 (l : Launch) (Z : State) (a0 : Array Value) (hw : ∀ d ∈ tables_1, d.before a0 Z = true) (ws : List Jvm.Cond) (p1 : Int32) (w7 : Addr) (h0 : Heap) (n0 : Nat) (Z0 : n0 ≤ h0.size) (P2 : ¬ (p1 = (0 : Int32))) (P3 : ¬ (p1 = (1 : Int32))) (P4 : ¬ (p1 = (2 : Int32))) (P5 : ¬ (p1 = (3 : Int32))) (P6 : p1 = (4 : Int32)) (S_VIEW : Sta Z h0 "org/callerscope/model/ObjectType" "VIEW" "Lorg/callerscope/model/ObjectType;" (.ref w7)) :
    MetFree l (⟨"org/callerscope/model/ObjectTypeHoldsPinLaw", "type", "(I)Lorg/callerscope/model/ObjectType;"⟩ : MethodName) (head1 (Jvm.Cond.code (⟨"org/callerscope/model/ObjectTypeHoldsPinLaw", "type", "(I)Lorg/callerscope/model/ObjectType;"⟩ : MethodName) method_2_code 1 (some (.object "org/callerscope/model/ObjectType")) :: ws) ({ frames := 0, cells := 0, slots := 0, locals := 0 } : Room)) (fun a U => a = #[(.int p1)] ∧ Z.Warmed39 U.vm ∧ U.heap = h0) (fun _ _ _ _ _ => True) (fun _ U o U' => ∃ v L, o = .returned v ∧ Q1_5 Z p1 w7 h0 n0 v U'.heap L ∧ FrameEnd U o U' L ({ frames := 0, cells := 0, slots := 0, locals := 0 } : Room).cells ({ frames := 0, cells := 0, slots := 0, locals := 0 } : Room).slots) := by
  refine MetFree.of_bodySF (plainFor_of_name pn_1) hisR ?_
  intro p e s m args below meth c s₁ Bd hml0 hP hK
  obtain ⟨rfl, hZ, hh⟩ := hP
  have hx := Bd.exec
  have hby := Bd.bytes
  have hml : c.maxLocals = 1 := hml0
  have hown : s.vm.findClass "org/callerscope/model/ObjectTypeHoldsPinLaw" = some m.cls := findClass_of_methodNamed Bd.named
  have hnm := (name_of_methodNamed Bd.named Bd.method).1
  have X0 : Stand p l e ({ frames := 0, cells := 0, slots := 0, locals := 0 } : Room) s m #[(.int p1)] below meth c s₁ [] 0 0 := Stand.of_body Bd
  have e0 : s₁.heap = h0 := by rw [← hh, Bd.state]; rfl
  have N0 := Fr.nil n0
  have pre0 : ∀ t, Steps p.tables e below (s₁.setTop (mkF m 0 #[.val (.int p1)] [])) t → Steps p.tables e below (s₁.setTop (entryFrame m #[(.int p1)] 1)) t := fun t k => castTop (ef_1_I m p1) k
  obtain ⟨T8, X8, e8, st8⟩ := getS2 X0 hx hZ hown (host := "") (Or.inl (hw _ (List.mem_of_getElem? (i := 26) rfl))) Via.refl e0 S_VIEW (g := (mkF m 40 #[.val (.int p1)] [])) rfl (hb hby d1_40)
  obtain ⟨fs, hr, hrun, hended, hW, hsame⟩ := X8.leave (v := some (.ref w7)) (fun h => by rw [Bd.returns] at h; cases h)
  refine ⟨_, _, pre0 _ ?_, hrun, hended, _, _, rfl, ?_, ⟨_, rfl⟩, hW, hsame.mono (by decide) (by decide)⟩
  · show Steps p.tables e below (s₁.setTop (mkF m 0 #[.val (.int p1)] [])) _
    refine XS.iloadN X0.here hx rfl (hb hby d1_0) rfl ?_
    show Steps p.tables e below (s₁.setTop (mkF m 1 #[.val (.int p1)] [(.int p1)])) _
    refine XS.ifYes X0.here hx rfl (pc0 := 1) (pc' := 8) rfl (hb hby d1_1) rfl ((if0 _ _).trans (feq P2).2) (by decide) (by decide) ?_
    show Steps p.tables e below (s₁.setTop (mkF m 8 #[.val (.int p1)] [])) _
    refine XS.iloadN X0.here hx rfl (hb hby d1_8) rfl ?_
    show Steps p.tables e below (s₁.setTop (mkF m 9 #[.val (.int p1)] [(.int p1)])) _
    refine XS.iconst X0.here hx rfl (hb hby d1_9) ?_
    show Steps p.tables e below (s₁.setTop (mkF m 10 #[.val (.int p1)] [(.int (1 : Int32)), (.int p1)])) _
    refine XS.icmpYes X0.here hx rfl (pc0 := 10) (pc' := 17) rfl (hb hby d1_10) rfl (feq P3).2 (by decide) (by decide) ?_
    show Steps p.tables e below (s₁.setTop (mkF m 17 #[.val (.int p1)] [])) _
    refine XS.iloadN X0.here hx rfl (hb hby d1_17) rfl ?_
    show Steps p.tables e below (s₁.setTop (mkF m 18 #[.val (.int p1)] [(.int p1)])) _
    refine XS.iconst X0.here hx rfl (hb hby d1_18) ?_
    show Steps p.tables e below (s₁.setTop (mkF m 19 #[.val (.int p1)] [(.int (2 : Int32)), (.int p1)])) _
    refine XS.icmpYes X0.here hx rfl (pc0 := 19) (pc' := 26) rfl (hb hby d1_19) rfl (feq P4).2 (by decide) (by decide) ?_
    show Steps p.tables e below (s₁.setTop (mkF m 26 #[.val (.int p1)] [])) _
    refine XS.iloadN X0.here hx rfl (hb hby d1_26) rfl ?_
    show Steps p.tables e below (s₁.setTop (mkF m 27 #[.val (.int p1)] [(.int p1)])) _
    refine XS.iconst X0.here hx rfl (hb hby d1_27) ?_
    show Steps p.tables e below (s₁.setTop (mkF m 28 #[.val (.int p1)] [(.int (3 : Int32)), (.int p1)])) _
    refine XS.icmpYes X0.here hx rfl (pc0 := 28) (pc' := 35) rfl (hb hby d1_28) rfl (feq P5).2 (by decide) (by decide) ?_
    show Steps p.tables e below (s₁.setTop (mkF m 35 #[.val (.int p1)] [])) _
    refine XS.iloadN X0.here hx rfl (hb hby d1_35) rfl ?_
    show Steps p.tables e below (s₁.setTop (mkF m 36 #[.val (.int p1)] [(.int p1)])) _
    refine XS.iconst X0.here hx rfl (hb hby d1_36) ?_
    show Steps p.tables e below (s₁.setTop (mkF m 37 #[.val (.int p1)] [(.int (4 : Int32)), (.int p1)])) _
    refine XS.icmpNo X0.here hx rfl (hb hby d1_37) rfl (teq P6).2 ?_
    show Steps p.tables e below (s₁.setTop (mkF m 40 #[.val (.int p1)] [])) _
    refine st8 _ ?_
    show Steps p.tables e below (T8.setTop (mkF m 43 #[.val (.int p1)] [(.ref w7)])) _
    jvm_step X8.here [X8.here.top, hx, (hb hby d1_43), X8.method', Bd.returns, Value.isRef, FieldType.isReference]
    first | (intro acts; rw [hr _ acts rfl rfl rfl]) | rw [hr _ _ rfl rfl rfl]
    exact Steps.refl _
  · show Q1_5 Z p1 w7 h0 n0 _ T8.heap _
    rw [e8]
    exact ⟨rfl, N0, rfl⟩
theorem d1_44 : decode method_2_code 44 = .ok (.iload_n 0, 1) := by decide +kernel
theorem d1_45 : decode method_2_code 45 = .ok (.iconst 5, 1) := by decide +kernel
theorem d1_46 : decode method_2_code 46 = .ok (.if_icmp .ne 7, 3) := by decide +kernel
theorem d1_49 : decode method_2_code 49 = .ok (.getstatic 25, 3) := by decide +kernel
theorem d1_52 : decode method_2_code 52 = .ok (.areturn, 1) := by decide +kernel
def Q1_6 (Z : State) (p1 : Int32) (w8 : Addr) (h0 : Heap) (n0 : Nat) (v : Option Value) (h : Heap) (L : List Loc) : Prop := v = some (.ref w8) ∧ Fr n0 L ∧ h = h0
set_option maxRecDepth 65536 in
set_option maxHeartbeats 40000000 in
theorem rm1_6 (l : Launch) (Z : State) (a0 : Array Value) (hw : ∀ d ∈ tables_1, d.before a0 Z = true) (ws : List Jvm.Cond) (p1 : Int32) (w8 : Addr) (h0 : Heap) (n0 : Nat) (Z0 : n0 ≤ h0.size) (P2 : ¬ (p1 = (0 : Int32))) (P3 : ¬ (p1 = (1 : Int32))) (P4 : ¬ (p1 = (2 : Int32))) (P5 : ¬ (p1 = (3 : Int32))) (P6 : ¬ (p1 = (4 : Int32))) (P7 : p1 = (5 : Int32)) (S_FUNCTION : Sta Z h0 "org/callerscope/model/ObjectType" "FUNCTION" "Lorg/callerscope/model/ObjectType;" (.ref w8)) :
    MetFree l (⟨"org/callerscope/model/ObjectTypeHoldsPinLaw", "type", "(I)Lorg/callerscope/model/ObjectType;"⟩ : MethodName) (head1 (Jvm.Cond.code (⟨"org/callerscope/model/ObjectTypeHoldsPinLaw", "type", "(I)Lorg/callerscope/model/ObjectType;"⟩ : MethodName) method_2_code 1 (some (.object "org/callerscope/model/ObjectType")) :: ws) ({ frames := 0, cells := 0, slots := 0, locals := 0 } : Room)) (fun a U => a = #[(.int p1)] ∧ Z.Warmed39 U.vm ∧ U.heap = h0) (fun _ _ _ _ _ => True) (fun _ U o U' => ∃ v L, o = .returned v ∧ Q1_6 Z p1 w8 h0 n0 v U'.heap L ∧ FrameEnd U o U' L ({ frames := 0, cells := 0, slots := 0, locals := 0 } : Room).cells ({ frames := 0, cells := 0, slots := 0, locals := 0 } : Room).slots) := by
  refine MetFree.of_bodySF (plainFor_of_name pn_1) hisR ?_
  intro p e s m args below meth c s₁ Bd hml0 hP hK
  obtain ⟨rfl, hZ, hh⟩ := hP
  have hx := Bd.exec
  have hby := Bd.bytes
  have hml : c.maxLocals = 1 := hml0
  have hown : s.vm.findClass "org/callerscope/model/ObjectTypeHoldsPinLaw" = some m.cls := findClass_of_methodNamed Bd.named
  have hnm := (name_of_methodNamed Bd.named Bd.method).1
  have X0 : Stand p l e ({ frames := 0, cells := 0, slots := 0, locals := 0 } : Room) s m #[(.int p1)] below meth c s₁ [] 0 0 := Stand.of_body Bd
  have e0 : s₁.heap = h0 := by rw [← hh, Bd.state]; rfl
  have N0 := Fr.nil n0
  have pre0 : ∀ t, Steps p.tables e below (s₁.setTop (mkF m 0 #[.val (.int p1)] [])) t → Steps p.tables e below (s₁.setTop (entryFrame m #[(.int p1)] 1)) t := fun t k => castTop (ef_1_I m p1) k
  obtain ⟨T9, X9, e9, st9⟩ := getS2 X0 hx hZ hown (host := "") (Or.inl (hw _ (List.mem_of_getElem? (i := 23) rfl))) Via.refl e0 S_FUNCTION (g := (mkF m 49 #[.val (.int p1)] [])) rfl (hb hby d1_49)
  obtain ⟨fs, hr, hrun, hended, hW, hsame⟩ := X9.leave (v := some (.ref w8)) (fun h => by rw [Bd.returns] at h; cases h)
  refine ⟨_, _, pre0 _ ?_, hrun, hended, _, _, rfl, ?_, ⟨_, rfl⟩, hW, hsame.mono (by decide) (by decide)⟩
  · show Steps p.tables e below (s₁.setTop (mkF m 0 #[.val (.int p1)] [])) _
    refine XS.iloadN X0.here hx rfl (hb hby d1_0) rfl ?_
    show Steps p.tables e below (s₁.setTop (mkF m 1 #[.val (.int p1)] [(.int p1)])) _
    refine XS.ifYes X0.here hx rfl (pc0 := 1) (pc' := 8) rfl (hb hby d1_1) rfl ((if0 _ _).trans (feq P2).2) (by decide) (by decide) ?_
    show Steps p.tables e below (s₁.setTop (mkF m 8 #[.val (.int p1)] [])) _
    refine XS.iloadN X0.here hx rfl (hb hby d1_8) rfl ?_
    show Steps p.tables e below (s₁.setTop (mkF m 9 #[.val (.int p1)] [(.int p1)])) _
    refine XS.iconst X0.here hx rfl (hb hby d1_9) ?_
    show Steps p.tables e below (s₁.setTop (mkF m 10 #[.val (.int p1)] [(.int (1 : Int32)), (.int p1)])) _
    refine XS.icmpYes X0.here hx rfl (pc0 := 10) (pc' := 17) rfl (hb hby d1_10) rfl (feq P3).2 (by decide) (by decide) ?_
    show Steps p.tables e below (s₁.setTop (mkF m 17 #[.val (.int p1)] [])) _
    refine XS.iloadN X0.here hx rfl (hb hby d1_17) rfl ?_
    show Steps p.tables e below (s₁.setTop (mkF m 18 #[.val (.int p1)] [(.int p1)])) _
    refine XS.iconst X0.here hx rfl (hb hby d1_18) ?_
    show Steps p.tables e below (s₁.setTop (mkF m 19 #[.val (.int p1)] [(.int (2 : Int32)), (.int p1)])) _
    refine XS.icmpYes X0.here hx rfl (pc0 := 19) (pc' := 26) rfl (hb hby d1_19) rfl (feq P4).2 (by decide) (by decide) ?_
    show Steps p.tables e below (s₁.setTop (mkF m 26 #[.val (.int p1)] [])) _
    refine XS.iloadN X0.here hx rfl (hb hby d1_26) rfl ?_
    show Steps p.tables e below (s₁.setTop (mkF m 27 #[.val (.int p1)] [(.int p1)])) _
    refine XS.iconst X0.here hx rfl (hb hby d1_27) ?_
    show Steps p.tables e below (s₁.setTop (mkF m 28 #[.val (.int p1)] [(.int (3 : Int32)), (.int p1)])) _
    refine XS.icmpYes X0.here hx rfl (pc0 := 28) (pc' := 35) rfl (hb hby d1_28) rfl (feq P5).2 (by decide) (by decide) ?_
    show Steps p.tables e below (s₁.setTop (mkF m 35 #[.val (.int p1)] [])) _
    refine XS.iloadN X0.here hx rfl (hb hby d1_35) rfl ?_
    show Steps p.tables e below (s₁.setTop (mkF m 36 #[.val (.int p1)] [(.int p1)])) _
    refine XS.iconst X0.here hx rfl (hb hby d1_36) ?_
    show Steps p.tables e below (s₁.setTop (mkF m 37 #[.val (.int p1)] [(.int (4 : Int32)), (.int p1)])) _
    refine XS.icmpYes X0.here hx rfl (pc0 := 37) (pc' := 44) rfl (hb hby d1_37) rfl (feq P6).2 (by decide) (by decide) ?_
    show Steps p.tables e below (s₁.setTop (mkF m 44 #[.val (.int p1)] [])) _
    refine XS.iloadN X0.here hx rfl (hb hby d1_44) rfl ?_
    show Steps p.tables e below (s₁.setTop (mkF m 45 #[.val (.int p1)] [(.int p1)])) _
    refine XS.iconst X0.here hx rfl (hb hby d1_45) ?_
    show Steps p.tables e below (s₁.setTop (mkF m 46 #[.val (.int p1)] [(.int (5 : Int32)), (.int p1)])) _
    refine XS.icmpNo X0.here hx rfl (hb hby d1_46) rfl (teq P7).2 ?_
    show Steps p.tables e below (s₁.setTop (mkF m 49 #[.val (.int p1)] [])) _
    refine st9 _ ?_
    show Steps p.tables e below (T9.setTop (mkF m 52 #[.val (.int p1)] [(.ref w8)])) _
    jvm_step X9.here [X9.here.top, hx, (hb hby d1_52), X9.method', Bd.returns, Value.isRef, FieldType.isReference]
    first | (intro acts; rw [hr _ acts rfl rfl rfl]) | rw [hr _ _ rfl rfl rfl]
    exact Steps.refl _
  · show Q1_6 Z p1 w8 h0 n0 _ T9.heap _
    rw [e9]
    exact ⟨rfl, N0, rfl⟩
theorem d1_53 : decode method_2_code 53 = .ok (.getstatic 28, 3) := by decide +kernel
theorem d1_56 : decode method_2_code 56 = .ok (.areturn, 1) := by decide +kernel
def Q1_7 (Z : State) (p1 : Int32) (w8 : Addr) (h0 : Heap) (n0 : Nat) (v : Option Value) (h : Heap) (L : List Loc) : Prop := v = some (.ref w8) ∧ Fr n0 L ∧ h = h0
set_option maxRecDepth 65536 in
set_option maxHeartbeats 40000000 in
theorem rm1_7 (l : Launch) (Z : State) (a0 : Array Value) (hw : ∀ d ∈ tables_1, d.before a0 Z = true) (ws : List Jvm.Cond) (p1 : Int32) (w8 : Addr) (h0 : Heap) (n0 : Nat) (Z0 : n0 ≤ h0.size) (P2 : ¬ (p1 = (0 : Int32))) (P3 : ¬ (p1 = (1 : Int32))) (P4 : ¬ (p1 = (2 : Int32))) (P5 : ¬ (p1 = (3 : Int32))) (P6 : ¬ (p1 = (4 : Int32))) (P7 : ¬ (p1 = (5 : Int32))) (S_PROCEDURE : Sta Z h0 "org/callerscope/model/ObjectType" "PROCEDURE" "Lorg/callerscope/model/ObjectType;" (.ref w8)) :
    MetFree l (⟨"org/callerscope/model/ObjectTypeHoldsPinLaw", "type", "(I)Lorg/callerscope/model/ObjectType;"⟩ : MethodName) (head1 (Jvm.Cond.code (⟨"org/callerscope/model/ObjectTypeHoldsPinLaw", "type", "(I)Lorg/callerscope/model/ObjectType;"⟩ : MethodName) method_2_code 1 (some (.object "org/callerscope/model/ObjectType")) :: ws) ({ frames := 0, cells := 0, slots := 0, locals := 0 } : Room)) (fun a U => a = #[(.int p1)] ∧ Z.Warmed39 U.vm ∧ U.heap = h0) (fun _ _ _ _ _ => True) (fun _ U o U' => ∃ v L, o = .returned v ∧ Q1_7 Z p1 w8 h0 n0 v U'.heap L ∧ FrameEnd U o U' L ({ frames := 0, cells := 0, slots := 0, locals := 0 } : Room).cells ({ frames := 0, cells := 0, slots := 0, locals := 0 } : Room).slots) := by
  refine MetFree.of_bodySF (plainFor_of_name pn_1) hisR ?_
  intro p e s m args below meth c s₁ Bd hml0 hP hK
  obtain ⟨rfl, hZ, hh⟩ := hP
  have hx := Bd.exec
  have hby := Bd.bytes
  have hml : c.maxLocals = 1 := hml0
  have hown : s.vm.findClass "org/callerscope/model/ObjectTypeHoldsPinLaw" = some m.cls := findClass_of_methodNamed Bd.named
  have hnm := (name_of_methodNamed Bd.named Bd.method).1
  have X0 : Stand p l e ({ frames := 0, cells := 0, slots := 0, locals := 0 } : Room) s m #[(.int p1)] below meth c s₁ [] 0 0 := Stand.of_body Bd
  have e0 : s₁.heap = h0 := by rw [← hh, Bd.state]; rfl
  have N0 := Fr.nil n0
  have pre0 : ∀ t, Steps p.tables e below (s₁.setTop (mkF m 0 #[.val (.int p1)] [])) t → Steps p.tables e below (s₁.setTop (entryFrame m #[(.int p1)] 1)) t := fun t k => castTop (ef_1_I m p1) k
  obtain ⟨T9, X9, e9, st9⟩ := getS2 X0 hx hZ hown (host := "") (Or.inl (hw _ (List.mem_of_getElem? (i := 28) rfl))) Via.refl e0 S_PROCEDURE (g := (mkF m 53 #[.val (.int p1)] [])) rfl (hb hby d1_53)
  obtain ⟨fs, hr, hrun, hended, hW, hsame⟩ := X9.leave (v := some (.ref w8)) (fun h => by rw [Bd.returns] at h; cases h)
  refine ⟨_, _, pre0 _ ?_, hrun, hended, _, _, rfl, ?_, ⟨_, rfl⟩, hW, hsame.mono (by decide) (by decide)⟩
  · show Steps p.tables e below (s₁.setTop (mkF m 0 #[.val (.int p1)] [])) _
    refine XS.iloadN X0.here hx rfl (hb hby d1_0) rfl ?_
    show Steps p.tables e below (s₁.setTop (mkF m 1 #[.val (.int p1)] [(.int p1)])) _
    refine XS.ifYes X0.here hx rfl (pc0 := 1) (pc' := 8) rfl (hb hby d1_1) rfl ((if0 _ _).trans (feq P2).2) (by decide) (by decide) ?_
    show Steps p.tables e below (s₁.setTop (mkF m 8 #[.val (.int p1)] [])) _
    refine XS.iloadN X0.here hx rfl (hb hby d1_8) rfl ?_
    show Steps p.tables e below (s₁.setTop (mkF m 9 #[.val (.int p1)] [(.int p1)])) _
    refine XS.iconst X0.here hx rfl (hb hby d1_9) ?_
    show Steps p.tables e below (s₁.setTop (mkF m 10 #[.val (.int p1)] [(.int (1 : Int32)), (.int p1)])) _
    refine XS.icmpYes X0.here hx rfl (pc0 := 10) (pc' := 17) rfl (hb hby d1_10) rfl (feq P3).2 (by decide) (by decide) ?_
    show Steps p.tables e below (s₁.setTop (mkF m 17 #[.val (.int p1)] [])) _
    refine XS.iloadN X0.here hx rfl (hb hby d1_17) rfl ?_
    show Steps p.tables e below (s₁.setTop (mkF m 18 #[.val (.int p1)] [(.int p1)])) _
    refine XS.iconst X0.here hx rfl (hb hby d1_18) ?_
    show Steps p.tables e below (s₁.setTop (mkF m 19 #[.val (.int p1)] [(.int (2 : Int32)), (.int p1)])) _
    refine XS.icmpYes X0.here hx rfl (pc0 := 19) (pc' := 26) rfl (hb hby d1_19) rfl (feq P4).2 (by decide) (by decide) ?_
    show Steps p.tables e below (s₁.setTop (mkF m 26 #[.val (.int p1)] [])) _
    refine XS.iloadN X0.here hx rfl (hb hby d1_26) rfl ?_
    show Steps p.tables e below (s₁.setTop (mkF m 27 #[.val (.int p1)] [(.int p1)])) _
    refine XS.iconst X0.here hx rfl (hb hby d1_27) ?_
    show Steps p.tables e below (s₁.setTop (mkF m 28 #[.val (.int p1)] [(.int (3 : Int32)), (.int p1)])) _
    refine XS.icmpYes X0.here hx rfl (pc0 := 28) (pc' := 35) rfl (hb hby d1_28) rfl (feq P5).2 (by decide) (by decide) ?_
    show Steps p.tables e below (s₁.setTop (mkF m 35 #[.val (.int p1)] [])) _
    refine XS.iloadN X0.here hx rfl (hb hby d1_35) rfl ?_
    show Steps p.tables e below (s₁.setTop (mkF m 36 #[.val (.int p1)] [(.int p1)])) _
    refine XS.iconst X0.here hx rfl (hb hby d1_36) ?_
    show Steps p.tables e below (s₁.setTop (mkF m 37 #[.val (.int p1)] [(.int (4 : Int32)), (.int p1)])) _
    refine XS.icmpYes X0.here hx rfl (pc0 := 37) (pc' := 44) rfl (hb hby d1_37) rfl (feq P6).2 (by decide) (by decide) ?_
    show Steps p.tables e below (s₁.setTop (mkF m 44 #[.val (.int p1)] [])) _
    refine XS.iloadN X0.here hx rfl (hb hby d1_44) rfl ?_
    show Steps p.tables e below (s₁.setTop (mkF m 45 #[.val (.int p1)] [(.int p1)])) _
    refine XS.iconst X0.here hx rfl (hb hby d1_45) ?_
    show Steps p.tables e below (s₁.setTop (mkF m 46 #[.val (.int p1)] [(.int (5 : Int32)), (.int p1)])) _
    refine XS.icmpYes X0.here hx rfl (pc0 := 46) (pc' := 53) rfl (hb hby d1_46) rfl (feq P7).2 (by decide) (by decide) ?_
    show Steps p.tables e below (s₁.setTop (mkF m 53 #[.val (.int p1)] [])) _
    refine st9 _ ?_
    show Steps p.tables e below (T9.setTop (mkF m 56 #[.val (.int p1)] [(.ref w8)])) _
    jvm_step X9.here [X9.here.top, hx, (hb hby d1_56), X9.method', Bd.returns, Value.isRef, FieldType.isReference]
    first | (intro acts; rw [hr _ acts rfl rfl rfl]) | rw [hr _ _ rfl rfl rfl]
    exact Steps.refl _
  · show Q1_7 Z p1 w8 h0 n0 _ T9.heap _
    rw [e9]
    exact ⟨rfl, N0, rfl⟩
theorem d3_5 : decode method_3_code 5 = .ok (.iload_n 1, 1) := by decide +kernel
theorem d3_6 : decode method_3_code 6 = .ok (.iconst 2, 1) := by decide +kernel
theorem d3_7 : decode method_3_code 7 = .ok (.if_icmp .lt 7, 3) := by decide +kernel
theorem d3_14 : decode method_3_code 14 = .ok (.iconst 0, 1) := by decide +kernel
theorem d3_15 : decode method_3_code 15 = .ok (.ireturn, 1) := by decide +kernel
def Q3_2 (Z : State) (p1 : Int32) (p2 : Int32) (h0 : Heap) (n0 : Nat) (v : Option Value) (h : Heap) (L : List Loc) : Prop := v = some (.int (0 : Int32)) ∧ Fr n0 L ∧ h = h0
set_option maxRecDepth 65536 in
set_option maxHeartbeats 40000000 in
theorem rm3_2 (l : Launch) (Z : State) (a0 : Array Value) (hw : ∀ d ∈ tables_1, d.before a0 Z = true) (ws : List Jvm.Cond) (p1 : Int32) (p2 : Int32) (h0 : Heap) (n0 : Nat) (Z0 : n0 ≤ h0.size) (P3 : p1 = (1 : Int32)) (P4 : p2 < (2 : Int32)) :
    MetFree l (⟨"org/callerscope/model/ObjectTypeHoldsPinLaw", "expected", "(II)Z"⟩ : MethodName) (head1 (Jvm.Cond.code (⟨"org/callerscope/model/ObjectTypeHoldsPinLaw", "expected", "(II)Z"⟩ : MethodName) method_3_code 2 (some .boolean) :: ws) ({ frames := 0, cells := 0, slots := 0, locals := 0 } : Room)) (fun a U => a = #[(.int p1), (.int p2)] ∧ Z.Warmed39 U.vm ∧ U.heap = h0) (fun _ _ _ _ _ => True) (fun _ U o U' => ∃ v L, o = .returned v ∧ Q3_2 Z p1 p2 h0 n0 v U'.heap L ∧ FrameEnd U o U' L ({ frames := 0, cells := 0, slots := 0, locals := 0 } : Room).cells ({ frames := 0, cells := 0, slots := 0, locals := 0 } : Room).slots) := by
  refine MetFree.of_bodySF (plainFor_of_name pn_3) hisR ?_
  intro p e s m args below meth c s₁ Bd hml0 hP hK
  obtain ⟨rfl, hZ, hh⟩ := hP
  have hx := Bd.exec
  have hby := Bd.bytes
  have hml : c.maxLocals = 2 := hml0
  have hown : s.vm.findClass "org/callerscope/model/ObjectTypeHoldsPinLaw" = some m.cls := findClass_of_methodNamed Bd.named
  have hnm := (name_of_methodNamed Bd.named Bd.method).1
  have X0 : Stand p l e ({ frames := 0, cells := 0, slots := 0, locals := 0 } : Room) s m #[(.int p1), (.int p2)] below meth c s₁ [] 0 0 := Stand.of_body Bd
  have e0 : s₁.heap = h0 := by rw [← hh, Bd.state]; rfl
  have N0 := Fr.nil n0
  have pre0 : ∀ t, Steps p.tables e below (s₁.setTop (mkF m 0 #[.val (.int p1), .val (.int p2)] [])) t → Steps p.tables e below (s₁.setTop (entryFrame m #[(.int p1), (.int p2)] 2)) t := fun t k => castTop (ef_3_II m p1 p2) k
  obtain ⟨fs, hr, hrun, hended, hW, hsame⟩ := X0.leave (v := some (.int (0 : Int32))) (fun h => by rw [Bd.returns] at h; cases h)
  refine ⟨_, _, pre0 _ ?_, hrun, hended, _, _, rfl, ?_, ⟨_, rfl⟩, hW, hsame.mono (by decide) (by decide)⟩
  · show Steps p.tables e below (s₁.setTop (mkF m 0 #[.val (.int p1), .val (.int p2)] [])) _
    refine XS.iloadN X0.here hx rfl (hb hby d3_0) rfl ?_
    show Steps p.tables e below (s₁.setTop (mkF m 1 #[.val (.int p1), .val (.int p2)] [(.int p1)])) _
    refine XS.iconst X0.here hx rfl (hb hby d3_1) ?_
    show Steps p.tables e below (s₁.setTop (mkF m 2 #[.val (.int p1), .val (.int p2)] [(.int (1 : Int32)), (.int p1)])) _
    refine XS.icmpNo X0.here hx rfl (hb hby d3_2) rfl (teq P3).2 ?_
    show Steps p.tables e below (s₁.setTop (mkF m 5 #[.val (.int p1), .val (.int p2)] [])) _
    refine XS.iloadN X0.here hx rfl (hb hby d3_5) rfl ?_
    show Steps p.tables e below (s₁.setTop (mkF m 6 #[.val (.int p1), .val (.int p2)] [(.int p2)])) _
    refine XS.iconst X0.here hx rfl (hb hby d3_6) ?_
    show Steps p.tables e below (s₁.setTop (mkF m 7 #[.val (.int p1), .val (.int p2)] [(.int (2 : Int32)), (.int p2)])) _
    refine XS.icmpYes X0.here hx rfl (pc0 := 7) (pc' := 14) rfl (hb hby d3_7) rfl (tlt P4).1 (by decide) (by decide) ?_
    show Steps p.tables e below (s₁.setTop (mkF m 14 #[.val (.int p1), .val (.int p2)] [])) _
    refine XS.iconst X0.here hx rfl (hb hby d3_14) ?_
    show Steps p.tables e below (s₁.setTop (mkF m 15 #[.val (.int p1), .val (.int p2)] [(.int (0 : Int32))])) _
    exact retN X0 hx (t := .boolean) Bd.returns (by simp) (hb hby d3_15) hr
  · show Q3_2 Z p1 p2 h0 n0 _ s₁.heap _
    rw [e0]
    exact ⟨rfl, N0, rfl⟩
theorem d2_14 : decode prog_12_method_7_code 14 = .ok (.iconst 1, 1) := by decide +kernel
theorem d2_15 : decode prog_12_method_7_code 15 = .ok (.ireturn, 1) := by decide +kernel
def Q2_5 (Z : State) (a1 : Addr) (a2 : Addr) (h0 : Heap) (n0 : Nat) (v : Option Value) (h : Heap) (L : List Loc) : Prop := v = some (.int (1 : Int32)) ∧ Fr n0 L ∧ h = h0
set_option maxRecDepth 65536 in
set_option maxHeartbeats 40000000 in
theorem rm2_5 (l : Launch) (Z : State) (a0 : Array Value) (hw : ∀ d ∈ tables_1, d.before a0 Z = true) (ws : List Jvm.Cond) (a1 : Addr) (a2 : Addr) (h0 : Heap) (n0 : Nat) (Z0 : n0 ≤ h0.size) (F_container_a2 : Fld Z h0 a2 "org/callerscope/model/ObjectType" "container" "Lorg/callerscope/model/ObjectType;" (.ref a1)) :
    MetFree l (⟨"org/callerscope/model/ObjectType", "holds", "(Lorg/callerscope/model/ObjectType;)Z"⟩ : MethodName) (head1 (Jvm.Cond.code (⟨"org/callerscope/model/ObjectType", "holds", "(Lorg/callerscope/model/ObjectType;)Z"⟩ : MethodName) prog_12_method_7_code 3 (some .boolean) :: ws) ({ frames := 0, cells := 0, slots := 0, locals := 0 } : Room)) (fun a U => a = #[(.ref a1), (.ref a2)] ∧ Z.Warmed39 U.vm ∧ U.heap = h0) (fun _ _ _ _ _ => True) (fun _ U o U' => ∃ v L, o = .returned v ∧ Q2_5 Z a1 a2 h0 n0 v U'.heap L ∧ FrameEnd U o U' L ({ frames := 0, cells := 0, slots := 0, locals := 0 } : Room).cells ({ frames := 0, cells := 0, slots := 0, locals := 0 } : Room).slots) := by
  refine MetFree.of_bodySF (plainFor_of_name pn_2) hisR ?_
  intro p e s m args below meth c s₁ Bd hml0 hP hK
  obtain ⟨rfl, hZ, hh⟩ := hP
  have hx := Bd.exec
  have hby := Bd.bytes
  have hml : c.maxLocals = 3 := hml0
  have hown : s.vm.findClass "org/callerscope/model/ObjectType" = some m.cls := findClass_of_methodNamed Bd.named
  have hnm := (name_of_methodNamed Bd.named Bd.method).1
  have X0 : Stand p l e ({ frames := 0, cells := 0, slots := 0, locals := 0 } : Room) s m #[(.ref a1), (.ref a2)] below meth c s₁ [] 0 0 := Stand.of_body Bd
  have e0 : s₁.heap = h0 := by rw [← hh, Bd.state]; rfl
  have N0 := Fr.nil n0
  have pre0 : ∀ t, Steps p.tables e below (s₁.setTop (mkF m 0 #[.val (.ref a1), .val (.ref a2), .unset] [])) t → Steps p.tables e below (s₁.setTop (entryFrame m #[(.ref a1), (.ref a2)] 3)) t := fun t k => castTop (ef_2_RR m a1 a2) k
  obtain ⟨T3, X3, e3, st3⟩ := getF X0 hx hZ hown (host := "") (Or.inl (hw _ (List.mem_of_getElem? (i := 15) rfl))) Via.refl e0 F_container_a2 (g := (mkF m 1 #[.val (.ref a1), .val (.ref a2), .unset] [(.ref a2)])) rfl rfl (hb hby d2_1)
  obtain ⟨fs, hr, hrun, hended, hW, hsame⟩ := X3.leave (v := some (.int (1 : Int32))) (fun h => by rw [Bd.returns] at h; cases h)
  refine ⟨_, _, pre0 _ ?_, hrun, hended, _, _, rfl, ?_, ⟨_, rfl⟩, hW, hsame.mono (by decide) (by decide)⟩
  · show Steps p.tables e below (s₁.setTop (mkF m 0 #[.val (.ref a1), .val (.ref a2), .unset] [])) _
    refine XS.aloadN X0.here hx rfl (hb hby d2_0) rfl rfl ?_
    show Steps p.tables e below (s₁.setTop (mkF m 1 #[.val (.ref a1), .val (.ref a2), .unset] [(.ref a2)])) _
    refine st3 _ ?_
    show Steps p.tables e below (T3.setTop (mkF m 4 #[.val (.ref a1), .val (.ref a2), .unset] [(.ref a1)])) _
    refine XS.astoreN X3.here hx rfl (hb hby d2_4) rfl rfl (l' := #[.val (.ref a1), .val (.ref a2), .val (.ref a1)]) rfl ?_
    show Steps p.tables e below (T3.setTop (mkF m 5 #[.val (.ref a1), .val (.ref a2), .val (.ref a1)] [])) _
    refine XS.aloadN X3.here hx rfl (hb hby d2_5) rfl rfl ?_
    show Steps p.tables e below (T3.setTop (mkF m 6 #[.val (.ref a1), .val (.ref a2), .val (.ref a1)] [(.ref a1)])) _
    refine XS.ifnullNo X3.here hx rfl (hb hby d2_6) rfl ?_
    show Steps p.tables e below (T3.setTop (mkF m 9 #[.val (.ref a1), .val (.ref a2), .val (.ref a1)] [])) _
    refine XS.aloadN X3.here hx rfl (hb hby d2_9) rfl rfl ?_
    show Steps p.tables e below (T3.setTop (mkF m 10 #[.val (.ref a1), .val (.ref a2), .val (.ref a1)] [(.ref a1)])) _
    refine XS.aloadN X3.here hx rfl (hb hby d2_10) rfl rfl ?_
    show Steps p.tables e below (T3.setTop (mkF m 11 #[.val (.ref a1), .val (.ref a2), .val (.ref a1)] [(.ref a1), (.ref a1)])) _
    refine Jvm.RoadKit.acmp (g := (mkF m 11 #[.val (.ref a1), .val (.ref a2), .val (.ref a1)] [(.ref a1), (.ref a1)])) X3 hx rfl rfl rfl (pc0 := 11) (pc' := 14) (same := true) rfl (hb hby d2_11) rfl (decide_eq_true rfl) (by decide) (by decide) ?_
    show Steps p.tables e below (T3.setTop (mkF m 14 #[.val (.ref a1), .val (.ref a2), .val (.ref a1)] [])) _
    refine XS.iconst X3.here hx rfl (hb hby d2_14) ?_
    show Steps p.tables e below (T3.setTop (mkF m 15 #[.val (.ref a1), .val (.ref a2), .val (.ref a1)] [(.int (1 : Int32))])) _
    exact retN X3 hx (t := .boolean) Bd.returns (by simp) (hb hby d2_15) hr
  · show Q2_5 Z a1 a2 h0 n0 _ T3.heap _
    rw [e3]
    exact ⟨rfl, N0, rfl⟩
theorem d3_10 : decode method_3_code 10 = .ok (.iconst 1, 1) := by decide +kernel
theorem d3_11 : decode method_3_code 11 = .ok (.goto 4, 3) := by decide +kernel
def Q3_3 (Z : State) (p1 : Int32) (p2 : Int32) (h0 : Heap) (n0 : Nat) (v : Option Value) (h : Heap) (L : List Loc) : Prop := v = some (.int (1 : Int32)) ∧ Fr n0 L ∧ h = h0
set_option maxRecDepth 65536 in
set_option maxHeartbeats 40000000 in
theorem rm3_3 (l : Launch) (Z : State) (a0 : Array Value) (hw : ∀ d ∈ tables_1, d.before a0 Z = true) (ws : List Jvm.Cond) (p1 : Int32) (p2 : Int32) (h0 : Heap) (n0 : Nat) (Z0 : n0 ≤ h0.size) (P3 : p1 = (1 : Int32)) (P4 : ¬ (p2 < (2 : Int32))) :
    MetFree l (⟨"org/callerscope/model/ObjectTypeHoldsPinLaw", "expected", "(II)Z"⟩ : MethodName) (head1 (Jvm.Cond.code (⟨"org/callerscope/model/ObjectTypeHoldsPinLaw", "expected", "(II)Z"⟩ : MethodName) method_3_code 2 (some .boolean) :: ws) ({ frames := 0, cells := 0, slots := 0, locals := 0 } : Room)) (fun a U => a = #[(.int p1), (.int p2)] ∧ Z.Warmed39 U.vm ∧ U.heap = h0) (fun _ _ _ _ _ => True) (fun _ U o U' => ∃ v L, o = .returned v ∧ Q3_3 Z p1 p2 h0 n0 v U'.heap L ∧ FrameEnd U o U' L ({ frames := 0, cells := 0, slots := 0, locals := 0 } : Room).cells ({ frames := 0, cells := 0, slots := 0, locals := 0 } : Room).slots) := by
  refine MetFree.of_bodySF (plainFor_of_name pn_3) hisR ?_
  intro p e s m args below meth c s₁ Bd hml0 hP hK
  obtain ⟨rfl, hZ, hh⟩ := hP
  have hx := Bd.exec
  have hby := Bd.bytes
  have hml : c.maxLocals = 2 := hml0
  have hown : s.vm.findClass "org/callerscope/model/ObjectTypeHoldsPinLaw" = some m.cls := findClass_of_methodNamed Bd.named
  have hnm := (name_of_methodNamed Bd.named Bd.method).1
  have X0 : Stand p l e ({ frames := 0, cells := 0, slots := 0, locals := 0 } : Room) s m #[(.int p1), (.int p2)] below meth c s₁ [] 0 0 := Stand.of_body Bd
  have e0 : s₁.heap = h0 := by rw [← hh, Bd.state]; rfl
  have N0 := Fr.nil n0
  have pre0 : ∀ t, Steps p.tables e below (s₁.setTop (mkF m 0 #[.val (.int p1), .val (.int p2)] [])) t → Steps p.tables e below (s₁.setTop (entryFrame m #[(.int p1), (.int p2)] 2)) t := fun t k => castTop (ef_3_II m p1 p2) k
  obtain ⟨fs, hr, hrun, hended, hW, hsame⟩ := X0.leave (v := some (.int (1 : Int32))) (fun h => by rw [Bd.returns] at h; cases h)
  refine ⟨_, _, pre0 _ ?_, hrun, hended, _, _, rfl, ?_, ⟨_, rfl⟩, hW, hsame.mono (by decide) (by decide)⟩
  · show Steps p.tables e below (s₁.setTop (mkF m 0 #[.val (.int p1), .val (.int p2)] [])) _
    refine XS.iloadN X0.here hx rfl (hb hby d3_0) rfl ?_
    show Steps p.tables e below (s₁.setTop (mkF m 1 #[.val (.int p1), .val (.int p2)] [(.int p1)])) _
    refine XS.iconst X0.here hx rfl (hb hby d3_1) ?_
    show Steps p.tables e below (s₁.setTop (mkF m 2 #[.val (.int p1), .val (.int p2)] [(.int (1 : Int32)), (.int p1)])) _
    refine XS.icmpNo X0.here hx rfl (hb hby d3_2) rfl (teq P3).2 ?_
    show Steps p.tables e below (s₁.setTop (mkF m 5 #[.val (.int p1), .val (.int p2)] [])) _
    refine XS.iloadN X0.here hx rfl (hb hby d3_5) rfl ?_
    show Steps p.tables e below (s₁.setTop (mkF m 6 #[.val (.int p1), .val (.int p2)] [(.int p2)])) _
    refine XS.iconst X0.here hx rfl (hb hby d3_6) ?_
    show Steps p.tables e below (s₁.setTop (mkF m 7 #[.val (.int p1), .val (.int p2)] [(.int (2 : Int32)), (.int p2)])) _
    refine XS.icmpNo X0.here hx rfl (hb hby d3_7) rfl (flt P4).1 ?_
    show Steps p.tables e below (s₁.setTop (mkF m 10 #[.val (.int p1), .val (.int p2)] [])) _
    refine XS.iconst X0.here hx rfl (hb hby d3_10) ?_
    show Steps p.tables e below (s₁.setTop (mkF m 11 #[.val (.int p1), .val (.int p2)] [(.int (1 : Int32))])) _
    refine XS.goto X0.here hx rfl (pc0 := 11) (pc' := 15) rfl (hb hby d3_11) (by decide) (by decide) ?_
    show Steps p.tables e below (s₁.setTop (mkF m 15 #[.val (.int p1), .val (.int p2)] [(.int (1 : Int32))])) _
    exact retN X0 hx (t := .boolean) Bd.returns (by simp) (hb hby d3_15) hr
  · show Q3_3 Z p1 p2 h0 n0 _ s₁.heap _
    rw [e0]
    exact ⟨rfl, N0, rfl⟩
def Q2_6 (Z : State) (a1 : Addr) (a2 : Addr) (w3 : Addr) (h0 : Heap) (n0 : Nat) (v : Option Value) (h : Heap) (L : List Loc) : Prop := v = some (.int (1 : Int32)) ∧ Fr n0 L ∧ h = h0
set_option maxRecDepth 65536 in
set_option maxHeartbeats 40000000 in
theorem rm2_6 (l : Launch) (Z : State) (a0 : Array Value) (hw : ∀ d ∈ tables_1, d.before a0 Z = true) (ws : List Jvm.Cond) (a1 : Addr) (a2 : Addr) (w3 : Addr) (h0 : Heap) (n0 : Nat) (Z0 : n0 ≤ h0.size) (F_container_a2 : Fld Z h0 a2 "org/callerscope/model/ObjectType" "container" "Lorg/callerscope/model/ObjectType;" (.ref w3)) (P5 : ¬ (w3 = a1)) (F_container_w3 : Fld Z h0 w3 "org/callerscope/model/ObjectType" "container" "Lorg/callerscope/model/ObjectType;" (.ref a1)) :
    MetFree l (⟨"org/callerscope/model/ObjectType", "holds", "(Lorg/callerscope/model/ObjectType;)Z"⟩ : MethodName) (head1 (Jvm.Cond.code (⟨"org/callerscope/model/ObjectType", "holds", "(Lorg/callerscope/model/ObjectType;)Z"⟩ : MethodName) prog_12_method_7_code 3 (some .boolean) :: ws) ({ frames := 0, cells := 0, slots := 0, locals := 0 } : Room)) (fun a U => a = #[(.ref a1), (.ref a2)] ∧ Z.Warmed39 U.vm ∧ U.heap = h0) (fun _ _ _ _ _ => True) (fun _ U o U' => ∃ v L, o = .returned v ∧ Q2_6 Z a1 a2 w3 h0 n0 v U'.heap L ∧ FrameEnd U o U' L ({ frames := 0, cells := 0, slots := 0, locals := 0 } : Room).cells ({ frames := 0, cells := 0, slots := 0, locals := 0 } : Room).slots) := by
  refine MetFree.of_bodySF (plainFor_of_name pn_2) hisR ?_
  intro p e s m args below meth c s₁ Bd hml0 hP hK
  obtain ⟨rfl, hZ, hh⟩ := hP
  have hx := Bd.exec
  have hby := Bd.bytes
  have hml : c.maxLocals = 3 := hml0
  have hown : s.vm.findClass "org/callerscope/model/ObjectType" = some m.cls := findClass_of_methodNamed Bd.named
  have hnm := (name_of_methodNamed Bd.named Bd.method).1
  have X0 : Stand p l e ({ frames := 0, cells := 0, slots := 0, locals := 0 } : Room) s m #[(.ref a1), (.ref a2)] below meth c s₁ [] 0 0 := Stand.of_body Bd
  have e0 : s₁.heap = h0 := by rw [← hh, Bd.state]; rfl
  have N0 := Fr.nil n0
  have pre0 : ∀ t, Steps p.tables e below (s₁.setTop (mkF m 0 #[.val (.ref a1), .val (.ref a2), .unset] [])) t → Steps p.tables e below (s₁.setTop (entryFrame m #[(.ref a1), (.ref a2)] 3)) t := fun t k => castTop (ef_2_RR m a1 a2) k
  obtain ⟨T4, X4, e4, st4⟩ := getF X0 hx hZ hown (host := "") (Or.inl (hw _ (List.mem_of_getElem? (i := 15) rfl))) Via.refl e0 F_container_a2 (g := (mkF m 1 #[.val (.ref a1), .val (.ref a2), .unset] [(.ref a2)])) rfl rfl (hb hby d2_1)
  obtain ⟨T6, X6, e6, st6⟩ := getF X4 hx hZ hown (host := "") (Or.inl (hw _ (List.mem_of_getElem? (i := 15) rfl))) Via.refl e4 F_container_w3 (g := (mkF m 17 #[.val (.ref a1), .val (.ref a2), .val (.ref w3)] [(.ref w3)])) rfl rfl (hb hby d2_17)
  obtain ⟨fs, hr, hrun, hended, hW, hsame⟩ := X6.leave (v := some (.int (1 : Int32))) (fun h => by rw [Bd.returns] at h; cases h)
  refine ⟨_, _, pre0 _ ?_, hrun, hended, _, _, rfl, ?_, ⟨_, rfl⟩, hW, hsame.mono (by decide) (by decide)⟩
  · show Steps p.tables e below (s₁.setTop (mkF m 0 #[.val (.ref a1), .val (.ref a2), .unset] [])) _
    refine XS.aloadN X0.here hx rfl (hb hby d2_0) rfl rfl ?_
    show Steps p.tables e below (s₁.setTop (mkF m 1 #[.val (.ref a1), .val (.ref a2), .unset] [(.ref a2)])) _
    refine st4 _ ?_
    show Steps p.tables e below (T4.setTop (mkF m 4 #[.val (.ref a1), .val (.ref a2), .unset] [(.ref w3)])) _
    refine XS.astoreN X4.here hx rfl (hb hby d2_4) rfl rfl (l' := #[.val (.ref a1), .val (.ref a2), .val (.ref w3)]) rfl ?_
    show Steps p.tables e below (T4.setTop (mkF m 5 #[.val (.ref a1), .val (.ref a2), .val (.ref w3)] [])) _
    refine XS.aloadN X4.here hx rfl (hb hby d2_5) rfl rfl ?_
    show Steps p.tables e below (T4.setTop (mkF m 6 #[.val (.ref a1), .val (.ref a2), .val (.ref w3)] [(.ref w3)])) _
    refine XS.ifnullNo X4.here hx rfl (hb hby d2_6) rfl ?_
    show Steps p.tables e below (T4.setTop (mkF m 9 #[.val (.ref a1), .val (.ref a2), .val (.ref w3)] [])) _
    refine XS.aloadN X4.here hx rfl (hb hby d2_9) rfl rfl ?_
    show Steps p.tables e below (T4.setTop (mkF m 10 #[.val (.ref a1), .val (.ref a2), .val (.ref w3)] [(.ref w3)])) _
    refine XS.aloadN X4.here hx rfl (hb hby d2_10) rfl rfl ?_
    show Steps p.tables e below (T4.setTop (mkF m 11 #[.val (.ref a1), .val (.ref a2), .val (.ref w3)] [(.ref a1), (.ref w3)])) _
    refine Jvm.RoadKit.acmp (g := (mkF m 11 #[.val (.ref a1), .val (.ref a2), .val (.ref w3)] [(.ref a1), (.ref w3)])) X4 hx rfl rfl rfl (pc0 := 11) (pc' := 16) (same := false) rfl (hb hby d2_11) rfl (decide_eq_false fun q => P5 (Value.ref.inj q)) (by decide) (by decide) ?_
    show Steps p.tables e below (T4.setTop (mkF m 16 #[.val (.ref a1), .val (.ref a2), .val (.ref w3)] [])) _
    refine XS.aloadN X4.here hx rfl (hb hby d2_16) rfl rfl ?_
    show Steps p.tables e below (T4.setTop (mkF m 17 #[.val (.ref a1), .val (.ref a2), .val (.ref w3)] [(.ref w3)])) _
    refine st6 _ ?_
    show Steps p.tables e below (T6.setTop (mkF m 20 #[.val (.ref a1), .val (.ref a2), .val (.ref w3)] [(.ref a1)])) _
    refine XS.astoreN X6.here hx rfl (hb hby d2_20) rfl rfl (l' := #[.val (.ref a1), .val (.ref a2), .val (.ref a1)]) rfl ?_
    show Steps p.tables e below (T6.setTop (mkF m 21 #[.val (.ref a1), .val (.ref a2), .val (.ref a1)] [])) _
    refine XS.goto X6.here hx rfl (pc0 := 21) (pc' := 5) rfl (hb hby d2_21) (by decide) (by decide) ?_
    show Steps p.tables e below (T6.setTop (mkF m 5 #[.val (.ref a1), .val (.ref a2), .val (.ref a1)] [])) _
    refine XS.aloadN X6.here hx rfl (hb hby d2_5) rfl rfl ?_
    show Steps p.tables e below (T6.setTop (mkF m 6 #[.val (.ref a1), .val (.ref a2), .val (.ref a1)] [(.ref a1)])) _
    refine XS.ifnullNo X6.here hx rfl (hb hby d2_6) rfl ?_
    show Steps p.tables e below (T6.setTop (mkF m 9 #[.val (.ref a1), .val (.ref a2), .val (.ref a1)] [])) _
    refine XS.aloadN X6.here hx rfl (hb hby d2_9) rfl rfl ?_
    show Steps p.tables e below (T6.setTop (mkF m 10 #[.val (.ref a1), .val (.ref a2), .val (.ref a1)] [(.ref a1)])) _
    refine XS.aloadN X6.here hx rfl (hb hby d2_10) rfl rfl ?_
    show Steps p.tables e below (T6.setTop (mkF m 11 #[.val (.ref a1), .val (.ref a2), .val (.ref a1)] [(.ref a1), (.ref a1)])) _
    refine Jvm.RoadKit.acmp (g := (mkF m 11 #[.val (.ref a1), .val (.ref a2), .val (.ref a1)] [(.ref a1), (.ref a1)])) X6 hx rfl rfl rfl (pc0 := 11) (pc' := 14) (same := true) rfl (hb hby d2_11) rfl (decide_eq_true rfl) (by decide) (by decide) ?_
    show Steps p.tables e below (T6.setTop (mkF m 14 #[.val (.ref a1), .val (.ref a2), .val (.ref a1)] [])) _
    refine XS.iconst X6.here hx rfl (hb hby d2_14) ?_
    show Steps p.tables e below (T6.setTop (mkF m 15 #[.val (.ref a1), .val (.ref a2), .val (.ref a1)] [(.int (1 : Int32))])) _
    exact retN X6 hx (t := .boolean) Bd.returns (by simp) (hb hby d2_15) hr
  · show Q2_6 Z a1 a2 w3 h0 n0 _ T6.heap _
    rw [e6]
    exact ⟨rfl, N0, rfl⟩
theorem d3_21 : decode method_3_code 21 = .ok (.iload_n 1, 1) := by decide +kernel
theorem d3_22 : decode method_3_code 22 = .ok (.iconst 3, 1) := by decide +kernel
theorem d3_23 : decode method_3_code 23 = .ok (.if_icmp .lt 7, 3) := by decide +kernel
theorem d3_30 : decode method_3_code 30 = .ok (.iconst 0, 1) := by decide +kernel
theorem d3_31 : decode method_3_code 31 = .ok (.ireturn, 1) := by decide +kernel
def Q3_4 (Z : State) (p1 : Int32) (p2 : Int32) (h0 : Heap) (n0 : Nat) (v : Option Value) (h : Heap) (L : List Loc) : Prop := v = some (.int (0 : Int32)) ∧ Fr n0 L ∧ h = h0
set_option maxRecDepth 65536 in
set_option maxHeartbeats 40000000 in
theorem rm3_4 (l : Launch) (Z : State) (a0 : Array Value) (hw : ∀ d ∈ tables_1, d.before a0 Z = true) (ws : List Jvm.Cond) (p1 : Int32) (p2 : Int32) (h0 : Heap) (n0 : Nat) (Z0 : n0 ≤ h0.size) (P3 : ¬ (p1 = (1 : Int32))) (P4 : p1 = (2 : Int32)) (P5 : p2 < (3 : Int32)) :
    MetFree l (⟨"org/callerscope/model/ObjectTypeHoldsPinLaw", "expected", "(II)Z"⟩ : MethodName) (head1 (Jvm.Cond.code (⟨"org/callerscope/model/ObjectTypeHoldsPinLaw", "expected", "(II)Z"⟩ : MethodName) method_3_code 2 (some .boolean) :: ws) ({ frames := 0, cells := 0, slots := 0, locals := 0 } : Room)) (fun a U => a = #[(.int p1), (.int p2)] ∧ Z.Warmed39 U.vm ∧ U.heap = h0) (fun _ _ _ _ _ => True) (fun _ U o U' => ∃ v L, o = .returned v ∧ Q3_4 Z p1 p2 h0 n0 v U'.heap L ∧ FrameEnd U o U' L ({ frames := 0, cells := 0, slots := 0, locals := 0 } : Room).cells ({ frames := 0, cells := 0, slots := 0, locals := 0 } : Room).slots) := by
  refine MetFree.of_bodySF (plainFor_of_name pn_3) hisR ?_
  intro p e s m args below meth c s₁ Bd hml0 hP hK
  obtain ⟨rfl, hZ, hh⟩ := hP
  have hx := Bd.exec
  have hby := Bd.bytes
  have hml : c.maxLocals = 2 := hml0
  have hown : s.vm.findClass "org/callerscope/model/ObjectTypeHoldsPinLaw" = some m.cls := findClass_of_methodNamed Bd.named
  have hnm := (name_of_methodNamed Bd.named Bd.method).1
  have X0 : Stand p l e ({ frames := 0, cells := 0, slots := 0, locals := 0 } : Room) s m #[(.int p1), (.int p2)] below meth c s₁ [] 0 0 := Stand.of_body Bd
  have e0 : s₁.heap = h0 := by rw [← hh, Bd.state]; rfl
  have N0 := Fr.nil n0
  have pre0 : ∀ t, Steps p.tables e below (s₁.setTop (mkF m 0 #[.val (.int p1), .val (.int p2)] [])) t → Steps p.tables e below (s₁.setTop (entryFrame m #[(.int p1), (.int p2)] 2)) t := fun t k => castTop (ef_3_II m p1 p2) k
  obtain ⟨fs, hr, hrun, hended, hW, hsame⟩ := X0.leave (v := some (.int (0 : Int32))) (fun h => by rw [Bd.returns] at h; cases h)
  refine ⟨_, _, pre0 _ ?_, hrun, hended, _, _, rfl, ?_, ⟨_, rfl⟩, hW, hsame.mono (by decide) (by decide)⟩
  · show Steps p.tables e below (s₁.setTop (mkF m 0 #[.val (.int p1), .val (.int p2)] [])) _
    refine XS.iloadN X0.here hx rfl (hb hby d3_0) rfl ?_
    show Steps p.tables e below (s₁.setTop (mkF m 1 #[.val (.int p1), .val (.int p2)] [(.int p1)])) _
    refine XS.iconst X0.here hx rfl (hb hby d3_1) ?_
    show Steps p.tables e below (s₁.setTop (mkF m 2 #[.val (.int p1), .val (.int p2)] [(.int (1 : Int32)), (.int p1)])) _
    refine XS.icmpYes X0.here hx rfl (pc0 := 2) (pc' := 16) rfl (hb hby d3_2) rfl (feq P3).2 (by decide) (by decide) ?_
    show Steps p.tables e below (s₁.setTop (mkF m 16 #[.val (.int p1), .val (.int p2)] [])) _
    refine XS.iloadN X0.here hx rfl (hb hby d3_16) rfl ?_
    show Steps p.tables e below (s₁.setTop (mkF m 17 #[.val (.int p1), .val (.int p2)] [(.int p1)])) _
    refine XS.iconst X0.here hx rfl (hb hby d3_17) ?_
    show Steps p.tables e below (s₁.setTop (mkF m 18 #[.val (.int p1), .val (.int p2)] [(.int (2 : Int32)), (.int p1)])) _
    refine XS.icmpNo X0.here hx rfl (hb hby d3_18) rfl (teq P4).2 ?_
    show Steps p.tables e below (s₁.setTop (mkF m 21 #[.val (.int p1), .val (.int p2)] [])) _
    refine XS.iloadN X0.here hx rfl (hb hby d3_21) rfl ?_
    show Steps p.tables e below (s₁.setTop (mkF m 22 #[.val (.int p1), .val (.int p2)] [(.int p2)])) _
    refine XS.iconst X0.here hx rfl (hb hby d3_22) ?_
    show Steps p.tables e below (s₁.setTop (mkF m 23 #[.val (.int p1), .val (.int p2)] [(.int (3 : Int32)), (.int p2)])) _
    refine XS.icmpYes X0.here hx rfl (pc0 := 23) (pc' := 30) rfl (hb hby d3_23) rfl (tlt P5).1 (by decide) (by decide) ?_
    show Steps p.tables e below (s₁.setTop (mkF m 30 #[.val (.int p1), .val (.int p2)] [])) _
    refine XS.iconst X0.here hx rfl (hb hby d3_30) ?_
    show Steps p.tables e below (s₁.setTop (mkF m 31 #[.val (.int p1), .val (.int p2)] [(.int (0 : Int32))])) _
    exact retN X0 hx (t := .boolean) Bd.returns (by simp) (hb hby d3_31) hr
  · show Q3_4 Z p1 p2 h0 n0 _ s₁.heap _
    rw [e0]
    exact ⟨rfl, N0, rfl⟩
def Q2_7 (Z : State) (a1 : Addr) (w2 : Addr) (h0 : Heap) (n0 : Nat) (v : Option Value) (h : Heap) (L : List Loc) : Prop := v = some (.int (0 : Int32)) ∧ Fr n0 L ∧ h = h0
set_option maxRecDepth 65536 in
set_option maxHeartbeats 40000000 in
theorem rm2_7 (l : Launch) (Z : State) (a0 : Array Value) (hw : ∀ d ∈ tables_1, d.before a0 Z = true) (ws : List Jvm.Cond) (a1 : Addr) (w2 : Addr) (h0 : Heap) (n0 : Nat) (Z0 : n0 ≤ h0.size) (F_container_a1 : Fld Z h0 a1 "org/callerscope/model/ObjectType" "container" "Lorg/callerscope/model/ObjectType;" (.ref w2)) (P4 : ¬ (w2 = a1)) (F_container_w2 : Fld Z h0 w2 "org/callerscope/model/ObjectType" "container" "Lorg/callerscope/model/ObjectType;" .null) :
    MetFree l (⟨"org/callerscope/model/ObjectType", "holds", "(Lorg/callerscope/model/ObjectType;)Z"⟩ : MethodName) (head1 (Jvm.Cond.code (⟨"org/callerscope/model/ObjectType", "holds", "(Lorg/callerscope/model/ObjectType;)Z"⟩ : MethodName) prog_12_method_7_code 3 (some .boolean) :: ws) ({ frames := 0, cells := 0, slots := 0, locals := 0 } : Room)) (fun a U => a = #[(.ref a1), (.ref a1)] ∧ Z.Warmed39 U.vm ∧ U.heap = h0) (fun _ _ _ _ _ => True) (fun _ U o U' => ∃ v L, o = .returned v ∧ Q2_7 Z a1 w2 h0 n0 v U'.heap L ∧ FrameEnd U o U' L ({ frames := 0, cells := 0, slots := 0, locals := 0 } : Room).cells ({ frames := 0, cells := 0, slots := 0, locals := 0 } : Room).slots) := by
  refine MetFree.of_bodySF (plainFor_of_name pn_2) hisR ?_
  intro p e s m args below meth c s₁ Bd hml0 hP hK
  obtain ⟨rfl, hZ, hh⟩ := hP
  have hx := Bd.exec
  have hby := Bd.bytes
  have hml : c.maxLocals = 3 := hml0
  have hown : s.vm.findClass "org/callerscope/model/ObjectType" = some m.cls := findClass_of_methodNamed Bd.named
  have hnm := (name_of_methodNamed Bd.named Bd.method).1
  have X0 : Stand p l e ({ frames := 0, cells := 0, slots := 0, locals := 0 } : Room) s m #[(.ref a1), (.ref a1)] below meth c s₁ [] 0 0 := Stand.of_body Bd
  have e0 : s₁.heap = h0 := by rw [← hh, Bd.state]; rfl
  have N0 := Fr.nil n0
  have pre0 : ∀ t, Steps p.tables e below (s₁.setTop (mkF m 0 #[.val (.ref a1), .val (.ref a1), .unset] [])) t → Steps p.tables e below (s₁.setTop (entryFrame m #[(.ref a1), (.ref a1)] 3)) t := fun t k => castTop (ef_2_RR m a1 a1) k
  obtain ⟨T3, X3, e3, st3⟩ := getF X0 hx hZ hown (host := "") (Or.inl (hw _ (List.mem_of_getElem? (i := 15) rfl))) Via.refl e0 F_container_a1 (g := (mkF m 1 #[.val (.ref a1), .val (.ref a1), .unset] [(.ref a1)])) rfl rfl (hb hby d2_1)
  obtain ⟨T5, X5, e5, st5⟩ := getF X3 hx hZ hown (host := "") (Or.inl (hw _ (List.mem_of_getElem? (i := 15) rfl))) Via.refl e3 F_container_w2 (g := (mkF m 17 #[.val (.ref a1), .val (.ref a1), .val (.ref w2)] [(.ref w2)])) rfl rfl (hb hby d2_17)
  obtain ⟨fs, hr, hrun, hended, hW, hsame⟩ := X5.leave (v := some (.int (0 : Int32))) (fun h => by rw [Bd.returns] at h; cases h)
  refine ⟨_, _, pre0 _ ?_, hrun, hended, _, _, rfl, ?_, ⟨_, rfl⟩, hW, hsame.mono (by decide) (by decide)⟩
  · show Steps p.tables e below (s₁.setTop (mkF m 0 #[.val (.ref a1), .val (.ref a1), .unset] [])) _
    refine XS.aloadN X0.here hx rfl (hb hby d2_0) rfl rfl ?_
    show Steps p.tables e below (s₁.setTop (mkF m 1 #[.val (.ref a1), .val (.ref a1), .unset] [(.ref a1)])) _
    refine st3 _ ?_
    show Steps p.tables e below (T3.setTop (mkF m 4 #[.val (.ref a1), .val (.ref a1), .unset] [(.ref w2)])) _
    refine XS.astoreN X3.here hx rfl (hb hby d2_4) rfl rfl (l' := #[.val (.ref a1), .val (.ref a1), .val (.ref w2)]) rfl ?_
    show Steps p.tables e below (T3.setTop (mkF m 5 #[.val (.ref a1), .val (.ref a1), .val (.ref w2)] [])) _
    refine XS.aloadN X3.here hx rfl (hb hby d2_5) rfl rfl ?_
    show Steps p.tables e below (T3.setTop (mkF m 6 #[.val (.ref a1), .val (.ref a1), .val (.ref w2)] [(.ref w2)])) _
    refine XS.ifnullNo X3.here hx rfl (hb hby d2_6) rfl ?_
    show Steps p.tables e below (T3.setTop (mkF m 9 #[.val (.ref a1), .val (.ref a1), .val (.ref w2)] [])) _
    refine XS.aloadN X3.here hx rfl (hb hby d2_9) rfl rfl ?_
    show Steps p.tables e below (T3.setTop (mkF m 10 #[.val (.ref a1), .val (.ref a1), .val (.ref w2)] [(.ref w2)])) _
    refine XS.aloadN X3.here hx rfl (hb hby d2_10) rfl rfl ?_
    show Steps p.tables e below (T3.setTop (mkF m 11 #[.val (.ref a1), .val (.ref a1), .val (.ref w2)] [(.ref a1), (.ref w2)])) _
    refine Jvm.RoadKit.acmp (g := (mkF m 11 #[.val (.ref a1), .val (.ref a1), .val (.ref w2)] [(.ref a1), (.ref w2)])) X3 hx rfl rfl rfl (pc0 := 11) (pc' := 16) (same := false) rfl (hb hby d2_11) rfl (decide_eq_false fun q => P4 (Value.ref.inj q)) (by decide) (by decide) ?_
    show Steps p.tables e below (T3.setTop (mkF m 16 #[.val (.ref a1), .val (.ref a1), .val (.ref w2)] [])) _
    refine XS.aloadN X3.here hx rfl (hb hby d2_16) rfl rfl ?_
    show Steps p.tables e below (T3.setTop (mkF m 17 #[.val (.ref a1), .val (.ref a1), .val (.ref w2)] [(.ref w2)])) _
    refine st5 _ ?_
    show Steps p.tables e below (T5.setTop (mkF m 20 #[.val (.ref a1), .val (.ref a1), .val (.ref w2)] [.null])) _
    refine XS.astoreN X5.here hx rfl (hb hby d2_20) rfl rfl (l' := #[.val (.ref a1), .val (.ref a1), .val .null]) rfl ?_
    show Steps p.tables e below (T5.setTop (mkF m 21 #[.val (.ref a1), .val (.ref a1), .val .null] [])) _
    refine XS.goto X5.here hx rfl (pc0 := 21) (pc' := 5) rfl (hb hby d2_21) (by decide) (by decide) ?_
    show Steps p.tables e below (T5.setTop (mkF m 5 #[.val (.ref a1), .val (.ref a1), .val .null] [])) _
    refine XS.aloadN X5.here hx rfl (hb hby d2_5) rfl rfl ?_
    show Steps p.tables e below (T5.setTop (mkF m 6 #[.val (.ref a1), .val (.ref a1), .val .null] [.null])) _
    refine XS.ifnullYes X5.here hx rfl (pc0 := 6) (pc' := 24) rfl (hb hby d2_6) rfl (by decide) (by decide) ?_
    show Steps p.tables e below (T5.setTop (mkF m 24 #[.val (.ref a1), .val (.ref a1), .val .null] [])) _
    refine XS.iconst X5.here hx rfl (hb hby d2_24) ?_
    show Steps p.tables e below (T5.setTop (mkF m 25 #[.val (.ref a1), .val (.ref a1), .val .null] [(.int (0 : Int32))])) _
    exact retN X5 hx (t := .boolean) Bd.returns (by simp) (hb hby d2_25) hr
  · show Q2_7 Z a1 w2 h0 n0 _ T5.heap _
    rw [e5]
    exact ⟨rfl, N0, rfl⟩
theorem d3_26 : decode method_3_code 26 = .ok (.iconst 1, 1) := by decide +kernel
theorem d3_27 : decode method_3_code 27 = .ok (.goto 4, 3) := by decide +kernel
def Q3_5 (Z : State) (p1 : Int32) (p2 : Int32) (h0 : Heap) (n0 : Nat) (v : Option Value) (h : Heap) (L : List Loc) : Prop := v = some (.int (1 : Int32)) ∧ Fr n0 L ∧ h = h0
set_option maxRecDepth 65536 in
set_option maxHeartbeats 40000000 in
theorem rm3_5 (l : Launch) (Z : State) (a0 : Array Value) (hw : ∀ d ∈ tables_1, d.before a0 Z = true) (ws : List Jvm.Cond) (p1 : Int32) (p2 : Int32) (h0 : Heap) (n0 : Nat) (Z0 : n0 ≤ h0.size) (P3 : ¬ (p1 = (1 : Int32))) (P4 : p1 = (2 : Int32)) (P5 : ¬ (p2 < (3 : Int32))) :
    MetFree l (⟨"org/callerscope/model/ObjectTypeHoldsPinLaw", "expected", "(II)Z"⟩ : MethodName) (head1 (Jvm.Cond.code (⟨"org/callerscope/model/ObjectTypeHoldsPinLaw", "expected", "(II)Z"⟩ : MethodName) method_3_code 2 (some .boolean) :: ws) ({ frames := 0, cells := 0, slots := 0, locals := 0 } : Room)) (fun a U => a = #[(.int p1), (.int p2)] ∧ Z.Warmed39 U.vm ∧ U.heap = h0) (fun _ _ _ _ _ => True) (fun _ U o U' => ∃ v L, o = .returned v ∧ Q3_5 Z p1 p2 h0 n0 v U'.heap L ∧ FrameEnd U o U' L ({ frames := 0, cells := 0, slots := 0, locals := 0 } : Room).cells ({ frames := 0, cells := 0, slots := 0, locals := 0 } : Room).slots) := by
  refine MetFree.of_bodySF (plainFor_of_name pn_3) hisR ?_
  intro p e s m args below meth c s₁ Bd hml0 hP hK
  obtain ⟨rfl, hZ, hh⟩ := hP
  have hx := Bd.exec
  have hby := Bd.bytes
  have hml : c.maxLocals = 2 := hml0
  have hown : s.vm.findClass "org/callerscope/model/ObjectTypeHoldsPinLaw" = some m.cls := findClass_of_methodNamed Bd.named
  have hnm := (name_of_methodNamed Bd.named Bd.method).1
  have X0 : Stand p l e ({ frames := 0, cells := 0, slots := 0, locals := 0 } : Room) s m #[(.int p1), (.int p2)] below meth c s₁ [] 0 0 := Stand.of_body Bd
  have e0 : s₁.heap = h0 := by rw [← hh, Bd.state]; rfl
  have N0 := Fr.nil n0
  have pre0 : ∀ t, Steps p.tables e below (s₁.setTop (mkF m 0 #[.val (.int p1), .val (.int p2)] [])) t → Steps p.tables e below (s₁.setTop (entryFrame m #[(.int p1), (.int p2)] 2)) t := fun t k => castTop (ef_3_II m p1 p2) k
  obtain ⟨fs, hr, hrun, hended, hW, hsame⟩ := X0.leave (v := some (.int (1 : Int32))) (fun h => by rw [Bd.returns] at h; cases h)
  refine ⟨_, _, pre0 _ ?_, hrun, hended, _, _, rfl, ?_, ⟨_, rfl⟩, hW, hsame.mono (by decide) (by decide)⟩
  · show Steps p.tables e below (s₁.setTop (mkF m 0 #[.val (.int p1), .val (.int p2)] [])) _
    refine XS.iloadN X0.here hx rfl (hb hby d3_0) rfl ?_
    show Steps p.tables e below (s₁.setTop (mkF m 1 #[.val (.int p1), .val (.int p2)] [(.int p1)])) _
    refine XS.iconst X0.here hx rfl (hb hby d3_1) ?_
    show Steps p.tables e below (s₁.setTop (mkF m 2 #[.val (.int p1), .val (.int p2)] [(.int (1 : Int32)), (.int p1)])) _
    refine XS.icmpYes X0.here hx rfl (pc0 := 2) (pc' := 16) rfl (hb hby d3_2) rfl (feq P3).2 (by decide) (by decide) ?_
    show Steps p.tables e below (s₁.setTop (mkF m 16 #[.val (.int p1), .val (.int p2)] [])) _
    refine XS.iloadN X0.here hx rfl (hb hby d3_16) rfl ?_
    show Steps p.tables e below (s₁.setTop (mkF m 17 #[.val (.int p1), .val (.int p2)] [(.int p1)])) _
    refine XS.iconst X0.here hx rfl (hb hby d3_17) ?_
    show Steps p.tables e below (s₁.setTop (mkF m 18 #[.val (.int p1), .val (.int p2)] [(.int (2 : Int32)), (.int p1)])) _
    refine XS.icmpNo X0.here hx rfl (hb hby d3_18) rfl (teq P4).2 ?_
    show Steps p.tables e below (s₁.setTop (mkF m 21 #[.val (.int p1), .val (.int p2)] [])) _
    refine XS.iloadN X0.here hx rfl (hb hby d3_21) rfl ?_
    show Steps p.tables e below (s₁.setTop (mkF m 22 #[.val (.int p1), .val (.int p2)] [(.int p2)])) _
    refine XS.iconst X0.here hx rfl (hb hby d3_22) ?_
    show Steps p.tables e below (s₁.setTop (mkF m 23 #[.val (.int p1), .val (.int p2)] [(.int (3 : Int32)), (.int p2)])) _
    refine XS.icmpNo X0.here hx rfl (hb hby d3_23) rfl (flt P5).1 ?_
    show Steps p.tables e below (s₁.setTop (mkF m 26 #[.val (.int p1), .val (.int p2)] [])) _
    refine XS.iconst X0.here hx rfl (hb hby d3_26) ?_
    show Steps p.tables e below (s₁.setTop (mkF m 27 #[.val (.int p1), .val (.int p2)] [(.int (1 : Int32))])) _
    refine XS.goto X0.here hx rfl (pc0 := 27) (pc' := 31) rfl (hb hby d3_27) (by decide) (by decide) ?_
    show Steps p.tables e below (s₁.setTop (mkF m 31 #[.val (.int p1), .val (.int p2)] [(.int (1 : Int32))])) _
    exact retN X0 hx (t := .boolean) Bd.returns (by simp) (hb hby d3_31) hr
  · show Q3_5 Z p1 p2 h0 n0 _ s₁.heap _
    rw [e0]
    exact ⟨rfl, N0, rfl⟩
def Q2_8 (Z : State) (a1 : Addr) (w2 : Addr) (w5 : Addr) (h0 : Heap) (n0 : Nat) (v : Option Value) (h : Heap) (L : List Loc) : Prop := v = some (.int (0 : Int32)) ∧ Fr n0 L ∧ h = h0
set_option maxRecDepth 65536 in
set_option maxHeartbeats 40000000 in
theorem rm2_8 (l : Launch) (Z : State) (a0 : Array Value) (hw : ∀ d ∈ tables_1, d.before a0 Z = true) (ws : List Jvm.Cond) (a1 : Addr) (w2 : Addr) (w5 : Addr) (h0 : Heap) (n0 : Nat) (Z0 : n0 ≤ h0.size) (F_container_a1 : Fld Z h0 a1 "org/callerscope/model/ObjectType" "container" "Lorg/callerscope/model/ObjectType;" (.ref w2)) (P4 : ¬ (w2 = a1)) (F_container_w2 : Fld Z h0 w2 "org/callerscope/model/ObjectType" "container" "Lorg/callerscope/model/ObjectType;" (.ref w5)) (P7 : ¬ (w5 = a1)) (F_container_w5 : Fld Z h0 w5 "org/callerscope/model/ObjectType" "container" "Lorg/callerscope/model/ObjectType;" .null) :
    MetFree l (⟨"org/callerscope/model/ObjectType", "holds", "(Lorg/callerscope/model/ObjectType;)Z"⟩ : MethodName) (head1 (Jvm.Cond.code (⟨"org/callerscope/model/ObjectType", "holds", "(Lorg/callerscope/model/ObjectType;)Z"⟩ : MethodName) prog_12_method_7_code 3 (some .boolean) :: ws) ({ frames := 0, cells := 0, slots := 0, locals := 0 } : Room)) (fun a U => a = #[(.ref a1), (.ref a1)] ∧ Z.Warmed39 U.vm ∧ U.heap = h0) (fun _ _ _ _ _ => True) (fun _ U o U' => ∃ v L, o = .returned v ∧ Q2_8 Z a1 w2 w5 h0 n0 v U'.heap L ∧ FrameEnd U o U' L ({ frames := 0, cells := 0, slots := 0, locals := 0 } : Room).cells ({ frames := 0, cells := 0, slots := 0, locals := 0 } : Room).slots) := by
  refine MetFree.of_bodySF (plainFor_of_name pn_2) hisR ?_
  intro p e s m args below meth c s₁ Bd hml0 hP hK
  obtain ⟨rfl, hZ, hh⟩ := hP
  have hx := Bd.exec
  have hby := Bd.bytes
  have hml : c.maxLocals = 3 := hml0
  have hown : s.vm.findClass "org/callerscope/model/ObjectType" = some m.cls := findClass_of_methodNamed Bd.named
  have hnm := (name_of_methodNamed Bd.named Bd.method).1
  have X0 : Stand p l e ({ frames := 0, cells := 0, slots := 0, locals := 0 } : Room) s m #[(.ref a1), (.ref a1)] below meth c s₁ [] 0 0 := Stand.of_body Bd
  have e0 : s₁.heap = h0 := by rw [← hh, Bd.state]; rfl
  have N0 := Fr.nil n0
  have pre0 : ∀ t, Steps p.tables e below (s₁.setTop (mkF m 0 #[.val (.ref a1), .val (.ref a1), .unset] [])) t → Steps p.tables e below (s₁.setTop (entryFrame m #[(.ref a1), (.ref a1)] 3)) t := fun t k => castTop (ef_2_RR m a1 a1) k
  obtain ⟨T3, X3, e3, st3⟩ := getF X0 hx hZ hown (host := "") (Or.inl (hw _ (List.mem_of_getElem? (i := 15) rfl))) Via.refl e0 F_container_a1 (g := (mkF m 1 #[.val (.ref a1), .val (.ref a1), .unset] [(.ref a1)])) rfl rfl (hb hby d2_1)
  obtain ⟨T6, X6, e6, st6⟩ := getF X3 hx hZ hown (host := "") (Or.inl (hw _ (List.mem_of_getElem? (i := 15) rfl))) Via.refl e3 F_container_w2 (g := (mkF m 17 #[.val (.ref a1), .val (.ref a1), .val (.ref w2)] [(.ref w2)])) rfl rfl (hb hby d2_17)
  obtain ⟨T8, X8, e8, st8⟩ := getF X6 hx hZ hown (host := "") (Or.inl (hw _ (List.mem_of_getElem? (i := 15) rfl))) Via.refl e6 F_container_w5 (g := (mkF m 17 #[.val (.ref a1), .val (.ref a1), .val (.ref w5)] [(.ref w5)])) rfl rfl (hb hby d2_17)
  obtain ⟨fs, hr, hrun, hended, hW, hsame⟩ := X8.leave (v := some (.int (0 : Int32))) (fun h => by rw [Bd.returns] at h; cases h)
  refine ⟨_, _, pre0 _ ?_, hrun, hended, _, _, rfl, ?_, ⟨_, rfl⟩, hW, hsame.mono (by decide) (by decide)⟩
  · show Steps p.tables e below (s₁.setTop (mkF m 0 #[.val (.ref a1), .val (.ref a1), .unset] [])) _
    refine XS.aloadN X0.here hx rfl (hb hby d2_0) rfl rfl ?_
    show Steps p.tables e below (s₁.setTop (mkF m 1 #[.val (.ref a1), .val (.ref a1), .unset] [(.ref a1)])) _
    refine st3 _ ?_
    show Steps p.tables e below (T3.setTop (mkF m 4 #[.val (.ref a1), .val (.ref a1), .unset] [(.ref w2)])) _
    refine XS.astoreN X3.here hx rfl (hb hby d2_4) rfl rfl (l' := #[.val (.ref a1), .val (.ref a1), .val (.ref w2)]) rfl ?_
    show Steps p.tables e below (T3.setTop (mkF m 5 #[.val (.ref a1), .val (.ref a1), .val (.ref w2)] [])) _
    refine XS.aloadN X3.here hx rfl (hb hby d2_5) rfl rfl ?_
    show Steps p.tables e below (T3.setTop (mkF m 6 #[.val (.ref a1), .val (.ref a1), .val (.ref w2)] [(.ref w2)])) _
    refine XS.ifnullNo X3.here hx rfl (hb hby d2_6) rfl ?_
    show Steps p.tables e below (T3.setTop (mkF m 9 #[.val (.ref a1), .val (.ref a1), .val (.ref w2)] [])) _
    refine XS.aloadN X3.here hx rfl (hb hby d2_9) rfl rfl ?_
    show Steps p.tables e below (T3.setTop (mkF m 10 #[.val (.ref a1), .val (.ref a1), .val (.ref w2)] [(.ref w2)])) _
    refine XS.aloadN X3.here hx rfl (hb hby d2_10) rfl rfl ?_
    show Steps p.tables e below (T3.setTop (mkF m 11 #[.val (.ref a1), .val (.ref a1), .val (.ref w2)] [(.ref a1), (.ref w2)])) _
    refine Jvm.RoadKit.acmp (g := (mkF m 11 #[.val (.ref a1), .val (.ref a1), .val (.ref w2)] [(.ref a1), (.ref w2)])) X3 hx rfl rfl rfl (pc0 := 11) (pc' := 16) (same := false) rfl (hb hby d2_11) rfl (decide_eq_false fun q => P4 (Value.ref.inj q)) (by decide) (by decide) ?_
    show Steps p.tables e below (T3.setTop (mkF m 16 #[.val (.ref a1), .val (.ref a1), .val (.ref w2)] [])) _
    refine XS.aloadN X3.here hx rfl (hb hby d2_16) rfl rfl ?_
    show Steps p.tables e below (T3.setTop (mkF m 17 #[.val (.ref a1), .val (.ref a1), .val (.ref w2)] [(.ref w2)])) _
    refine st6 _ ?_
    show Steps p.tables e below (T6.setTop (mkF m 20 #[.val (.ref a1), .val (.ref a1), .val (.ref w2)] [(.ref w5)])) _
    refine XS.astoreN X6.here hx rfl (hb hby d2_20) rfl rfl (l' := #[.val (.ref a1), .val (.ref a1), .val (.ref w5)]) rfl ?_
    show Steps p.tables e below (T6.setTop (mkF m 21 #[.val (.ref a1), .val (.ref a1), .val (.ref w5)] [])) _
    refine XS.goto X6.here hx rfl (pc0 := 21) (pc' := 5) rfl (hb hby d2_21) (by decide) (by decide) ?_
    show Steps p.tables e below (T6.setTop (mkF m 5 #[.val (.ref a1), .val (.ref a1), .val (.ref w5)] [])) _
    refine XS.aloadN X6.here hx rfl (hb hby d2_5) rfl rfl ?_
    show Steps p.tables e below (T6.setTop (mkF m 6 #[.val (.ref a1), .val (.ref a1), .val (.ref w5)] [(.ref w5)])) _
    refine XS.ifnullNo X6.here hx rfl (hb hby d2_6) rfl ?_
    show Steps p.tables e below (T6.setTop (mkF m 9 #[.val (.ref a1), .val (.ref a1), .val (.ref w5)] [])) _
    refine XS.aloadN X6.here hx rfl (hb hby d2_9) rfl rfl ?_
    show Steps p.tables e below (T6.setTop (mkF m 10 #[.val (.ref a1), .val (.ref a1), .val (.ref w5)] [(.ref w5)])) _
    refine XS.aloadN X6.here hx rfl (hb hby d2_10) rfl rfl ?_
    show Steps p.tables e below (T6.setTop (mkF m 11 #[.val (.ref a1), .val (.ref a1), .val (.ref w5)] [(.ref a1), (.ref w5)])) _
    refine Jvm.RoadKit.acmp (g := (mkF m 11 #[.val (.ref a1), .val (.ref a1), .val (.ref w5)] [(.ref a1), (.ref w5)])) X6 hx rfl rfl rfl (pc0 := 11) (pc' := 16) (same := false) rfl (hb hby d2_11) rfl (decide_eq_false fun q => P7 (Value.ref.inj q)) (by decide) (by decide) ?_
    show Steps p.tables e below (T6.setTop (mkF m 16 #[.val (.ref a1), .val (.ref a1), .val (.ref w5)] [])) _
    refine XS.aloadN X6.here hx rfl (hb hby d2_16) rfl rfl ?_
    show Steps p.tables e below (T6.setTop (mkF m 17 #[.val (.ref a1), .val (.ref a1), .val (.ref w5)] [(.ref w5)])) _
    refine st8 _ ?_
    show Steps p.tables e below (T8.setTop (mkF m 20 #[.val (.ref a1), .val (.ref a1), .val (.ref w5)] [.null])) _
    refine XS.astoreN X8.here hx rfl (hb hby d2_20) rfl rfl (l' := #[.val (.ref a1), .val (.ref a1), .val .null]) rfl ?_
    show Steps p.tables e below (T8.setTop (mkF m 21 #[.val (.ref a1), .val (.ref a1), .val .null] [])) _
    refine XS.goto X8.here hx rfl (pc0 := 21) (pc' := 5) rfl (hb hby d2_21) (by decide) (by decide) ?_
    show Steps p.tables e below (T8.setTop (mkF m 5 #[.val (.ref a1), .val (.ref a1), .val .null] [])) _
    refine XS.aloadN X8.here hx rfl (hb hby d2_5) rfl rfl ?_
    show Steps p.tables e below (T8.setTop (mkF m 6 #[.val (.ref a1), .val (.ref a1), .val .null] [.null])) _
    refine XS.ifnullYes X8.here hx rfl (pc0 := 6) (pc' := 24) rfl (hb hby d2_6) rfl (by decide) (by decide) ?_
    show Steps p.tables e below (T8.setTop (mkF m 24 #[.val (.ref a1), .val (.ref a1), .val .null] [])) _
    refine XS.iconst X8.here hx rfl (hb hby d2_24) ?_
    show Steps p.tables e below (T8.setTop (mkF m 25 #[.val (.ref a1), .val (.ref a1), .val .null] [(.int (0 : Int32))])) _
    exact retN X8 hx (t := .boolean) Bd.returns (by simp) (hb hby d2_25) hr
  · show Q2_8 Z a1 w2 w5 h0 n0 _ T8.heap _
    rw [e8]
    exact ⟨rfl, N0, rfl⟩
theorem own_dead_1 (i0 : Int32) (i1 : Int32) (hc1 : ((i0 &&& (2147483647 : Int32)) % (7 : Int32)) = (0 : Int32)) (hc2 : ((i1 &&& (2147483647 : Int32)) % (7 : Int32)) = (0 : Int32)) (hc3 : ((i0 &&& (2147483647 : Int32)) % (7 : Int32)) = (1 : Int32)) : False := by
  have q1 := rng32 i0
  have q2 : (i0 &&& (2147483647 : Int32)).toInt = i0.toInt % 2147483648 := Jvm.Kit.i32_mask i0 (2147483647 : Int32) (k := 31) (by decide) (by decide)
  have q3 := rng32 (i0 &&& (2147483647 : Int32))
  have q4 : (7 : Int32).toInt = 7 := rfl
  have q5 : ((i0 &&& (2147483647 : Int32)) % (7 : Int32)).toInt = (i0 &&& (2147483647 : Int32)).toInt % 7 := Jvm.Kit.i32_rem_nonneg (y := (7 : Int32)) (by omega)
  have q6 := rng32 ((i0 &&& (2147483647 : Int32)) % (7 : Int32))
  have q7 : (0 : Int32).toInt = 0 := rfl
  have q8 := congrArg Int32.toInt hc1
  have q9 := rng32 i1
  have q10 : (i1 &&& (2147483647 : Int32)).toInt = i1.toInt % 2147483648 := Jvm.Kit.i32_mask i1 (2147483647 : Int32) (k := 31) (by decide) (by decide)
  have q11 := rng32 (i1 &&& (2147483647 : Int32))
  have q12 : ((i1 &&& (2147483647 : Int32)) % (7 : Int32)).toInt = (i1 &&& (2147483647 : Int32)).toInt % 7 := Jvm.Kit.i32_rem_nonneg (y := (7 : Int32)) (by omega)
  have q13 := rng32 ((i1 &&& (2147483647 : Int32)) % (7 : Int32))
  have q14 := congrArg Int32.toInt hc2
  have q15 : (1 : Int32).toInt = 1 := rfl
  have q16 := congrArg Int32.toInt hc3
  omega
theorem own_dead_2 (i0 : Int32) (i1 : Int32) (hc1 : ((i0 &&& (2147483647 : Int32)) % (7 : Int32)) = (0 : Int32)) (hc2 : ((i1 &&& (2147483647 : Int32)) % (7 : Int32)) = (0 : Int32)) (hc3 : ¬ (((i0 &&& (2147483647 : Int32)) % (7 : Int32)) = (1 : Int32))) (hc4 : ((i0 &&& (2147483647 : Int32)) % (7 : Int32)) = (2 : Int32)) : False := by
  have q1 := rng32 i0
  have q2 : (i0 &&& (2147483647 : Int32)).toInt = i0.toInt % 2147483648 := Jvm.Kit.i32_mask i0 (2147483647 : Int32) (k := 31) (by decide) (by decide)
  have q3 := rng32 (i0 &&& (2147483647 : Int32))
  have q4 : (7 : Int32).toInt = 7 := rfl
  have q5 : ((i0 &&& (2147483647 : Int32)) % (7 : Int32)).toInt = (i0 &&& (2147483647 : Int32)).toInt % 7 := Jvm.Kit.i32_rem_nonneg (y := (7 : Int32)) (by omega)
  have q6 := rng32 ((i0 &&& (2147483647 : Int32)) % (7 : Int32))
  have q7 : (0 : Int32).toInt = 0 := rfl
  have q8 := congrArg Int32.toInt hc1
  have q9 := rng32 i1
  have q10 : (i1 &&& (2147483647 : Int32)).toInt = i1.toInt % 2147483648 := Jvm.Kit.i32_mask i1 (2147483647 : Int32) (k := 31) (by decide) (by decide)
  have q11 := rng32 (i1 &&& (2147483647 : Int32))
  have q12 : ((i1 &&& (2147483647 : Int32)) % (7 : Int32)).toInt = (i1 &&& (2147483647 : Int32)).toInt % 7 := Jvm.Kit.i32_rem_nonneg (y := (7 : Int32)) (by omega)
  have q13 := rng32 ((i1 &&& (2147483647 : Int32)) % (7 : Int32))
  have q14 := congrArg Int32.toInt hc2
  have q15 : (1 : Int32).toInt = 1 := rfl
  have q16 := mt (fun z : (((i0 &&& (2147483647 : Int32)) % (7 : Int32))).toInt = ((1 : Int32)).toInt => Int32.toInt_inj.mp z) hc3
  have q17 : (2 : Int32).toInt = 2 := rfl
  have q18 := congrArg Int32.toInt hc4
  omega
theorem own_dead_3 (i0 : Int32) (i1 : Int32) (hc1 : ((i0 &&& (2147483647 : Int32)) % (7 : Int32)) = (0 : Int32)) (hc2 : ¬ (((i1 &&& (2147483647 : Int32)) % (7 : Int32)) = (0 : Int32))) (hc5 : ((i1 &&& (2147483647 : Int32)) % (7 : Int32)) = (1 : Int32)) (hc6 : ((i0 &&& (2147483647 : Int32)) % (7 : Int32)) = (1 : Int32)) : False := by
  have q1 := rng32 i0
  have q2 : (i0 &&& (2147483647 : Int32)).toInt = i0.toInt % 2147483648 := Jvm.Kit.i32_mask i0 (2147483647 : Int32) (k := 31) (by decide) (by decide)
  have q3 := rng32 (i0 &&& (2147483647 : Int32))
  have q4 : (7 : Int32).toInt = 7 := rfl
  have q5 : ((i0 &&& (2147483647 : Int32)) % (7 : Int32)).toInt = (i0 &&& (2147483647 : Int32)).toInt % 7 := Jvm.Kit.i32_rem_nonneg (y := (7 : Int32)) (by omega)
  have q6 := rng32 ((i0 &&& (2147483647 : Int32)) % (7 : Int32))
  have q7 : (0 : Int32).toInt = 0 := rfl
  have q8 := congrArg Int32.toInt hc1
  have q9 := rng32 i1
  have q10 : (i1 &&& (2147483647 : Int32)).toInt = i1.toInt % 2147483648 := Jvm.Kit.i32_mask i1 (2147483647 : Int32) (k := 31) (by decide) (by decide)
  have q11 := rng32 (i1 &&& (2147483647 : Int32))
  have q12 : ((i1 &&& (2147483647 : Int32)) % (7 : Int32)).toInt = (i1 &&& (2147483647 : Int32)).toInt % 7 := Jvm.Kit.i32_rem_nonneg (y := (7 : Int32)) (by omega)
  have q13 := rng32 ((i1 &&& (2147483647 : Int32)) % (7 : Int32))
  have q14 := mt (fun z : (((i1 &&& (2147483647 : Int32)) % (7 : Int32))).toInt = ((0 : Int32)).toInt => Int32.toInt_inj.mp z) hc2
  have q15 : (1 : Int32).toInt = 1 := rfl
  have q16 := congrArg Int32.toInt hc5
  have q17 := congrArg Int32.toInt hc6
  omega
theorem own_dead_4 (i0 : Int32) (i1 : Int32) (hc1 : ((i0 &&& (2147483647 : Int32)) % (7 : Int32)) = (0 : Int32)) (hc2 : ¬ (((i1 &&& (2147483647 : Int32)) % (7 : Int32)) = (0 : Int32))) (hc5 : ((i1 &&& (2147483647 : Int32)) % (7 : Int32)) = (1 : Int32)) (hc6 : ¬ (((i0 &&& (2147483647 : Int32)) % (7 : Int32)) = (1 : Int32))) (hc7 : ((i0 &&& (2147483647 : Int32)) % (7 : Int32)) = (2 : Int32)) : False := by
  have q1 := rng32 i0
  have q2 : (i0 &&& (2147483647 : Int32)).toInt = i0.toInt % 2147483648 := Jvm.Kit.i32_mask i0 (2147483647 : Int32) (k := 31) (by decide) (by decide)
  have q3 := rng32 (i0 &&& (2147483647 : Int32))
  have q4 : (7 : Int32).toInt = 7 := rfl
  have q5 : ((i0 &&& (2147483647 : Int32)) % (7 : Int32)).toInt = (i0 &&& (2147483647 : Int32)).toInt % 7 := Jvm.Kit.i32_rem_nonneg (y := (7 : Int32)) (by omega)
  have q6 := rng32 ((i0 &&& (2147483647 : Int32)) % (7 : Int32))
  have q7 : (0 : Int32).toInt = 0 := rfl
  have q8 := congrArg Int32.toInt hc1
  have q9 := rng32 i1
  have q10 : (i1 &&& (2147483647 : Int32)).toInt = i1.toInt % 2147483648 := Jvm.Kit.i32_mask i1 (2147483647 : Int32) (k := 31) (by decide) (by decide)
  have q11 := rng32 (i1 &&& (2147483647 : Int32))
  have q12 : ((i1 &&& (2147483647 : Int32)) % (7 : Int32)).toInt = (i1 &&& (2147483647 : Int32)).toInt % 7 := Jvm.Kit.i32_rem_nonneg (y := (7 : Int32)) (by omega)
  have q13 := rng32 ((i1 &&& (2147483647 : Int32)) % (7 : Int32))
  have q14 := mt (fun z : (((i1 &&& (2147483647 : Int32)) % (7 : Int32))).toInt = ((0 : Int32)).toInt => Int32.toInt_inj.mp z) hc2
  have q15 : (1 : Int32).toInt = 1 := rfl
  have q16 := congrArg Int32.toInt hc5
  have q17 := mt (fun z : (((i0 &&& (2147483647 : Int32)) % (7 : Int32))).toInt = ((1 : Int32)).toInt => Int32.toInt_inj.mp z) hc6
  have q18 : (2 : Int32).toInt = 2 := rfl
  have q19 := congrArg Int32.toInt hc7
  omega
theorem own_dead_5 (i0 : Int32) (i1 : Int32) (hc1 : ((i0 &&& (2147483647 : Int32)) % (7 : Int32)) = (0 : Int32)) (hc2 : ¬ (((i1 &&& (2147483647 : Int32)) % (7 : Int32)) = (0 : Int32))) (hc5 : ¬ (((i1 &&& (2147483647 : Int32)) % (7 : Int32)) = (1 : Int32))) (hc8 : ((i1 &&& (2147483647 : Int32)) % (7 : Int32)) = (2 : Int32)) (hc9 : ((i0 &&& (2147483647 : Int32)) % (7 : Int32)) = (1 : Int32)) : False := by
  have q1 := rng32 i0
  have q2 : (i0 &&& (2147483647 : Int32)).toInt = i0.toInt % 2147483648 := Jvm.Kit.i32_mask i0 (2147483647 : Int32) (k := 31) (by decide) (by decide)
  have q3 := rng32 (i0 &&& (2147483647 : Int32))
  have q4 : (7 : Int32).toInt = 7 := rfl
  have q5 : ((i0 &&& (2147483647 : Int32)) % (7 : Int32)).toInt = (i0 &&& (2147483647 : Int32)).toInt % 7 := Jvm.Kit.i32_rem_nonneg (y := (7 : Int32)) (by omega)
  have q6 := rng32 ((i0 &&& (2147483647 : Int32)) % (7 : Int32))
  have q7 : (0 : Int32).toInt = 0 := rfl
  have q8 := congrArg Int32.toInt hc1
  have q9 := rng32 i1
  have q10 : (i1 &&& (2147483647 : Int32)).toInt = i1.toInt % 2147483648 := Jvm.Kit.i32_mask i1 (2147483647 : Int32) (k := 31) (by decide) (by decide)
  have q11 := rng32 (i1 &&& (2147483647 : Int32))
  have q12 : ((i1 &&& (2147483647 : Int32)) % (7 : Int32)).toInt = (i1 &&& (2147483647 : Int32)).toInt % 7 := Jvm.Kit.i32_rem_nonneg (y := (7 : Int32)) (by omega)
  have q13 := rng32 ((i1 &&& (2147483647 : Int32)) % (7 : Int32))
  have q14 := mt (fun z : (((i1 &&& (2147483647 : Int32)) % (7 : Int32))).toInt = ((0 : Int32)).toInt => Int32.toInt_inj.mp z) hc2
  have q15 : (1 : Int32).toInt = 1 := rfl
  have q16 := mt (fun z : (((i1 &&& (2147483647 : Int32)) % (7 : Int32))).toInt = ((1 : Int32)).toInt => Int32.toInt_inj.mp z) hc5
  have q17 : (2 : Int32).toInt = 2 := rfl
  have q18 := congrArg Int32.toInt hc8
  have q19 := congrArg Int32.toInt hc9
  omega
theorem own_dead_6 (i0 : Int32) (i1 : Int32) (hc1 : ((i0 &&& (2147483647 : Int32)) % (7 : Int32)) = (0 : Int32)) (hc2 : ¬ (((i1 &&& (2147483647 : Int32)) % (7 : Int32)) = (0 : Int32))) (hc5 : ¬ (((i1 &&& (2147483647 : Int32)) % (7 : Int32)) = (1 : Int32))) (hc8 : ((i1 &&& (2147483647 : Int32)) % (7 : Int32)) = (2 : Int32)) (hc9 : ¬ (((i0 &&& (2147483647 : Int32)) % (7 : Int32)) = (1 : Int32))) (hc10 : ((i0 &&& (2147483647 : Int32)) % (7 : Int32)) = (2 : Int32)) : False := by
  have q1 := rng32 i0
  have q2 : (i0 &&& (2147483647 : Int32)).toInt = i0.toInt % 2147483648 := Jvm.Kit.i32_mask i0 (2147483647 : Int32) (k := 31) (by decide) (by decide)
  have q3 := rng32 (i0 &&& (2147483647 : Int32))
  have q4 : (7 : Int32).toInt = 7 := rfl
  have q5 : ((i0 &&& (2147483647 : Int32)) % (7 : Int32)).toInt = (i0 &&& (2147483647 : Int32)).toInt % 7 := Jvm.Kit.i32_rem_nonneg (y := (7 : Int32)) (by omega)
  have q6 := rng32 ((i0 &&& (2147483647 : Int32)) % (7 : Int32))
  have q7 : (0 : Int32).toInt = 0 := rfl
  have q8 := congrArg Int32.toInt hc1
  have q9 := rng32 i1
  have q10 : (i1 &&& (2147483647 : Int32)).toInt = i1.toInt % 2147483648 := Jvm.Kit.i32_mask i1 (2147483647 : Int32) (k := 31) (by decide) (by decide)
  have q11 := rng32 (i1 &&& (2147483647 : Int32))
  have q12 : ((i1 &&& (2147483647 : Int32)) % (7 : Int32)).toInt = (i1 &&& (2147483647 : Int32)).toInt % 7 := Jvm.Kit.i32_rem_nonneg (y := (7 : Int32)) (by omega)
  have q13 := rng32 ((i1 &&& (2147483647 : Int32)) % (7 : Int32))
  have q14 := mt (fun z : (((i1 &&& (2147483647 : Int32)) % (7 : Int32))).toInt = ((0 : Int32)).toInt => Int32.toInt_inj.mp z) hc2
  have q15 : (1 : Int32).toInt = 1 := rfl
  have q16 := mt (fun z : (((i1 &&& (2147483647 : Int32)) % (7 : Int32))).toInt = ((1 : Int32)).toInt => Int32.toInt_inj.mp z) hc5
  have q17 : (2 : Int32).toInt = 2 := rfl
  have q18 := congrArg Int32.toInt hc8
  have q19 := mt (fun z : (((i0 &&& (2147483647 : Int32)) % (7 : Int32))).toInt = ((1 : Int32)).toInt => Int32.toInt_inj.mp z) hc9
  have q20 := congrArg Int32.toInt hc10
  omega
theorem own_dead_7 (i0 : Int32) (i1 : Int32) (hc1 : ((i0 &&& (2147483647 : Int32)) % (7 : Int32)) = (0 : Int32)) (hc2 : ¬ (((i1 &&& (2147483647 : Int32)) % (7 : Int32)) = (0 : Int32))) (hc5 : ¬ (((i1 &&& (2147483647 : Int32)) % (7 : Int32)) = (1 : Int32))) (hc8 : ¬ (((i1 &&& (2147483647 : Int32)) % (7 : Int32)) = (2 : Int32))) (hc11 : ((i1 &&& (2147483647 : Int32)) % (7 : Int32)) = (3 : Int32)) (hc12 : ((i0 &&& (2147483647 : Int32)) % (7 : Int32)) = (1 : Int32)) : False := by
  have q1 := rng32 i0
  have q2 : (i0 &&& (2147483647 : Int32)).toInt = i0.toInt % 2147483648 := Jvm.Kit.i32_mask i0 (2147483647 : Int32) (k := 31) (by decide) (by decide)
  have q3 := rng32 (i0 &&& (2147483647 : Int32))
  have q4 : (7 : Int32).toInt = 7 := rfl
  have q5 : ((i0 &&& (2147483647 : Int32)) % (7 : Int32)).toInt = (i0 &&& (2147483647 : Int32)).toInt % 7 := Jvm.Kit.i32_rem_nonneg (y := (7 : Int32)) (by omega)
  have q6 := rng32 ((i0 &&& (2147483647 : Int32)) % (7 : Int32))
  have q7 : (0 : Int32).toInt = 0 := rfl
  have q8 := congrArg Int32.toInt hc1
  have q9 := rng32 i1
  have q10 : (i1 &&& (2147483647 : Int32)).toInt = i1.toInt % 2147483648 := Jvm.Kit.i32_mask i1 (2147483647 : Int32) (k := 31) (by decide) (by decide)
  have q11 := rng32 (i1 &&& (2147483647 : Int32))
  have q12 : ((i1 &&& (2147483647 : Int32)) % (7 : Int32)).toInt = (i1 &&& (2147483647 : Int32)).toInt % 7 := Jvm.Kit.i32_rem_nonneg (y := (7 : Int32)) (by omega)
  have q13 := rng32 ((i1 &&& (2147483647 : Int32)) % (7 : Int32))
  have q14 := mt (fun z : (((i1 &&& (2147483647 : Int32)) % (7 : Int32))).toInt = ((0 : Int32)).toInt => Int32.toInt_inj.mp z) hc2
  have q15 : (1 : Int32).toInt = 1 := rfl
  have q16 := mt (fun z : (((i1 &&& (2147483647 : Int32)) % (7 : Int32))).toInt = ((1 : Int32)).toInt => Int32.toInt_inj.mp z) hc5
  have q17 : (2 : Int32).toInt = 2 := rfl
  have q18 := mt (fun z : (((i1 &&& (2147483647 : Int32)) % (7 : Int32))).toInt = ((2 : Int32)).toInt => Int32.toInt_inj.mp z) hc8
  have q19 : (3 : Int32).toInt = 3 := rfl
  have q20 := congrArg Int32.toInt hc11
  have q21 := congrArg Int32.toInt hc12
  omega
theorem own_dead_8 (i0 : Int32) (i1 : Int32) (hc1 : ((i0 &&& (2147483647 : Int32)) % (7 : Int32)) = (0 : Int32)) (hc2 : ¬ (((i1 &&& (2147483647 : Int32)) % (7 : Int32)) = (0 : Int32))) (hc5 : ¬ (((i1 &&& (2147483647 : Int32)) % (7 : Int32)) = (1 : Int32))) (hc8 : ¬ (((i1 &&& (2147483647 : Int32)) % (7 : Int32)) = (2 : Int32))) (hc11 : ((i1 &&& (2147483647 : Int32)) % (7 : Int32)) = (3 : Int32)) (hc12 : ¬ (((i0 &&& (2147483647 : Int32)) % (7 : Int32)) = (1 : Int32))) (hc13 : ((i0 &&& (2147483647 : Int32)) % (7 : Int32)) = (2 : Int32)) : False := by
  have q1 := rng32 i0
  have q2 : (i0 &&& (2147483647 : Int32)).toInt = i0.toInt % 2147483648 := Jvm.Kit.i32_mask i0 (2147483647 : Int32) (k := 31) (by decide) (by decide)
  have q3 := rng32 (i0 &&& (2147483647 : Int32))
  have q4 : (7 : Int32).toInt = 7 := rfl
  have q5 : ((i0 &&& (2147483647 : Int32)) % (7 : Int32)).toInt = (i0 &&& (2147483647 : Int32)).toInt % 7 := Jvm.Kit.i32_rem_nonneg (y := (7 : Int32)) (by omega)
  have q6 := rng32 ((i0 &&& (2147483647 : Int32)) % (7 : Int32))
  have q7 : (0 : Int32).toInt = 0 := rfl
  have q8 := congrArg Int32.toInt hc1
  have q9 := rng32 i1
  have q10 : (i1 &&& (2147483647 : Int32)).toInt = i1.toInt % 2147483648 := Jvm.Kit.i32_mask i1 (2147483647 : Int32) (k := 31) (by decide) (by decide)
  have q11 := rng32 (i1 &&& (2147483647 : Int32))
  have q12 : ((i1 &&& (2147483647 : Int32)) % (7 : Int32)).toInt = (i1 &&& (2147483647 : Int32)).toInt % 7 := Jvm.Kit.i32_rem_nonneg (y := (7 : Int32)) (by omega)
  have q13 := rng32 ((i1 &&& (2147483647 : Int32)) % (7 : Int32))
  have q14 := mt (fun z : (((i1 &&& (2147483647 : Int32)) % (7 : Int32))).toInt = ((0 : Int32)).toInt => Int32.toInt_inj.mp z) hc2
  have q15 : (1 : Int32).toInt = 1 := rfl
  have q16 := mt (fun z : (((i1 &&& (2147483647 : Int32)) % (7 : Int32))).toInt = ((1 : Int32)).toInt => Int32.toInt_inj.mp z) hc5
  have q17 : (2 : Int32).toInt = 2 := rfl
  have q18 := mt (fun z : (((i1 &&& (2147483647 : Int32)) % (7 : Int32))).toInt = ((2 : Int32)).toInt => Int32.toInt_inj.mp z) hc8
  have q19 : (3 : Int32).toInt = 3 := rfl
  have q20 := congrArg Int32.toInt hc11
  have q21 := mt (fun z : (((i0 &&& (2147483647 : Int32)) % (7 : Int32))).toInt = ((1 : Int32)).toInt => Int32.toInt_inj.mp z) hc12
  have q22 := congrArg Int32.toInt hc13
  omega
theorem own_dead_9 (i0 : Int32) (i1 : Int32) (hc1 : ((i0 &&& (2147483647 : Int32)) % (7 : Int32)) = (0 : Int32)) (hc2 : ¬ (((i1 &&& (2147483647 : Int32)) % (7 : Int32)) = (0 : Int32))) (hc5 : ¬ (((i1 &&& (2147483647 : Int32)) % (7 : Int32)) = (1 : Int32))) (hc8 : ¬ (((i1 &&& (2147483647 : Int32)) % (7 : Int32)) = (2 : Int32))) (hc11 : ¬ (((i1 &&& (2147483647 : Int32)) % (7 : Int32)) = (3 : Int32))) (hc14 : ((i1 &&& (2147483647 : Int32)) % (7 : Int32)) = (4 : Int32)) (hc15 : ((i0 &&& (2147483647 : Int32)) % (7 : Int32)) = (1 : Int32)) : False := by
  have q1 := rng32 i0
  have q2 : (i0 &&& (2147483647 : Int32)).toInt = i0.toInt % 2147483648 := Jvm.Kit.i32_mask i0 (2147483647 : Int32) (k := 31) (by decide) (by decide)
  have q3 := rng32 (i0 &&& (2147483647 : Int32))
  have q4 : (7 : Int32).toInt = 7 := rfl
  have q5 : ((i0 &&& (2147483647 : Int32)) % (7 : Int32)).toInt = (i0 &&& (2147483647 : Int32)).toInt % 7 := Jvm.Kit.i32_rem_nonneg (y := (7 : Int32)) (by omega)
  have q6 := rng32 ((i0 &&& (2147483647 : Int32)) % (7 : Int32))
  have q7 : (0 : Int32).toInt = 0 := rfl
  have q8 := congrArg Int32.toInt hc1
  have q9 := rng32 i1
  have q10 : (i1 &&& (2147483647 : Int32)).toInt = i1.toInt % 2147483648 := Jvm.Kit.i32_mask i1 (2147483647 : Int32) (k := 31) (by decide) (by decide)
  have q11 := rng32 (i1 &&& (2147483647 : Int32))
  have q12 : ((i1 &&& (2147483647 : Int32)) % (7 : Int32)).toInt = (i1 &&& (2147483647 : Int32)).toInt % 7 := Jvm.Kit.i32_rem_nonneg (y := (7 : Int32)) (by omega)
  have q13 := rng32 ((i1 &&& (2147483647 : Int32)) % (7 : Int32))
  have q14 := mt (fun z : (((i1 &&& (2147483647 : Int32)) % (7 : Int32))).toInt = ((0 : Int32)).toInt => Int32.toInt_inj.mp z) hc2
  have q15 : (1 : Int32).toInt = 1 := rfl
  have q16 := mt (fun z : (((i1 &&& (2147483647 : Int32)) % (7 : Int32))).toInt = ((1 : Int32)).toInt => Int32.toInt_inj.mp z) hc5
  have q17 : (2 : Int32).toInt = 2 := rfl
  have q18 := mt (fun z : (((i1 &&& (2147483647 : Int32)) % (7 : Int32))).toInt = ((2 : Int32)).toInt => Int32.toInt_inj.mp z) hc8
  have q19 : (3 : Int32).toInt = 3 := rfl
  have q20 := mt (fun z : (((i1 &&& (2147483647 : Int32)) % (7 : Int32))).toInt = ((3 : Int32)).toInt => Int32.toInt_inj.mp z) hc11
  have q21 : (4 : Int32).toInt = 4 := rfl
  have q22 := congrArg Int32.toInt hc14
  have q23 := congrArg Int32.toInt hc15
  omega
theorem own_dead_10 (i0 : Int32) (i1 : Int32) (hc1 : ((i0 &&& (2147483647 : Int32)) % (7 : Int32)) = (0 : Int32)) (hc2 : ¬ (((i1 &&& (2147483647 : Int32)) % (7 : Int32)) = (0 : Int32))) (hc5 : ¬ (((i1 &&& (2147483647 : Int32)) % (7 : Int32)) = (1 : Int32))) (hc8 : ¬ (((i1 &&& (2147483647 : Int32)) % (7 : Int32)) = (2 : Int32))) (hc11 : ¬ (((i1 &&& (2147483647 : Int32)) % (7 : Int32)) = (3 : Int32))) (hc14 : ((i1 &&& (2147483647 : Int32)) % (7 : Int32)) = (4 : Int32)) (hc15 : ¬ (((i0 &&& (2147483647 : Int32)) % (7 : Int32)) = (1 : Int32))) (hc16 : ((i0 &&& (2147483647 : Int32)) % (7 : Int32)) = (2 : Int32)) : False := by
  have q1 := rng32 i0
  have q2 : (i0 &&& (2147483647 : Int32)).toInt = i0.toInt % 2147483648 := Jvm.Kit.i32_mask i0 (2147483647 : Int32) (k := 31) (by decide) (by decide)
  have q3 := rng32 (i0 &&& (2147483647 : Int32))
  have q4 : (7 : Int32).toInt = 7 := rfl
  have q5 : ((i0 &&& (2147483647 : Int32)) % (7 : Int32)).toInt = (i0 &&& (2147483647 : Int32)).toInt % 7 := Jvm.Kit.i32_rem_nonneg (y := (7 : Int32)) (by omega)
  have q6 := rng32 ((i0 &&& (2147483647 : Int32)) % (7 : Int32))
  have q7 : (0 : Int32).toInt = 0 := rfl
  have q8 := congrArg Int32.toInt hc1
  have q9 := rng32 i1
  have q10 : (i1 &&& (2147483647 : Int32)).toInt = i1.toInt % 2147483648 := Jvm.Kit.i32_mask i1 (2147483647 : Int32) (k := 31) (by decide) (by decide)
  have q11 := rng32 (i1 &&& (2147483647 : Int32))
  have q12 : ((i1 &&& (2147483647 : Int32)) % (7 : Int32)).toInt = (i1 &&& (2147483647 : Int32)).toInt % 7 := Jvm.Kit.i32_rem_nonneg (y := (7 : Int32)) (by omega)
  have q13 := rng32 ((i1 &&& (2147483647 : Int32)) % (7 : Int32))
  have q14 := mt (fun z : (((i1 &&& (2147483647 : Int32)) % (7 : Int32))).toInt = ((0 : Int32)).toInt => Int32.toInt_inj.mp z) hc2
  have q15 : (1 : Int32).toInt = 1 := rfl
  have q16 := mt (fun z : (((i1 &&& (2147483647 : Int32)) % (7 : Int32))).toInt = ((1 : Int32)).toInt => Int32.toInt_inj.mp z) hc5
  have q17 : (2 : Int32).toInt = 2 := rfl
  have q18 := mt (fun z : (((i1 &&& (2147483647 : Int32)) % (7 : Int32))).toInt = ((2 : Int32)).toInt => Int32.toInt_inj.mp z) hc8
  have q19 : (3 : Int32).toInt = 3 := rfl
  have q20 := mt (fun z : (((i1 &&& (2147483647 : Int32)) % (7 : Int32))).toInt = ((3 : Int32)).toInt => Int32.toInt_inj.mp z) hc11
  have q21 : (4 : Int32).toInt = 4 := rfl
  have q22 := congrArg Int32.toInt hc14
  have q23 := mt (fun z : (((i0 &&& (2147483647 : Int32)) % (7 : Int32))).toInt = ((1 : Int32)).toInt => Int32.toInt_inj.mp z) hc15
  have q24 := congrArg Int32.toInt hc16
  omega
theorem own_dead_11 (i0 : Int32) (i1 : Int32) (hc1 : ((i0 &&& (2147483647 : Int32)) % (7 : Int32)) = (0 : Int32)) (hc2 : ¬ (((i1 &&& (2147483647 : Int32)) % (7 : Int32)) = (0 : Int32))) (hc5 : ¬ (((i1 &&& (2147483647 : Int32)) % (7 : Int32)) = (1 : Int32))) (hc8 : ¬ (((i1 &&& (2147483647 : Int32)) % (7 : Int32)) = (2 : Int32))) (hc11 : ¬ (((i1 &&& (2147483647 : Int32)) % (7 : Int32)) = (3 : Int32))) (hc14 : ¬ (((i1 &&& (2147483647 : Int32)) % (7 : Int32)) = (4 : Int32))) (hc17 : ((i1 &&& (2147483647 : Int32)) % (7 : Int32)) = (5 : Int32)) (hc18 : ((i0 &&& (2147483647 : Int32)) % (7 : Int32)) = (1 : Int32)) : False := by
  have q1 := rng32 i0
  have q2 : (i0 &&& (2147483647 : Int32)).toInt = i0.toInt % 2147483648 := Jvm.Kit.i32_mask i0 (2147483647 : Int32) (k := 31) (by decide) (by decide)
  have q3 := rng32 (i0 &&& (2147483647 : Int32))
  have q4 : (7 : Int32).toInt = 7 := rfl
  have q5 : ((i0 &&& (2147483647 : Int32)) % (7 : Int32)).toInt = (i0 &&& (2147483647 : Int32)).toInt % 7 := Jvm.Kit.i32_rem_nonneg (y := (7 : Int32)) (by omega)
  have q6 := rng32 ((i0 &&& (2147483647 : Int32)) % (7 : Int32))
  have q7 : (0 : Int32).toInt = 0 := rfl
  have q8 := congrArg Int32.toInt hc1
  have q9 := rng32 i1
  have q10 : (i1 &&& (2147483647 : Int32)).toInt = i1.toInt % 2147483648 := Jvm.Kit.i32_mask i1 (2147483647 : Int32) (k := 31) (by decide) (by decide)
  have q11 := rng32 (i1 &&& (2147483647 : Int32))
  have q12 : ((i1 &&& (2147483647 : Int32)) % (7 : Int32)).toInt = (i1 &&& (2147483647 : Int32)).toInt % 7 := Jvm.Kit.i32_rem_nonneg (y := (7 : Int32)) (by omega)
  have q13 := rng32 ((i1 &&& (2147483647 : Int32)) % (7 : Int32))
  have q14 := mt (fun z : (((i1 &&& (2147483647 : Int32)) % (7 : Int32))).toInt = ((0 : Int32)).toInt => Int32.toInt_inj.mp z) hc2
  have q15 : (1 : Int32).toInt = 1 := rfl
  have q16 := mt (fun z : (((i1 &&& (2147483647 : Int32)) % (7 : Int32))).toInt = ((1 : Int32)).toInt => Int32.toInt_inj.mp z) hc5
  have q17 : (2 : Int32).toInt = 2 := rfl
  have q18 := mt (fun z : (((i1 &&& (2147483647 : Int32)) % (7 : Int32))).toInt = ((2 : Int32)).toInt => Int32.toInt_inj.mp z) hc8
  have q19 : (3 : Int32).toInt = 3 := rfl
  have q20 := mt (fun z : (((i1 &&& (2147483647 : Int32)) % (7 : Int32))).toInt = ((3 : Int32)).toInt => Int32.toInt_inj.mp z) hc11
  have q21 : (4 : Int32).toInt = 4 := rfl
  have q22 := mt (fun z : (((i1 &&& (2147483647 : Int32)) % (7 : Int32))).toInt = ((4 : Int32)).toInt => Int32.toInt_inj.mp z) hc14
  have q23 : (5 : Int32).toInt = 5 := rfl
  have q24 := congrArg Int32.toInt hc17
  have q25 := congrArg Int32.toInt hc18
  omega
theorem own_dead_12 (i0 : Int32) (i1 : Int32) (hc1 : ((i0 &&& (2147483647 : Int32)) % (7 : Int32)) = (0 : Int32)) (hc2 : ¬ (((i1 &&& (2147483647 : Int32)) % (7 : Int32)) = (0 : Int32))) (hc5 : ¬ (((i1 &&& (2147483647 : Int32)) % (7 : Int32)) = (1 : Int32))) (hc8 : ¬ (((i1 &&& (2147483647 : Int32)) % (7 : Int32)) = (2 : Int32))) (hc11 : ¬ (((i1 &&& (2147483647 : Int32)) % (7 : Int32)) = (3 : Int32))) (hc14 : ¬ (((i1 &&& (2147483647 : Int32)) % (7 : Int32)) = (4 : Int32))) (hc17 : ((i1 &&& (2147483647 : Int32)) % (7 : Int32)) = (5 : Int32)) (hc18 : ¬ (((i0 &&& (2147483647 : Int32)) % (7 : Int32)) = (1 : Int32))) (hc19 : ((i0 &&& (2147483647 : Int32)) % (7 : Int32)) = (2 : Int32)) : False := by
  have q1 := rng32 i0
  have q2 : (i0 &&& (2147483647 : Int32)).toInt = i0.toInt % 2147483648 := Jvm.Kit.i32_mask i0 (2147483647 : Int32) (k := 31) (by decide) (by decide)
  have q3 := rng32 (i0 &&& (2147483647 : Int32))
  have q4 : (7 : Int32).toInt = 7 := rfl
  have q5 : ((i0 &&& (2147483647 : Int32)) % (7 : Int32)).toInt = (i0 &&& (2147483647 : Int32)).toInt % 7 := Jvm.Kit.i32_rem_nonneg (y := (7 : Int32)) (by omega)
  have q6 := rng32 ((i0 &&& (2147483647 : Int32)) % (7 : Int32))
  have q7 : (0 : Int32).toInt = 0 := rfl
  have q8 := congrArg Int32.toInt hc1
  have q9 := rng32 i1
  have q10 : (i1 &&& (2147483647 : Int32)).toInt = i1.toInt % 2147483648 := Jvm.Kit.i32_mask i1 (2147483647 : Int32) (k := 31) (by decide) (by decide)
  have q11 := rng32 (i1 &&& (2147483647 : Int32))
  have q12 : ((i1 &&& (2147483647 : Int32)) % (7 : Int32)).toInt = (i1 &&& (2147483647 : Int32)).toInt % 7 := Jvm.Kit.i32_rem_nonneg (y := (7 : Int32)) (by omega)
  have q13 := rng32 ((i1 &&& (2147483647 : Int32)) % (7 : Int32))
  have q14 := mt (fun z : (((i1 &&& (2147483647 : Int32)) % (7 : Int32))).toInt = ((0 : Int32)).toInt => Int32.toInt_inj.mp z) hc2
  have q15 : (1 : Int32).toInt = 1 := rfl
  have q16 := mt (fun z : (((i1 &&& (2147483647 : Int32)) % (7 : Int32))).toInt = ((1 : Int32)).toInt => Int32.toInt_inj.mp z) hc5
  have q17 : (2 : Int32).toInt = 2 := rfl
  have q18 := mt (fun z : (((i1 &&& (2147483647 : Int32)) % (7 : Int32))).toInt = ((2 : Int32)).toInt => Int32.toInt_inj.mp z) hc8
  have q19 : (3 : Int32).toInt = 3 := rfl
  have q20 := mt (fun z : (((i1 &&& (2147483647 : Int32)) % (7 : Int32))).toInt = ((3 : Int32)).toInt => Int32.toInt_inj.mp z) hc11
  have q21 : (4 : Int32).toInt = 4 := rfl
  have q22 := mt (fun z : (((i1 &&& (2147483647 : Int32)) % (7 : Int32))).toInt = ((4 : Int32)).toInt => Int32.toInt_inj.mp z) hc14
  have q23 : (5 : Int32).toInt = 5 := rfl
  have q24 := congrArg Int32.toInt hc17
  have q25 := mt (fun z : (((i0 &&& (2147483647 : Int32)) % (7 : Int32))).toInt = ((1 : Int32)).toInt => Int32.toInt_inj.mp z) hc18
  have q26 := congrArg Int32.toInt hc19
  omega
theorem own_dead_13 (i0 : Int32) (i1 : Int32) (hc1 : ((i0 &&& (2147483647 : Int32)) % (7 : Int32)) = (0 : Int32)) (hc2 : ¬ (((i1 &&& (2147483647 : Int32)) % (7 : Int32)) = (0 : Int32))) (hc5 : ¬ (((i1 &&& (2147483647 : Int32)) % (7 : Int32)) = (1 : Int32))) (hc8 : ¬ (((i1 &&& (2147483647 : Int32)) % (7 : Int32)) = (2 : Int32))) (hc11 : ¬ (((i1 &&& (2147483647 : Int32)) % (7 : Int32)) = (3 : Int32))) (hc14 : ¬ (((i1 &&& (2147483647 : Int32)) % (7 : Int32)) = (4 : Int32))) (hc17 : ¬ (((i1 &&& (2147483647 : Int32)) % (7 : Int32)) = (5 : Int32))) (hc20 : ((i0 &&& (2147483647 : Int32)) % (7 : Int32)) = (1 : Int32)) : False := by
  have q1 := rng32 i0
  have q2 : (i0 &&& (2147483647 : Int32)).toInt = i0.toInt % 2147483648 := Jvm.Kit.i32_mask i0 (2147483647 : Int32) (k := 31) (by decide) (by decide)
  have q3 := rng32 (i0 &&& (2147483647 : Int32))
  have q4 : (7 : Int32).toInt = 7 := rfl
  have q5 : ((i0 &&& (2147483647 : Int32)) % (7 : Int32)).toInt = (i0 &&& (2147483647 : Int32)).toInt % 7 := Jvm.Kit.i32_rem_nonneg (y := (7 : Int32)) (by omega)
  have q6 := rng32 ((i0 &&& (2147483647 : Int32)) % (7 : Int32))
  have q7 : (0 : Int32).toInt = 0 := rfl
  have q8 := congrArg Int32.toInt hc1
  have q9 := rng32 i1
  have q10 : (i1 &&& (2147483647 : Int32)).toInt = i1.toInt % 2147483648 := Jvm.Kit.i32_mask i1 (2147483647 : Int32) (k := 31) (by decide) (by decide)
  have q11 := rng32 (i1 &&& (2147483647 : Int32))
  have q12 : ((i1 &&& (2147483647 : Int32)) % (7 : Int32)).toInt = (i1 &&& (2147483647 : Int32)).toInt % 7 := Jvm.Kit.i32_rem_nonneg (y := (7 : Int32)) (by omega)
  have q13 := rng32 ((i1 &&& (2147483647 : Int32)) % (7 : Int32))
  have q14 := mt (fun z : (((i1 &&& (2147483647 : Int32)) % (7 : Int32))).toInt = ((0 : Int32)).toInt => Int32.toInt_inj.mp z) hc2
  have q15 : (1 : Int32).toInt = 1 := rfl
  have q16 := mt (fun z : (((i1 &&& (2147483647 : Int32)) % (7 : Int32))).toInt = ((1 : Int32)).toInt => Int32.toInt_inj.mp z) hc5
  have q17 : (2 : Int32).toInt = 2 := rfl
  have q18 := mt (fun z : (((i1 &&& (2147483647 : Int32)) % (7 : Int32))).toInt = ((2 : Int32)).toInt => Int32.toInt_inj.mp z) hc8
  have q19 : (3 : Int32).toInt = 3 := rfl
  have q20 := mt (fun z : (((i1 &&& (2147483647 : Int32)) % (7 : Int32))).toInt = ((3 : Int32)).toInt => Int32.toInt_inj.mp z) hc11
  have q21 : (4 : Int32).toInt = 4 := rfl
  have q22 := mt (fun z : (((i1 &&& (2147483647 : Int32)) % (7 : Int32))).toInt = ((4 : Int32)).toInt => Int32.toInt_inj.mp z) hc14
  have q23 : (5 : Int32).toInt = 5 := rfl
  have q24 := mt (fun z : (((i1 &&& (2147483647 : Int32)) % (7 : Int32))).toInt = ((5 : Int32)).toInt => Int32.toInt_inj.mp z) hc17
  have q25 := congrArg Int32.toInt hc20
  omega
theorem own_dead_14 (i0 : Int32) (i1 : Int32) (hc1 : ((i0 &&& (2147483647 : Int32)) % (7 : Int32)) = (0 : Int32)) (hc2 : ¬ (((i1 &&& (2147483647 : Int32)) % (7 : Int32)) = (0 : Int32))) (hc5 : ¬ (((i1 &&& (2147483647 : Int32)) % (7 : Int32)) = (1 : Int32))) (hc8 : ¬ (((i1 &&& (2147483647 : Int32)) % (7 : Int32)) = (2 : Int32))) (hc11 : ¬ (((i1 &&& (2147483647 : Int32)) % (7 : Int32)) = (3 : Int32))) (hc14 : ¬ (((i1 &&& (2147483647 : Int32)) % (7 : Int32)) = (4 : Int32))) (hc17 : ¬ (((i1 &&& (2147483647 : Int32)) % (7 : Int32)) = (5 : Int32))) (hc20 : ¬ (((i0 &&& (2147483647 : Int32)) % (7 : Int32)) = (1 : Int32))) (hc21 : ((i0 &&& (2147483647 : Int32)) % (7 : Int32)) = (2 : Int32)) : False := by
  have q1 := rng32 i0
  have q2 : (i0 &&& (2147483647 : Int32)).toInt = i0.toInt % 2147483648 := Jvm.Kit.i32_mask i0 (2147483647 : Int32) (k := 31) (by decide) (by decide)
  have q3 := rng32 (i0 &&& (2147483647 : Int32))
  have q4 : (7 : Int32).toInt = 7 := rfl
  have q5 : ((i0 &&& (2147483647 : Int32)) % (7 : Int32)).toInt = (i0 &&& (2147483647 : Int32)).toInt % 7 := Jvm.Kit.i32_rem_nonneg (y := (7 : Int32)) (by omega)
  have q6 := rng32 ((i0 &&& (2147483647 : Int32)) % (7 : Int32))
  have q7 : (0 : Int32).toInt = 0 := rfl
  have q8 := congrArg Int32.toInt hc1
  have q9 := rng32 i1
  have q10 : (i1 &&& (2147483647 : Int32)).toInt = i1.toInt % 2147483648 := Jvm.Kit.i32_mask i1 (2147483647 : Int32) (k := 31) (by decide) (by decide)
  have q11 := rng32 (i1 &&& (2147483647 : Int32))
  have q12 : ((i1 &&& (2147483647 : Int32)) % (7 : Int32)).toInt = (i1 &&& (2147483647 : Int32)).toInt % 7 := Jvm.Kit.i32_rem_nonneg (y := (7 : Int32)) (by omega)
  have q13 := rng32 ((i1 &&& (2147483647 : Int32)) % (7 : Int32))
  have q14 := mt (fun z : (((i1 &&& (2147483647 : Int32)) % (7 : Int32))).toInt = ((0 : Int32)).toInt => Int32.toInt_inj.mp z) hc2
  have q15 : (1 : Int32).toInt = 1 := rfl
  have q16 := mt (fun z : (((i1 &&& (2147483647 : Int32)) % (7 : Int32))).toInt = ((1 : Int32)).toInt => Int32.toInt_inj.mp z) hc5
  have q17 : (2 : Int32).toInt = 2 := rfl
  have q18 := mt (fun z : (((i1 &&& (2147483647 : Int32)) % (7 : Int32))).toInt = ((2 : Int32)).toInt => Int32.toInt_inj.mp z) hc8
  have q19 : (3 : Int32).toInt = 3 := rfl
  have q20 := mt (fun z : (((i1 &&& (2147483647 : Int32)) % (7 : Int32))).toInt = ((3 : Int32)).toInt => Int32.toInt_inj.mp z) hc11
  have q21 : (4 : Int32).toInt = 4 := rfl
  have q22 := mt (fun z : (((i1 &&& (2147483647 : Int32)) % (7 : Int32))).toInt = ((4 : Int32)).toInt => Int32.toInt_inj.mp z) hc14
  have q23 : (5 : Int32).toInt = 5 := rfl
  have q24 := mt (fun z : (((i1 &&& (2147483647 : Int32)) % (7 : Int32))).toInt = ((5 : Int32)).toInt => Int32.toInt_inj.mp z) hc17
  have q25 := mt (fun z : (((i0 &&& (2147483647 : Int32)) % (7 : Int32))).toInt = ((1 : Int32)).toInt => Int32.toInt_inj.mp z) hc20
  have q26 := congrArg Int32.toInt hc21
  omega
theorem own_dead_15 (i0 : Int32) (i1 : Int32) (hc1 : ¬ (((i0 &&& (2147483647 : Int32)) % (7 : Int32)) = (0 : Int32))) (hc22 : ((i0 &&& (2147483647 : Int32)) % (7 : Int32)) = (1 : Int32)) (hc23 : ((i1 &&& (2147483647 : Int32)) % (7 : Int32)) = (0 : Int32)) (hc24 : ¬ (((i1 &&& (2147483647 : Int32)) % (7 : Int32)) < (2 : Int32))) : False := by
  have q1 := rng32 i0
  have q2 : (i0 &&& (2147483647 : Int32)).toInt = i0.toInt % 2147483648 := Jvm.Kit.i32_mask i0 (2147483647 : Int32) (k := 31) (by decide) (by decide)
  have q3 := rng32 (i0 &&& (2147483647 : Int32))
  have q4 : (7 : Int32).toInt = 7 := rfl
  have q5 : ((i0 &&& (2147483647 : Int32)) % (7 : Int32)).toInt = (i0 &&& (2147483647 : Int32)).toInt % 7 := Jvm.Kit.i32_rem_nonneg (y := (7 : Int32)) (by omega)
  have q6 := rng32 ((i0 &&& (2147483647 : Int32)) % (7 : Int32))
  have q7 : (0 : Int32).toInt = 0 := rfl
  have q8 := mt (fun z : (((i0 &&& (2147483647 : Int32)) % (7 : Int32))).toInt = ((0 : Int32)).toInt => Int32.toInt_inj.mp z) hc1
  have q9 : (1 : Int32).toInt = 1 := rfl
  have q10 := congrArg Int32.toInt hc22
  have q11 := rng32 i1
  have q12 : (i1 &&& (2147483647 : Int32)).toInt = i1.toInt % 2147483648 := Jvm.Kit.i32_mask i1 (2147483647 : Int32) (k := 31) (by decide) (by decide)
  have q13 := rng32 (i1 &&& (2147483647 : Int32))
  have q14 : ((i1 &&& (2147483647 : Int32)) % (7 : Int32)).toInt = (i1 &&& (2147483647 : Int32)).toInt % 7 := Jvm.Kit.i32_rem_nonneg (y := (7 : Int32)) (by omega)
  have q15 := rng32 ((i1 &&& (2147483647 : Int32)) % (7 : Int32))
  have q16 := congrArg Int32.toInt hc23
  have q17 : (2 : Int32).toInt = 2 := rfl
  have q18 := mt Int32.lt_iff_toInt_lt.mpr hc24
  omega
theorem own_dead_16 (i0 : Int32) (i1 : Int32) (hc1 : ¬ (((i0 &&& (2147483647 : Int32)) % (7 : Int32)) = (0 : Int32))) (hc22 : ((i0 &&& (2147483647 : Int32)) % (7 : Int32)) = (1 : Int32)) (hc23 : ¬ (((i1 &&& (2147483647 : Int32)) % (7 : Int32)) = (0 : Int32))) (hc25 : ((i1 &&& (2147483647 : Int32)) % (7 : Int32)) = (1 : Int32)) (hc26 : ¬ (((i1 &&& (2147483647 : Int32)) % (7 : Int32)) < (2 : Int32))) : False := by
  have q1 := rng32 i0
  have q2 : (i0 &&& (2147483647 : Int32)).toInt = i0.toInt % 2147483648 := Jvm.Kit.i32_mask i0 (2147483647 : Int32) (k := 31) (by decide) (by decide)
  have q3 := rng32 (i0 &&& (2147483647 : Int32))
  have q4 : (7 : Int32).toInt = 7 := rfl
  have q5 : ((i0 &&& (2147483647 : Int32)) % (7 : Int32)).toInt = (i0 &&& (2147483647 : Int32)).toInt % 7 := Jvm.Kit.i32_rem_nonneg (y := (7 : Int32)) (by omega)
  have q6 := rng32 ((i0 &&& (2147483647 : Int32)) % (7 : Int32))
  have q7 : (0 : Int32).toInt = 0 := rfl
  have q8 := mt (fun z : (((i0 &&& (2147483647 : Int32)) % (7 : Int32))).toInt = ((0 : Int32)).toInt => Int32.toInt_inj.mp z) hc1
  have q9 : (1 : Int32).toInt = 1 := rfl
  have q10 := congrArg Int32.toInt hc22
  have q11 := rng32 i1
  have q12 : (i1 &&& (2147483647 : Int32)).toInt = i1.toInt % 2147483648 := Jvm.Kit.i32_mask i1 (2147483647 : Int32) (k := 31) (by decide) (by decide)
  have q13 := rng32 (i1 &&& (2147483647 : Int32))
  have q14 : ((i1 &&& (2147483647 : Int32)) % (7 : Int32)).toInt = (i1 &&& (2147483647 : Int32)).toInt % 7 := Jvm.Kit.i32_rem_nonneg (y := (7 : Int32)) (by omega)
  have q15 := rng32 ((i1 &&& (2147483647 : Int32)) % (7 : Int32))
  have q16 := mt (fun z : (((i1 &&& (2147483647 : Int32)) % (7 : Int32))).toInt = ((0 : Int32)).toInt => Int32.toInt_inj.mp z) hc23
  have q17 := congrArg Int32.toInt hc25
  have q18 : (2 : Int32).toInt = 2 := rfl
  have q19 := mt Int32.lt_iff_toInt_lt.mpr hc26
  omega
theorem own_dead_17 (i0 : Int32) (i1 : Int32) (hc1 : ¬ (((i0 &&& (2147483647 : Int32)) % (7 : Int32)) = (0 : Int32))) (hc22 : ((i0 &&& (2147483647 : Int32)) % (7 : Int32)) = (1 : Int32)) (hc23 : ¬ (((i1 &&& (2147483647 : Int32)) % (7 : Int32)) = (0 : Int32))) (hc25 : ¬ (((i1 &&& (2147483647 : Int32)) % (7 : Int32)) = (1 : Int32))) (hc27 : ((i1 &&& (2147483647 : Int32)) % (7 : Int32)) = (2 : Int32)) (hc28 : ((i1 &&& (2147483647 : Int32)) % (7 : Int32)) < (2 : Int32)) : False := by
  have q1 := rng32 i0
  have q2 : (i0 &&& (2147483647 : Int32)).toInt = i0.toInt % 2147483648 := Jvm.Kit.i32_mask i0 (2147483647 : Int32) (k := 31) (by decide) (by decide)
  have q3 := rng32 (i0 &&& (2147483647 : Int32))
  have q4 : (7 : Int32).toInt = 7 := rfl
  have q5 : ((i0 &&& (2147483647 : Int32)) % (7 : Int32)).toInt = (i0 &&& (2147483647 : Int32)).toInt % 7 := Jvm.Kit.i32_rem_nonneg (y := (7 : Int32)) (by omega)
  have q6 := rng32 ((i0 &&& (2147483647 : Int32)) % (7 : Int32))
  have q7 : (0 : Int32).toInt = 0 := rfl
  have q8 := mt (fun z : (((i0 &&& (2147483647 : Int32)) % (7 : Int32))).toInt = ((0 : Int32)).toInt => Int32.toInt_inj.mp z) hc1
  have q9 : (1 : Int32).toInt = 1 := rfl
  have q10 := congrArg Int32.toInt hc22
  have q11 := rng32 i1
  have q12 : (i1 &&& (2147483647 : Int32)).toInt = i1.toInt % 2147483648 := Jvm.Kit.i32_mask i1 (2147483647 : Int32) (k := 31) (by decide) (by decide)
  have q13 := rng32 (i1 &&& (2147483647 : Int32))
  have q14 : ((i1 &&& (2147483647 : Int32)) % (7 : Int32)).toInt = (i1 &&& (2147483647 : Int32)).toInt % 7 := Jvm.Kit.i32_rem_nonneg (y := (7 : Int32)) (by omega)
  have q15 := rng32 ((i1 &&& (2147483647 : Int32)) % (7 : Int32))
  have q16 := mt (fun z : (((i1 &&& (2147483647 : Int32)) % (7 : Int32))).toInt = ((0 : Int32)).toInt => Int32.toInt_inj.mp z) hc23
  have q17 := mt (fun z : (((i1 &&& (2147483647 : Int32)) % (7 : Int32))).toInt = ((1 : Int32)).toInt => Int32.toInt_inj.mp z) hc25
  have q18 : (2 : Int32).toInt = 2 := rfl
  have q19 := congrArg Int32.toInt hc27
  have q20 := Int32.lt_iff_toInt_lt.mp hc28
  omega
theorem own_dead_18 (i0 : Int32) (i1 : Int32) (hc1 : ¬ (((i0 &&& (2147483647 : Int32)) % (7 : Int32)) = (0 : Int32))) (hc22 : ((i0 &&& (2147483647 : Int32)) % (7 : Int32)) = (1 : Int32)) (hc23 : ¬ (((i1 &&& (2147483647 : Int32)) % (7 : Int32)) = (0 : Int32))) (hc25 : ¬ (((i1 &&& (2147483647 : Int32)) % (7 : Int32)) = (1 : Int32))) (hc27 : ¬ (((i1 &&& (2147483647 : Int32)) % (7 : Int32)) = (2 : Int32))) (hc29 : ((i1 &&& (2147483647 : Int32)) % (7 : Int32)) = (3 : Int32)) (hc30 : ((i1 &&& (2147483647 : Int32)) % (7 : Int32)) < (2 : Int32)) : False := by
  have q1 := rng32 i0
  have q2 : (i0 &&& (2147483647 : Int32)).toInt = i0.toInt % 2147483648 := Jvm.Kit.i32_mask i0 (2147483647 : Int32) (k := 31) (by decide) (by decide)
  have q3 := rng32 (i0 &&& (2147483647 : Int32))
  have q4 : (7 : Int32).toInt = 7 := rfl
  have q5 : ((i0 &&& (2147483647 : Int32)) % (7 : Int32)).toInt = (i0 &&& (2147483647 : Int32)).toInt % 7 := Jvm.Kit.i32_rem_nonneg (y := (7 : Int32)) (by omega)
  have q6 := rng32 ((i0 &&& (2147483647 : Int32)) % (7 : Int32))
  have q7 : (0 : Int32).toInt = 0 := rfl
  have q8 := mt (fun z : (((i0 &&& (2147483647 : Int32)) % (7 : Int32))).toInt = ((0 : Int32)).toInt => Int32.toInt_inj.mp z) hc1
  have q9 : (1 : Int32).toInt = 1 := rfl
  have q10 := congrArg Int32.toInt hc22
  have q11 := rng32 i1
  have q12 : (i1 &&& (2147483647 : Int32)).toInt = i1.toInt % 2147483648 := Jvm.Kit.i32_mask i1 (2147483647 : Int32) (k := 31) (by decide) (by decide)
  have q13 := rng32 (i1 &&& (2147483647 : Int32))
  have q14 : ((i1 &&& (2147483647 : Int32)) % (7 : Int32)).toInt = (i1 &&& (2147483647 : Int32)).toInt % 7 := Jvm.Kit.i32_rem_nonneg (y := (7 : Int32)) (by omega)
  have q15 := rng32 ((i1 &&& (2147483647 : Int32)) % (7 : Int32))
  have q16 := mt (fun z : (((i1 &&& (2147483647 : Int32)) % (7 : Int32))).toInt = ((0 : Int32)).toInt => Int32.toInt_inj.mp z) hc23
  have q17 := mt (fun z : (((i1 &&& (2147483647 : Int32)) % (7 : Int32))).toInt = ((1 : Int32)).toInt => Int32.toInt_inj.mp z) hc25
  have q18 : (2 : Int32).toInt = 2 := rfl
  have q19 := mt (fun z : (((i1 &&& (2147483647 : Int32)) % (7 : Int32))).toInt = ((2 : Int32)).toInt => Int32.toInt_inj.mp z) hc27
  have q20 : (3 : Int32).toInt = 3 := rfl
  have q21 := congrArg Int32.toInt hc29
  have q22 := Int32.lt_iff_toInt_lt.mp hc30
  omega
theorem own_dead_19 (i0 : Int32) (i1 : Int32) (hc1 : ¬ (((i0 &&& (2147483647 : Int32)) % (7 : Int32)) = (0 : Int32))) (hc22 : ((i0 &&& (2147483647 : Int32)) % (7 : Int32)) = (1 : Int32)) (hc23 : ¬ (((i1 &&& (2147483647 : Int32)) % (7 : Int32)) = (0 : Int32))) (hc25 : ¬ (((i1 &&& (2147483647 : Int32)) % (7 : Int32)) = (1 : Int32))) (hc27 : ¬ (((i1 &&& (2147483647 : Int32)) % (7 : Int32)) = (2 : Int32))) (hc29 : ¬ (((i1 &&& (2147483647 : Int32)) % (7 : Int32)) = (3 : Int32))) (hc31 : ((i1 &&& (2147483647 : Int32)) % (7 : Int32)) = (4 : Int32)) (hc32 : ((i1 &&& (2147483647 : Int32)) % (7 : Int32)) < (2 : Int32)) : False := by
  have q1 := rng32 i0
  have q2 : (i0 &&& (2147483647 : Int32)).toInt = i0.toInt % 2147483648 := Jvm.Kit.i32_mask i0 (2147483647 : Int32) (k := 31) (by decide) (by decide)
  have q3 := rng32 (i0 &&& (2147483647 : Int32))
  have q4 : (7 : Int32).toInt = 7 := rfl
  have q5 : ((i0 &&& (2147483647 : Int32)) % (7 : Int32)).toInt = (i0 &&& (2147483647 : Int32)).toInt % 7 := Jvm.Kit.i32_rem_nonneg (y := (7 : Int32)) (by omega)
  have q6 := rng32 ((i0 &&& (2147483647 : Int32)) % (7 : Int32))
  have q7 : (0 : Int32).toInt = 0 := rfl
  have q8 := mt (fun z : (((i0 &&& (2147483647 : Int32)) % (7 : Int32))).toInt = ((0 : Int32)).toInt => Int32.toInt_inj.mp z) hc1
  have q9 : (1 : Int32).toInt = 1 := rfl
  have q10 := congrArg Int32.toInt hc22
  have q11 := rng32 i1
  have q12 : (i1 &&& (2147483647 : Int32)).toInt = i1.toInt % 2147483648 := Jvm.Kit.i32_mask i1 (2147483647 : Int32) (k := 31) (by decide) (by decide)
  have q13 := rng32 (i1 &&& (2147483647 : Int32))
  have q14 : ((i1 &&& (2147483647 : Int32)) % (7 : Int32)).toInt = (i1 &&& (2147483647 : Int32)).toInt % 7 := Jvm.Kit.i32_rem_nonneg (y := (7 : Int32)) (by omega)
  have q15 := rng32 ((i1 &&& (2147483647 : Int32)) % (7 : Int32))
  have q16 := mt (fun z : (((i1 &&& (2147483647 : Int32)) % (7 : Int32))).toInt = ((0 : Int32)).toInt => Int32.toInt_inj.mp z) hc23
  have q17 := mt (fun z : (((i1 &&& (2147483647 : Int32)) % (7 : Int32))).toInt = ((1 : Int32)).toInt => Int32.toInt_inj.mp z) hc25
  have q18 : (2 : Int32).toInt = 2 := rfl
  have q19 := mt (fun z : (((i1 &&& (2147483647 : Int32)) % (7 : Int32))).toInt = ((2 : Int32)).toInt => Int32.toInt_inj.mp z) hc27
  have q20 : (3 : Int32).toInt = 3 := rfl
  have q21 := mt (fun z : (((i1 &&& (2147483647 : Int32)) % (7 : Int32))).toInt = ((3 : Int32)).toInt => Int32.toInt_inj.mp z) hc29
  have q22 : (4 : Int32).toInt = 4 := rfl
  have q23 := congrArg Int32.toInt hc31
  have q24 := Int32.lt_iff_toInt_lt.mp hc32
  omega
theorem own_dead_20 (i0 : Int32) (i1 : Int32) (hc1 : ¬ (((i0 &&& (2147483647 : Int32)) % (7 : Int32)) = (0 : Int32))) (hc22 : ((i0 &&& (2147483647 : Int32)) % (7 : Int32)) = (1 : Int32)) (hc23 : ¬ (((i1 &&& (2147483647 : Int32)) % (7 : Int32)) = (0 : Int32))) (hc25 : ¬ (((i1 &&& (2147483647 : Int32)) % (7 : Int32)) = (1 : Int32))) (hc27 : ¬ (((i1 &&& (2147483647 : Int32)) % (7 : Int32)) = (2 : Int32))) (hc29 : ¬ (((i1 &&& (2147483647 : Int32)) % (7 : Int32)) = (3 : Int32))) (hc31 : ¬ (((i1 &&& (2147483647 : Int32)) % (7 : Int32)) = (4 : Int32))) (hc33 : ((i1 &&& (2147483647 : Int32)) % (7 : Int32)) = (5 : Int32)) (hc34 : ((i1 &&& (2147483647 : Int32)) % (7 : Int32)) < (2 : Int32)) : False := by
  have q1 := rng32 i0
  have q2 : (i0 &&& (2147483647 : Int32)).toInt = i0.toInt % 2147483648 := Jvm.Kit.i32_mask i0 (2147483647 : Int32) (k := 31) (by decide) (by decide)
  have q3 := rng32 (i0 &&& (2147483647 : Int32))
  have q4 : (7 : Int32).toInt = 7 := rfl
  have q5 : ((i0 &&& (2147483647 : Int32)) % (7 : Int32)).toInt = (i0 &&& (2147483647 : Int32)).toInt % 7 := Jvm.Kit.i32_rem_nonneg (y := (7 : Int32)) (by omega)
  have q6 := rng32 ((i0 &&& (2147483647 : Int32)) % (7 : Int32))
  have q7 : (0 : Int32).toInt = 0 := rfl
  have q8 := mt (fun z : (((i0 &&& (2147483647 : Int32)) % (7 : Int32))).toInt = ((0 : Int32)).toInt => Int32.toInt_inj.mp z) hc1
  have q9 : (1 : Int32).toInt = 1 := rfl
  have q10 := congrArg Int32.toInt hc22
  have q11 := rng32 i1
  have q12 : (i1 &&& (2147483647 : Int32)).toInt = i1.toInt % 2147483648 := Jvm.Kit.i32_mask i1 (2147483647 : Int32) (k := 31) (by decide) (by decide)
  have q13 := rng32 (i1 &&& (2147483647 : Int32))
  have q14 : ((i1 &&& (2147483647 : Int32)) % (7 : Int32)).toInt = (i1 &&& (2147483647 : Int32)).toInt % 7 := Jvm.Kit.i32_rem_nonneg (y := (7 : Int32)) (by omega)
  have q15 := rng32 ((i1 &&& (2147483647 : Int32)) % (7 : Int32))
  have q16 := mt (fun z : (((i1 &&& (2147483647 : Int32)) % (7 : Int32))).toInt = ((0 : Int32)).toInt => Int32.toInt_inj.mp z) hc23
  have q17 := mt (fun z : (((i1 &&& (2147483647 : Int32)) % (7 : Int32))).toInt = ((1 : Int32)).toInt => Int32.toInt_inj.mp z) hc25
  have q18 : (2 : Int32).toInt = 2 := rfl
  have q19 := mt (fun z : (((i1 &&& (2147483647 : Int32)) % (7 : Int32))).toInt = ((2 : Int32)).toInt => Int32.toInt_inj.mp z) hc27
  have q20 : (3 : Int32).toInt = 3 := rfl
  have q21 := mt (fun z : (((i1 &&& (2147483647 : Int32)) % (7 : Int32))).toInt = ((3 : Int32)).toInt => Int32.toInt_inj.mp z) hc29
  have q22 : (4 : Int32).toInt = 4 := rfl
  have q23 := mt (fun z : (((i1 &&& (2147483647 : Int32)) % (7 : Int32))).toInt = ((4 : Int32)).toInt => Int32.toInt_inj.mp z) hc31
  have q24 : (5 : Int32).toInt = 5 := rfl
  have q25 := congrArg Int32.toInt hc33
  have q26 := Int32.lt_iff_toInt_lt.mp hc34
  omega
theorem own_dead_21 (i0 : Int32) (i1 : Int32) (hc1 : ¬ (((i0 &&& (2147483647 : Int32)) % (7 : Int32)) = (0 : Int32))) (hc22 : ((i0 &&& (2147483647 : Int32)) % (7 : Int32)) = (1 : Int32)) (hc23 : ¬ (((i1 &&& (2147483647 : Int32)) % (7 : Int32)) = (0 : Int32))) (hc25 : ¬ (((i1 &&& (2147483647 : Int32)) % (7 : Int32)) = (1 : Int32))) (hc27 : ¬ (((i1 &&& (2147483647 : Int32)) % (7 : Int32)) = (2 : Int32))) (hc29 : ¬ (((i1 &&& (2147483647 : Int32)) % (7 : Int32)) = (3 : Int32))) (hc31 : ¬ (((i1 &&& (2147483647 : Int32)) % (7 : Int32)) = (4 : Int32))) (hc33 : ¬ (((i1 &&& (2147483647 : Int32)) % (7 : Int32)) = (5 : Int32))) (hc35 : ((i1 &&& (2147483647 : Int32)) % (7 : Int32)) < (2 : Int32)) : False := by
  have q1 := rng32 i0
  have q2 : (i0 &&& (2147483647 : Int32)).toInt = i0.toInt % 2147483648 := Jvm.Kit.i32_mask i0 (2147483647 : Int32) (k := 31) (by decide) (by decide)
  have q3 := rng32 (i0 &&& (2147483647 : Int32))
  have q4 : (7 : Int32).toInt = 7 := rfl
  have q5 : ((i0 &&& (2147483647 : Int32)) % (7 : Int32)).toInt = (i0 &&& (2147483647 : Int32)).toInt % 7 := Jvm.Kit.i32_rem_nonneg (y := (7 : Int32)) (by omega)
  have q6 := rng32 ((i0 &&& (2147483647 : Int32)) % (7 : Int32))
  have q7 : (0 : Int32).toInt = 0 := rfl
  have q8 := mt (fun z : (((i0 &&& (2147483647 : Int32)) % (7 : Int32))).toInt = ((0 : Int32)).toInt => Int32.toInt_inj.mp z) hc1
  have q9 : (1 : Int32).toInt = 1 := rfl
  have q10 := congrArg Int32.toInt hc22
  have q11 := rng32 i1
  have q12 : (i1 &&& (2147483647 : Int32)).toInt = i1.toInt % 2147483648 := Jvm.Kit.i32_mask i1 (2147483647 : Int32) (k := 31) (by decide) (by decide)
  have q13 := rng32 (i1 &&& (2147483647 : Int32))
  have q14 : ((i1 &&& (2147483647 : Int32)) % (7 : Int32)).toInt = (i1 &&& (2147483647 : Int32)).toInt % 7 := Jvm.Kit.i32_rem_nonneg (y := (7 : Int32)) (by omega)
  have q15 := rng32 ((i1 &&& (2147483647 : Int32)) % (7 : Int32))
  have q16 := mt (fun z : (((i1 &&& (2147483647 : Int32)) % (7 : Int32))).toInt = ((0 : Int32)).toInt => Int32.toInt_inj.mp z) hc23
  have q17 := mt (fun z : (((i1 &&& (2147483647 : Int32)) % (7 : Int32))).toInt = ((1 : Int32)).toInt => Int32.toInt_inj.mp z) hc25
  have q18 : (2 : Int32).toInt = 2 := rfl
  have q19 := mt (fun z : (((i1 &&& (2147483647 : Int32)) % (7 : Int32))).toInt = ((2 : Int32)).toInt => Int32.toInt_inj.mp z) hc27
  have q20 : (3 : Int32).toInt = 3 := rfl
  have q21 := mt (fun z : (((i1 &&& (2147483647 : Int32)) % (7 : Int32))).toInt = ((3 : Int32)).toInt => Int32.toInt_inj.mp z) hc29
  have q22 : (4 : Int32).toInt = 4 := rfl
  have q23 := mt (fun z : (((i1 &&& (2147483647 : Int32)) % (7 : Int32))).toInt = ((4 : Int32)).toInt => Int32.toInt_inj.mp z) hc31
  have q24 : (5 : Int32).toInt = 5 := rfl
  have q25 := mt (fun z : (((i1 &&& (2147483647 : Int32)) % (7 : Int32))).toInt = ((5 : Int32)).toInt => Int32.toInt_inj.mp z) hc33
  have q26 := Int32.lt_iff_toInt_lt.mp hc35
  omega
theorem own_dead_22 (i0 : Int32) (i1 : Int32) (hc1 : ¬ (((i0 &&& (2147483647 : Int32)) % (7 : Int32)) = (0 : Int32))) (hc22 : ¬ (((i0 &&& (2147483647 : Int32)) % (7 : Int32)) = (1 : Int32))) (hc36 : ((i0 &&& (2147483647 : Int32)) % (7 : Int32)) = (2 : Int32)) (hc37 : ((i1 &&& (2147483647 : Int32)) % (7 : Int32)) = (0 : Int32)) (hc38 : ¬ (((i1 &&& (2147483647 : Int32)) % (7 : Int32)) < (3 : Int32))) : False := by
  have q1 := rng32 i0
  have q2 : (i0 &&& (2147483647 : Int32)).toInt = i0.toInt % 2147483648 := Jvm.Kit.i32_mask i0 (2147483647 : Int32) (k := 31) (by decide) (by decide)
  have q3 := rng32 (i0 &&& (2147483647 : Int32))
  have q4 : (7 : Int32).toInt = 7 := rfl
  have q5 : ((i0 &&& (2147483647 : Int32)) % (7 : Int32)).toInt = (i0 &&& (2147483647 : Int32)).toInt % 7 := Jvm.Kit.i32_rem_nonneg (y := (7 : Int32)) (by omega)
  have q6 := rng32 ((i0 &&& (2147483647 : Int32)) % (7 : Int32))
  have q7 : (0 : Int32).toInt = 0 := rfl
  have q8 := mt (fun z : (((i0 &&& (2147483647 : Int32)) % (7 : Int32))).toInt = ((0 : Int32)).toInt => Int32.toInt_inj.mp z) hc1
  have q9 : (1 : Int32).toInt = 1 := rfl
  have q10 := mt (fun z : (((i0 &&& (2147483647 : Int32)) % (7 : Int32))).toInt = ((1 : Int32)).toInt => Int32.toInt_inj.mp z) hc22
  have q11 : (2 : Int32).toInt = 2 := rfl
  have q12 := congrArg Int32.toInt hc36
  have q13 := rng32 i1
  have q14 : (i1 &&& (2147483647 : Int32)).toInt = i1.toInt % 2147483648 := Jvm.Kit.i32_mask i1 (2147483647 : Int32) (k := 31) (by decide) (by decide)
  have q15 := rng32 (i1 &&& (2147483647 : Int32))
  have q16 : ((i1 &&& (2147483647 : Int32)) % (7 : Int32)).toInt = (i1 &&& (2147483647 : Int32)).toInt % 7 := Jvm.Kit.i32_rem_nonneg (y := (7 : Int32)) (by omega)
  have q17 := rng32 ((i1 &&& (2147483647 : Int32)) % (7 : Int32))
  have q18 := congrArg Int32.toInt hc37
  have q19 : (3 : Int32).toInt = 3 := rfl
  have q20 := mt Int32.lt_iff_toInt_lt.mpr hc38
  omega
theorem own_dead_23 (i0 : Int32) (i1 : Int32) (hc1 : ¬ (((i0 &&& (2147483647 : Int32)) % (7 : Int32)) = (0 : Int32))) (hc22 : ¬ (((i0 &&& (2147483647 : Int32)) % (7 : Int32)) = (1 : Int32))) (hc36 : ((i0 &&& (2147483647 : Int32)) % (7 : Int32)) = (2 : Int32)) (hc37 : ¬ (((i1 &&& (2147483647 : Int32)) % (7 : Int32)) = (0 : Int32))) (hc39 : ((i1 &&& (2147483647 : Int32)) % (7 : Int32)) = (1 : Int32)) (hc40 : ¬ (((i1 &&& (2147483647 : Int32)) % (7 : Int32)) < (3 : Int32))) : False := by
  have q1 := rng32 i0
  have q2 : (i0 &&& (2147483647 : Int32)).toInt = i0.toInt % 2147483648 := Jvm.Kit.i32_mask i0 (2147483647 : Int32) (k := 31) (by decide) (by decide)
  have q3 := rng32 (i0 &&& (2147483647 : Int32))
  have q4 : (7 : Int32).toInt = 7 := rfl
  have q5 : ((i0 &&& (2147483647 : Int32)) % (7 : Int32)).toInt = (i0 &&& (2147483647 : Int32)).toInt % 7 := Jvm.Kit.i32_rem_nonneg (y := (7 : Int32)) (by omega)
  have q6 := rng32 ((i0 &&& (2147483647 : Int32)) % (7 : Int32))
  have q7 : (0 : Int32).toInt = 0 := rfl
  have q8 := mt (fun z : (((i0 &&& (2147483647 : Int32)) % (7 : Int32))).toInt = ((0 : Int32)).toInt => Int32.toInt_inj.mp z) hc1
  have q9 : (1 : Int32).toInt = 1 := rfl
  have q10 := mt (fun z : (((i0 &&& (2147483647 : Int32)) % (7 : Int32))).toInt = ((1 : Int32)).toInt => Int32.toInt_inj.mp z) hc22
  have q11 : (2 : Int32).toInt = 2 := rfl
  have q12 := congrArg Int32.toInt hc36
  have q13 := rng32 i1
  have q14 : (i1 &&& (2147483647 : Int32)).toInt = i1.toInt % 2147483648 := Jvm.Kit.i32_mask i1 (2147483647 : Int32) (k := 31) (by decide) (by decide)
  have q15 := rng32 (i1 &&& (2147483647 : Int32))
  have q16 : ((i1 &&& (2147483647 : Int32)) % (7 : Int32)).toInt = (i1 &&& (2147483647 : Int32)).toInt % 7 := Jvm.Kit.i32_rem_nonneg (y := (7 : Int32)) (by omega)
  have q17 := rng32 ((i1 &&& (2147483647 : Int32)) % (7 : Int32))
  have q18 := mt (fun z : (((i1 &&& (2147483647 : Int32)) % (7 : Int32))).toInt = ((0 : Int32)).toInt => Int32.toInt_inj.mp z) hc37
  have q19 := congrArg Int32.toInt hc39
  have q20 : (3 : Int32).toInt = 3 := rfl
  have q21 := mt Int32.lt_iff_toInt_lt.mpr hc40
  omega
theorem own_dead_24 (i0 : Int32) (i1 : Int32) (hc1 : ¬ (((i0 &&& (2147483647 : Int32)) % (7 : Int32)) = (0 : Int32))) (hc22 : ¬ (((i0 &&& (2147483647 : Int32)) % (7 : Int32)) = (1 : Int32))) (hc36 : ((i0 &&& (2147483647 : Int32)) % (7 : Int32)) = (2 : Int32)) (hc37 : ¬ (((i1 &&& (2147483647 : Int32)) % (7 : Int32)) = (0 : Int32))) (hc39 : ¬ (((i1 &&& (2147483647 : Int32)) % (7 : Int32)) = (1 : Int32))) (hc41 : ((i1 &&& (2147483647 : Int32)) % (7 : Int32)) = (2 : Int32)) (hc42 : ¬ (((i1 &&& (2147483647 : Int32)) % (7 : Int32)) < (3 : Int32))) : False := by
  have q1 := rng32 i0
  have q2 : (i0 &&& (2147483647 : Int32)).toInt = i0.toInt % 2147483648 := Jvm.Kit.i32_mask i0 (2147483647 : Int32) (k := 31) (by decide) (by decide)
  have q3 := rng32 (i0 &&& (2147483647 : Int32))
  have q4 : (7 : Int32).toInt = 7 := rfl
  have q5 : ((i0 &&& (2147483647 : Int32)) % (7 : Int32)).toInt = (i0 &&& (2147483647 : Int32)).toInt % 7 := Jvm.Kit.i32_rem_nonneg (y := (7 : Int32)) (by omega)
  have q6 := rng32 ((i0 &&& (2147483647 : Int32)) % (7 : Int32))
  have q7 : (0 : Int32).toInt = 0 := rfl
  have q8 := mt (fun z : (((i0 &&& (2147483647 : Int32)) % (7 : Int32))).toInt = ((0 : Int32)).toInt => Int32.toInt_inj.mp z) hc1
  have q9 : (1 : Int32).toInt = 1 := rfl
  have q10 := mt (fun z : (((i0 &&& (2147483647 : Int32)) % (7 : Int32))).toInt = ((1 : Int32)).toInt => Int32.toInt_inj.mp z) hc22
  have q11 : (2 : Int32).toInt = 2 := rfl
  have q12 := congrArg Int32.toInt hc36
  have q13 := rng32 i1
  have q14 : (i1 &&& (2147483647 : Int32)).toInt = i1.toInt % 2147483648 := Jvm.Kit.i32_mask i1 (2147483647 : Int32) (k := 31) (by decide) (by decide)
  have q15 := rng32 (i1 &&& (2147483647 : Int32))
  have q16 : ((i1 &&& (2147483647 : Int32)) % (7 : Int32)).toInt = (i1 &&& (2147483647 : Int32)).toInt % 7 := Jvm.Kit.i32_rem_nonneg (y := (7 : Int32)) (by omega)
  have q17 := rng32 ((i1 &&& (2147483647 : Int32)) % (7 : Int32))
  have q18 := mt (fun z : (((i1 &&& (2147483647 : Int32)) % (7 : Int32))).toInt = ((0 : Int32)).toInt => Int32.toInt_inj.mp z) hc37
  have q19 := mt (fun z : (((i1 &&& (2147483647 : Int32)) % (7 : Int32))).toInt = ((1 : Int32)).toInt => Int32.toInt_inj.mp z) hc39
  have q20 := congrArg Int32.toInt hc41
  have q21 : (3 : Int32).toInt = 3 := rfl
  have q22 := mt Int32.lt_iff_toInt_lt.mpr hc42
  omega
theorem own_dead_25 (i0 : Int32) (i1 : Int32) (hc1 : ¬ (((i0 &&& (2147483647 : Int32)) % (7 : Int32)) = (0 : Int32))) (hc22 : ¬ (((i0 &&& (2147483647 : Int32)) % (7 : Int32)) = (1 : Int32))) (hc36 : ((i0 &&& (2147483647 : Int32)) % (7 : Int32)) = (2 : Int32)) (hc37 : ¬ (((i1 &&& (2147483647 : Int32)) % (7 : Int32)) = (0 : Int32))) (hc39 : ¬ (((i1 &&& (2147483647 : Int32)) % (7 : Int32)) = (1 : Int32))) (hc41 : ¬ (((i1 &&& (2147483647 : Int32)) % (7 : Int32)) = (2 : Int32))) (hc43 : ((i1 &&& (2147483647 : Int32)) % (7 : Int32)) = (3 : Int32)) (hc44 : ((i1 &&& (2147483647 : Int32)) % (7 : Int32)) < (3 : Int32)) : False := by
  have q1 := rng32 i0
  have q2 : (i0 &&& (2147483647 : Int32)).toInt = i0.toInt % 2147483648 := Jvm.Kit.i32_mask i0 (2147483647 : Int32) (k := 31) (by decide) (by decide)
  have q3 := rng32 (i0 &&& (2147483647 : Int32))
  have q4 : (7 : Int32).toInt = 7 := rfl
  have q5 : ((i0 &&& (2147483647 : Int32)) % (7 : Int32)).toInt = (i0 &&& (2147483647 : Int32)).toInt % 7 := Jvm.Kit.i32_rem_nonneg (y := (7 : Int32)) (by omega)
  have q6 := rng32 ((i0 &&& (2147483647 : Int32)) % (7 : Int32))
  have q7 : (0 : Int32).toInt = 0 := rfl
  have q8 := mt (fun z : (((i0 &&& (2147483647 : Int32)) % (7 : Int32))).toInt = ((0 : Int32)).toInt => Int32.toInt_inj.mp z) hc1
  have q9 : (1 : Int32).toInt = 1 := rfl
  have q10 := mt (fun z : (((i0 &&& (2147483647 : Int32)) % (7 : Int32))).toInt = ((1 : Int32)).toInt => Int32.toInt_inj.mp z) hc22
  have q11 : (2 : Int32).toInt = 2 := rfl
  have q12 := congrArg Int32.toInt hc36
  have q13 := rng32 i1
  have q14 : (i1 &&& (2147483647 : Int32)).toInt = i1.toInt % 2147483648 := Jvm.Kit.i32_mask i1 (2147483647 : Int32) (k := 31) (by decide) (by decide)
  have q15 := rng32 (i1 &&& (2147483647 : Int32))
  have q16 : ((i1 &&& (2147483647 : Int32)) % (7 : Int32)).toInt = (i1 &&& (2147483647 : Int32)).toInt % 7 := Jvm.Kit.i32_rem_nonneg (y := (7 : Int32)) (by omega)
  have q17 := rng32 ((i1 &&& (2147483647 : Int32)) % (7 : Int32))
  have q18 := mt (fun z : (((i1 &&& (2147483647 : Int32)) % (7 : Int32))).toInt = ((0 : Int32)).toInt => Int32.toInt_inj.mp z) hc37
  have q19 := mt (fun z : (((i1 &&& (2147483647 : Int32)) % (7 : Int32))).toInt = ((1 : Int32)).toInt => Int32.toInt_inj.mp z) hc39
  have q20 := mt (fun z : (((i1 &&& (2147483647 : Int32)) % (7 : Int32))).toInt = ((2 : Int32)).toInt => Int32.toInt_inj.mp z) hc41
  have q21 : (3 : Int32).toInt = 3 := rfl
  have q22 := congrArg Int32.toInt hc43
  have q23 := Int32.lt_iff_toInt_lt.mp hc44
  omega
theorem own_dead_26 (i0 : Int32) (i1 : Int32) (hc1 : ¬ (((i0 &&& (2147483647 : Int32)) % (7 : Int32)) = (0 : Int32))) (hc22 : ¬ (((i0 &&& (2147483647 : Int32)) % (7 : Int32)) = (1 : Int32))) (hc36 : ((i0 &&& (2147483647 : Int32)) % (7 : Int32)) = (2 : Int32)) (hc37 : ¬ (((i1 &&& (2147483647 : Int32)) % (7 : Int32)) = (0 : Int32))) (hc39 : ¬ (((i1 &&& (2147483647 : Int32)) % (7 : Int32)) = (1 : Int32))) (hc41 : ¬ (((i1 &&& (2147483647 : Int32)) % (7 : Int32)) = (2 : Int32))) (hc43 : ¬ (((i1 &&& (2147483647 : Int32)) % (7 : Int32)) = (3 : Int32))) (hc45 : ((i1 &&& (2147483647 : Int32)) % (7 : Int32)) = (4 : Int32)) (hc46 : ((i1 &&& (2147483647 : Int32)) % (7 : Int32)) < (3 : Int32)) : False := by
  have q1 := rng32 i0
  have q2 : (i0 &&& (2147483647 : Int32)).toInt = i0.toInt % 2147483648 := Jvm.Kit.i32_mask i0 (2147483647 : Int32) (k := 31) (by decide) (by decide)
  have q3 := rng32 (i0 &&& (2147483647 : Int32))
  have q4 : (7 : Int32).toInt = 7 := rfl
  have q5 : ((i0 &&& (2147483647 : Int32)) % (7 : Int32)).toInt = (i0 &&& (2147483647 : Int32)).toInt % 7 := Jvm.Kit.i32_rem_nonneg (y := (7 : Int32)) (by omega)
  have q6 := rng32 ((i0 &&& (2147483647 : Int32)) % (7 : Int32))
  have q7 : (0 : Int32).toInt = 0 := rfl
  have q8 := mt (fun z : (((i0 &&& (2147483647 : Int32)) % (7 : Int32))).toInt = ((0 : Int32)).toInt => Int32.toInt_inj.mp z) hc1
  have q9 : (1 : Int32).toInt = 1 := rfl
  have q10 := mt (fun z : (((i0 &&& (2147483647 : Int32)) % (7 : Int32))).toInt = ((1 : Int32)).toInt => Int32.toInt_inj.mp z) hc22
  have q11 : (2 : Int32).toInt = 2 := rfl
  have q12 := congrArg Int32.toInt hc36
  have q13 := rng32 i1
  have q14 : (i1 &&& (2147483647 : Int32)).toInt = i1.toInt % 2147483648 := Jvm.Kit.i32_mask i1 (2147483647 : Int32) (k := 31) (by decide) (by decide)
  have q15 := rng32 (i1 &&& (2147483647 : Int32))
  have q16 : ((i1 &&& (2147483647 : Int32)) % (7 : Int32)).toInt = (i1 &&& (2147483647 : Int32)).toInt % 7 := Jvm.Kit.i32_rem_nonneg (y := (7 : Int32)) (by omega)
  have q17 := rng32 ((i1 &&& (2147483647 : Int32)) % (7 : Int32))
  have q18 := mt (fun z : (((i1 &&& (2147483647 : Int32)) % (7 : Int32))).toInt = ((0 : Int32)).toInt => Int32.toInt_inj.mp z) hc37
  have q19 := mt (fun z : (((i1 &&& (2147483647 : Int32)) % (7 : Int32))).toInt = ((1 : Int32)).toInt => Int32.toInt_inj.mp z) hc39
  have q20 := mt (fun z : (((i1 &&& (2147483647 : Int32)) % (7 : Int32))).toInt = ((2 : Int32)).toInt => Int32.toInt_inj.mp z) hc41
  have q21 : (3 : Int32).toInt = 3 := rfl
  have q22 := mt (fun z : (((i1 &&& (2147483647 : Int32)) % (7 : Int32))).toInt = ((3 : Int32)).toInt => Int32.toInt_inj.mp z) hc43
  have q23 : (4 : Int32).toInt = 4 := rfl
  have q24 := congrArg Int32.toInt hc45
  have q25 := Int32.lt_iff_toInt_lt.mp hc46
  omega
theorem own_dead_27 (i0 : Int32) (i1 : Int32) (hc1 : ¬ (((i0 &&& (2147483647 : Int32)) % (7 : Int32)) = (0 : Int32))) (hc22 : ¬ (((i0 &&& (2147483647 : Int32)) % (7 : Int32)) = (1 : Int32))) (hc36 : ((i0 &&& (2147483647 : Int32)) % (7 : Int32)) = (2 : Int32)) (hc37 : ¬ (((i1 &&& (2147483647 : Int32)) % (7 : Int32)) = (0 : Int32))) (hc39 : ¬ (((i1 &&& (2147483647 : Int32)) % (7 : Int32)) = (1 : Int32))) (hc41 : ¬ (((i1 &&& (2147483647 : Int32)) % (7 : Int32)) = (2 : Int32))) (hc43 : ¬ (((i1 &&& (2147483647 : Int32)) % (7 : Int32)) = (3 : Int32))) (hc45 : ¬ (((i1 &&& (2147483647 : Int32)) % (7 : Int32)) = (4 : Int32))) (hc47 : ((i1 &&& (2147483647 : Int32)) % (7 : Int32)) = (5 : Int32)) (hc48 : ((i1 &&& (2147483647 : Int32)) % (7 : Int32)) < (3 : Int32)) : False := by
  have q1 := rng32 i0
  have q2 : (i0 &&& (2147483647 : Int32)).toInt = i0.toInt % 2147483648 := Jvm.Kit.i32_mask i0 (2147483647 : Int32) (k := 31) (by decide) (by decide)
  have q3 := rng32 (i0 &&& (2147483647 : Int32))
  have q4 : (7 : Int32).toInt = 7 := rfl
  have q5 : ((i0 &&& (2147483647 : Int32)) % (7 : Int32)).toInt = (i0 &&& (2147483647 : Int32)).toInt % 7 := Jvm.Kit.i32_rem_nonneg (y := (7 : Int32)) (by omega)
  have q6 := rng32 ((i0 &&& (2147483647 : Int32)) % (7 : Int32))
  have q7 : (0 : Int32).toInt = 0 := rfl
  have q8 := mt (fun z : (((i0 &&& (2147483647 : Int32)) % (7 : Int32))).toInt = ((0 : Int32)).toInt => Int32.toInt_inj.mp z) hc1
  have q9 : (1 : Int32).toInt = 1 := rfl
  have q10 := mt (fun z : (((i0 &&& (2147483647 : Int32)) % (7 : Int32))).toInt = ((1 : Int32)).toInt => Int32.toInt_inj.mp z) hc22
  have q11 : (2 : Int32).toInt = 2 := rfl
  have q12 := congrArg Int32.toInt hc36
  have q13 := rng32 i1
  have q14 : (i1 &&& (2147483647 : Int32)).toInt = i1.toInt % 2147483648 := Jvm.Kit.i32_mask i1 (2147483647 : Int32) (k := 31) (by decide) (by decide)
  have q15 := rng32 (i1 &&& (2147483647 : Int32))
  have q16 : ((i1 &&& (2147483647 : Int32)) % (7 : Int32)).toInt = (i1 &&& (2147483647 : Int32)).toInt % 7 := Jvm.Kit.i32_rem_nonneg (y := (7 : Int32)) (by omega)
  have q17 := rng32 ((i1 &&& (2147483647 : Int32)) % (7 : Int32))
  have q18 := mt (fun z : (((i1 &&& (2147483647 : Int32)) % (7 : Int32))).toInt = ((0 : Int32)).toInt => Int32.toInt_inj.mp z) hc37
  have q19 := mt (fun z : (((i1 &&& (2147483647 : Int32)) % (7 : Int32))).toInt = ((1 : Int32)).toInt => Int32.toInt_inj.mp z) hc39
  have q20 := mt (fun z : (((i1 &&& (2147483647 : Int32)) % (7 : Int32))).toInt = ((2 : Int32)).toInt => Int32.toInt_inj.mp z) hc41
  have q21 : (3 : Int32).toInt = 3 := rfl
  have q22 := mt (fun z : (((i1 &&& (2147483647 : Int32)) % (7 : Int32))).toInt = ((3 : Int32)).toInt => Int32.toInt_inj.mp z) hc43
  have q23 : (4 : Int32).toInt = 4 := rfl
  have q24 := mt (fun z : (((i1 &&& (2147483647 : Int32)) % (7 : Int32))).toInt = ((4 : Int32)).toInt => Int32.toInt_inj.mp z) hc45
  have q25 : (5 : Int32).toInt = 5 := rfl
  have q26 := congrArg Int32.toInt hc47
  have q27 := Int32.lt_iff_toInt_lt.mp hc48
  omega
theorem own_dead_28 (i0 : Int32) (i1 : Int32) (hc1 : ¬ (((i0 &&& (2147483647 : Int32)) % (7 : Int32)) = (0 : Int32))) (hc22 : ¬ (((i0 &&& (2147483647 : Int32)) % (7 : Int32)) = (1 : Int32))) (hc36 : ((i0 &&& (2147483647 : Int32)) % (7 : Int32)) = (2 : Int32)) (hc37 : ¬ (((i1 &&& (2147483647 : Int32)) % (7 : Int32)) = (0 : Int32))) (hc39 : ¬ (((i1 &&& (2147483647 : Int32)) % (7 : Int32)) = (1 : Int32))) (hc41 : ¬ (((i1 &&& (2147483647 : Int32)) % (7 : Int32)) = (2 : Int32))) (hc43 : ¬ (((i1 &&& (2147483647 : Int32)) % (7 : Int32)) = (3 : Int32))) (hc45 : ¬ (((i1 &&& (2147483647 : Int32)) % (7 : Int32)) = (4 : Int32))) (hc47 : ¬ (((i1 &&& (2147483647 : Int32)) % (7 : Int32)) = (5 : Int32))) (hc49 : ((i1 &&& (2147483647 : Int32)) % (7 : Int32)) < (3 : Int32)) : False := by
  have q1 := rng32 i0
  have q2 : (i0 &&& (2147483647 : Int32)).toInt = i0.toInt % 2147483648 := Jvm.Kit.i32_mask i0 (2147483647 : Int32) (k := 31) (by decide) (by decide)
  have q3 := rng32 (i0 &&& (2147483647 : Int32))
  have q4 : (7 : Int32).toInt = 7 := rfl
  have q5 : ((i0 &&& (2147483647 : Int32)) % (7 : Int32)).toInt = (i0 &&& (2147483647 : Int32)).toInt % 7 := Jvm.Kit.i32_rem_nonneg (y := (7 : Int32)) (by omega)
  have q6 := rng32 ((i0 &&& (2147483647 : Int32)) % (7 : Int32))
  have q7 : (0 : Int32).toInt = 0 := rfl
  have q8 := mt (fun z : (((i0 &&& (2147483647 : Int32)) % (7 : Int32))).toInt = ((0 : Int32)).toInt => Int32.toInt_inj.mp z) hc1
  have q9 : (1 : Int32).toInt = 1 := rfl
  have q10 := mt (fun z : (((i0 &&& (2147483647 : Int32)) % (7 : Int32))).toInt = ((1 : Int32)).toInt => Int32.toInt_inj.mp z) hc22
  have q11 : (2 : Int32).toInt = 2 := rfl
  have q12 := congrArg Int32.toInt hc36
  have q13 := rng32 i1
  have q14 : (i1 &&& (2147483647 : Int32)).toInt = i1.toInt % 2147483648 := Jvm.Kit.i32_mask i1 (2147483647 : Int32) (k := 31) (by decide) (by decide)
  have q15 := rng32 (i1 &&& (2147483647 : Int32))
  have q16 : ((i1 &&& (2147483647 : Int32)) % (7 : Int32)).toInt = (i1 &&& (2147483647 : Int32)).toInt % 7 := Jvm.Kit.i32_rem_nonneg (y := (7 : Int32)) (by omega)
  have q17 := rng32 ((i1 &&& (2147483647 : Int32)) % (7 : Int32))
  have q18 := mt (fun z : (((i1 &&& (2147483647 : Int32)) % (7 : Int32))).toInt = ((0 : Int32)).toInt => Int32.toInt_inj.mp z) hc37
  have q19 := mt (fun z : (((i1 &&& (2147483647 : Int32)) % (7 : Int32))).toInt = ((1 : Int32)).toInt => Int32.toInt_inj.mp z) hc39
  have q20 := mt (fun z : (((i1 &&& (2147483647 : Int32)) % (7 : Int32))).toInt = ((2 : Int32)).toInt => Int32.toInt_inj.mp z) hc41
  have q21 : (3 : Int32).toInt = 3 := rfl
  have q22 := mt (fun z : (((i1 &&& (2147483647 : Int32)) % (7 : Int32))).toInt = ((3 : Int32)).toInt => Int32.toInt_inj.mp z) hc43
  have q23 : (4 : Int32).toInt = 4 := rfl
  have q24 := mt (fun z : (((i1 &&& (2147483647 : Int32)) % (7 : Int32))).toInt = ((4 : Int32)).toInt => Int32.toInt_inj.mp z) hc45
  have q25 : (5 : Int32).toInt = 5 := rfl
  have q26 := mt (fun z : (((i1 &&& (2147483647 : Int32)) % (7 : Int32))).toInt = ((5 : Int32)).toInt => Int32.toInt_inj.mp z) hc47
  have q27 := Int32.lt_iff_toInt_lt.mp hc49
  omega
set_option maxRecDepth 65536 in
set_option maxHeartbeats 40000000 in
theorem comes_1 {Post : Tables → Env → Array Value → State → Outcome → State → Prop} (hpost : ∀ tb e args s v u, (limb_1_1.after args s (.returned v) u = true ∧ limb_1_2.after args s (.returned v) u = true ∧ True) → FrameEnd s (.returned v) u (Jvm.fieldLocs frame_1_writes args s ++ Jvm.arrayLocs frame_1_arrays args s ++ Jvm.staticLocs frame_1_statics s) 0 0 → Post tb e args s (.returned v) u) :
    ArmFor flags0 classFile x code maxLocals ret World_1 tables_1 room_1 Calls_1 rest_1 Pre_1 Post := by
  intro l hfl _ _ p e ha hc hk s m args below hf hA hF happ hP
  obtain ⟨hcalls, hrest, hpre⟩ := hP
  obtain ⟨-, -, -, hnamed, -, -, -, hat⟩ := (Spec.applies_iff hf).mp happ
  obtain ⟨hg, hn⟩ := and_e (Cond.before_iff.mp (show (Jvm.Cond.and given_1 narrow_1).before args s = true from hpre))
  obtain ⟨g0, gr0⟩ := and_e hg
  obtain ⟨g1, gr1⟩ := and_e gr0
  obtain ⟨w0, w1, rfl⟩ : ∃ w0 w1 : Value, args = #[w0, w1] := by
    have hs : args.size = 2 := by simpa [Cond.value, given_1] using g0
    obtain ⟨L⟩ := args
    match L, hs with
    | [w0, w1], _ => exact ⟨w0, w1, rfl⟩
  have hw := fun d (hd : d ∈ tables_1) => atoms_spec (ws := Jvm.Cond.code x code maxLocals ret :: tables_1) hat d (List.mem_cons_of_mem _ hd)
  have hfit : Fit s := fun {y c} hc i hi => by
    obtain ⟨ha, rfl⟩ := Array.getElem?_eq_some_iff.mp hc
    have q := List.all_eq_true.mp ((Array.all_eq_true_iff_forall_mem.mp hF) _ (Array.getElem_mem ha)) i (List.mem_range.mpr hi)
    simpa [Array.getElem?_eq_getElem hi] using q
  obtain ⟨i0, ei0⟩ := is_v g1
  obtain rfl : w0 = (.int i0) := Option.some.inj ei0
  obtain ⟨i1, ei1⟩ := is_v gr1
  obtain rfl : w1 = (.int i1) := Option.some.inj ei1
  obtain ⟨c0, cr0⟩ := and_e hn
  obtain ⟨c1, cr1⟩ := and_e cr0
  obtain ⟨c2, cr2⟩ := and_e cr1
  obtain ⟨c3, cr3⟩ := and_e cr2
  obtain ⟨c4, cr4⟩ := and_e cr3
  obtain ⟨c5, cr5⟩ := and_e cr4
  obtain ⟨c6, cr6⟩ := and_e cr5
  obtain ⟨c7, cr7⟩ := and_e cr6
  obtain ⟨c8, cr8⟩ := and_e cr7
  obtain ⟨c9, cr9⟩ := and_e cr8
  obtain ⟨c10, cr10⟩ := and_e cr9
  obtain ⟨c11, cr11⟩ := and_e cr10
  obtain ⟨c12, cr12⟩ := and_e cr11
  obtain ⟨c13, cr13⟩ := and_e cr12
  obtain ⟨c14, cr14⟩ := and_e cr13
  obtain ⟨c15, cr15⟩ := and_e cr14
  obtain ⟨c16, cr16⟩ := and_e cr15
  obtain ⟨c17, cr17⟩ := and_e cr16
  obtain ⟨c18, cr18⟩ := and_e cr17
  obtain ⟨c19, cr19⟩ := and_e cr18
  obtain ⟨x_ACCOUNT_0, ev_ACCOUNT_0⟩ := exa_v c0
  have S_ACCOUNT_0 := Sta.start ev_ACCOUNT_0 (Or.inr ⟨(hw _ (List.mem_of_getElem? (i := 6) rfl)), (hw _ (List.mem_of_getElem? (i := 7) rfl))⟩)
  have E_ACCOUNT_0 := Exa.start ev_ACCOUNT_0 c0
  obtain ⟨x_TABLE_1, ev_TABLE_1⟩ := exa_v c1
  have S_TABLE_1 := Sta.start ev_TABLE_1 (Or.inr ⟨(hw _ (List.mem_of_getElem? (i := 6) rfl)), (hw _ (List.mem_of_getElem? (i := 9) rfl))⟩)
  have E_TABLE_1 := Exa.start ev_TABLE_1 c1
  obtain ⟨x_SCHEMA_2, ev_SCHEMA_2⟩ := exa_v c2
  have S_SCHEMA_2 := Sta.start ev_SCHEMA_2 (Or.inr ⟨(hw _ (List.mem_of_getElem? (i := 6) rfl)), (hw _ (List.mem_of_getElem? (i := 17) rfl))⟩)
  have E_SCHEMA_2 := Exa.start ev_SCHEMA_2 c2
  obtain ⟨x_DATABASE_3, ev_DATABASE_3⟩ := exa_v c6
  have S_DATABASE_3 := Sta.start ev_DATABASE_3 (Or.inr ⟨(hw _ (List.mem_of_getElem? (i := 6) rfl)), (hw _ (List.mem_of_getElem? (i := 18) rfl))⟩)
  have E_DATABASE_3 := Exa.start ev_DATABASE_3 c6
  obtain ⟨x_FUNCTION_4, ev_FUNCTION_4⟩ := exa_v c10
  have S_FUNCTION_4 := Sta.start ev_FUNCTION_4 (Or.inr ⟨(hw _ (List.mem_of_getElem? (i := 6) rfl)), (hw _ (List.mem_of_getElem? (i := 24) rfl))⟩)
  have E_FUNCTION_4 := Exa.start ev_FUNCTION_4 c10
  obtain ⟨x_VIEW_5, ev_VIEW_5⟩ := exa_v c13
  have S_VIEW_5 := Sta.start ev_VIEW_5 (Or.inr ⟨(hw _ (List.mem_of_getElem? (i := 6) rfl)), (hw _ (List.mem_of_getElem? (i := 27) rfl))⟩)
  have E_VIEW_5 := Exa.start ev_VIEW_5 c13
  obtain ⟨x_PROCEDURE_6, ev_PROCEDURE_6⟩ := exa_v c15
  have S_PROCEDURE_6 := Sta.start ev_PROCEDURE_6 (Or.inr ⟨(hw _ (List.mem_of_getElem? (i := 6) rfl)), (hw _ (List.mem_of_getElem? (i := 29) rfl))⟩)
  have E_PROCEDURE_6 := Exa.start ev_PROCEDURE_6 c15
  have F_TABLE_1_container := own_fld_ref ev_TABLE_1 ev_SCHEMA_2 c3
  have F_SCHEMA_2_ordinal := own_fld_int ev_SCHEMA_2 c4
  have F_ACCOUNT_0_ordinal := own_fld_int ev_ACCOUNT_0 c5
  have F_SCHEMA_2_container := own_fld_ref ev_SCHEMA_2 ev_DATABASE_3 c7
  have F_DATABASE_3_ordinal := own_fld_int ev_DATABASE_3 c8
  have F_DATABASE_3_container := own_fld_null ev_DATABASE_3 c9
  have F_FUNCTION_4_container := own_fld_ref ev_FUNCTION_4 ev_SCHEMA_2 c11
  have F_TABLE_1_ordinal := own_fld_int ev_TABLE_1 c12
  have F_ACCOUNT_0_container := own_fld_null ev_ACCOUNT_0 c14
  have F_PROCEDURE_6_container := own_fld_ref ev_PROCEDURE_6 ev_SCHEMA_2 c16
  have F_VIEW_5_ordinal := own_fld_int ev_VIEW_5 c17
  have F_PROCEDURE_6_ordinal := own_fld_int ev_PROCEDURE_6 c18
  have F_FUNCTION_4_ordinal := own_fld_int ev_FUNCTION_4 c19
  have F_VIEW_5_container := own_fld_ref ev_VIEW_5 ev_SCHEMA_2 cr19
  have hM : MetFree l x (head1 (Jvm.Cond.code x code maxLocals ret :: tables_1) room_1) (fun a U => a = #[(.int i0), (.int i1)] ∧ s.Warmed39 U.vm ∧ U.heap = s.heap) (fun _ _ _ _ _ => True) (fun _ U o U' => ∃ v L, o = .returned v ∧ own_QT s.heap.size v L ∧ FrameEnd U o U' L room_1.cells room_1.slots) := by
    by_cases hc1 : ((i0 &&& (2147483647 : Int32)) % (7 : Int32)) = (0 : Int32)
    · by_cases hc2 : ((i1 &&& (2147483647 : Int32)) % (7 : Int32)) = (0 : Int32)
      · by_cases hc3 : ((i0 &&& (2147483647 : Int32)) % (7 : Int32)) = (1 : Int32)
        · exact (own_dead_1 i0 i1 hc1 hc2 hc3).elim
        · by_cases hc4 : ((i0 &&& (2147483647 : Int32)) % (7 : Int32)) = (2 : Int32)
          · exact (own_dead_2 i0 i1 hc1 hc2 hc3 hc4).elim
          · exact rm0_1 l s _ hw tables_1 i0 i1 x_ACCOUNT_0 (0 : Int32) (0 : Int32) s.heap s.heap.size (Nat.le_refl _) (rm1_1 l s _ hw [] ((i0 &&& (2147483647 : Int32)) % (7 : Int32)) x_ACCOUNT_0 s.heap s.heap.size (Nat.le_refl _) hc1 S_ACCOUNT_0) (rm1_1 l s _ hw [] ((i1 &&& (2147483647 : Int32)) % (7 : Int32)) x_ACCOUNT_0 s.heap s.heap.size (Nat.le_refl _) hc2 S_ACCOUNT_0) (rm2_1 l s _ hw [] x_ACCOUNT_0 s.heap s.heap.size (Nat.le_refl _) F_ACCOUNT_0_container) E_ACCOUNT_0 (rm3_1 l s _ hw [] ((i0 &&& (2147483647 : Int32)) % (7 : Int32)) ((i1 &&& (2147483647 : Int32)) % (7 : Int32)) s.heap s.heap.size (Nat.le_refl _) hc3 hc4) (by decide)
      · by_cases hc5 : ((i1 &&& (2147483647 : Int32)) % (7 : Int32)) = (1 : Int32)
        · by_cases hc6 : ((i0 &&& (2147483647 : Int32)) % (7 : Int32)) = (1 : Int32)
          · exact (own_dead_3 i0 i1 hc1 hc2 hc5 hc6).elim
          · by_cases hc7 : ((i0 &&& (2147483647 : Int32)) % (7 : Int32)) = (2 : Int32)
            · exact (own_dead_4 i0 i1 hc1 hc2 hc5 hc6 hc7).elim
            · exact rm0_2 l s _ hw tables_1 i0 i1 x_ACCOUNT_0 x_DATABASE_3 (0 : Int32) (0 : Int32) s.heap s.heap.size (Nat.le_refl _) (rm1_1 l s _ hw [] ((i0 &&& (2147483647 : Int32)) % (7 : Int32)) x_ACCOUNT_0 s.heap s.heap.size (Nat.le_refl _) hc1 S_ACCOUNT_0) (rm1_2 l s _ hw [] ((i1 &&& (2147483647 : Int32)) % (7 : Int32)) x_DATABASE_3 s.heap s.heap.size (Nat.le_refl _) hc2 hc5 S_DATABASE_3) (rm2_2 l s _ hw [] x_ACCOUNT_0 x_DATABASE_3 s.heap s.heap.size (Nat.le_refl _) F_DATABASE_3_container) E_ACCOUNT_0 (rm3_1 l s _ hw [] ((i0 &&& (2147483647 : Int32)) % (7 : Int32)) ((i1 &&& (2147483647 : Int32)) % (7 : Int32)) s.heap s.heap.size (Nat.le_refl _) hc6 hc7) (by decide)
        · by_cases hc8 : ((i1 &&& (2147483647 : Int32)) % (7 : Int32)) = (2 : Int32)
          · by_cases hc9 : ((i0 &&& (2147483647 : Int32)) % (7 : Int32)) = (1 : Int32)
            · exact (own_dead_5 i0 i1 hc1 hc2 hc5 hc8 hc9).elim
            · by_cases hc10 : ((i0 &&& (2147483647 : Int32)) % (7 : Int32)) = (2 : Int32)
              · exact (own_dead_6 i0 i1 hc1 hc2 hc5 hc8 hc9 hc10).elim
              · exact rm0_2 l s _ hw tables_1 i0 i1 x_ACCOUNT_0 x_SCHEMA_2 (0 : Int32) (0 : Int32) s.heap s.heap.size (Nat.le_refl _) (rm1_1 l s _ hw [] ((i0 &&& (2147483647 : Int32)) % (7 : Int32)) x_ACCOUNT_0 s.heap s.heap.size (Nat.le_refl _) hc1 S_ACCOUNT_0) (rm1_3 l s _ hw [] ((i1 &&& (2147483647 : Int32)) % (7 : Int32)) x_SCHEMA_2 s.heap s.heap.size (Nat.le_refl _) hc2 hc5 hc8 S_SCHEMA_2) (rm2_3 l s _ hw [] x_ACCOUNT_0 x_SCHEMA_2 x_DATABASE_3 s.heap s.heap.size (Nat.le_refl _) F_SCHEMA_2_container (Fld.ne F_DATABASE_3_ordinal F_ACCOUNT_0_ordinal (own_ne_int (by decide))) F_DATABASE_3_container) E_ACCOUNT_0 (rm3_1 l s _ hw [] ((i0 &&& (2147483647 : Int32)) % (7 : Int32)) ((i1 &&& (2147483647 : Int32)) % (7 : Int32)) s.heap s.heap.size (Nat.le_refl _) hc9 hc10) (by decide)
          · by_cases hc11 : ((i1 &&& (2147483647 : Int32)) % (7 : Int32)) = (3 : Int32)
            · by_cases hc12 : ((i0 &&& (2147483647 : Int32)) % (7 : Int32)) = (1 : Int32)
              · exact (own_dead_7 i0 i1 hc1 hc2 hc5 hc8 hc11 hc12).elim
              · by_cases hc13 : ((i0 &&& (2147483647 : Int32)) % (7 : Int32)) = (2 : Int32)
                · exact (own_dead_8 i0 i1 hc1 hc2 hc5 hc8 hc11 hc12 hc13).elim
                · exact rm0_2 l s _ hw tables_1 i0 i1 x_ACCOUNT_0 x_TABLE_1 (0 : Int32) (0 : Int32) s.heap s.heap.size (Nat.le_refl _) (rm1_1 l s _ hw [] ((i0 &&& (2147483647 : Int32)) % (7 : Int32)) x_ACCOUNT_0 s.heap s.heap.size (Nat.le_refl _) hc1 S_ACCOUNT_0) (rm1_4 l s _ hw [] ((i1 &&& (2147483647 : Int32)) % (7 : Int32)) x_TABLE_1 s.heap s.heap.size (Nat.le_refl _) hc2 hc5 hc8 hc11 S_TABLE_1) (rm2_4 l s _ hw [] x_ACCOUNT_0 x_TABLE_1 x_SCHEMA_2 x_DATABASE_3 s.heap s.heap.size (Nat.le_refl _) F_TABLE_1_container (Fld.ne F_SCHEMA_2_ordinal F_ACCOUNT_0_ordinal (own_ne_int (by decide))) F_SCHEMA_2_container (Fld.ne F_DATABASE_3_ordinal F_ACCOUNT_0_ordinal (own_ne_int (by decide))) F_DATABASE_3_container) E_ACCOUNT_0 (rm3_1 l s _ hw [] ((i0 &&& (2147483647 : Int32)) % (7 : Int32)) ((i1 &&& (2147483647 : Int32)) % (7 : Int32)) s.heap s.heap.size (Nat.le_refl _) hc12 hc13) (by decide)
            · by_cases hc14 : ((i1 &&& (2147483647 : Int32)) % (7 : Int32)) = (4 : Int32)
              · by_cases hc15 : ((i0 &&& (2147483647 : Int32)) % (7 : Int32)) = (1 : Int32)
                · exact (own_dead_9 i0 i1 hc1 hc2 hc5 hc8 hc11 hc14 hc15).elim
                · by_cases hc16 : ((i0 &&& (2147483647 : Int32)) % (7 : Int32)) = (2 : Int32)
                  · exact (own_dead_10 i0 i1 hc1 hc2 hc5 hc8 hc11 hc14 hc15 hc16).elim
                  · exact rm0_2 l s _ hw tables_1 i0 i1 x_ACCOUNT_0 x_VIEW_5 (0 : Int32) (0 : Int32) s.heap s.heap.size (Nat.le_refl _) (rm1_1 l s _ hw [] ((i0 &&& (2147483647 : Int32)) % (7 : Int32)) x_ACCOUNT_0 s.heap s.heap.size (Nat.le_refl _) hc1 S_ACCOUNT_0) (rm1_5 l s _ hw [] ((i1 &&& (2147483647 : Int32)) % (7 : Int32)) x_VIEW_5 s.heap s.heap.size (Nat.le_refl _) hc2 hc5 hc8 hc11 hc14 S_VIEW_5) (rm2_4 l s _ hw [] x_ACCOUNT_0 x_VIEW_5 x_SCHEMA_2 x_DATABASE_3 s.heap s.heap.size (Nat.le_refl _) F_VIEW_5_container (Fld.ne F_SCHEMA_2_ordinal F_ACCOUNT_0_ordinal (own_ne_int (by decide))) F_SCHEMA_2_container (Fld.ne F_DATABASE_3_ordinal F_ACCOUNT_0_ordinal (own_ne_int (by decide))) F_DATABASE_3_container) E_ACCOUNT_0 (rm3_1 l s _ hw [] ((i0 &&& (2147483647 : Int32)) % (7 : Int32)) ((i1 &&& (2147483647 : Int32)) % (7 : Int32)) s.heap s.heap.size (Nat.le_refl _) hc15 hc16) (by decide)
              · by_cases hc17 : ((i1 &&& (2147483647 : Int32)) % (7 : Int32)) = (5 : Int32)
                · by_cases hc18 : ((i0 &&& (2147483647 : Int32)) % (7 : Int32)) = (1 : Int32)
                  · exact (own_dead_11 i0 i1 hc1 hc2 hc5 hc8 hc11 hc14 hc17 hc18).elim
                  · by_cases hc19 : ((i0 &&& (2147483647 : Int32)) % (7 : Int32)) = (2 : Int32)
                    · exact (own_dead_12 i0 i1 hc1 hc2 hc5 hc8 hc11 hc14 hc17 hc18 hc19).elim
                    · exact rm0_2 l s _ hw tables_1 i0 i1 x_ACCOUNT_0 x_FUNCTION_4 (0 : Int32) (0 : Int32) s.heap s.heap.size (Nat.le_refl _) (rm1_1 l s _ hw [] ((i0 &&& (2147483647 : Int32)) % (7 : Int32)) x_ACCOUNT_0 s.heap s.heap.size (Nat.le_refl _) hc1 S_ACCOUNT_0) (rm1_6 l s _ hw [] ((i1 &&& (2147483647 : Int32)) % (7 : Int32)) x_FUNCTION_4 s.heap s.heap.size (Nat.le_refl _) hc2 hc5 hc8 hc11 hc14 hc17 S_FUNCTION_4) (rm2_4 l s _ hw [] x_ACCOUNT_0 x_FUNCTION_4 x_SCHEMA_2 x_DATABASE_3 s.heap s.heap.size (Nat.le_refl _) F_FUNCTION_4_container (Fld.ne F_SCHEMA_2_ordinal F_ACCOUNT_0_ordinal (own_ne_int (by decide))) F_SCHEMA_2_container (Fld.ne F_DATABASE_3_ordinal F_ACCOUNT_0_ordinal (own_ne_int (by decide))) F_DATABASE_3_container) E_ACCOUNT_0 (rm3_1 l s _ hw [] ((i0 &&& (2147483647 : Int32)) % (7 : Int32)) ((i1 &&& (2147483647 : Int32)) % (7 : Int32)) s.heap s.heap.size (Nat.le_refl _) hc18 hc19) (by decide)
                · by_cases hc20 : ((i0 &&& (2147483647 : Int32)) % (7 : Int32)) = (1 : Int32)
                  · exact (own_dead_13 i0 i1 hc1 hc2 hc5 hc8 hc11 hc14 hc17 hc20).elim
                  · by_cases hc21 : ((i0 &&& (2147483647 : Int32)) % (7 : Int32)) = (2 : Int32)
                    · exact (own_dead_14 i0 i1 hc1 hc2 hc5 hc8 hc11 hc14 hc17 hc20 hc21).elim
                    · exact rm0_2 l s _ hw tables_1 i0 i1 x_ACCOUNT_0 x_PROCEDURE_6 (0 : Int32) (0 : Int32) s.heap s.heap.size (Nat.le_refl _) (rm1_1 l s _ hw [] ((i0 &&& (2147483647 : Int32)) % (7 : Int32)) x_ACCOUNT_0 s.heap s.heap.size (Nat.le_refl _) hc1 S_ACCOUNT_0) (rm1_7 l s _ hw [] ((i1 &&& (2147483647 : Int32)) % (7 : Int32)) x_PROCEDURE_6 s.heap s.heap.size (Nat.le_refl _) hc2 hc5 hc8 hc11 hc14 hc17 S_PROCEDURE_6) (rm2_4 l s _ hw [] x_ACCOUNT_0 x_PROCEDURE_6 x_SCHEMA_2 x_DATABASE_3 s.heap s.heap.size (Nat.le_refl _) F_PROCEDURE_6_container (Fld.ne F_SCHEMA_2_ordinal F_ACCOUNT_0_ordinal (own_ne_int (by decide))) F_SCHEMA_2_container (Fld.ne F_DATABASE_3_ordinal F_ACCOUNT_0_ordinal (own_ne_int (by decide))) F_DATABASE_3_container) E_ACCOUNT_0 (rm3_1 l s _ hw [] ((i0 &&& (2147483647 : Int32)) % (7 : Int32)) ((i1 &&& (2147483647 : Int32)) % (7 : Int32)) s.heap s.heap.size (Nat.le_refl _) hc20 hc21) (by decide)
    · by_cases hc22 : ((i0 &&& (2147483647 : Int32)) % (7 : Int32)) = (1 : Int32)
      · by_cases hc23 : ((i1 &&& (2147483647 : Int32)) % (7 : Int32)) = (0 : Int32)
        · by_cases hc24 : ((i1 &&& (2147483647 : Int32)) % (7 : Int32)) < (2 : Int32)
          · exact rm0_2 l s _ hw tables_1 i0 i1 x_DATABASE_3 x_ACCOUNT_0 (0 : Int32) (0 : Int32) s.heap s.heap.size (Nat.le_refl _) (rm1_2 l s _ hw [] ((i0 &&& (2147483647 : Int32)) % (7 : Int32)) x_DATABASE_3 s.heap s.heap.size (Nat.le_refl _) hc1 hc22 S_DATABASE_3) (rm1_1 l s _ hw [] ((i1 &&& (2147483647 : Int32)) % (7 : Int32)) x_ACCOUNT_0 s.heap s.heap.size (Nat.le_refl _) hc23 S_ACCOUNT_0) (rm2_2 l s _ hw [] x_DATABASE_3 x_ACCOUNT_0 s.heap s.heap.size (Nat.le_refl _) F_ACCOUNT_0_container) E_DATABASE_3 (rm3_2 l s _ hw [] ((i0 &&& (2147483647 : Int32)) % (7 : Int32)) ((i1 &&& (2147483647 : Int32)) % (7 : Int32)) s.heap s.heap.size (Nat.le_refl _) hc22 hc24) (by decide)
          · exact (own_dead_15 i0 i1 hc1 hc22 hc23 hc24).elim
        · by_cases hc25 : ((i1 &&& (2147483647 : Int32)) % (7 : Int32)) = (1 : Int32)
          · by_cases hc26 : ((i1 &&& (2147483647 : Int32)) % (7 : Int32)) < (2 : Int32)
            · exact rm0_1 l s _ hw tables_1 i0 i1 x_DATABASE_3 (0 : Int32) (0 : Int32) s.heap s.heap.size (Nat.le_refl _) (rm1_2 l s _ hw [] ((i0 &&& (2147483647 : Int32)) % (7 : Int32)) x_DATABASE_3 s.heap s.heap.size (Nat.le_refl _) hc1 hc22 S_DATABASE_3) (rm1_2 l s _ hw [] ((i1 &&& (2147483647 : Int32)) % (7 : Int32)) x_DATABASE_3 s.heap s.heap.size (Nat.le_refl _) hc23 hc25 S_DATABASE_3) (rm2_1 l s _ hw [] x_DATABASE_3 s.heap s.heap.size (Nat.le_refl _) F_DATABASE_3_container) E_DATABASE_3 (rm3_2 l s _ hw [] ((i0 &&& (2147483647 : Int32)) % (7 : Int32)) ((i1 &&& (2147483647 : Int32)) % (7 : Int32)) s.heap s.heap.size (Nat.le_refl _) hc22 hc26) (by decide)
            · exact (own_dead_16 i0 i1 hc1 hc22 hc23 hc25 hc26).elim
          · by_cases hc27 : ((i1 &&& (2147483647 : Int32)) % (7 : Int32)) = (2 : Int32)
            · by_cases hc28 : ((i1 &&& (2147483647 : Int32)) % (7 : Int32)) < (2 : Int32)
              · exact (own_dead_17 i0 i1 hc1 hc22 hc23 hc25 hc27 hc28).elim
              · exact rm0_2 l s _ hw tables_1 i0 i1 x_DATABASE_3 x_SCHEMA_2 (1 : Int32) (1 : Int32) s.heap s.heap.size (Nat.le_refl _) (rm1_2 l s _ hw [] ((i0 &&& (2147483647 : Int32)) % (7 : Int32)) x_DATABASE_3 s.heap s.heap.size (Nat.le_refl _) hc1 hc22 S_DATABASE_3) (rm1_3 l s _ hw [] ((i1 &&& (2147483647 : Int32)) % (7 : Int32)) x_SCHEMA_2 s.heap s.heap.size (Nat.le_refl _) hc23 hc25 hc27 S_SCHEMA_2) (rm2_5 l s _ hw [] x_DATABASE_3 x_SCHEMA_2 s.heap s.heap.size (Nat.le_refl _) F_SCHEMA_2_container) E_DATABASE_3 (rm3_3 l s _ hw [] ((i0 &&& (2147483647 : Int32)) % (7 : Int32)) ((i1 &&& (2147483647 : Int32)) % (7 : Int32)) s.heap s.heap.size (Nat.le_refl _) hc22 hc28) (by decide)
            · by_cases hc29 : ((i1 &&& (2147483647 : Int32)) % (7 : Int32)) = (3 : Int32)
              · by_cases hc30 : ((i1 &&& (2147483647 : Int32)) % (7 : Int32)) < (2 : Int32)
                · exact (own_dead_18 i0 i1 hc1 hc22 hc23 hc25 hc27 hc29 hc30).elim
                · exact rm0_2 l s _ hw tables_1 i0 i1 x_DATABASE_3 x_TABLE_1 (1 : Int32) (1 : Int32) s.heap s.heap.size (Nat.le_refl _) (rm1_2 l s _ hw [] ((i0 &&& (2147483647 : Int32)) % (7 : Int32)) x_DATABASE_3 s.heap s.heap.size (Nat.le_refl _) hc1 hc22 S_DATABASE_3) (rm1_4 l s _ hw [] ((i1 &&& (2147483647 : Int32)) % (7 : Int32)) x_TABLE_1 s.heap s.heap.size (Nat.le_refl _) hc23 hc25 hc27 hc29 S_TABLE_1) (rm2_6 l s _ hw [] x_DATABASE_3 x_TABLE_1 x_SCHEMA_2 s.heap s.heap.size (Nat.le_refl _) F_TABLE_1_container (Fld.ne F_SCHEMA_2_ordinal F_DATABASE_3_ordinal (own_ne_int (by decide))) F_SCHEMA_2_container) E_DATABASE_3 (rm3_3 l s _ hw [] ((i0 &&& (2147483647 : Int32)) % (7 : Int32)) ((i1 &&& (2147483647 : Int32)) % (7 : Int32)) s.heap s.heap.size (Nat.le_refl _) hc22 hc30) (by decide)
              · by_cases hc31 : ((i1 &&& (2147483647 : Int32)) % (7 : Int32)) = (4 : Int32)
                · by_cases hc32 : ((i1 &&& (2147483647 : Int32)) % (7 : Int32)) < (2 : Int32)
                  · exact (own_dead_19 i0 i1 hc1 hc22 hc23 hc25 hc27 hc29 hc31 hc32).elim
                  · exact rm0_2 l s _ hw tables_1 i0 i1 x_DATABASE_3 x_VIEW_5 (1 : Int32) (1 : Int32) s.heap s.heap.size (Nat.le_refl _) (rm1_2 l s _ hw [] ((i0 &&& (2147483647 : Int32)) % (7 : Int32)) x_DATABASE_3 s.heap s.heap.size (Nat.le_refl _) hc1 hc22 S_DATABASE_3) (rm1_5 l s _ hw [] ((i1 &&& (2147483647 : Int32)) % (7 : Int32)) x_VIEW_5 s.heap s.heap.size (Nat.le_refl _) hc23 hc25 hc27 hc29 hc31 S_VIEW_5) (rm2_6 l s _ hw [] x_DATABASE_3 x_VIEW_5 x_SCHEMA_2 s.heap s.heap.size (Nat.le_refl _) F_VIEW_5_container (Fld.ne F_SCHEMA_2_ordinal F_DATABASE_3_ordinal (own_ne_int (by decide))) F_SCHEMA_2_container) E_DATABASE_3 (rm3_3 l s _ hw [] ((i0 &&& (2147483647 : Int32)) % (7 : Int32)) ((i1 &&& (2147483647 : Int32)) % (7 : Int32)) s.heap s.heap.size (Nat.le_refl _) hc22 hc32) (by decide)
                · by_cases hc33 : ((i1 &&& (2147483647 : Int32)) % (7 : Int32)) = (5 : Int32)
                  · by_cases hc34 : ((i1 &&& (2147483647 : Int32)) % (7 : Int32)) < (2 : Int32)
                    · exact (own_dead_20 i0 i1 hc1 hc22 hc23 hc25 hc27 hc29 hc31 hc33 hc34).elim
                    · exact rm0_2 l s _ hw tables_1 i0 i1 x_DATABASE_3 x_FUNCTION_4 (1 : Int32) (1 : Int32) s.heap s.heap.size (Nat.le_refl _) (rm1_2 l s _ hw [] ((i0 &&& (2147483647 : Int32)) % (7 : Int32)) x_DATABASE_3 s.heap s.heap.size (Nat.le_refl _) hc1 hc22 S_DATABASE_3) (rm1_6 l s _ hw [] ((i1 &&& (2147483647 : Int32)) % (7 : Int32)) x_FUNCTION_4 s.heap s.heap.size (Nat.le_refl _) hc23 hc25 hc27 hc29 hc31 hc33 S_FUNCTION_4) (rm2_6 l s _ hw [] x_DATABASE_3 x_FUNCTION_4 x_SCHEMA_2 s.heap s.heap.size (Nat.le_refl _) F_FUNCTION_4_container (Fld.ne F_SCHEMA_2_ordinal F_DATABASE_3_ordinal (own_ne_int (by decide))) F_SCHEMA_2_container) E_DATABASE_3 (rm3_3 l s _ hw [] ((i0 &&& (2147483647 : Int32)) % (7 : Int32)) ((i1 &&& (2147483647 : Int32)) % (7 : Int32)) s.heap s.heap.size (Nat.le_refl _) hc22 hc34) (by decide)
                  · by_cases hc35 : ((i1 &&& (2147483647 : Int32)) % (7 : Int32)) < (2 : Int32)
                    · exact (own_dead_21 i0 i1 hc1 hc22 hc23 hc25 hc27 hc29 hc31 hc33 hc35).elim
                    · exact rm0_2 l s _ hw tables_1 i0 i1 x_DATABASE_3 x_PROCEDURE_6 (1 : Int32) (1 : Int32) s.heap s.heap.size (Nat.le_refl _) (rm1_2 l s _ hw [] ((i0 &&& (2147483647 : Int32)) % (7 : Int32)) x_DATABASE_3 s.heap s.heap.size (Nat.le_refl _) hc1 hc22 S_DATABASE_3) (rm1_7 l s _ hw [] ((i1 &&& (2147483647 : Int32)) % (7 : Int32)) x_PROCEDURE_6 s.heap s.heap.size (Nat.le_refl _) hc23 hc25 hc27 hc29 hc31 hc33 S_PROCEDURE_6) (rm2_6 l s _ hw [] x_DATABASE_3 x_PROCEDURE_6 x_SCHEMA_2 s.heap s.heap.size (Nat.le_refl _) F_PROCEDURE_6_container (Fld.ne F_SCHEMA_2_ordinal F_DATABASE_3_ordinal (own_ne_int (by decide))) F_SCHEMA_2_container) E_DATABASE_3 (rm3_3 l s _ hw [] ((i0 &&& (2147483647 : Int32)) % (7 : Int32)) ((i1 &&& (2147483647 : Int32)) % (7 : Int32)) s.heap s.heap.size (Nat.le_refl _) hc22 hc35) (by decide)
      · by_cases hc36 : ((i0 &&& (2147483647 : Int32)) % (7 : Int32)) = (2 : Int32)
        · by_cases hc37 : ((i1 &&& (2147483647 : Int32)) % (7 : Int32)) = (0 : Int32)
          · by_cases hc38 : ((i1 &&& (2147483647 : Int32)) % (7 : Int32)) < (3 : Int32)
            · exact rm0_2 l s _ hw tables_1 i0 i1 x_SCHEMA_2 x_ACCOUNT_0 (0 : Int32) (0 : Int32) s.heap s.heap.size (Nat.le_refl _) (rm1_3 l s _ hw [] ((i0 &&& (2147483647 : Int32)) % (7 : Int32)) x_SCHEMA_2 s.heap s.heap.size (Nat.le_refl _) hc1 hc22 hc36 S_SCHEMA_2) (rm1_1 l s _ hw [] ((i1 &&& (2147483647 : Int32)) % (7 : Int32)) x_ACCOUNT_0 s.heap s.heap.size (Nat.le_refl _) hc37 S_ACCOUNT_0) (rm2_2 l s _ hw [] x_SCHEMA_2 x_ACCOUNT_0 s.heap s.heap.size (Nat.le_refl _) F_ACCOUNT_0_container) E_SCHEMA_2 (rm3_4 l s _ hw [] ((i0 &&& (2147483647 : Int32)) % (7 : Int32)) ((i1 &&& (2147483647 : Int32)) % (7 : Int32)) s.heap s.heap.size (Nat.le_refl _) hc22 hc36 hc38) (by decide)
            · exact (own_dead_22 i0 i1 hc1 hc22 hc36 hc37 hc38).elim
          · by_cases hc39 : ((i1 &&& (2147483647 : Int32)) % (7 : Int32)) = (1 : Int32)
            · by_cases hc40 : ((i1 &&& (2147483647 : Int32)) % (7 : Int32)) < (3 : Int32)
              · exact rm0_2 l s _ hw tables_1 i0 i1 x_SCHEMA_2 x_DATABASE_3 (0 : Int32) (0 : Int32) s.heap s.heap.size (Nat.le_refl _) (rm1_3 l s _ hw [] ((i0 &&& (2147483647 : Int32)) % (7 : Int32)) x_SCHEMA_2 s.heap s.heap.size (Nat.le_refl _) hc1 hc22 hc36 S_SCHEMA_2) (rm1_2 l s _ hw [] ((i1 &&& (2147483647 : Int32)) % (7 : Int32)) x_DATABASE_3 s.heap s.heap.size (Nat.le_refl _) hc37 hc39 S_DATABASE_3) (rm2_2 l s _ hw [] x_SCHEMA_2 x_DATABASE_3 s.heap s.heap.size (Nat.le_refl _) F_DATABASE_3_container) E_SCHEMA_2 (rm3_4 l s _ hw [] ((i0 &&& (2147483647 : Int32)) % (7 : Int32)) ((i1 &&& (2147483647 : Int32)) % (7 : Int32)) s.heap s.heap.size (Nat.le_refl _) hc22 hc36 hc40) (by decide)
              · exact (own_dead_23 i0 i1 hc1 hc22 hc36 hc37 hc39 hc40).elim
            · by_cases hc41 : ((i1 &&& (2147483647 : Int32)) % (7 : Int32)) = (2 : Int32)
              · by_cases hc42 : ((i1 &&& (2147483647 : Int32)) % (7 : Int32)) < (3 : Int32)
                · exact rm0_1 l s _ hw tables_1 i0 i1 x_SCHEMA_2 (0 : Int32) (0 : Int32) s.heap s.heap.size (Nat.le_refl _) (rm1_3 l s _ hw [] ((i0 &&& (2147483647 : Int32)) % (7 : Int32)) x_SCHEMA_2 s.heap s.heap.size (Nat.le_refl _) hc1 hc22 hc36 S_SCHEMA_2) (rm1_3 l s _ hw [] ((i1 &&& (2147483647 : Int32)) % (7 : Int32)) x_SCHEMA_2 s.heap s.heap.size (Nat.le_refl _) hc37 hc39 hc41 S_SCHEMA_2) (rm2_7 l s _ hw [] x_SCHEMA_2 x_DATABASE_3 s.heap s.heap.size (Nat.le_refl _) F_SCHEMA_2_container (Fld.ne F_DATABASE_3_ordinal F_SCHEMA_2_ordinal (own_ne_int (by decide))) F_DATABASE_3_container) E_SCHEMA_2 (rm3_4 l s _ hw [] ((i0 &&& (2147483647 : Int32)) % (7 : Int32)) ((i1 &&& (2147483647 : Int32)) % (7 : Int32)) s.heap s.heap.size (Nat.le_refl _) hc22 hc36 hc42) (by decide)
                · exact (own_dead_24 i0 i1 hc1 hc22 hc36 hc37 hc39 hc41 hc42).elim
              · by_cases hc43 : ((i1 &&& (2147483647 : Int32)) % (7 : Int32)) = (3 : Int32)
                · by_cases hc44 : ((i1 &&& (2147483647 : Int32)) % (7 : Int32)) < (3 : Int32)
                  · exact (own_dead_25 i0 i1 hc1 hc22 hc36 hc37 hc39 hc41 hc43 hc44).elim
                  · exact rm0_2 l s _ hw tables_1 i0 i1 x_SCHEMA_2 x_TABLE_1 (1 : Int32) (1 : Int32) s.heap s.heap.size (Nat.le_refl _) (rm1_3 l s _ hw [] ((i0 &&& (2147483647 : Int32)) % (7 : Int32)) x_SCHEMA_2 s.heap s.heap.size (Nat.le_refl _) hc1 hc22 hc36 S_SCHEMA_2) (rm1_4 l s _ hw [] ((i1 &&& (2147483647 : Int32)) % (7 : Int32)) x_TABLE_1 s.heap s.heap.size (Nat.le_refl _) hc37 hc39 hc41 hc43 S_TABLE_1) (rm2_5 l s _ hw [] x_SCHEMA_2 x_TABLE_1 s.heap s.heap.size (Nat.le_refl _) F_TABLE_1_container) E_SCHEMA_2 (rm3_5 l s _ hw [] ((i0 &&& (2147483647 : Int32)) % (7 : Int32)) ((i1 &&& (2147483647 : Int32)) % (7 : Int32)) s.heap s.heap.size (Nat.le_refl _) hc22 hc36 hc44) (by decide)
                · by_cases hc45 : ((i1 &&& (2147483647 : Int32)) % (7 : Int32)) = (4 : Int32)
                  · by_cases hc46 : ((i1 &&& (2147483647 : Int32)) % (7 : Int32)) < (3 : Int32)
                    · exact (own_dead_26 i0 i1 hc1 hc22 hc36 hc37 hc39 hc41 hc43 hc45 hc46).elim
                    · exact rm0_2 l s _ hw tables_1 i0 i1 x_SCHEMA_2 x_VIEW_5 (1 : Int32) (1 : Int32) s.heap s.heap.size (Nat.le_refl _) (rm1_3 l s _ hw [] ((i0 &&& (2147483647 : Int32)) % (7 : Int32)) x_SCHEMA_2 s.heap s.heap.size (Nat.le_refl _) hc1 hc22 hc36 S_SCHEMA_2) (rm1_5 l s _ hw [] ((i1 &&& (2147483647 : Int32)) % (7 : Int32)) x_VIEW_5 s.heap s.heap.size (Nat.le_refl _) hc37 hc39 hc41 hc43 hc45 S_VIEW_5) (rm2_5 l s _ hw [] x_SCHEMA_2 x_VIEW_5 s.heap s.heap.size (Nat.le_refl _) F_VIEW_5_container) E_SCHEMA_2 (rm3_5 l s _ hw [] ((i0 &&& (2147483647 : Int32)) % (7 : Int32)) ((i1 &&& (2147483647 : Int32)) % (7 : Int32)) s.heap s.heap.size (Nat.le_refl _) hc22 hc36 hc46) (by decide)
                  · by_cases hc47 : ((i1 &&& (2147483647 : Int32)) % (7 : Int32)) = (5 : Int32)
                    · by_cases hc48 : ((i1 &&& (2147483647 : Int32)) % (7 : Int32)) < (3 : Int32)
                      · exact (own_dead_27 i0 i1 hc1 hc22 hc36 hc37 hc39 hc41 hc43 hc45 hc47 hc48).elim
                      · exact rm0_2 l s _ hw tables_1 i0 i1 x_SCHEMA_2 x_FUNCTION_4 (1 : Int32) (1 : Int32) s.heap s.heap.size (Nat.le_refl _) (rm1_3 l s _ hw [] ((i0 &&& (2147483647 : Int32)) % (7 : Int32)) x_SCHEMA_2 s.heap s.heap.size (Nat.le_refl _) hc1 hc22 hc36 S_SCHEMA_2) (rm1_6 l s _ hw [] ((i1 &&& (2147483647 : Int32)) % (7 : Int32)) x_FUNCTION_4 s.heap s.heap.size (Nat.le_refl _) hc37 hc39 hc41 hc43 hc45 hc47 S_FUNCTION_4) (rm2_5 l s _ hw [] x_SCHEMA_2 x_FUNCTION_4 s.heap s.heap.size (Nat.le_refl _) F_FUNCTION_4_container) E_SCHEMA_2 (rm3_5 l s _ hw [] ((i0 &&& (2147483647 : Int32)) % (7 : Int32)) ((i1 &&& (2147483647 : Int32)) % (7 : Int32)) s.heap s.heap.size (Nat.le_refl _) hc22 hc36 hc48) (by decide)
                    · by_cases hc49 : ((i1 &&& (2147483647 : Int32)) % (7 : Int32)) < (3 : Int32)
                      · exact (own_dead_28 i0 i1 hc1 hc22 hc36 hc37 hc39 hc41 hc43 hc45 hc47 hc49).elim
                      · exact rm0_2 l s _ hw tables_1 i0 i1 x_SCHEMA_2 x_PROCEDURE_6 (1 : Int32) (1 : Int32) s.heap s.heap.size (Nat.le_refl _) (rm1_3 l s _ hw [] ((i0 &&& (2147483647 : Int32)) % (7 : Int32)) x_SCHEMA_2 s.heap s.heap.size (Nat.le_refl _) hc1 hc22 hc36 S_SCHEMA_2) (rm1_7 l s _ hw [] ((i1 &&& (2147483647 : Int32)) % (7 : Int32)) x_PROCEDURE_6 s.heap s.heap.size (Nat.le_refl _) hc37 hc39 hc41 hc43 hc45 hc47 S_PROCEDURE_6) (rm2_5 l s _ hw [] x_SCHEMA_2 x_PROCEDURE_6 s.heap s.heap.size (Nat.le_refl _) F_PROCEDURE_6_container) E_SCHEMA_2 (rm3_5 l s _ hw [] ((i0 &&& (2147483647 : Int32)) % (7 : Int32)) ((i1 &&& (2147483647 : Int32)) % (7 : Int32)) s.heap s.heap.size (Nat.le_refl _) hc22 hc36 hc49) (by decide)
        · by_cases hc50 : ((i0 &&& (2147483647 : Int32)) % (7 : Int32)) = (3 : Int32)
          · by_cases hc51 : ((i1 &&& (2147483647 : Int32)) % (7 : Int32)) = (0 : Int32)
            · exact rm0_2 l s _ hw tables_1 i0 i1 x_TABLE_1 x_ACCOUNT_0 (0 : Int32) (0 : Int32) s.heap s.heap.size (Nat.le_refl _) (rm1_4 l s _ hw [] ((i0 &&& (2147483647 : Int32)) % (7 : Int32)) x_TABLE_1 s.heap s.heap.size (Nat.le_refl _) hc1 hc22 hc36 hc50 S_TABLE_1) (rm1_1 l s _ hw [] ((i1 &&& (2147483647 : Int32)) % (7 : Int32)) x_ACCOUNT_0 s.heap s.heap.size (Nat.le_refl _) hc51 S_ACCOUNT_0) (rm2_2 l s _ hw [] x_TABLE_1 x_ACCOUNT_0 s.heap s.heap.size (Nat.le_refl _) F_ACCOUNT_0_container) E_TABLE_1 (rm3_1 l s _ hw [] ((i0 &&& (2147483647 : Int32)) % (7 : Int32)) ((i1 &&& (2147483647 : Int32)) % (7 : Int32)) s.heap s.heap.size (Nat.le_refl _) hc22 hc36) (by decide)
            · by_cases hc52 : ((i1 &&& (2147483647 : Int32)) % (7 : Int32)) = (1 : Int32)
              · exact rm0_2 l s _ hw tables_1 i0 i1 x_TABLE_1 x_DATABASE_3 (0 : Int32) (0 : Int32) s.heap s.heap.size (Nat.le_refl _) (rm1_4 l s _ hw [] ((i0 &&& (2147483647 : Int32)) % (7 : Int32)) x_TABLE_1 s.heap s.heap.size (Nat.le_refl _) hc1 hc22 hc36 hc50 S_TABLE_1) (rm1_2 l s _ hw [] ((i1 &&& (2147483647 : Int32)) % (7 : Int32)) x_DATABASE_3 s.heap s.heap.size (Nat.le_refl _) hc51 hc52 S_DATABASE_3) (rm2_2 l s _ hw [] x_TABLE_1 x_DATABASE_3 s.heap s.heap.size (Nat.le_refl _) F_DATABASE_3_container) E_TABLE_1 (rm3_1 l s _ hw [] ((i0 &&& (2147483647 : Int32)) % (7 : Int32)) ((i1 &&& (2147483647 : Int32)) % (7 : Int32)) s.heap s.heap.size (Nat.le_refl _) hc22 hc36) (by decide)
              · by_cases hc53 : ((i1 &&& (2147483647 : Int32)) % (7 : Int32)) = (2 : Int32)
                · exact rm0_2 l s _ hw tables_1 i0 i1 x_TABLE_1 x_SCHEMA_2 (0 : Int32) (0 : Int32) s.heap s.heap.size (Nat.le_refl _) (rm1_4 l s _ hw [] ((i0 &&& (2147483647 : Int32)) % (7 : Int32)) x_TABLE_1 s.heap s.heap.size (Nat.le_refl _) hc1 hc22 hc36 hc50 S_TABLE_1) (rm1_3 l s _ hw [] ((i1 &&& (2147483647 : Int32)) % (7 : Int32)) x_SCHEMA_2 s.heap s.heap.size (Nat.le_refl _) hc51 hc52 hc53 S_SCHEMA_2) (rm2_3 l s _ hw [] x_TABLE_1 x_SCHEMA_2 x_DATABASE_3 s.heap s.heap.size (Nat.le_refl _) F_SCHEMA_2_container (Fld.ne F_DATABASE_3_ordinal F_TABLE_1_ordinal (own_ne_int (by decide))) F_DATABASE_3_container) E_TABLE_1 (rm3_1 l s _ hw [] ((i0 &&& (2147483647 : Int32)) % (7 : Int32)) ((i1 &&& (2147483647 : Int32)) % (7 : Int32)) s.heap s.heap.size (Nat.le_refl _) hc22 hc36) (by decide)
                · by_cases hc54 : ((i1 &&& (2147483647 : Int32)) % (7 : Int32)) = (3 : Int32)
                  · exact rm0_1 l s _ hw tables_1 i0 i1 x_TABLE_1 (0 : Int32) (0 : Int32) s.heap s.heap.size (Nat.le_refl _) (rm1_4 l s _ hw [] ((i0 &&& (2147483647 : Int32)) % (7 : Int32)) x_TABLE_1 s.heap s.heap.size (Nat.le_refl _) hc1 hc22 hc36 hc50 S_TABLE_1) (rm1_4 l s _ hw [] ((i1 &&& (2147483647 : Int32)) % (7 : Int32)) x_TABLE_1 s.heap s.heap.size (Nat.le_refl _) hc51 hc52 hc53 hc54 S_TABLE_1) (rm2_8 l s _ hw [] x_TABLE_1 x_SCHEMA_2 x_DATABASE_3 s.heap s.heap.size (Nat.le_refl _) F_TABLE_1_container (Fld.ne F_SCHEMA_2_ordinal F_TABLE_1_ordinal (own_ne_int (by decide))) F_SCHEMA_2_container (Fld.ne F_DATABASE_3_ordinal F_TABLE_1_ordinal (own_ne_int (by decide))) F_DATABASE_3_container) E_TABLE_1 (rm3_1 l s _ hw [] ((i0 &&& (2147483647 : Int32)) % (7 : Int32)) ((i1 &&& (2147483647 : Int32)) % (7 : Int32)) s.heap s.heap.size (Nat.le_refl _) hc22 hc36) (by decide)
                  · by_cases hc55 : ((i1 &&& (2147483647 : Int32)) % (7 : Int32)) = (4 : Int32)
                    · exact rm0_2 l s _ hw tables_1 i0 i1 x_TABLE_1 x_VIEW_5 (0 : Int32) (0 : Int32) s.heap s.heap.size (Nat.le_refl _) (rm1_4 l s _ hw [] ((i0 &&& (2147483647 : Int32)) % (7 : Int32)) x_TABLE_1 s.heap s.heap.size (Nat.le_refl _) hc1 hc22 hc36 hc50 S_TABLE_1) (rm1_5 l s _ hw [] ((i1 &&& (2147483647 : Int32)) % (7 : Int32)) x_VIEW_5 s.heap s.heap.size (Nat.le_refl _) hc51 hc52 hc53 hc54 hc55 S_VIEW_5) (rm2_4 l s _ hw [] x_TABLE_1 x_VIEW_5 x_SCHEMA_2 x_DATABASE_3 s.heap s.heap.size (Nat.le_refl _) F_VIEW_5_container (Fld.ne F_SCHEMA_2_ordinal F_TABLE_1_ordinal (own_ne_int (by decide))) F_SCHEMA_2_container (Fld.ne F_DATABASE_3_ordinal F_TABLE_1_ordinal (own_ne_int (by decide))) F_DATABASE_3_container) E_TABLE_1 (rm3_1 l s _ hw [] ((i0 &&& (2147483647 : Int32)) % (7 : Int32)) ((i1 &&& (2147483647 : Int32)) % (7 : Int32)) s.heap s.heap.size (Nat.le_refl _) hc22 hc36) (by decide)
                    · by_cases hc56 : ((i1 &&& (2147483647 : Int32)) % (7 : Int32)) = (5 : Int32)
                      · exact rm0_2 l s _ hw tables_1 i0 i1 x_TABLE_1 x_FUNCTION_4 (0 : Int32) (0 : Int32) s.heap s.heap.size (Nat.le_refl _) (rm1_4 l s _ hw [] ((i0 &&& (2147483647 : Int32)) % (7 : Int32)) x_TABLE_1 s.heap s.heap.size (Nat.le_refl _) hc1 hc22 hc36 hc50 S_TABLE_1) (rm1_6 l s _ hw [] ((i1 &&& (2147483647 : Int32)) % (7 : Int32)) x_FUNCTION_4 s.heap s.heap.size (Nat.le_refl _) hc51 hc52 hc53 hc54 hc55 hc56 S_FUNCTION_4) (rm2_4 l s _ hw [] x_TABLE_1 x_FUNCTION_4 x_SCHEMA_2 x_DATABASE_3 s.heap s.heap.size (Nat.le_refl _) F_FUNCTION_4_container (Fld.ne F_SCHEMA_2_ordinal F_TABLE_1_ordinal (own_ne_int (by decide))) F_SCHEMA_2_container (Fld.ne F_DATABASE_3_ordinal F_TABLE_1_ordinal (own_ne_int (by decide))) F_DATABASE_3_container) E_TABLE_1 (rm3_1 l s _ hw [] ((i0 &&& (2147483647 : Int32)) % (7 : Int32)) ((i1 &&& (2147483647 : Int32)) % (7 : Int32)) s.heap s.heap.size (Nat.le_refl _) hc22 hc36) (by decide)
                      · exact rm0_2 l s _ hw tables_1 i0 i1 x_TABLE_1 x_PROCEDURE_6 (0 : Int32) (0 : Int32) s.heap s.heap.size (Nat.le_refl _) (rm1_4 l s _ hw [] ((i0 &&& (2147483647 : Int32)) % (7 : Int32)) x_TABLE_1 s.heap s.heap.size (Nat.le_refl _) hc1 hc22 hc36 hc50 S_TABLE_1) (rm1_7 l s _ hw [] ((i1 &&& (2147483647 : Int32)) % (7 : Int32)) x_PROCEDURE_6 s.heap s.heap.size (Nat.le_refl _) hc51 hc52 hc53 hc54 hc55 hc56 S_PROCEDURE_6) (rm2_4 l s _ hw [] x_TABLE_1 x_PROCEDURE_6 x_SCHEMA_2 x_DATABASE_3 s.heap s.heap.size (Nat.le_refl _) F_PROCEDURE_6_container (Fld.ne F_SCHEMA_2_ordinal F_TABLE_1_ordinal (own_ne_int (by decide))) F_SCHEMA_2_container (Fld.ne F_DATABASE_3_ordinal F_TABLE_1_ordinal (own_ne_int (by decide))) F_DATABASE_3_container) E_TABLE_1 (rm3_1 l s _ hw [] ((i0 &&& (2147483647 : Int32)) % (7 : Int32)) ((i1 &&& (2147483647 : Int32)) % (7 : Int32)) s.heap s.heap.size (Nat.le_refl _) hc22 hc36) (by decide)
          · by_cases hc57 : ((i0 &&& (2147483647 : Int32)) % (7 : Int32)) = (4 : Int32)
            · by_cases hc58 : ((i1 &&& (2147483647 : Int32)) % (7 : Int32)) = (0 : Int32)
              · exact rm0_2 l s _ hw tables_1 i0 i1 x_VIEW_5 x_ACCOUNT_0 (0 : Int32) (0 : Int32) s.heap s.heap.size (Nat.le_refl _) (rm1_5 l s _ hw [] ((i0 &&& (2147483647 : Int32)) % (7 : Int32)) x_VIEW_5 s.heap s.heap.size (Nat.le_refl _) hc1 hc22 hc36 hc50 hc57 S_VIEW_5) (rm1_1 l s _ hw [] ((i1 &&& (2147483647 : Int32)) % (7 : Int32)) x_ACCOUNT_0 s.heap s.heap.size (Nat.le_refl _) hc58 S_ACCOUNT_0) (rm2_2 l s _ hw [] x_VIEW_5 x_ACCOUNT_0 s.heap s.heap.size (Nat.le_refl _) F_ACCOUNT_0_container) E_VIEW_5 (rm3_1 l s _ hw [] ((i0 &&& (2147483647 : Int32)) % (7 : Int32)) ((i1 &&& (2147483647 : Int32)) % (7 : Int32)) s.heap s.heap.size (Nat.le_refl _) hc22 hc36) (by decide)
              · by_cases hc59 : ((i1 &&& (2147483647 : Int32)) % (7 : Int32)) = (1 : Int32)
                · exact rm0_2 l s _ hw tables_1 i0 i1 x_VIEW_5 x_DATABASE_3 (0 : Int32) (0 : Int32) s.heap s.heap.size (Nat.le_refl _) (rm1_5 l s _ hw [] ((i0 &&& (2147483647 : Int32)) % (7 : Int32)) x_VIEW_5 s.heap s.heap.size (Nat.le_refl _) hc1 hc22 hc36 hc50 hc57 S_VIEW_5) (rm1_2 l s _ hw [] ((i1 &&& (2147483647 : Int32)) % (7 : Int32)) x_DATABASE_3 s.heap s.heap.size (Nat.le_refl _) hc58 hc59 S_DATABASE_3) (rm2_2 l s _ hw [] x_VIEW_5 x_DATABASE_3 s.heap s.heap.size (Nat.le_refl _) F_DATABASE_3_container) E_VIEW_5 (rm3_1 l s _ hw [] ((i0 &&& (2147483647 : Int32)) % (7 : Int32)) ((i1 &&& (2147483647 : Int32)) % (7 : Int32)) s.heap s.heap.size (Nat.le_refl _) hc22 hc36) (by decide)
                · by_cases hc60 : ((i1 &&& (2147483647 : Int32)) % (7 : Int32)) = (2 : Int32)
                  · exact rm0_2 l s _ hw tables_1 i0 i1 x_VIEW_5 x_SCHEMA_2 (0 : Int32) (0 : Int32) s.heap s.heap.size (Nat.le_refl _) (rm1_5 l s _ hw [] ((i0 &&& (2147483647 : Int32)) % (7 : Int32)) x_VIEW_5 s.heap s.heap.size (Nat.le_refl _) hc1 hc22 hc36 hc50 hc57 S_VIEW_5) (rm1_3 l s _ hw [] ((i1 &&& (2147483647 : Int32)) % (7 : Int32)) x_SCHEMA_2 s.heap s.heap.size (Nat.le_refl _) hc58 hc59 hc60 S_SCHEMA_2) (rm2_3 l s _ hw [] x_VIEW_5 x_SCHEMA_2 x_DATABASE_3 s.heap s.heap.size (Nat.le_refl _) F_SCHEMA_2_container (Fld.ne F_DATABASE_3_ordinal F_VIEW_5_ordinal (own_ne_int (by decide))) F_DATABASE_3_container) E_VIEW_5 (rm3_1 l s _ hw [] ((i0 &&& (2147483647 : Int32)) % (7 : Int32)) ((i1 &&& (2147483647 : Int32)) % (7 : Int32)) s.heap s.heap.size (Nat.le_refl _) hc22 hc36) (by decide)
                  · by_cases hc61 : ((i1 &&& (2147483647 : Int32)) % (7 : Int32)) = (3 : Int32)
                    · exact rm0_2 l s _ hw tables_1 i0 i1 x_VIEW_5 x_TABLE_1 (0 : Int32) (0 : Int32) s.heap s.heap.size (Nat.le_refl _) (rm1_5 l s _ hw [] ((i0 &&& (2147483647 : Int32)) % (7 : Int32)) x_VIEW_5 s.heap s.heap.size (Nat.le_refl _) hc1 hc22 hc36 hc50 hc57 S_VIEW_5) (rm1_4 l s _ hw [] ((i1 &&& (2147483647 : Int32)) % (7 : Int32)) x_TABLE_1 s.heap s.heap.size (Nat.le_refl _) hc58 hc59 hc60 hc61 S_TABLE_1) (rm2_4 l s _ hw [] x_VIEW_5 x_TABLE_1 x_SCHEMA_2 x_DATABASE_3 s.heap s.heap.size (Nat.le_refl _) F_TABLE_1_container (Fld.ne F_SCHEMA_2_ordinal F_VIEW_5_ordinal (own_ne_int (by decide))) F_SCHEMA_2_container (Fld.ne F_DATABASE_3_ordinal F_VIEW_5_ordinal (own_ne_int (by decide))) F_DATABASE_3_container) E_VIEW_5 (rm3_1 l s _ hw [] ((i0 &&& (2147483647 : Int32)) % (7 : Int32)) ((i1 &&& (2147483647 : Int32)) % (7 : Int32)) s.heap s.heap.size (Nat.le_refl _) hc22 hc36) (by decide)
                    · by_cases hc62 : ((i1 &&& (2147483647 : Int32)) % (7 : Int32)) = (4 : Int32)
                      · exact rm0_1 l s _ hw tables_1 i0 i1 x_VIEW_5 (0 : Int32) (0 : Int32) s.heap s.heap.size (Nat.le_refl _) (rm1_5 l s _ hw [] ((i0 &&& (2147483647 : Int32)) % (7 : Int32)) x_VIEW_5 s.heap s.heap.size (Nat.le_refl _) hc1 hc22 hc36 hc50 hc57 S_VIEW_5) (rm1_5 l s _ hw [] ((i1 &&& (2147483647 : Int32)) % (7 : Int32)) x_VIEW_5 s.heap s.heap.size (Nat.le_refl _) hc58 hc59 hc60 hc61 hc62 S_VIEW_5) (rm2_8 l s _ hw [] x_VIEW_5 x_SCHEMA_2 x_DATABASE_3 s.heap s.heap.size (Nat.le_refl _) F_VIEW_5_container (Fld.ne F_SCHEMA_2_ordinal F_VIEW_5_ordinal (own_ne_int (by decide))) F_SCHEMA_2_container (Fld.ne F_DATABASE_3_ordinal F_VIEW_5_ordinal (own_ne_int (by decide))) F_DATABASE_3_container) E_VIEW_5 (rm3_1 l s _ hw [] ((i0 &&& (2147483647 : Int32)) % (7 : Int32)) ((i1 &&& (2147483647 : Int32)) % (7 : Int32)) s.heap s.heap.size (Nat.le_refl _) hc22 hc36) (by decide)
                      · by_cases hc63 : ((i1 &&& (2147483647 : Int32)) % (7 : Int32)) = (5 : Int32)
                        · exact rm0_2 l s _ hw tables_1 i0 i1 x_VIEW_5 x_FUNCTION_4 (0 : Int32) (0 : Int32) s.heap s.heap.size (Nat.le_refl _) (rm1_5 l s _ hw [] ((i0 &&& (2147483647 : Int32)) % (7 : Int32)) x_VIEW_5 s.heap s.heap.size (Nat.le_refl _) hc1 hc22 hc36 hc50 hc57 S_VIEW_5) (rm1_6 l s _ hw [] ((i1 &&& (2147483647 : Int32)) % (7 : Int32)) x_FUNCTION_4 s.heap s.heap.size (Nat.le_refl _) hc58 hc59 hc60 hc61 hc62 hc63 S_FUNCTION_4) (rm2_4 l s _ hw [] x_VIEW_5 x_FUNCTION_4 x_SCHEMA_2 x_DATABASE_3 s.heap s.heap.size (Nat.le_refl _) F_FUNCTION_4_container (Fld.ne F_SCHEMA_2_ordinal F_VIEW_5_ordinal (own_ne_int (by decide))) F_SCHEMA_2_container (Fld.ne F_DATABASE_3_ordinal F_VIEW_5_ordinal (own_ne_int (by decide))) F_DATABASE_3_container) E_VIEW_5 (rm3_1 l s _ hw [] ((i0 &&& (2147483647 : Int32)) % (7 : Int32)) ((i1 &&& (2147483647 : Int32)) % (7 : Int32)) s.heap s.heap.size (Nat.le_refl _) hc22 hc36) (by decide)
                        · exact rm0_2 l s _ hw tables_1 i0 i1 x_VIEW_5 x_PROCEDURE_6 (0 : Int32) (0 : Int32) s.heap s.heap.size (Nat.le_refl _) (rm1_5 l s _ hw [] ((i0 &&& (2147483647 : Int32)) % (7 : Int32)) x_VIEW_5 s.heap s.heap.size (Nat.le_refl _) hc1 hc22 hc36 hc50 hc57 S_VIEW_5) (rm1_7 l s _ hw [] ((i1 &&& (2147483647 : Int32)) % (7 : Int32)) x_PROCEDURE_6 s.heap s.heap.size (Nat.le_refl _) hc58 hc59 hc60 hc61 hc62 hc63 S_PROCEDURE_6) (rm2_4 l s _ hw [] x_VIEW_5 x_PROCEDURE_6 x_SCHEMA_2 x_DATABASE_3 s.heap s.heap.size (Nat.le_refl _) F_PROCEDURE_6_container (Fld.ne F_SCHEMA_2_ordinal F_VIEW_5_ordinal (own_ne_int (by decide))) F_SCHEMA_2_container (Fld.ne F_DATABASE_3_ordinal F_VIEW_5_ordinal (own_ne_int (by decide))) F_DATABASE_3_container) E_VIEW_5 (rm3_1 l s _ hw [] ((i0 &&& (2147483647 : Int32)) % (7 : Int32)) ((i1 &&& (2147483647 : Int32)) % (7 : Int32)) s.heap s.heap.size (Nat.le_refl _) hc22 hc36) (by decide)
            · by_cases hc64 : ((i0 &&& (2147483647 : Int32)) % (7 : Int32)) = (5 : Int32)
              · by_cases hc65 : ((i1 &&& (2147483647 : Int32)) % (7 : Int32)) = (0 : Int32)
                · exact rm0_2 l s _ hw tables_1 i0 i1 x_FUNCTION_4 x_ACCOUNT_0 (0 : Int32) (0 : Int32) s.heap s.heap.size (Nat.le_refl _) (rm1_6 l s _ hw [] ((i0 &&& (2147483647 : Int32)) % (7 : Int32)) x_FUNCTION_4 s.heap s.heap.size (Nat.le_refl _) hc1 hc22 hc36 hc50 hc57 hc64 S_FUNCTION_4) (rm1_1 l s _ hw [] ((i1 &&& (2147483647 : Int32)) % (7 : Int32)) x_ACCOUNT_0 s.heap s.heap.size (Nat.le_refl _) hc65 S_ACCOUNT_0) (rm2_2 l s _ hw [] x_FUNCTION_4 x_ACCOUNT_0 s.heap s.heap.size (Nat.le_refl _) F_ACCOUNT_0_container) E_FUNCTION_4 (rm3_1 l s _ hw [] ((i0 &&& (2147483647 : Int32)) % (7 : Int32)) ((i1 &&& (2147483647 : Int32)) % (7 : Int32)) s.heap s.heap.size (Nat.le_refl _) hc22 hc36) (by decide)
                · by_cases hc66 : ((i1 &&& (2147483647 : Int32)) % (7 : Int32)) = (1 : Int32)
                  · exact rm0_2 l s _ hw tables_1 i0 i1 x_FUNCTION_4 x_DATABASE_3 (0 : Int32) (0 : Int32) s.heap s.heap.size (Nat.le_refl _) (rm1_6 l s _ hw [] ((i0 &&& (2147483647 : Int32)) % (7 : Int32)) x_FUNCTION_4 s.heap s.heap.size (Nat.le_refl _) hc1 hc22 hc36 hc50 hc57 hc64 S_FUNCTION_4) (rm1_2 l s _ hw [] ((i1 &&& (2147483647 : Int32)) % (7 : Int32)) x_DATABASE_3 s.heap s.heap.size (Nat.le_refl _) hc65 hc66 S_DATABASE_3) (rm2_2 l s _ hw [] x_FUNCTION_4 x_DATABASE_3 s.heap s.heap.size (Nat.le_refl _) F_DATABASE_3_container) E_FUNCTION_4 (rm3_1 l s _ hw [] ((i0 &&& (2147483647 : Int32)) % (7 : Int32)) ((i1 &&& (2147483647 : Int32)) % (7 : Int32)) s.heap s.heap.size (Nat.le_refl _) hc22 hc36) (by decide)
                  · by_cases hc67 : ((i1 &&& (2147483647 : Int32)) % (7 : Int32)) = (2 : Int32)
                    · exact rm0_2 l s _ hw tables_1 i0 i1 x_FUNCTION_4 x_SCHEMA_2 (0 : Int32) (0 : Int32) s.heap s.heap.size (Nat.le_refl _) (rm1_6 l s _ hw [] ((i0 &&& (2147483647 : Int32)) % (7 : Int32)) x_FUNCTION_4 s.heap s.heap.size (Nat.le_refl _) hc1 hc22 hc36 hc50 hc57 hc64 S_FUNCTION_4) (rm1_3 l s _ hw [] ((i1 &&& (2147483647 : Int32)) % (7 : Int32)) x_SCHEMA_2 s.heap s.heap.size (Nat.le_refl _) hc65 hc66 hc67 S_SCHEMA_2) (rm2_3 l s _ hw [] x_FUNCTION_4 x_SCHEMA_2 x_DATABASE_3 s.heap s.heap.size (Nat.le_refl _) F_SCHEMA_2_container (Fld.ne F_DATABASE_3_ordinal F_FUNCTION_4_ordinal (own_ne_int (by decide))) F_DATABASE_3_container) E_FUNCTION_4 (rm3_1 l s _ hw [] ((i0 &&& (2147483647 : Int32)) % (7 : Int32)) ((i1 &&& (2147483647 : Int32)) % (7 : Int32)) s.heap s.heap.size (Nat.le_refl _) hc22 hc36) (by decide)
                    · by_cases hc68 : ((i1 &&& (2147483647 : Int32)) % (7 : Int32)) = (3 : Int32)
                      · exact rm0_2 l s _ hw tables_1 i0 i1 x_FUNCTION_4 x_TABLE_1 (0 : Int32) (0 : Int32) s.heap s.heap.size (Nat.le_refl _) (rm1_6 l s _ hw [] ((i0 &&& (2147483647 : Int32)) % (7 : Int32)) x_FUNCTION_4 s.heap s.heap.size (Nat.le_refl _) hc1 hc22 hc36 hc50 hc57 hc64 S_FUNCTION_4) (rm1_4 l s _ hw [] ((i1 &&& (2147483647 : Int32)) % (7 : Int32)) x_TABLE_1 s.heap s.heap.size (Nat.le_refl _) hc65 hc66 hc67 hc68 S_TABLE_1) (rm2_4 l s _ hw [] x_FUNCTION_4 x_TABLE_1 x_SCHEMA_2 x_DATABASE_3 s.heap s.heap.size (Nat.le_refl _) F_TABLE_1_container (Fld.ne F_SCHEMA_2_ordinal F_FUNCTION_4_ordinal (own_ne_int (by decide))) F_SCHEMA_2_container (Fld.ne F_DATABASE_3_ordinal F_FUNCTION_4_ordinal (own_ne_int (by decide))) F_DATABASE_3_container) E_FUNCTION_4 (rm3_1 l s _ hw [] ((i0 &&& (2147483647 : Int32)) % (7 : Int32)) ((i1 &&& (2147483647 : Int32)) % (7 : Int32)) s.heap s.heap.size (Nat.le_refl _) hc22 hc36) (by decide)
                      · by_cases hc69 : ((i1 &&& (2147483647 : Int32)) % (7 : Int32)) = (4 : Int32)
                        · exact rm0_2 l s _ hw tables_1 i0 i1 x_FUNCTION_4 x_VIEW_5 (0 : Int32) (0 : Int32) s.heap s.heap.size (Nat.le_refl _) (rm1_6 l s _ hw [] ((i0 &&& (2147483647 : Int32)) % (7 : Int32)) x_FUNCTION_4 s.heap s.heap.size (Nat.le_refl _) hc1 hc22 hc36 hc50 hc57 hc64 S_FUNCTION_4) (rm1_5 l s _ hw [] ((i1 &&& (2147483647 : Int32)) % (7 : Int32)) x_VIEW_5 s.heap s.heap.size (Nat.le_refl _) hc65 hc66 hc67 hc68 hc69 S_VIEW_5) (rm2_4 l s _ hw [] x_FUNCTION_4 x_VIEW_5 x_SCHEMA_2 x_DATABASE_3 s.heap s.heap.size (Nat.le_refl _) F_VIEW_5_container (Fld.ne F_SCHEMA_2_ordinal F_FUNCTION_4_ordinal (own_ne_int (by decide))) F_SCHEMA_2_container (Fld.ne F_DATABASE_3_ordinal F_FUNCTION_4_ordinal (own_ne_int (by decide))) F_DATABASE_3_container) E_FUNCTION_4 (rm3_1 l s _ hw [] ((i0 &&& (2147483647 : Int32)) % (7 : Int32)) ((i1 &&& (2147483647 : Int32)) % (7 : Int32)) s.heap s.heap.size (Nat.le_refl _) hc22 hc36) (by decide)
                        · by_cases hc70 : ((i1 &&& (2147483647 : Int32)) % (7 : Int32)) = (5 : Int32)
                          · exact rm0_1 l s _ hw tables_1 i0 i1 x_FUNCTION_4 (0 : Int32) (0 : Int32) s.heap s.heap.size (Nat.le_refl _) (rm1_6 l s _ hw [] ((i0 &&& (2147483647 : Int32)) % (7 : Int32)) x_FUNCTION_4 s.heap s.heap.size (Nat.le_refl _) hc1 hc22 hc36 hc50 hc57 hc64 S_FUNCTION_4) (rm1_6 l s _ hw [] ((i1 &&& (2147483647 : Int32)) % (7 : Int32)) x_FUNCTION_4 s.heap s.heap.size (Nat.le_refl _) hc65 hc66 hc67 hc68 hc69 hc70 S_FUNCTION_4) (rm2_8 l s _ hw [] x_FUNCTION_4 x_SCHEMA_2 x_DATABASE_3 s.heap s.heap.size (Nat.le_refl _) F_FUNCTION_4_container (Fld.ne F_SCHEMA_2_ordinal F_FUNCTION_4_ordinal (own_ne_int (by decide))) F_SCHEMA_2_container (Fld.ne F_DATABASE_3_ordinal F_FUNCTION_4_ordinal (own_ne_int (by decide))) F_DATABASE_3_container) E_FUNCTION_4 (rm3_1 l s _ hw [] ((i0 &&& (2147483647 : Int32)) % (7 : Int32)) ((i1 &&& (2147483647 : Int32)) % (7 : Int32)) s.heap s.heap.size (Nat.le_refl _) hc22 hc36) (by decide)
                          · exact rm0_2 l s _ hw tables_1 i0 i1 x_FUNCTION_4 x_PROCEDURE_6 (0 : Int32) (0 : Int32) s.heap s.heap.size (Nat.le_refl _) (rm1_6 l s _ hw [] ((i0 &&& (2147483647 : Int32)) % (7 : Int32)) x_FUNCTION_4 s.heap s.heap.size (Nat.le_refl _) hc1 hc22 hc36 hc50 hc57 hc64 S_FUNCTION_4) (rm1_7 l s _ hw [] ((i1 &&& (2147483647 : Int32)) % (7 : Int32)) x_PROCEDURE_6 s.heap s.heap.size (Nat.le_refl _) hc65 hc66 hc67 hc68 hc69 hc70 S_PROCEDURE_6) (rm2_4 l s _ hw [] x_FUNCTION_4 x_PROCEDURE_6 x_SCHEMA_2 x_DATABASE_3 s.heap s.heap.size (Nat.le_refl _) F_PROCEDURE_6_container (Fld.ne F_SCHEMA_2_ordinal F_FUNCTION_4_ordinal (own_ne_int (by decide))) F_SCHEMA_2_container (Fld.ne F_DATABASE_3_ordinal F_FUNCTION_4_ordinal (own_ne_int (by decide))) F_DATABASE_3_container) E_FUNCTION_4 (rm3_1 l s _ hw [] ((i0 &&& (2147483647 : Int32)) % (7 : Int32)) ((i1 &&& (2147483647 : Int32)) % (7 : Int32)) s.heap s.heap.size (Nat.le_refl _) hc22 hc36) (by decide)
              · by_cases hc71 : ((i1 &&& (2147483647 : Int32)) % (7 : Int32)) = (0 : Int32)
                · exact rm0_2 l s _ hw tables_1 i0 i1 x_PROCEDURE_6 x_ACCOUNT_0 (0 : Int32) (0 : Int32) s.heap s.heap.size (Nat.le_refl _) (rm1_7 l s _ hw [] ((i0 &&& (2147483647 : Int32)) % (7 : Int32)) x_PROCEDURE_6 s.heap s.heap.size (Nat.le_refl _) hc1 hc22 hc36 hc50 hc57 hc64 S_PROCEDURE_6) (rm1_1 l s _ hw [] ((i1 &&& (2147483647 : Int32)) % (7 : Int32)) x_ACCOUNT_0 s.heap s.heap.size (Nat.le_refl _) hc71 S_ACCOUNT_0) (rm2_2 l s _ hw [] x_PROCEDURE_6 x_ACCOUNT_0 s.heap s.heap.size (Nat.le_refl _) F_ACCOUNT_0_container) E_PROCEDURE_6 (rm3_1 l s _ hw [] ((i0 &&& (2147483647 : Int32)) % (7 : Int32)) ((i1 &&& (2147483647 : Int32)) % (7 : Int32)) s.heap s.heap.size (Nat.le_refl _) hc22 hc36) (by decide)
                · by_cases hc72 : ((i1 &&& (2147483647 : Int32)) % (7 : Int32)) = (1 : Int32)
                  · exact rm0_2 l s _ hw tables_1 i0 i1 x_PROCEDURE_6 x_DATABASE_3 (0 : Int32) (0 : Int32) s.heap s.heap.size (Nat.le_refl _) (rm1_7 l s _ hw [] ((i0 &&& (2147483647 : Int32)) % (7 : Int32)) x_PROCEDURE_6 s.heap s.heap.size (Nat.le_refl _) hc1 hc22 hc36 hc50 hc57 hc64 S_PROCEDURE_6) (rm1_2 l s _ hw [] ((i1 &&& (2147483647 : Int32)) % (7 : Int32)) x_DATABASE_3 s.heap s.heap.size (Nat.le_refl _) hc71 hc72 S_DATABASE_3) (rm2_2 l s _ hw [] x_PROCEDURE_6 x_DATABASE_3 s.heap s.heap.size (Nat.le_refl _) F_DATABASE_3_container) E_PROCEDURE_6 (rm3_1 l s _ hw [] ((i0 &&& (2147483647 : Int32)) % (7 : Int32)) ((i1 &&& (2147483647 : Int32)) % (7 : Int32)) s.heap s.heap.size (Nat.le_refl _) hc22 hc36) (by decide)
                  · by_cases hc73 : ((i1 &&& (2147483647 : Int32)) % (7 : Int32)) = (2 : Int32)
                    · exact rm0_2 l s _ hw tables_1 i0 i1 x_PROCEDURE_6 x_SCHEMA_2 (0 : Int32) (0 : Int32) s.heap s.heap.size (Nat.le_refl _) (rm1_7 l s _ hw [] ((i0 &&& (2147483647 : Int32)) % (7 : Int32)) x_PROCEDURE_6 s.heap s.heap.size (Nat.le_refl _) hc1 hc22 hc36 hc50 hc57 hc64 S_PROCEDURE_6) (rm1_3 l s _ hw [] ((i1 &&& (2147483647 : Int32)) % (7 : Int32)) x_SCHEMA_2 s.heap s.heap.size (Nat.le_refl _) hc71 hc72 hc73 S_SCHEMA_2) (rm2_3 l s _ hw [] x_PROCEDURE_6 x_SCHEMA_2 x_DATABASE_3 s.heap s.heap.size (Nat.le_refl _) F_SCHEMA_2_container (Fld.ne F_DATABASE_3_ordinal F_PROCEDURE_6_ordinal (own_ne_int (by decide))) F_DATABASE_3_container) E_PROCEDURE_6 (rm3_1 l s _ hw [] ((i0 &&& (2147483647 : Int32)) % (7 : Int32)) ((i1 &&& (2147483647 : Int32)) % (7 : Int32)) s.heap s.heap.size (Nat.le_refl _) hc22 hc36) (by decide)
                    · by_cases hc74 : ((i1 &&& (2147483647 : Int32)) % (7 : Int32)) = (3 : Int32)
                      · exact rm0_2 l s _ hw tables_1 i0 i1 x_PROCEDURE_6 x_TABLE_1 (0 : Int32) (0 : Int32) s.heap s.heap.size (Nat.le_refl _) (rm1_7 l s _ hw [] ((i0 &&& (2147483647 : Int32)) % (7 : Int32)) x_PROCEDURE_6 s.heap s.heap.size (Nat.le_refl _) hc1 hc22 hc36 hc50 hc57 hc64 S_PROCEDURE_6) (rm1_4 l s _ hw [] ((i1 &&& (2147483647 : Int32)) % (7 : Int32)) x_TABLE_1 s.heap s.heap.size (Nat.le_refl _) hc71 hc72 hc73 hc74 S_TABLE_1) (rm2_4 l s _ hw [] x_PROCEDURE_6 x_TABLE_1 x_SCHEMA_2 x_DATABASE_3 s.heap s.heap.size (Nat.le_refl _) F_TABLE_1_container (Fld.ne F_SCHEMA_2_ordinal F_PROCEDURE_6_ordinal (own_ne_int (by decide))) F_SCHEMA_2_container (Fld.ne F_DATABASE_3_ordinal F_PROCEDURE_6_ordinal (own_ne_int (by decide))) F_DATABASE_3_container) E_PROCEDURE_6 (rm3_1 l s _ hw [] ((i0 &&& (2147483647 : Int32)) % (7 : Int32)) ((i1 &&& (2147483647 : Int32)) % (7 : Int32)) s.heap s.heap.size (Nat.le_refl _) hc22 hc36) (by decide)
                      · by_cases hc75 : ((i1 &&& (2147483647 : Int32)) % (7 : Int32)) = (4 : Int32)
                        · exact rm0_2 l s _ hw tables_1 i0 i1 x_PROCEDURE_6 x_VIEW_5 (0 : Int32) (0 : Int32) s.heap s.heap.size (Nat.le_refl _) (rm1_7 l s _ hw [] ((i0 &&& (2147483647 : Int32)) % (7 : Int32)) x_PROCEDURE_6 s.heap s.heap.size (Nat.le_refl _) hc1 hc22 hc36 hc50 hc57 hc64 S_PROCEDURE_6) (rm1_5 l s _ hw [] ((i1 &&& (2147483647 : Int32)) % (7 : Int32)) x_VIEW_5 s.heap s.heap.size (Nat.le_refl _) hc71 hc72 hc73 hc74 hc75 S_VIEW_5) (rm2_4 l s _ hw [] x_PROCEDURE_6 x_VIEW_5 x_SCHEMA_2 x_DATABASE_3 s.heap s.heap.size (Nat.le_refl _) F_VIEW_5_container (Fld.ne F_SCHEMA_2_ordinal F_PROCEDURE_6_ordinal (own_ne_int (by decide))) F_SCHEMA_2_container (Fld.ne F_DATABASE_3_ordinal F_PROCEDURE_6_ordinal (own_ne_int (by decide))) F_DATABASE_3_container) E_PROCEDURE_6 (rm3_1 l s _ hw [] ((i0 &&& (2147483647 : Int32)) % (7 : Int32)) ((i1 &&& (2147483647 : Int32)) % (7 : Int32)) s.heap s.heap.size (Nat.le_refl _) hc22 hc36) (by decide)
                        · by_cases hc76 : ((i1 &&& (2147483647 : Int32)) % (7 : Int32)) = (5 : Int32)
                          · exact rm0_2 l s _ hw tables_1 i0 i1 x_PROCEDURE_6 x_FUNCTION_4 (0 : Int32) (0 : Int32) s.heap s.heap.size (Nat.le_refl _) (rm1_7 l s _ hw [] ((i0 &&& (2147483647 : Int32)) % (7 : Int32)) x_PROCEDURE_6 s.heap s.heap.size (Nat.le_refl _) hc1 hc22 hc36 hc50 hc57 hc64 S_PROCEDURE_6) (rm1_6 l s _ hw [] ((i1 &&& (2147483647 : Int32)) % (7 : Int32)) x_FUNCTION_4 s.heap s.heap.size (Nat.le_refl _) hc71 hc72 hc73 hc74 hc75 hc76 S_FUNCTION_4) (rm2_4 l s _ hw [] x_PROCEDURE_6 x_FUNCTION_4 x_SCHEMA_2 x_DATABASE_3 s.heap s.heap.size (Nat.le_refl _) F_FUNCTION_4_container (Fld.ne F_SCHEMA_2_ordinal F_PROCEDURE_6_ordinal (own_ne_int (by decide))) F_SCHEMA_2_container (Fld.ne F_DATABASE_3_ordinal F_PROCEDURE_6_ordinal (own_ne_int (by decide))) F_DATABASE_3_container) E_PROCEDURE_6 (rm3_1 l s _ hw [] ((i0 &&& (2147483647 : Int32)) % (7 : Int32)) ((i1 &&& (2147483647 : Int32)) % (7 : Int32)) s.heap s.heap.size (Nat.le_refl _) hc22 hc36) (by decide)
                          · exact rm0_1 l s _ hw tables_1 i0 i1 x_PROCEDURE_6 (0 : Int32) (0 : Int32) s.heap s.heap.size (Nat.le_refl _) (rm1_7 l s _ hw [] ((i0 &&& (2147483647 : Int32)) % (7 : Int32)) x_PROCEDURE_6 s.heap s.heap.size (Nat.le_refl _) hc1 hc22 hc36 hc50 hc57 hc64 S_PROCEDURE_6) (rm1_7 l s _ hw [] ((i1 &&& (2147483647 : Int32)) % (7 : Int32)) x_PROCEDURE_6 s.heap s.heap.size (Nat.le_refl _) hc71 hc72 hc73 hc74 hc75 hc76 S_PROCEDURE_6) (rm2_8 l s _ hw [] x_PROCEDURE_6 x_SCHEMA_2 x_DATABASE_3 s.heap s.heap.size (Nat.le_refl _) F_PROCEDURE_6_container (Fld.ne F_SCHEMA_2_ordinal F_PROCEDURE_6_ordinal (own_ne_int (by decide))) F_SCHEMA_2_container (Fld.ne F_DATABASE_3_ordinal F_PROCEDURE_6_ordinal (own_ne_int (by decide))) F_DATABASE_3_container) E_PROCEDURE_6 (rm3_1 l s _ hw [] ((i0 &&& (2147483647 : Int32)) % (7 : Int32)) ((i1 &&& (2147483647 : Int32)) % (7 : Int32)) s.heap s.heap.size (Nat.le_refl _) hc22 hc36) (by decide)
  obtain ⟨n, o, h1, h2, h3, _, L, rfl, ⟨rfl, N⟩, hq⟩ := hM p e ha hc hk s m _ below hf ((Spec.applies_iff_loose hf).mp happ).1 ⟨rfl, State.Warmed39.refl s, rfl⟩ trivial
  refine ⟨n, _, h1, h2, h3, hpost _ _ _ _ _ _ ⟨Cond.after_iff.mpr rfl, Cond.after_iff.mpr (eq_i res_at (Term.int_eval (1)) rfl), trivial⟩ ⟨hq.1, hq.2.1, (hq.2.2.sift fun y hy => Or.inr (N y hy)).mono (by decide) (by decide)⟩⟩
theorem main_1_1 : Claimed_1_1 := comes_1 fun _ _ _ _ _ _ h hF => ⟨h.1, hF⟩
theorem main_1_2 : Claimed_1_2 := comes_1 fun _ _ _ _ _ _ h hF => ⟨h.2.1, hF⟩
end Jvm.Pilot.@@N@@
namespace Jvm.Pilot.@@N@@
open Jvm Jvm.ClassFile Sem Op Lib Jvm.Free Jvm.Stand Jvm.Pilot.@@N@@.Jvm.D
/-! MADE BY PROGRAM (witnessworld.py) out of the Statement's table words and the real class files: 12 classes; the members and pool entries that the words name. The judged class is class 1, her method 3. -/
namespace start1
open Jvm.ClassFile
def u (s : String) : CpInfo := .utf8 (stringToUtf16 s)
/-- a pool by its gaps: so many unusable entries, then the entry; so many at the end -/
def gap : Nat → List CpInfo → List CpInfo
  | 0, r => r
  | n + 1, r => .unusable :: gap n r
def poolList (es : List (Nat × CpInfo)) (last : Nat) : List CpInfo := es.foldr (fun e r => gap e.1 (e.2 :: r)) (gap last [])
def pool (es : List (Nat × CpInfo)) (last : Nat) : Array CpInfo := ⟨poolList es last⟩
def fileOf (pool : Array CpInfo) (this : Nat) (attrs : Array Attribute := #[]) (ms : Array MethodInfo := #[]) (fl : Nat := 33) (sup : Nat := 0) (ifs : Array Nat := #[]) (fds : Array FieldInfo := #[]) : ClassFile where
  minorVersion := 0
  majorVersion := 65
  constantPool := pool
  accessFlags := fl
  thisClass := this
  superClass := sup
  interfaces := ifs
  fields := fds
  methods := ms
  attributes := attrs
def plain (name : String) (sup : Option ClassId) : Class where
  name := name
  kind := .ordinary
  loader := none
  accessFlags := 33
  super := sup
  interfaces := #[]
  cf := none
  fields := #[]
  methods := #[]
  instanceTypes := #[]
  staticTypes := #[]
  resolved := #[]
  callSites := []
  init := .initialized
  statics := none
  mirror := none

def pool0 : Array CpInfo := pool [(5, u "<init>"), (0, u "()V"), (1, .class_ 10), (1, u "java/lang/Object")] 113

def k0m0 : Method := { name := "<init>", desc := "()V", sig := { parameters := [], returnType := none }, accessFlags := 1, code := none }
/-- java/lang/Object -/
def k0 : Class := { plain "java/lang/Object" none with
  accessFlags := 33
  interfaces := #[]
  cf := some (fileOf pool0 8 #[] #[{ accessFlags := 1, nameIndex := 5, descriptorIndex := 6, attributes := #[] }] 33 0 #[] #[])
  fields := #[]
  methods := #[k0m0]
  instanceTypes := #[]
  staticTypes := #[]
  resolved := Array.replicate 124 none
  statics := none }

def pool1 : Array CpInfo := pool [(2, .class_ 4), (1, u "java/lang/Object"), (0, u "<init>"), (0, u "()V"), (0, .fieldref 8 9), (0, .class_ 10), (0, .nameAndType 11 12), (0, u "org/callerscope/model/ObjectType"), (0, u "ACCOUNT"), (0, u "Lorg/callerscope/model/ObjectType;"), (0, .fieldref 8 14), (0, .nameAndType 15 12), (0, u "DATABASE"), (0, .fieldref 8 17), (0, .nameAndType 18 12), (0, u "SCHEMA"), (0, .fieldref 8 20), (0, .nameAndType 21 12), (0, u "TABLE"), (0, .fieldref 8 23), (0, .nameAndType 24 12), (0, u "VIEW"), (0, .fieldref 8 26), (0, .nameAndType 27 12), (0, u "FUNCTION"), (0, .fieldref 8 29), (0, .nameAndType 30 12), (0, u "PROCEDURE"), (0, .integer 2147483647), (0, .methodref 33 34), (0, .class_ 35), (0, .nameAndType 36 37), (0, u "org/callerscope/model/ObjectTypeHoldsPinLaw"), (0, u "type"), (0, u "(I)Lorg/callerscope/model/ObjectType;"), (0, .methodref 8 39), (0, .nameAndType 40 41), (0, u "holds"), (0, u "(Lorg/callerscope/model/ObjectType;)Z"), (0, .methodref 33 43), (0, .nameAndType 44 45), (0, u "expected"), (0, u "(II)Z"), (3, u "law")] 2

def k1m0 : Method := { name := "<init>", desc := "()V", sig := { parameters := [], returnType := none }, accessFlags := 2, code := none }
def k1c1 : Code := { maxStack := 2, maxLocals := 1, code := method_2_code, exceptionTable := #[], attributes := #[] }
def k1m1 : Method := { name := "type", desc := "(I)Lorg/callerscope/model/ObjectType;", sig := { parameters := [.int], returnType := some (.object "org/callerscope/model/ObjectType") }, accessFlags := 10, code := some k1c1 }
def k1c2 : Code := { maxStack := 2, maxLocals := 2, code := method_3_code, exceptionTable := #[], attributes := #[] }
def k1m2 : Method := { name := "expected", desc := "(II)Z", sig := { parameters := [.int, .int], returnType := some .boolean }, accessFlags := 10, code := some k1c2 }
def k1c3 : Code := { maxStack := 3, maxLocals := 6, code := code, exceptionTable := #[], attributes := #[] }
def k1m3 : Method := { name := "law", desc := "(II)Z", sig := { parameters := [.int, .int], returnType := some .boolean }, accessFlags := 9, code := some k1c3 }
/-- org/callerscope/model/ObjectTypeHoldsPinLaw -/
def k1 : Class := { plain "org/callerscope/model/ObjectTypeHoldsPinLaw" (some 0) with
  accessFlags := 49
  interfaces := #[]
  cf := some (fileOf pool1 33 #[] #[{ accessFlags := 2, nameIndex := 5, descriptorIndex := 6, attributes := #[] }, { accessFlags := 10, nameIndex := 36, descriptorIndex := 37, attributes := #[] }, { accessFlags := 10, nameIndex := 44, descriptorIndex := 45, attributes := #[] }, { accessFlags := 9, nameIndex := 49, descriptorIndex := 45, attributes := #[] }] 49 2 #[] #[])
  fields := #[]
  methods := #[k1m0, k1m1, k1m2, k1m3]
  instanceTypes := #[]
  staticTypes := #[]
  resolved := Array.replicate 52 none
  statics := none }

def pool2 : Array CpInfo := pool [(1, .class_ 2), (0, u "java/lang/constant/Constable"), (0, .class_ 4), (0, u "java/lang/Object")] 6

/-- java/lang/constant/Constable -/
def k2 : Class := { plain "java/lang/constant/Constable" (some 0) with
  accessFlags := 1537
  interfaces := #[]
  cf := some (fileOf pool2 1 #[] #[] 1537 3 #[] #[])
  fields := #[]
  methods := #[]
  instanceTypes := #[]
  staticTypes := #[]
  resolved := Array.replicate 11 none
  statics := none }

def pool3 : Array CpInfo := pool [(1, .class_ 2), (0, u "java/lang/Comparable"), (0, .class_ 4), (0, u "java/lang/Object")] 7

/-- java/lang/Comparable -/
def k3 : Class := { plain "java/lang/Comparable" (some 0) with
  accessFlags := 1537
  interfaces := #[]
  cf := some (fileOf pool3 1 #[] #[] 1537 3 #[] #[])
  fields := #[]
  methods := #[]
  instanceTypes := #[]
  staticTypes := #[]
  resolved := Array.replicate 12 none
  statics := none }

def pool4 : Array CpInfo := pool [(1, .class_ 2), (0, u "java/io/Serializable"), (0, .class_ 4), (0, u "java/lang/Object")] 2

/-- java/io/Serializable -/
def k4 : Class := { plain "java/io/Serializable" (some 0) with
  accessFlags := 1537
  interfaces := #[]
  cf := some (fileOf pool4 1 #[] #[] 1537 3 #[] #[])
  fields := #[]
  methods := #[]
  instanceTypes := #[]
  staticTypes := #[]
  resolved := Array.replicate 7 none
  statics := none }

def pool5 : Array CpInfo := pool [(2, .class_ 4), (1, u "java/lang/Enum"), (0, u "name"), (0, u "Ljava/lang/String;"), (2, u "ordinal"), (0, u "I"), (1, .class_ 14), (1, u "java/lang/Object"), (4, u "hash"), (86, .class_ 108), (1, u "java/lang/Enum$EnumDesc"), (2, .class_ 112), (0, u "java/lang/constant/Constable"), (0, .class_ 114), (0, u "java/lang/Comparable"), (0, .class_ 116), (0, u "java/io/Serializable")] 87

/-- java/lang/Enum -/
def k5 : Class := { plain "java/lang/Enum" (some 0) with
  accessFlags := 1057
  interfaces := #[2, 3, 4]
  cf := some (fileOf pool5 2 #[.nestMembers #[106]] #[] 1057 12 #[111, 113, 115] #[{ accessFlags := 18, nameIndex := 5, descriptorIndex := 6, attributes := #[] }, { accessFlags := 18, nameIndex := 9, descriptorIndex := 10, attributes := #[] }, { accessFlags := 2, nameIndex := 19, descriptorIndex := 10, attributes := #[] }])
  fields := #[{ name := "name", type := (.object "java/lang/String"), accessFlags := 18, slot := 0, constantValue := 0 }, { name := "ordinal", type := .int, accessFlags := 18, slot := 1, constantValue := 0 }, { name := "hash", type := .int, accessFlags := 2, slot := 2, constantValue := 0 }]
  methods := #[]
  instanceTypes := #[(.object "java/lang/String"), .int, .int]
  staticTypes := #[]
  resolved := Array.replicate 204 none
  statics := none }

def pool6 : Array CpInfo := pool [(1, .class_ 2), (0, u "org/callerscope/model/ObjectType"), (2, u "ACCOUNT"), (0, u "Lorg/callerscope/model/ObjectType;"), (2, u "DATABASE"), (2, u "SCHEMA"), (2, u "TABLE"), (2, u "VIEW"), (2, u "FUNCTION"), (2, u "PROCEDURE"), (2, u "$VALUES"), (0, u "[Lorg/callerscope/model/ObjectType;"), (6, .class_ 37), (1, u "java/lang/Enum"), (6, .fieldref 1 45), (0, .nameAndType 46 6), (0, u "container"), (2, u "takesArguments"), (0, u "Z"), (20, u "TYPES"), (0, u "Ljava/util/List;"), (74, u "holds"), (0, u "(Lorg/callerscope/model/ObjectType;)Z")] 23

def k6c0 : Code := { maxStack := 2, maxLocals := 3, code := prog_12_method_7_code, exceptionTable := #[], attributes := #[] }
def k6m0 : Method := { name := "holds", desc := "(Lorg/callerscope/model/ObjectType;)Z", sig := { parameters := [(.object "org/callerscope/model/ObjectType")], returnType := some .boolean }, accessFlags := 1, code := some k6c0 }
/-- org/callerscope/model/ObjectType -/
def k6 : Class := { plain "org/callerscope/model/ObjectType" (some 5) with
  accessFlags := 16433
  interfaces := #[]
  cf := some (fileOf pool6 1 #[] #[{ accessFlags := 1, nameIndex := 147, descriptorIndex := 148, attributes := #[] }] 16433 35 #[] #[{ accessFlags := 16409, nameIndex := 5, descriptorIndex := 6, attributes := #[] }, { accessFlags := 16409, nameIndex := 9, descriptorIndex := 6, attributes := #[] }, { accessFlags := 16409, nameIndex := 12, descriptorIndex := 6, attributes := #[] }, { accessFlags := 16409, nameIndex := 15, descriptorIndex := 6, attributes := #[] }, { accessFlags := 16409, nameIndex := 18, descriptorIndex := 6, attributes := #[] }, { accessFlags := 16409, nameIndex := 21, descriptorIndex := 6, attributes := #[] }, { accessFlags := 16409, nameIndex := 24, descriptorIndex := 6, attributes := #[] }, { accessFlags := 26, nameIndex := 71, descriptorIndex := 72, attributes := #[] }, { accessFlags := 18, nameIndex := 46, descriptorIndex := 6, attributes := #[] }, { accessFlags := 18, nameIndex := 49, descriptorIndex := 50, attributes := #[] }, { accessFlags := 4122, nameIndex := 27, descriptorIndex := 28, attributes := #[] }])
  fields := #[{ name := "ACCOUNT", type := (.object "org/callerscope/model/ObjectType"), accessFlags := 16409, slot := 0, constantValue := 0 }, { name := "DATABASE", type := (.object "org/callerscope/model/ObjectType"), accessFlags := 16409, slot := 1, constantValue := 0 }, { name := "SCHEMA", type := (.object "org/callerscope/model/ObjectType"), accessFlags := 16409, slot := 2, constantValue := 0 }, { name := "TABLE", type := (.object "org/callerscope/model/ObjectType"), accessFlags := 16409, slot := 3, constantValue := 0 }, { name := "VIEW", type := (.object "org/callerscope/model/ObjectType"), accessFlags := 16409, slot := 4, constantValue := 0 }, { name := "FUNCTION", type := (.object "org/callerscope/model/ObjectType"), accessFlags := 16409, slot := 5, constantValue := 0 }, { name := "PROCEDURE", type := (.object "org/callerscope/model/ObjectType"), accessFlags := 16409, slot := 6, constantValue := 0 }, { name := "TYPES", type := (.object "java/util/List"), accessFlags := 26, slot := 7, constantValue := 0 }, { name := "container", type := (.object "org/callerscope/model/ObjectType"), accessFlags := 18, slot := 3, constantValue := 0 }, { name := "takesArguments", type := .boolean, accessFlags := 18, slot := 4, constantValue := 0 }, { name := "$VALUES", type := (.array (.object "org/callerscope/model/ObjectType")), accessFlags := 4122, slot := 8, constantValue := 0 }]
  methods := #[k6m0]
  instanceTypes := #[(.object "java/lang/String"), .int, .int, (.object "org/callerscope/model/ObjectType"), .boolean]
  staticTypes := #[(.object "org/callerscope/model/ObjectType"), (.object "org/callerscope/model/ObjectType"), (.object "org/callerscope/model/ObjectType"), (.object "org/callerscope/model/ObjectType"), (.object "org/callerscope/model/ObjectType"), (.object "org/callerscope/model/ObjectType"), (.object "org/callerscope/model/ObjectType"), (.object "java/util/List"), (.array (.object "org/callerscope/model/ObjectType"))]
  resolved := Array.replicate 172 none
  statics := some 0 }

def pool7 : Array CpInfo := pool [(1, u "java/lang/Cloneable"), (0, .class_ 1), (0, u "java/lang/Object"), (0, .class_ 3)] 3

/-- java/lang/Cloneable -/
def k7 : Class := { plain "java/lang/Cloneable" (some 0) with
  accessFlags := 1537
  interfaces := #[]
  cf := some (fileOf pool7 2 #[] #[] 1537 4 #[] #[])
  fields := #[]
  methods := #[]
  instanceTypes := #[]
  staticTypes := #[]
  resolved := Array.replicate 8 none
  statics := none }

/-- the primitive byte -/
def k8 : Class := { plain "byte" none with kind := .primitive 'B', accessFlags := 0x411 }
/-- [B -/
def k9 : Class := { plain "[B" (some 0) with kind := .array 8 .byte, interfaces := #[7, 4], accessFlags := 1041 }

/-- the primitive int -/
def k10 : Class := { plain "int" none with kind := .primitive 'I', accessFlags := 0x411 }
/-- [I -/
def k11 : Class := { plain "[I" (some 0) with kind := .array 10 .int, interfaces := #[7, 4], accessFlags := 1041 }

def heap : Heap := #[{ cls := 6, slots := #[.ref 1, .ref 4, .ref 3, .ref 2, .ref 6, .ref 5, .ref 7, .null, .null], vm := .statics 6 },
  { cls := 6, slots := #[.null, .int 0, .int 0, .null, .int 0], vm := .none },
  { cls := 6, slots := #[.null, .int 3, .int 0, .ref 3, .int 0], vm := .none },
  { cls := 6, slots := #[.null, .int 2, .int 0, .ref 4, .int 0], vm := .none },
  { cls := 6, slots := #[.null, .int 1, .int 0, .null, .int 0], vm := .none },
  { cls := 6, slots := #[.null, .int 5, .int 0, .ref 3, .int 0], vm := .none },
  { cls := 6, slots := #[.null, .int 4, .int 0, .ref 3, .int 0], vm := .none },
  { cls := 6, slots := #[.null, .int 6, .int 0, .ref 3, .int 0], vm := .none }]
def classes : Array Class := #[k0, k1, k2, k3, k4, k5, k6, k7, k8, k9, k10, k11]
def interned : List (Array UInt16 × Addr) := []
def slotsUsed : Nat := 44
def theMethod : MethodId := ⟨1, 3⟩
def args0 : Array Value := #[.int 5, .int 3]
def aboutOver (below : List Frame) : State where
  vm := { classes := classes, interned := interned.toArray }
  heap := heap
  slotsUsed := slotsUsed
  threads := #[{ frames := .invoking theMethod args0 :: below }]
def below0 : List Frame := [.native { method := ⟨0, 0⟩, args := #[] }]
def about1 : State := aboutOver below0
def p0 : Program := .bare "" "" ""
def e0 : Env := launch0.env 0 0 0
theorem w_frames : about1.frames = Frame.invoking theMethod args0 :: below0 := rfl
set_option maxRecDepth 65536 in
theorem w_args : argsFit about1.vm theMethod args0 = true := by decide +kernel
set_option maxRecDepth 65536 in
theorem w_heap : heapFits about1 = true := by decide +kernel
set_option maxRecDepth 65536 in
theorem w_runnable : about1.curStatus? = some .runnable := by decide +kernel
set_option maxRecDepth 65536 in
theorem w_alone : about1.alone = true := by decide +kernel
set_option maxRecDepth 65536 in
theorem w_named : about1.methodNamed? x = some theMethod := by decide +kernel
set_option maxRecDepth 65536 in
theorem w_hears : about1.hears theMethod below0 = true := by decide +kernel
set_option maxRecDepth 65536 in
theorem w_ripe : about1.ripe theMethod args0 below0 = true := by decide +kernel
theorem w_running : about1.status = .running := rfl
set_option maxRecDepth 65536 in
theorem w_room : about1.hasRoom e0.platform room_1 = true :=
  launch0.hasRoom_least _ room_1 (by decide +kernel) (by decide +kernel) (by decide +kernel) (by decide +kernel) (by decide +kernel) (by decide +kernel)
theorem allAtoms_all (ts : List Jvm.Cond) (a : Array Jvm.Value) (st : Jvm.State) : (allAtoms ts).before a st = ts.all (fun c => c.before a st) := by
  induction ts with
  | nil => rfl
  | cons c t ih =>
    show (Jvm.Cond.and c (allAtoms t)).before a st = _
    rw [Jvm.Cond.before_and, ih, List.all_cons]
def words1 : List Jvm.Cond := Jvm.Cond.code x code maxLocals ret :: tables_1
/-- a 'code' word, met by the world's own term for the bytes: nothing is compared byte by byte -/
theorem code_word {y : MethodName} {bytes : ByteArray} {mx : Nat} {rt : Option FieldType} {a : Array Value} {s : State} {m : MethodId} {meth : Method} {c : Code} (h1 : s.methodNamed? y = some m) (h2 : s.vm.method? m = some meth) (h3 : meth.code = some c) (h4 : c.code = bytes)
    (h5 : (c.maxLocals == mx && c.exceptionTable.isEmpty && decide (c.maxStack ≤ mostOperands) && decide (meth.sig.returnType = rt) && !meth.locks && decide (parseMethodDescriptor y.desc = some meth.sig)) = true) : (Jvm.Cond.code y bytes mx rt).before a s = true := by
  simp only [Bool.and_eq_true, beq_iff_eq, Bool.not_eq_true', decide_eq_true_eq] at h5
  obtain ⟨⟨⟨⟨⟨g1, g2⟩, g3⟩, g4⟩, g5⟩, g6⟩ := h5
  simp [Cond.before, Cond.holds, Cond.value, h1, h2, h3, h4, g1, g2, g3, g4, g5, g6]
def isCode : Jvm.Cond → Bool
  | .code _ _ _ _ => true
  | _ => false
theorem all_split {L : List Jvm.Cond} {P : Jvm.Cond → Bool} (h1 : L.all (fun c => isCode c || P c) = true) (h2 : ∀ c ∈ L.filter isCode, P c = true) : L.all P = true := by
  refine List.all_eq_true.mpr fun c hc => ?_
  have h := List.all_eq_true.mp h1 c hc
  rcases Bool.eq_false_or_eq_true (isCode c) with hi | hi
  · exact h2 c (List.mem_filter.mpr ⟨hc, hi⟩)
  · simpa [hi] using h
set_option maxRecDepth 65536 in
theorem w_c0 : (Jvm.Cond.code x code maxLocals ret).before args0 about1 = true := code_word (m := ⟨1, 3⟩) (meth := k1m3) (c := k1c3) (by decide +kernel) rfl rfl rfl (by decide +kernel)
set_option maxRecDepth 65536 in
theorem w_c1 : (Jvm.Cond.code ({ cls := "org/callerscope/model/ObjectTypeHoldsPinLaw", name := "type", desc := "(I)Lorg/callerscope/model/ObjectType;" } : Jvm.MethodName) method_2_code (1 : Nat) (Option.some (Jvm.ClassFile.FieldType.object "org/callerscope/model/ObjectType"))).before args0 about1 = true := code_word (m := ⟨1, 1⟩) (meth := k1m1) (c := k1c1) (by decide +kernel) rfl rfl rfl (by decide +kernel)
set_option maxRecDepth 65536 in
theorem w_c2 : (Jvm.Cond.code ({ cls := "org/callerscope/model/ObjectType", name := "holds", desc := "(Lorg/callerscope/model/ObjectType;)Z" } : Jvm.MethodName) prog_12_method_7_code (3 : Nat) (Option.some Jvm.ClassFile.FieldType.boolean)).before args0 about1 = true := code_word (m := ⟨6, 0⟩) (meth := k6m0) (c := k6c0) (by decide +kernel) rfl rfl rfl (by decide +kernel)
set_option maxRecDepth 65536 in
theorem w_c3 : (Jvm.Cond.code ({ cls := "org/callerscope/model/ObjectTypeHoldsPinLaw", name := "expected", desc := "(II)Z" } : Jvm.MethodName) method_3_code (2 : Nat) (Option.some Jvm.ClassFile.FieldType.boolean)).before args0 about1 = true := code_word (m := ⟨1, 2⟩) (meth := k1m2) (c := k1c2) (by decide +kernel) rfl rfl rfl (by decide +kernel)
def codes1 : List Jvm.Cond := [Jvm.Cond.code x code maxLocals ret, Jvm.Cond.code ({ cls := "org/callerscope/model/ObjectTypeHoldsPinLaw", name := "type", desc := "(I)Lorg/callerscope/model/ObjectType;" } : Jvm.MethodName) method_2_code (1 : Nat) (Option.some (Jvm.ClassFile.FieldType.object "org/callerscope/model/ObjectType")), Jvm.Cond.code ({ cls := "org/callerscope/model/ObjectType", name := "holds", desc := "(Lorg/callerscope/model/ObjectType;)Z" } : Jvm.MethodName) prog_12_method_7_code (3 : Nat) (Option.some Jvm.ClassFile.FieldType.boolean), Jvm.Cond.code ({ cls := "org/callerscope/model/ObjectTypeHoldsPinLaw", name := "expected", desc := "(II)Z" } : Jvm.MethodName) method_3_code (2 : Nat) (Option.some Jvm.ClassFile.FieldType.boolean)]
set_option maxRecDepth 65536 in
theorem codes_eq : words1.filter isCode = codes1 := rfl
theorem w_codes : ∀ c ∈ words1.filter isCode, c.before args0 about1 = true := by
  rw [codes_eq]
  intro c hc
  simp only [codes1, List.mem_cons, List.not_mem_nil, or_false] at hc
  rcases hc with rfl | rfl | rfl | rfl
  · exact w_c0
  · exact w_c1
  · exact w_c2
  · exact w_c3
set_option maxRecDepth 65536 in
theorem w_t1 : (words1.take 24).all (fun c => isCode c || c.before args0 about1) = true := by decide +kernel
set_option maxRecDepth 65536 in
theorem w_t2 : (words1.drop 24).all (fun c => isCode c || c.before args0 about1) = true := by decide +kernel
theorem w_tables : (allAtoms (Jvm.Cond.code x code maxLocals ret :: tables_1)).before args0 about1 = true := by
  rw [allAtoms_all]
  show words1.all (fun c => c.before args0 about1) = true
  refine all_split ?_ w_codes
  rw [← List.take_append_drop 24 words1, List.all_append, w_t1, w_t2]
  rfl
set_option maxRecDepth 65536 in
theorem w_case : (Jvm.Cond.and given_1 narrow_1).before args0 about1 = true := by decide +kernel
theorem w_applies : (headSpec (Jvm.Cond.code x code maxLocals ret :: tables_1) room_1).applies x e0.platform about1 = true :=
  (Spec.applies_iff w_frames).mpr ⟨w_running, w_runnable, w_alone, w_named, w_hears, w_ripe, w_room, w_tables⟩
theorem atStart : AtStart classFile x code maxLocals ret World_1 tables_1 room_1 Calls_1 rest_1 Pre_1 launch0 p0 e0 about1 theMethod args0 below0 :=
  ⟨lists_1, trivial, launch0.admits_env _ _ _, launch0.least_env, fairChoices_fair.cas, fairChoices_fair.clock, w_frames, w_args, w_heap, w_applies, trivial, trivial, w_case⟩
end start1
theorem witness_1 : WitnessClaimed_1 := ⟨start1.p0, start1.e0, start1.about1, start1.theMethod, start1.args0, start1.below0, start1.atStart⟩
end Jvm.Pilot.@@N@@
