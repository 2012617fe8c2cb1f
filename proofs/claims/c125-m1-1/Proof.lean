import JvmDerived
import JvmDerived.Pilot.@@N@@Statement
import JvmDerived.Pilot.@@N@@Code
set_option linter.unusedVariables false
set_option linter.unusedSimpArgs false
@@BLOCK:NumsL.lean.txt@@
namespace Jvm.RoadKit
open Sem ClassFile Op Lib Jvm.Stand Jvm.Free Jvm.LawKit
section New
variable {p : Program} {l : Launch} {e : Env} {R : Room} {s : State} {m : MethodId} {args : Array Value} {below : List Frame} {meth : Method} {c : Code} {T : State} {locs : List Loc} {cells slots : Nat}
theorem retI (X : Stand p l e R s m args below meth c T locs cells slots) (hx : p.tables.exec = Jvm.exec) {pc : Nat} {Ls : Array Slot} {z : Int32} {rest : List Value} (hret : meth.sig.returnType = some .int) (hd : decode c.code pc = .ok (.ireturn, 1)) {fs : List Frame}
    (hl : ∀ (f : JFrame) (acts : List Action), f.method = m → f.locked = none → f.entered = [] → (doReturn e (T.setTop f) acts (some (.int z))).1 = T.setFrames fs) : Steps p.tables e below (T.setTop (mkF m pc Ls (.int z :: rest))) (T.setFrames fs) := by
  have hm' : T.vm.method? m = some meth := X.method'
  have hn : narrow .int (.int z) = .int z := rfl
  show Steps p.tables e below (T.setTop { method := m, pc := pc, locals := Ls, stack := _ :: rest, locked := none }) _
  jvm_step X.here [X.here.top, hx, hd, hm', hret, hn]
  first | (intro acts; rw [hl _ acts rfl rfl rfl]) | rw [hl _ _ rfl rfl rfl]
  exact Steps.refl _
end New
end Jvm.RoadKit
namespace Jvm.Pilot.@@N@@
open Jvm Jvm.ClassFile Sem Op Lib Jvm.Free Jvm.Stand Jvm.LawKit Jvm.RoadKit Bundle Jvm.Pilot.@@N@@.Jvm.D
def own_QT (n0 : Nat) (v : Option Value) (L : List Loc) : Prop := v = some (.int (1 : Int32)) ∧ Fr n0 L
theorem own_b8 (x : Int32) : nar .byte (x.toInt8.toInt32) = x.toInt8.toInt32 := by simp [nar]
theorem own_nost {Z : State} {h : Heap} {a : Addr} {C : String} (F : Exa Z h a C) : ∃ cell : Cell, h[a]? = some cell ∧ cell.vm.isStatics = false := by
  obtain ⟨cell, k, h1, -, -, h4, -⟩ := F; exact ⟨cell, h1, h4⟩
theorem own_nostV {Z : State} {h : Heap} {a : Addr} {k : ClassId} {ty : FieldType} {z : Int32} {vs : List Value} {dv : Value} (F : Arv Z h a k ty z vs dv) : ∃ cell : Cell, h[a]? = some cell ∧ cell.vm.isStatics = false := by
  obtain ⟨cell, A, -⟩ := F; exact ⟨cell, A.1, A.plain⟩
theorem own_arr_keep {Z : State} {h h' : Heap} {ws : List Addr} {a : Addr} {c : Cell} {ty : FieldType} (F : Arr Z h a c ty) (K : Keep h h' ws) (q : a ∉ ws) : Arr Z h' a c ty := ⟨K.2.1 a c F.1 q, F.2⟩
theorem own_sta_keep {Z : State} {h h' : Heap} {ws : List Addr} {C n d : String} {v : Value} (F : Sta Z h C n d v) (K : Keep h h' ws) (q : ∀ x ∈ ws, ∃ cell : Cell, h[x]? = some cell ∧ cell.vm.isStatics = false) : Sta Z h' C n d v := by
  obtain ⟨cf, i, k, f, st, cell, h1, h2, h3, h4, h5, h6, h7⟩ := F
  refine ⟨cf, i, k, f, st, cell, h1, h2, h3, h4, K.2.1 _ _ h5 fun hm => ?_, h6, h7⟩
  obtain ⟨c2, g1, g2⟩ := q _ hm
  cases h5.symm.trans g1
  rw [h6] at g2; cases g2
theorem own_fld_int {Z : State} {args : Array Value} {ts : Term} {C n d : String} {k : Int32} {x : Addr} (ev : ts.eval args Z none [] Z = some (.ref x)) (h : (Jvm.Cond.eq (.field ts C n d) (.int k)).value args Z none Z [] = some true) : Fld Z Z.heap x C n d (.int k) := by
  apply Fld.start
  obtain ⟨u, w, e1, e2, k1, k2⟩ := cmp_v (Or.inl h)
  rw [fld_at ev] at e1
  have e3 : w = .int k := (Option.some.inj (e2.symm.trans (Term.int_eval k)))
  subst e3
  obtain ⟨z, rfl⟩ : ∃ z, u = .int z := k2
  have e4 : (Term.field ts C n d).eval args Z none [] Z = some (.int z) := (fld_at ev).trans e1
  have : z = k := by simpa [Cond.value, e4, e2] using h
  rw [e1, this]
theorem own_fld_long {Z : State} {args : Array Value} {ts : Term} {C n d : String} {k : Int64} {x : Addr} (ev : ts.eval args Z none [] Z = some (.ref x)) (h : (Jvm.Cond.eq (.field ts C n d) (.long k)).value args Z none Z [] = some true) : Fld Z Z.heap x C n d (.long k) := by
  apply Fld.start
  obtain ⟨u, w, e1, e2, k1, k2⟩ := cmp_v (Or.inl h)
  rw [fld_at ev] at e1
  have e3 : w = .long k := (Option.some.inj (e2.symm.trans (long_at k)))
  subst e3
  obtain ⟨z, rfl⟩ : ∃ z, u = .long z := k2
  have e4 : (Term.field ts C n d).eval args Z none [] Z = some (.long z) := (fld_at ev).trans e1
  have : z = k := by simpa [Cond.value, e4, e2] using h
  rw [e1, this]
theorem own_fld_ref {Z : State} {args : Array Value} {ts us : Term} {C n d : String} {x y : Addr} (ev : ts.eval args Z none [] Z = some (.ref x)) (eu : us.eval args Z none [] Z = some (.ref y)) (h : (Jvm.Cond.eq (.field ts C n d) us).value args Z none Z [] = some true) : Fld Z Z.heap x C n d (.ref y) := by
  apply Fld.start
  obtain ⟨u, w, e1, e2, k1, k2⟩ := cmp_v (Or.inl h)
  rw [fld_at ev] at e1
  cases e2.symm.trans eu
  have e4 : (Term.field ts C n d).eval args Z none [] Z = some u := (fld_at ev).trans e1
  have hu : u.isRef = true := k2.2
  have : u = .ref y := gotT (eq_R e4 e2 hu rfl) h
  rw [e1, this]
theorem own_fld_null {Z : State} {args : Array Value} {ts : Term} {C n d : String} {x : Addr} (ev : ts.eval args Z none [] Z = some (.ref x)) (h : (Jvm.Cond.eq (.field ts C n d) .null).value args Z none Z [] = some true) : Fld Z Z.heap x C n d .null :=
  Fld.start ((fld_at ev).symm.trans (null_v h))
theorem own_len {Z : State} {args : Array Value} {ts : Term} {k : Int32} {x : Addr} {c : Cell} {ty : FieldType} (A : Arr Z Z.heap x c ty) (ev : ts.eval args Z none [] Z = some (.ref x)) (h : (Jvm.Cond.eq (.length ts) (.int k)).value args Z none Z [] = some true) : c.slots.size < 2 ^ 31 ∧ c.slots.size.toInt32 = k := by
  obtain ⟨u, w, e1, e2, k1, k2⟩ := cmp_v (Or.inl h)
  have hA := Arr.fin (Vm.Alike.refl _) A
  have hl : c.slots.size < 2 ^ 31 := by
    apply Decidable.byContradiction
    intro hn
    have hn' : ¬ c.slots.size < 2147483648 := hn
    simp [Term.eval, ev, hA, hn'] at e1
  have e4 := len_f ev hA hl
  have e3 : w = .int k := (Option.some.inj (e2.symm.trans (Term.int_eval k)))
  subst e3
  exact ⟨hl, by simpa [Cond.value, e4, e2] using h⟩
theorem own_elem_ref {Z : State} {args : Array Value} {ts us : Term} {j : Int32} {x y : Addr} {c : Cell} {ty : FieldType} (A : Arr Z Z.heap x c ty) (ev : ts.eval args Z none [] Z = some (.ref x)) (eu : us.eval args Z none [] Z = some (.ref y)) (h : (Jvm.Cond.eq (.elem ts (.int j)) us).value args Z none Z [] = some true) (i : Nat) (hi : j.toNatClampNeg = i) : c.slots[i]? = some (.ref y) := by
  obtain ⟨u, w, e1, e2, k1, k2⟩ := cmp_v (Or.inl h)
  cases e2.symm.trans eu
  have hu : u.isRef = true := k2.2
  have e5 : u = .ref y := gotT (eq_R e1 e2 hu rfl) h
  rw [← hi, (elem_in e1 ev (Term.int_eval j) A.1).2, e5]
theorem own_elem_int {Z : State} {args : Array Value} {ts : Term} {j k : Int32} {x : Addr} {c : Cell} {ty : FieldType} (A : Arr Z Z.heap x c ty) (ev : ts.eval args Z none [] Z = some (.ref x)) (h : (Jvm.Cond.eq (.elem ts (.int j)) (.int k)).value args Z none Z [] = some true) (i : Nat) (hi : j.toNatClampNeg = i) : c.slots[i]? = some (.int k) := by
  obtain ⟨u, w, e1, e2, k1, k2⟩ := cmp_v (Or.inl h)
  have e3 : w = .int k := (Option.some.inj (e2.symm.trans (Term.int_eval k)))
  subst e3
  obtain ⟨z, rfl⟩ : ∃ z, u = .int z := k2
  have e5 : z = k := by simpa [Cond.value, e1, e2] using h
  rw [← hi, (elem_in e1 ev (Term.int_eval j) A.1).2, e5]
theorem own_sub {Z : State} {args : Array Value} {j k : Int32} (nn : ¬ j < 0) : (Term.sub (Term.index 0) (Term.int k)).eval args Z none [j.toNatClampNeg] Z = some (.int (j - k)) := by
  have e1 : (Term.index 0).eval args Z none [j.toNatClampNeg] Z = some (.int j) := idx_at nn
  have e2 : (Term.int k).eval args Z none [j.toNatClampNeg] Z = some (.int k) := Term.int_eval k
  simp [Term.eval] at e1 e2 ⊢
  simp [e1]
theorem own_ne_int {a b : Int32} (h : a ≠ b) : Value.int a ≠ Value.int b := fun q => h (Value.int.inj q)

theorem d1_0 : decode jdk_29_method_70_code 0 = .ok (.lload_n 0, 1) := by decide +kernel
theorem d1_1 : decode jdk_29_method_70_code 1 = .ok (.lload_n 2, 1) := by decide +kernel
theorem d1_2 : decode jdk_29_method_70_code 2 = .ok (.lcmp, 1) := by decide +kernel
theorem d1_3 : decode jdk_29_method_70_code 3 = .ok (.ifCond .gt 7, 3) := by decide +kernel
theorem d1_6 : decode jdk_29_method_70_code 6 = .ok (.lload_n 0, 1) := by decide +kernel
theorem d1_7 : decode jdk_29_method_70_code 7 = .ok (.goto 4, 3) := by decide +kernel
theorem d1_11 : decode jdk_29_method_70_code 11 = .ok (.lreturn, 1) := by decide +kernel
theorem ef_1_JJ (m : MethodId) (x0 : Int64) (x1 : Int64) : entryFrame m #[(.long x0), (.long x1)] 4 = mkF m 0 #[.val (.long x0), .second, .val (.long x1), .second] [] := by first | (simp [entryFrame, mkF, argsToLocals, Value.category]; done) | rfl
def Q1_1 (Z : State) (q1 : Int64) (q2 : Int64) (h0 : Heap) (n0 : Nat) (v : Option Value) (h : Heap) (L : List Loc) : Prop := v = some (.long q1) ∧ Fr n0 L ∧ h = h0
set_option maxRecDepth 65536 in
set_option maxHeartbeats 40000000 in
theorem rm1_1 (l : Launch) (Z : State) (a0 : Array Value) (hw : ∀ d ∈ tables_1, d.before a0 Z = true) (ws : List Jvm.Cond) (q1 : Int64) (q2 : Int64) (h0 : Heap) (n0 : Nat) (Z0 : n0 ≤ h0.size) (P3 : ¬ ((0 : Int32) < (lcmpW q1 q2))) :
    MetFree l (⟨"java/lang/Math", "min", "(JJ)J"⟩ : MethodName) (head1 (Jvm.Cond.code (⟨"java/lang/Math", "min", "(JJ)J"⟩ : MethodName) jdk_29_method_70_code 4 (some .long) :: ws) ({ frames := 0, cells := 0, slots := 0, locals := 0 } : Room)) (fun a U => a = #[(.long q1), (.long q2)] ∧ Z.Warmed39 U.vm ∧ U.heap = h0) (fun _ _ _ _ _ => True) (fun _ U o U' => ∃ v L, o = .returned v ∧ Q1_1 Z q1 q2 h0 n0 v U'.heap L ∧ FrameEnd U o U' L ({ frames := 0, cells := 0, slots := 0, locals := 0 } : Room).cells ({ frames := 0, cells := 0, slots := 0, locals := 0 } : Room).slots) := by
  refine MetFree.of_bodySF (Jvm.Free.JP.mathPlain rfl (by decide +kernel)) hisR ?_
  intro p e s m args below meth c s₁ Bd hml0 hP hK
  obtain ⟨rfl, hZ, hh⟩ := hP
  have hx := Bd.exec
  have hby := Bd.bytes
  have hml : c.maxLocals = 4 := hml0
  have hown : s.vm.findClass "java/lang/Math" = some m.cls := findClass_of_methodNamed Bd.named
  have hnm := (name_of_methodNamed Bd.named Bd.method).1
  have X0 : Stand p l e ({ frames := 0, cells := 0, slots := 0, locals := 0 } : Room) s m #[(.long q1), (.long q2)] below meth c s₁ [] 0 0 := Stand.of_body Bd
  have e0 : s₁.heap = h0 := by rw [← hh, Bd.state]; rfl
  have N0 := Fr.nil n0
  have pre0 : ∀ t, Steps p.tables e below (s₁.setTop (mkF m 0 #[.val (.long q1), .second, .val (.long q2), .second] [])) t → Steps p.tables e below (s₁.setTop (entryFrame m #[(.long q1), (.long q2)] 4)) t := fun t k => castTop (ef_1_JJ m q1 q2) k
  obtain ⟨fs, hr, hrun, hended, hW, hsame⟩ := X0.leave (v := some (.long q1)) (fun h => by rw [Bd.returns] at h; cases h)
  refine ⟨_, _, pre0 _ ?_, hrun, hended, _, _, rfl, ?_, ⟨_, rfl⟩, hW, hsame.mono (by decide) (by decide)⟩
  · show Steps p.tables e below (s₁.setTop (mkF m 0 #[.val (.long q1), .second, .val (.long q2), .second] [])) _
    refine XS.lloadN X0.here hx rfl (hb hby d1_0) rfl ?_
    show Steps p.tables e below (s₁.setTop (mkF m 1 #[.val (.long q1), .second, .val (.long q2), .second] [(.long q1)])) _
    refine XS.lloadN X0.here hx rfl (hb hby d1_1) rfl ?_
    show Steps p.tables e below (s₁.setTop (mkF m 2 #[.val (.long q1), .second, .val (.long q2), .second] [(.long q2), (.long q1)])) _
    refine XS.lcmp X0.here hx rfl (hb hby d1_2) rfl ?_
    show Steps p.tables e below (s₁.setTop (mkF m 3 #[.val (.long q1), .second, .val (.long q2), .second] [(.int (lcmpW q1 q2))])) _
    refine XS.ifNo X0.here hx rfl (hb hby d1_3) rfl ((if0 _ _).trans (flt P3).2.2.1) ?_
    show Steps p.tables e below (s₁.setTop (mkF m 6 #[.val (.long q1), .second, .val (.long q2), .second] [])) _
    refine XS.lloadN X0.here hx rfl (hb hby d1_6) rfl ?_
    show Steps p.tables e below (s₁.setTop (mkF m 7 #[.val (.long q1), .second, .val (.long q2), .second] [(.long q1)])) _
    refine XS.goto X0.here hx rfl (pc0 := 7) (pc' := 11) rfl (hb hby d1_7) (by decide) (by decide) ?_
    show Steps p.tables e below (s₁.setTop (mkF m 11 #[.val (.long q1), .second, .val (.long q2), .second] [(.long q1)])) _
    jvm_step X0.here [X0.here.top, hx, (hb hby d1_11), X0.method', Bd.returns, narrow]
    first | (intro acts; rw [hr _ acts rfl rfl rfl]) | rw [hr _ _ rfl rfl rfl]
    exact Steps.refl _
  · show Q1_1 Z q1 q2 h0 n0 _ s₁.heap _
    rw [e0]
    exact ⟨rfl, N0, rfl⟩
theorem pd_0 : parseMethodDescriptor "(JJ)J" = some ⟨[.long, .long], some .long⟩ := by decide +kernel
theorem d2_0 : decode prog_3_method_1_code 0 = .ok (.aload_n 0, 1) := by decide +kernel
theorem d2_1 : decode prog_3_method_1_code 1 = .ok (.invokespecial 1, 3) := by decide +kernel
theorem d2_4 : decode prog_3_method_1_code 4 = .ok (.aload_n 0, 1) := by decide +kernel
theorem d2_5 : decode prog_3_method_1_code 5 = .ok (.invokestatic 7, 3) := by decide +kernel
theorem d4_0 : decode jdk_2650_method_2_code 0 = .ok (.getstatic 17, 3) := by decide +kernel
theorem d4_3 : decode jdk_2650_method_2_code 3 = .ok (.areturn, 1) := by decide +kernel
theorem ef_4 (m : MethodId)  : entryFrame m #[] 0 = mkF m 0 #[] [] := by first | (simp [entryFrame, mkF, argsToLocals, Value.category]; done) | rfl
theorem pn_4 : plainName "java/util/OptionalLong" = true := by first | (simp [plainName, overriddenIn]; done) | decide +kernel
def Q4_1 (Z : State) (w1 : Addr) (h0 : Heap) (n0 : Nat) (v : Option Value) (h : Heap) (L : List Loc) : Prop := v = some (.ref w1) ∧ Fr n0 L ∧ h = h0
set_option maxRecDepth 65536 in
set_option maxHeartbeats 40000000 in
theorem rm4_1 (l : Launch) (Z : State) (a0 : Array Value) (hw : ∀ d ∈ tables_1, d.before a0 Z = true) (ws : List Jvm.Cond) (w1 : Addr) (h0 : Heap) (n0 : Nat) (Z0 : n0 ≤ h0.size) (S_EMPTY : Sta Z h0 "java/util/OptionalLong" "EMPTY" "Ljava/util/OptionalLong;" (.ref w1)) :
    MetFree l (⟨"java/util/OptionalLong", "empty", "()Ljava/util/OptionalLong;"⟩ : MethodName) (head1 (Jvm.Cond.code (⟨"java/util/OptionalLong", "empty", "()Ljava/util/OptionalLong;"⟩ : MethodName) jdk_2650_method_2_code 0 (some (.object "java/util/OptionalLong")) :: ws) ({ frames := 0, cells := 0, slots := 0, locals := 0 } : Room)) (fun a U => a = #[] ∧ Z.Warmed39 U.vm ∧ U.heap = h0) (fun _ _ _ _ _ => True) (fun _ U o U' => ∃ v L, o = .returned v ∧ Q4_1 Z w1 h0 n0 v U'.heap L ∧ FrameEnd U o U' L ({ frames := 0, cells := 0, slots := 0, locals := 0 } : Room).cells ({ frames := 0, cells := 0, slots := 0, locals := 0 } : Room).slots) := by
  refine MetFree.of_bodySF (plainFor_of_name pn_4) hisR ?_
  intro p e s m args below meth c s₁ Bd hml0 hP hK
  obtain ⟨rfl, hZ, hh⟩ := hP
  have hx := Bd.exec
  have hby := Bd.bytes
  have hml : c.maxLocals = 0 := hml0
  have hown : s.vm.findClass "java/util/OptionalLong" = some m.cls := findClass_of_methodNamed Bd.named
  have hnm := (name_of_methodNamed Bd.named Bd.method).1
  have X0 : Stand p l e ({ frames := 0, cells := 0, slots := 0, locals := 0 } : Room) s m #[] below meth c s₁ [] 0 0 := Stand.of_body Bd
  have e0 : s₁.heap = h0 := by rw [← hh, Bd.state]; rfl
  have N0 := Fr.nil n0
  have pre0 : ∀ t, Steps p.tables e below (s₁.setTop (mkF m 0 #[] [])) t → Steps p.tables e below (s₁.setTop (entryFrame m #[] 0)) t := fun t k => castTop (ef_4 m ) k
  obtain ⟨T2, X2, e2, st2⟩ := getS2 X0 hx hZ hown (host := "") (Or.inl (hw _ (List.mem_of_getElem? (i := 18) rfl))) Via.refl e0 S_EMPTY (g := (mkF m 0 #[] [])) rfl (hb hby d4_0)
  obtain ⟨fs, hr, hrun, hended, hW, hsame⟩ := X2.leave (v := some (.ref w1)) (fun h => by rw [Bd.returns] at h; cases h)
  refine ⟨_, _, pre0 _ ?_, hrun, hended, _, _, rfl, ?_, ⟨_, rfl⟩, hW, hsame.mono (by decide) (by decide)⟩
  · show Steps p.tables e below (s₁.setTop (mkF m 0 #[] [])) _
    refine st2 _ ?_
    show Steps p.tables e below (T2.setTop (mkF m 3 #[] [(.ref w1)])) _
    jvm_step X2.here [X2.here.top, hx, (hb hby d4_3), X2.method', Bd.returns, Value.isRef, FieldType.isReference]
    first | (intro acts; rw [hr _ acts rfl rfl rfl]) | rw [hr _ _ rfl rfl rfl]
    exact Steps.refl _
  · show Q4_1 Z w1 h0 n0 _ T2.heap _
    rw [e2]
    exact ⟨rfl, N0, rfl⟩
theorem pd_1 : parseMethodDescriptor "()Ljava/util/OptionalLong;" = some ⟨[], some (.object "java/util/OptionalLong")⟩ := by decide +kernel
theorem d2_8 : decode prog_3_method_1_code 8 = .ok (.putfield 13, 3) := by decide +kernel
theorem d2_11 : decode prog_3_method_1_code 11 = .ok (.aload_n 0, 1) := by decide +kernel
theorem d2_12 : decode prog_3_method_1_code 12 = .ok (.lload_n 1, 1) := by decide +kernel
theorem d2_13 : decode prog_3_method_1_code 13 = .ok (.putfield 19, 3) := by decide +kernel
theorem d2_16 : decode prog_3_method_1_code 16 = .ok (.return_, 1) := by decide +kernel
theorem ef_2_RJ (m : MethodId) (x0 : Addr) (x1 : Int64) : entryFrame m #[(.ref x0), (.long x1)] 3 = mkF m 0 #[.val (.ref x0), .val (.long x1), .second] [] := by first | (simp [entryFrame, mkF, argsToLocals, Value.category]; done) | rfl
theorem pn_2 : plainName "com/example/lasting_names/lastingnames/BodyBound" = true := by first | (simp [plainName, overriddenIn]; done) | decide +kernel
def Q2_1 (Z : State) (a1 : Addr) (q2 : Int64) (w4 : Addr) (h0 : Heap) (n0 : Nat) (v : Option Value) (h : Heap) (L : List Loc) : Prop := v = none ∧ Fr n0 L ∧ Keep h0 h [a1] ∧ Exa Z h a1 "com/example/lasting_names/lastingnames/BodyBound" ∧ Fld Z h a1 "com/example/lasting_names/lastingnames/BodyBound" "announced" "Ljava/util/OptionalLong;" (.ref w4) ∧ Fld Z h a1 "com/example/lasting_names/lastingnames/BodyBound" "maxBytes" "J" (.long q2) ∧ Fld Z h a1 "com/example/lasting_names/lastingnames/BodyBound" "received" "J" (.long (0 : Int64))
set_option maxRecDepth 65536 in
set_option maxHeartbeats 40000000 in
theorem rm2_1 (l : Launch) (Z : State) (a0 : Array Value) (hw : ∀ d ∈ tables_1, d.before a0 Z = true) (ws : List Jvm.Cond) (a1 : Addr) (q2 : Int64) (w4 : Addr) (h0 : Heap) (n0 : Nat) (Z0 : n0 ≤ h0.size) (S_EMPTY : Sta Z h0 "java/util/OptionalLong" "EMPTY" "Ljava/util/OptionalLong;" (.ref w4)) (E_a1 : Exa Z h0 a1 "com/example/lasting_names/lastingnames/BodyBound") (F_announced_a1 : Fld Z h0 a1 "com/example/lasting_names/lastingnames/BodyBound" "announced" "Ljava/util/OptionalLong;" .null) (F_maxBytes_a1 : Fld Z h0 a1 "com/example/lasting_names/lastingnames/BodyBound" "maxBytes" "J" (.long (0 : Int64))) (F_received_a1 : Fld Z h0 a1 "com/example/lasting_names/lastingnames/BodyBound" "received" "J" (.long (0 : Int64))) (g_a1 : n0 ≤ a1) :
    MetFree l (⟨"com/example/lasting_names/lastingnames/BodyBound", "<init>", "(J)V"⟩ : MethodName) (head1 (Jvm.Cond.code (⟨"com/example/lasting_names/lastingnames/BodyBound", "<init>", "(J)V"⟩ : MethodName) prog_3_method_1_code 3 none :: ws) ({ frames := 1, cells := 0, slots := 0, locals := 12 } : Room)) (fun a U => a = #[(.ref a1), (.long q2)] ∧ Z.Warmed39 U.vm ∧ U.heap = h0) (fun _ _ _ _ _ => True) (fun _ U o U' => ∃ v L, o = .returned v ∧ Q2_1 Z a1 q2 w4 h0 n0 v U'.heap L ∧ FrameEnd U o U' L ({ frames := 1, cells := 0, slots := 0, locals := 12 } : Room).cells ({ frames := 1, cells := 0, slots := 0, locals := 12 } : Room).slots) := by
  refine MetFree.of_bodySF (plainFor_of_name pn_2) hisR ?_
  intro p e s m args below meth c s₁ Bd hml0 hP hK
  obtain ⟨rfl, hZ, hh⟩ := hP
  have hx := Bd.exec
  have hby := Bd.bytes
  have hml : c.maxLocals = 3 := hml0
  have hown : s.vm.findClass "com/example/lasting_names/lastingnames/BodyBound" = some m.cls := findClass_of_methodNamed Bd.named
  have hnm := (name_of_methodNamed Bd.named Bd.method).1
  have X0 : Stand p l e ({ frames := 1, cells := 0, slots := 0, locals := 12 } : Room) s m #[(.ref a1), (.long q2)] below meth c s₁ [] 0 0 := Stand.of_body Bd
  have e0 : s₁.heap = h0 := by rw [← hh, Bd.state]; rfl
  have N0 := Fr.nil n0
  have pre0 : ∀ t, Steps p.tables e below (s₁.setTop (mkF m 0 #[.val (.ref a1), .val (.long q2), .second] [])) t → Steps p.tables e below (s₁.setTop (entryFrame m #[(.ref a1), (.long q2)] 3)) t := fun t k => castTop (ef_2_RJ m a1 q2) k
  obtain ⟨T3, X3, e3, st3⟩ := initO X0 hx hZ hown (hw _ (List.mem_of_getElem? (i := 11) rfl)) (hw _ (List.mem_of_getElem? (i := 12) rfl)) (hw _ (List.mem_of_getElem? (i := 13) rfl)) e0 (g := (mkF m 1 #[.val (.ref a1), .val (.long q2), .second] [(.ref a1)])) rfl (by rw [hml]; rfl) rfl (hb hby d2_1) (by decide) (W := 0) (by show 2 * 0 + _ ≤ _; exact Nat.le_of_eq rfl) (by decide)
  obtain ⟨_, _, ⟨T5, L5, k5, n5⟩, -, X5, ⟨Lc5, hQ5, l5, y5, z5⟩, st5⟩ := Jvm.LawKit.callS X3 hx (y := (⟨"java/util/OptionalLong", "empty", "()Ljava/util/OptionalLong;"⟩ : MethodName)) hown (mvT hZ (hw _ (List.mem_of_getElem? (i := 14) rfl))) (mvT hZ (hw _ (List.mem_of_getElem? (i := 15) rfl))) (mvT hZ (hw _ (List.mem_of_getElem? (i := 16) rfl))) (mvT hZ (hw _ (List.mem_of_getElem? (i := 17) rfl))) (by decide) (backOf (W := 1) (rm4_1 l Z a0 hw [] w4 h0 n0 Z0 S_EMPTY) hZ (hw _ (List.mem_of_getElem? (i := 17) rfl)) (hw _ (List.mem_of_getElem? (i := 16) rfl)) (by decide) (by decide)) (g := (mkF m 5 #[.val (.ref a1), .val (.long q2), .second] [(.ref a1)])) rfl (by rw [hml]; rfl) (argsL := []) (rest := [(.ref a1)]) (lenOf pd_1 rfl) rfl (by show 2 * 0 + _ ≤ _; exact Nat.le_of_eq rfl) (hb hby d2_5) (fun _ _ => ⟨rfl, e3, (by decide : 0 + 0 ≤ _), (by decide : 0 + 0 ≤ _)⟩)
  dsimp only [Pt.U, Pt.locs, Pt.cells, Pt.slots] at X5 l5 y5 z5 st5 hQ5
  subst l5 y5 z5
  obtain ⟨rfl, Nq5, e5⟩ := hQ5
  have N5 := Fr.app N0 Nq5
  obtain ⟨T6, h6, X6, e6, W6, st6⟩ := putF X5 hx hZ hown (host := "") (Or.inl (hw _ (List.mem_of_getElem? (i := 19) rfl))) Via.refl e5 F_announced_a1 E_a1 (Or.inl (hw _ (List.mem_of_getElem? (i := 20) rfl))) (hw _ (List.mem_of_getElem? (i := 6) rfl)) (ty := (.object "java/util/OptionalLong")) (by decide) rfl rfl (g := (mkF m 8 #[.val (.ref a1), .val (.long q2), .second] [(.ref w4), (.ref a1)])) rfl rfl (hb hby d2_8)
  have K0_6 : Keep h0 h6 [a1] := (Keep.refl h0 [a1]).wr W6 (Or.inl (List.mem_of_getElem? (i := 0) rfl))
  have N6 := Fr.snoc X6 N5 g_a1
  have Z6 : n0 ≤ h6.size := Nat.le_trans Z0 (Keep.of_wr W6).1
  have Fw6 := F_announced_a1.same W6
  have f7 := (E_a1.wr W6)
  have f8 := (F_maxBytes_a1.other W6 (Or.inr (slot_ne (Or.inr (hw _ (List.mem_of_getElem? (i := 22) rfl))) (Or.inl (hw _ (List.mem_of_getElem? (i := 20) rfl))) (by decide) (t := .long) (t' := (.object "java/util/OptionalLong")) (by decide) (by decide))))
  obtain ⟨T9, h9, X9, e9, W9, st9⟩ := putF X6 hx hZ hown (host := "") (Or.inl (hw _ (List.mem_of_getElem? (i := 21) rfl))) Via.refl e6 f8 f7 (Or.inr ⟨(hw _ (List.mem_of_getElem? (i := 22) rfl)), rfl, hnm⟩) (hw _ (List.mem_of_getElem? (i := 6) rfl)) (ty := .long) (by decide) rfl rfl (g := (mkF m 13 #[.val (.ref a1), .val (.long q2), .second] [(.long q2), (.ref a1)])) rfl rfl (hb hby d2_13)
  have K0_9 : Keep h0 h9 [a1] := K0_6.wr W9 (Or.inl (List.mem_of_getElem? (i := 0) rfl))
  have N9 := Fr.snoc X9 N6 g_a1
  have Z9 : n0 ≤ h9.size := Nat.le_trans Z6 (Keep.of_wr W9).1
  have Fw9 := f8.same W9
  have f10 := (f7.wr W9)
  have f11 := (Fw6.other W9 (Or.inr (slot_ne (Or.inl (hw _ (List.mem_of_getElem? (i := 20) rfl))) (Or.inr (hw _ (List.mem_of_getElem? (i := 22) rfl))) (by decide) (t := (.object "java/util/OptionalLong")) (t' := .long) (by decide) (by decide))))
  have f12 := ((F_received_a1.other W6 (Or.inr (slot_ne (Or.inl (hw _ (List.mem_of_getElem? (i := 29) rfl))) (Or.inl (hw _ (List.mem_of_getElem? (i := 20) rfl))) (by decide) (t := .long) (t' := (.object "java/util/OptionalLong")) (by decide) (by decide)))).other W9 (Or.inr (slot_ne (Or.inl (hw _ (List.mem_of_getElem? (i := 29) rfl))) (Or.inr (hw _ (List.mem_of_getElem? (i := 22) rfl))) (by decide) (t := .long) (t' := .long) (by decide) (by decide))))
  obtain ⟨fs, hr, hrun, hended, hW, hsame⟩ := X9.leave (v := none) (fun _ => rfl)
  refine ⟨_, _, pre0 _ ?_, hrun, hended, _, _, rfl, ?_, ⟨_, rfl⟩, hW, hsame.mono (by decide) (by decide)⟩
  · show Steps p.tables e below (s₁.setTop (mkF m 0 #[.val (.ref a1), .val (.long q2), .second] [])) _
    refine XS.aloadN X0.here hx rfl (hb hby d2_0) rfl rfl ?_
    show Steps p.tables e below (s₁.setTop (mkF m 1 #[.val (.ref a1), .val (.long q2), .second] [(.ref a1)])) _
    refine st3 _ ?_
    show Steps p.tables e below (T3.setTop (mkF m 4 #[.val (.ref a1), .val (.long q2), .second] [])) _
    refine XS.aloadN X3.here hx rfl (hb hby d2_4) rfl rfl ?_
    show Steps p.tables e below (T3.setTop (mkF m 5 #[.val (.ref a1), .val (.long q2), .second] [(.ref a1)])) _
    refine st5 _ ?_
    show Steps p.tables e below (T5.setTop (mkF m 8 #[.val (.ref a1), .val (.long q2), .second] [(.ref w4), (.ref a1)])) _
    refine st6 _ ?_
    show Steps p.tables e below (T6.setTop (mkF m 11 #[.val (.ref a1), .val (.long q2), .second] [])) _
    refine XS.aloadN X6.here hx rfl (hb hby d2_11) rfl rfl ?_
    show Steps p.tables e below (T6.setTop (mkF m 12 #[.val (.ref a1), .val (.long q2), .second] [(.ref a1)])) _
    refine XS.lloadN X6.here hx rfl (hb hby d2_12) rfl ?_
    show Steps p.tables e below (T6.setTop (mkF m 13 #[.val (.ref a1), .val (.long q2), .second] [(.long q2), (.ref a1)])) _
    refine st9 _ ?_
    show Steps p.tables e below (T9.setTop (mkF m 16 #[.val (.ref a1), .val (.long q2), .second] [])) _
    exact X9.returnOut hx Bd.returns (hb hby d2_16) hr
  · show Q2_1 Z a1 q2 w4 h0 n0 _ T9.heap _
    rw [e9]
    exact ⟨rfl, N9, K0_9, f10, f11, Fw9, f12⟩
theorem pd_2 : parseMethodDescriptor "(J)V" = some ⟨[.long], none⟩ := by decide +kernel
theorem d5_0 : decode prog_3_method_4_code 0 = .ok (.aload_n 0, 1) := by decide +kernel
theorem d5_1 : decode prog_3_method_4_code 1 = .ok (.getfield 36, 3) := by decide +kernel
theorem d5_4 : decode prog_3_method_4_code 4 = .ok (.lreturn, 1) := by decide +kernel
theorem ef_5_R (m : MethodId) (x0 : Addr) : entryFrame m #[(.ref x0)] 1 = mkF m 0 #[.val (.ref x0)] [] := by first | (simp [entryFrame, mkF, argsToLocals, Value.category]; done) | rfl
theorem pn_5 : plainName "com/example/lasting_names/lastingnames/BodyBound" = true := by first | (simp [plainName, overriddenIn]; done) | decide +kernel
def Q5_1 (Z : State) (a1 : Addr) (h0 : Heap) (n0 : Nat) (v : Option Value) (h : Heap) (L : List Loc) : Prop := v = some (.long (0 : Int64)) ∧ Fr n0 L ∧ h = h0
set_option maxRecDepth 65536 in
set_option maxHeartbeats 40000000 in
theorem rm5_1 (l : Launch) (Z : State) (a0 : Array Value) (hw : ∀ d ∈ tables_1, d.before a0 Z = true) (ws : List Jvm.Cond) (a1 : Addr) (h0 : Heap) (n0 : Nat) (Z0 : n0 ≤ h0.size) (F_received_a1 : Fld Z h0 a1 "com/example/lasting_names/lastingnames/BodyBound" "received" "J" (.long (0 : Int64))) :
    MetFree l (⟨"com/example/lasting_names/lastingnames/BodyBound", "received", "()J"⟩ : MethodName) (head1 (Jvm.Cond.code (⟨"com/example/lasting_names/lastingnames/BodyBound", "received", "()J"⟩ : MethodName) prog_3_method_4_code 1 (some .long) :: ws) ({ frames := 0, cells := 0, slots := 0, locals := 0 } : Room)) (fun a U => a = #[(.ref a1)] ∧ Z.Warmed39 U.vm ∧ U.heap = h0) (fun _ _ _ _ _ => True) (fun _ U o U' => ∃ v L, o = .returned v ∧ Q5_1 Z a1 h0 n0 v U'.heap L ∧ FrameEnd U o U' L ({ frames := 0, cells := 0, slots := 0, locals := 0 } : Room).cells ({ frames := 0, cells := 0, slots := 0, locals := 0 } : Room).slots) := by
  refine MetFree.of_bodySF (plainFor_of_name pn_5) hisR ?_
  intro p e s m args below meth c s₁ Bd hml0 hP hK
  obtain ⟨rfl, hZ, hh⟩ := hP
  have hx := Bd.exec
  have hby := Bd.bytes
  have hml : c.maxLocals = 1 := hml0
  have hown : s.vm.findClass "com/example/lasting_names/lastingnames/BodyBound" = some m.cls := findClass_of_methodNamed Bd.named
  have hnm := (name_of_methodNamed Bd.named Bd.method).1
  have X0 : Stand p l e ({ frames := 0, cells := 0, slots := 0, locals := 0 } : Room) s m #[(.ref a1)] below meth c s₁ [] 0 0 := Stand.of_body Bd
  have e0 : s₁.heap = h0 := by rw [← hh, Bd.state]; rfl
  have N0 := Fr.nil n0
  have pre0 : ∀ t, Steps p.tables e below (s₁.setTop (mkF m 0 #[.val (.ref a1)] [])) t → Steps p.tables e below (s₁.setTop (entryFrame m #[(.ref a1)] 1)) t := fun t k => castTop (ef_5_R m a1) k
  obtain ⟨T2, X2, e2, st2⟩ := getF X0 hx hZ hown (host := "") (Or.inl (hw _ (List.mem_of_getElem? (i := 28) rfl))) Via.refl e0 F_received_a1 (g := (mkF m 1 #[.val (.ref a1)] [(.ref a1)])) rfl rfl (hb hby d5_1)
  obtain ⟨fs, hr, hrun, hended, hW, hsame⟩ := X2.leave (v := some (.long (0 : Int64))) (fun h => by rw [Bd.returns] at h; cases h)
  refine ⟨_, _, pre0 _ ?_, hrun, hended, _, _, rfl, ?_, ⟨_, rfl⟩, hW, hsame.mono (by decide) (by decide)⟩
  · show Steps p.tables e below (s₁.setTop (mkF m 0 #[.val (.ref a1)] [])) _
    refine XS.aloadN X0.here hx rfl (hb hby d5_0) rfl rfl ?_
    show Steps p.tables e below (s₁.setTop (mkF m 1 #[.val (.ref a1)] [(.ref a1)])) _
    refine st2 _ ?_
    show Steps p.tables e below (T2.setTop (mkF m 4 #[.val (.ref a1)] [(.long (0 : Int64))])) _
    jvm_step X2.here [X2.here.top, hx, (hb hby d5_4), X2.method', Bd.returns, narrow]
    first | (intro acts; rw [hr _ acts rfl rfl rfl]) | rw [hr _ _ rfl rfl rfl]
    exact Steps.refl _
  · show Q5_1 Z a1 h0 n0 _ T2.heap _
    rw [e2]
    exact ⟨rfl, N0, rfl⟩
theorem pd_3 : parseMethodDescriptor "()J" = some ⟨[], some .long⟩ := by decide +kernel
theorem d6_0 : decode prog_3_method_3_code 0 = .ok (.aload_n 0, 1) := by decide +kernel
theorem d6_1 : decode prog_3_method_3_code 1 = .ok (.dup, 1) := by decide +kernel
theorem d6_2 : decode prog_3_method_3_code 2 = .ok (.getfield 36, 3) := by decide +kernel
theorem d6_5 : decode prog_3_method_3_code 5 = .ok (.lload_n 1, 1) := by decide +kernel
theorem d6_6 : decode prog_3_method_3_code 6 = .ok (.ladd, 1) := by decide +kernel
theorem d6_7 : decode prog_3_method_3_code 7 = .ok (.putfield 36, 3) := by decide +kernel
theorem d6_10 : decode prog_3_method_3_code 10 = .ok (.aload_n 0, 1) := by decide +kernel
theorem d6_11 : decode prog_3_method_3_code 11 = .ok (.getfield 36, 3) := by decide +kernel
theorem d6_14 : decode prog_3_method_3_code 14 = .ok (.aload_n 0, 1) := by decide +kernel
theorem d6_15 : decode prog_3_method_3_code 15 = .ok (.getfield 19, 3) := by decide +kernel
theorem d6_18 : decode prog_3_method_3_code 18 = .ok (.lcmp, 1) := by decide +kernel
theorem d6_19 : decode prog_3_method_3_code 19 = .ok (.ifCond .le 15, 3) := by decide +kernel
theorem d6_34 : decode prog_3_method_3_code 34 = .ok (.return_, 1) := by decide +kernel
theorem ef_6_RJ (m : MethodId) (x0 : Addr) (x1 : Int64) : entryFrame m #[(.ref x0), (.long x1)] 3 = mkF m 0 #[.val (.ref x0), .val (.long x1), .second] [] := by first | (simp [entryFrame, mkF, argsToLocals, Value.category]; done) | rfl
theorem pn_6 : plainName "com/example/lasting_names/lastingnames/BodyBound" = true := by first | (simp [plainName, overriddenIn]; done) | decide +kernel
def Q6_1 (Z : State) (a1 : Addr) (q2 : Int64) (w4 : Addr) (w5 : Int64) (h0 : Heap) (n0 : Nat) (v : Option Value) (h : Heap) (L : List Loc) : Prop := v = none ∧ Fr n0 L ∧ Keep h0 h [a1] ∧ Fld Z h a1 "com/example/lasting_names/lastingnames/BodyBound" "received" "J" (.long ((0 : Int64) + q2)) ∧ Exa Z h a1 "com/example/lasting_names/lastingnames/BodyBound" ∧ Fld Z h a1 "com/example/lasting_names/lastingnames/BodyBound" "announced" "Ljava/util/OptionalLong;" (.ref w4) ∧ Fld Z h a1 "com/example/lasting_names/lastingnames/BodyBound" "maxBytes" "J" (.long w5)
set_option maxRecDepth 65536 in
set_option maxHeartbeats 40000000 in
theorem rm6_1 (l : Launch) (Z : State) (a0 : Array Value) (hw : ∀ d ∈ tables_1, d.before a0 Z = true) (ws : List Jvm.Cond) (a1 : Addr) (q2 : Int64) (w4 : Addr) (w5 : Int64) (h0 : Heap) (n0 : Nat) (Z0 : n0 ≤ h0.size) (F_received_a1 : Fld Z h0 a1 "com/example/lasting_names/lastingnames/BodyBound" "received" "J" (.long (0 : Int64))) (E_a1 : Exa Z h0 a1 "com/example/lasting_names/lastingnames/BodyBound") (F_announced_a1 : Fld Z h0 a1 "com/example/lasting_names/lastingnames/BodyBound" "announced" "Ljava/util/OptionalLong;" (.ref w4)) (F_maxBytes_a1 : Fld Z h0 a1 "com/example/lasting_names/lastingnames/BodyBound" "maxBytes" "J" (.long w5)) (g_a1 : n0 ≤ a1) (P10 : ¬ ((0 : Int32) < (lcmpW ((0 : Int64) + q2) w5))) :
    MetFree l (⟨"com/example/lasting_names/lastingnames/BodyBound", "count", "(J)V"⟩ : MethodName) (head1 (Jvm.Cond.code (⟨"com/example/lasting_names/lastingnames/BodyBound", "count", "(J)V"⟩ : MethodName) prog_3_method_3_code 3 none :: ws) ({ frames := 0, cells := 0, slots := 0, locals := 0 } : Room)) (fun a U => a = #[(.ref a1), (.long q2)] ∧ Z.Warmed39 U.vm ∧ U.heap = h0) (fun _ _ _ _ _ => True) (fun _ U o U' => ∃ v L, o = .returned v ∧ Q6_1 Z a1 q2 w4 w5 h0 n0 v U'.heap L ∧ FrameEnd U o U' L ({ frames := 0, cells := 0, slots := 0, locals := 0 } : Room).cells ({ frames := 0, cells := 0, slots := 0, locals := 0 } : Room).slots) := by
  refine MetFree.of_bodySF (plainFor_of_name pn_6) hisR ?_
  intro p e s m args below meth c s₁ Bd hml0 hP hK
  obtain ⟨rfl, hZ, hh⟩ := hP
  have hx := Bd.exec
  have hby := Bd.bytes
  have hml : c.maxLocals = 3 := hml0
  have hown : s.vm.findClass "com/example/lasting_names/lastingnames/BodyBound" = some m.cls := findClass_of_methodNamed Bd.named
  have hnm := (name_of_methodNamed Bd.named Bd.method).1
  have X0 : Stand p l e ({ frames := 0, cells := 0, slots := 0, locals := 0 } : Room) s m #[(.ref a1), (.long q2)] below meth c s₁ [] 0 0 := Stand.of_body Bd
  have e0 : s₁.heap = h0 := by rw [← hh, Bd.state]; rfl
  have N0 := Fr.nil n0
  have pre0 : ∀ t, Steps p.tables e below (s₁.setTop (mkF m 0 #[.val (.ref a1), .val (.long q2), .second] [])) t → Steps p.tables e below (s₁.setTop (entryFrame m #[(.ref a1), (.long q2)] 3)) t := fun t k => castTop (ef_6_RJ m a1 q2) k
  obtain ⟨T3, X3, e3, st3⟩ := getF X0 hx hZ hown (host := "") (Or.inl (hw _ (List.mem_of_getElem? (i := 28) rfl))) Via.refl e0 F_received_a1 (g := (mkF m 2 #[.val (.ref a1), .val (.long q2), .second] [(.ref a1), (.ref a1)])) rfl rfl (hb hby d6_2)
  obtain ⟨T6, h6, X6, e6, W6, st6⟩ := putF X3 hx hZ hown (host := "") (Or.inl (hw _ (List.mem_of_getElem? (i := 28) rfl))) Via.refl e3 F_received_a1 E_a1 (Or.inl (hw _ (List.mem_of_getElem? (i := 29) rfl))) (hw _ (List.mem_of_getElem? (i := 6) rfl)) (ty := .long) (by decide) rfl rfl (g := (mkF m 7 #[.val (.ref a1), .val (.long q2), .second] [(.long ((0 : Int64) + q2)), (.ref a1)])) rfl rfl (hb hby d6_7)
  have K0_6 : Keep h0 h6 [a1] := (Keep.refl h0 [a1]).wr W6 (Or.inl (List.mem_of_getElem? (i := 0) rfl))
  have N6 := Fr.snoc X6 N0 g_a1
  have Z6 : n0 ≤ h6.size := Nat.le_trans Z0 (Keep.of_wr W6).1
  have Fw6 := F_received_a1.same W6
  obtain ⟨T7, X7, e7, st7⟩ := getF X6 hx hZ hown (host := "") (Or.inl (hw _ (List.mem_of_getElem? (i := 28) rfl))) Via.refl e6 Fw6 (g := (mkF m 11 #[.val (.ref a1), .val (.long q2), .second] [(.ref a1)])) rfl rfl (hb hby d6_11)
  have f8 := (F_maxBytes_a1.other W6 (Or.inr (slot_ne (Or.inr (hw _ (List.mem_of_getElem? (i := 22) rfl))) (Or.inl (hw _ (List.mem_of_getElem? (i := 29) rfl))) (by decide) (t := .long) (t' := .long) (by decide) (by decide))))
  obtain ⟨T9, X9, e9, st9⟩ := getF X7 hx hZ hown (host := "") (Or.inl (hw _ (List.mem_of_getElem? (i := 21) rfl))) Via.refl e7 f8 (g := (mkF m 15 #[.val (.ref a1), .val (.long q2), .second] [(.ref a1), (.long ((0 : Int64) + q2))])) rfl rfl (hb hby d6_15)
  have f11 := (E_a1.wr W6)
  have f12 := (F_announced_a1.other W6 (Or.inr (slot_ne (Or.inl (hw _ (List.mem_of_getElem? (i := 20) rfl))) (Or.inl (hw _ (List.mem_of_getElem? (i := 29) rfl))) (by decide) (t := (.object "java/util/OptionalLong")) (t' := .long) (by decide) (by decide))))
  obtain ⟨fs, hr, hrun, hended, hW, hsame⟩ := X9.leave (v := none) (fun _ => rfl)
  refine ⟨_, _, pre0 _ ?_, hrun, hended, _, _, rfl, ?_, ⟨_, rfl⟩, hW, hsame.mono (by decide) (by decide)⟩
  · show Steps p.tables e below (s₁.setTop (mkF m 0 #[.val (.ref a1), .val (.long q2), .second] [])) _
    refine XS.aloadN X0.here hx rfl (hb hby d6_0) rfl rfl ?_
    show Steps p.tables e below (s₁.setTop (mkF m 1 #[.val (.ref a1), .val (.long q2), .second] [(.ref a1)])) _
    refine XS.dup X0.here hx rfl (hb hby d6_1) rfl rfl ?_
    show Steps p.tables e below (s₁.setTop (mkF m 2 #[.val (.ref a1), .val (.long q2), .second] [(.ref a1), (.ref a1)])) _
    refine st3 _ ?_
    show Steps p.tables e below (T3.setTop (mkF m 5 #[.val (.ref a1), .val (.long q2), .second] [(.long (0 : Int64)), (.ref a1)])) _
    refine XS.lloadN X3.here hx rfl (hb hby d6_5) rfl ?_
    show Steps p.tables e below (T3.setTop (mkF m 6 #[.val (.ref a1), .val (.long q2), .second] [(.long q2), (.long (0 : Int64)), (.ref a1)])) _
    refine XS.ladd X3.here hx rfl (hb hby d6_6) rfl ?_
    show Steps p.tables e below (T3.setTop (mkF m 7 #[.val (.ref a1), .val (.long q2), .second] [(.long ((0 : Int64) + q2)), (.ref a1)])) _
    refine st6 _ ?_
    show Steps p.tables e below (T6.setTop (mkF m 10 #[.val (.ref a1), .val (.long q2), .second] [])) _
    refine XS.aloadN X6.here hx rfl (hb hby d6_10) rfl rfl ?_
    show Steps p.tables e below (T6.setTop (mkF m 11 #[.val (.ref a1), .val (.long q2), .second] [(.ref a1)])) _
    refine st7 _ ?_
    show Steps p.tables e below (T7.setTop (mkF m 14 #[.val (.ref a1), .val (.long q2), .second] [(.long ((0 : Int64) + q2))])) _
    refine XS.aloadN X7.here hx rfl (hb hby d6_14) rfl rfl ?_
    show Steps p.tables e below (T7.setTop (mkF m 15 #[.val (.ref a1), .val (.long q2), .second] [(.ref a1), (.long ((0 : Int64) + q2))])) _
    refine st9 _ ?_
    show Steps p.tables e below (T9.setTop (mkF m 18 #[.val (.ref a1), .val (.long q2), .second] [(.long w5), (.long ((0 : Int64) + q2))])) _
    refine XS.lcmp X9.here hx rfl (hb hby d6_18) rfl ?_
    show Steps p.tables e below (T9.setTop (mkF m 19 #[.val (.ref a1), .val (.long q2), .second] [(.int (lcmpW ((0 : Int64) + q2) w5))])) _
    refine XS.ifYes X9.here hx rfl (pc0 := 19) (pc' := 34) rfl (hb hby d6_19) rfl ((if0 _ _).trans (flt P10).2.2.2) (by decide) (by decide) ?_
    show Steps p.tables e below (T9.setTop (mkF m 34 #[.val (.ref a1), .val (.long q2), .second] [])) _
    exact X9.returnOut hx Bd.returns (hb hby d6_34) hr
  · show Q6_1 Z a1 q2 w4 w5 h0 n0 _ T9.heap _
    rw [e9]
    exact ⟨rfl, N6, K0_6, Fw6, f11, f12, f8⟩
def Q5_2 (Z : State) (a1 : Addr) (w2 : Int64) (h0 : Heap) (n0 : Nat) (v : Option Value) (h : Heap) (L : List Loc) : Prop := v = some (.long w2) ∧ Fr n0 L ∧ h = h0
set_option maxRecDepth 65536 in
set_option maxHeartbeats 40000000 in
theorem rm5_2 (l : Launch) (Z : State) (a0 : Array Value) (hw : ∀ d ∈ tables_1, d.before a0 Z = true) (ws : List Jvm.Cond) (a1 : Addr) (w2 : Int64) (h0 : Heap) (n0 : Nat) (Z0 : n0 ≤ h0.size) (F_received_a1 : Fld Z h0 a1 "com/example/lasting_names/lastingnames/BodyBound" "received" "J" (.long w2)) :
    MetFree l (⟨"com/example/lasting_names/lastingnames/BodyBound", "received", "()J"⟩ : MethodName) (head1 (Jvm.Cond.code (⟨"com/example/lasting_names/lastingnames/BodyBound", "received", "()J"⟩ : MethodName) prog_3_method_4_code 1 (some .long) :: ws) ({ frames := 0, cells := 0, slots := 0, locals := 0 } : Room)) (fun a U => a = #[(.ref a1)] ∧ Z.Warmed39 U.vm ∧ U.heap = h0) (fun _ _ _ _ _ => True) (fun _ U o U' => ∃ v L, o = .returned v ∧ Q5_2 Z a1 w2 h0 n0 v U'.heap L ∧ FrameEnd U o U' L ({ frames := 0, cells := 0, slots := 0, locals := 0 } : Room).cells ({ frames := 0, cells := 0, slots := 0, locals := 0 } : Room).slots) := by
  refine MetFree.of_bodySF (plainFor_of_name pn_5) hisR ?_
  intro p e s m args below meth c s₁ Bd hml0 hP hK
  obtain ⟨rfl, hZ, hh⟩ := hP
  have hx := Bd.exec
  have hby := Bd.bytes
  have hml : c.maxLocals = 1 := hml0
  have hown : s.vm.findClass "com/example/lasting_names/lastingnames/BodyBound" = some m.cls := findClass_of_methodNamed Bd.named
  have hnm := (name_of_methodNamed Bd.named Bd.method).1
  have X0 : Stand p l e ({ frames := 0, cells := 0, slots := 0, locals := 0 } : Room) s m #[(.ref a1)] below meth c s₁ [] 0 0 := Stand.of_body Bd
  have e0 : s₁.heap = h0 := by rw [← hh, Bd.state]; rfl
  have N0 := Fr.nil n0
  have pre0 : ∀ t, Steps p.tables e below (s₁.setTop (mkF m 0 #[.val (.ref a1)] [])) t → Steps p.tables e below (s₁.setTop (entryFrame m #[(.ref a1)] 1)) t := fun t k => castTop (ef_5_R m a1) k
  obtain ⟨T3, X3, e3, st3⟩ := getF X0 hx hZ hown (host := "") (Or.inl (hw _ (List.mem_of_getElem? (i := 28) rfl))) Via.refl e0 F_received_a1 (g := (mkF m 1 #[.val (.ref a1)] [(.ref a1)])) rfl rfl (hb hby d5_1)
  obtain ⟨fs, hr, hrun, hended, hW, hsame⟩ := X3.leave (v := some (.long w2)) (fun h => by rw [Bd.returns] at h; cases h)
  refine ⟨_, _, pre0 _ ?_, hrun, hended, _, _, rfl, ?_, ⟨_, rfl⟩, hW, hsame.mono (by decide) (by decide)⟩
  · show Steps p.tables e below (s₁.setTop (mkF m 0 #[.val (.ref a1)] [])) _
    refine XS.aloadN X0.here hx rfl (hb hby d5_0) rfl rfl ?_
    show Steps p.tables e below (s₁.setTop (mkF m 1 #[.val (.ref a1)] [(.ref a1)])) _
    refine st3 _ ?_
    show Steps p.tables e below (T3.setTop (mkF m 4 #[.val (.ref a1)] [(.long w2)])) _
    jvm_step X3.here [X3.here.top, hx, (hb hby d5_4), X3.method', Bd.returns, narrow]
    first | (intro acts; rw [hr _ acts rfl rfl rfl]) | rw [hr _ _ rfl rfl rfl]
    exact Steps.refl _
  · show Q5_2 Z a1 w2 h0 n0 _ T3.heap _
    rw [e3]
    exact ⟨rfl, N0, rfl⟩
def Q6_2 (Z : State) (a1 : Addr) (q2 : Int64) (w3 : Int64) (w5 : Addr) (w6 : Int64) (h0 : Heap) (n0 : Nat) (v : Option Value) (h : Heap) (L : List Loc) : Prop := v = none ∧ Fr n0 L ∧ Keep h0 h [a1] ∧ Fld Z h a1 "com/example/lasting_names/lastingnames/BodyBound" "received" "J" (.long (w3 + q2)) ∧ Exa Z h a1 "com/example/lasting_names/lastingnames/BodyBound" ∧ Fld Z h a1 "com/example/lasting_names/lastingnames/BodyBound" "announced" "Ljava/util/OptionalLong;" (.ref w5) ∧ Fld Z h a1 "com/example/lasting_names/lastingnames/BodyBound" "maxBytes" "J" (.long w6)
set_option maxRecDepth 65536 in
set_option maxHeartbeats 40000000 in
theorem rm6_2 (l : Launch) (Z : State) (a0 : Array Value) (hw : ∀ d ∈ tables_1, d.before a0 Z = true) (ws : List Jvm.Cond) (a1 : Addr) (q2 : Int64) (w3 : Int64) (w5 : Addr) (w6 : Int64) (h0 : Heap) (n0 : Nat) (Z0 : n0 ≤ h0.size) (F_received_a1 : Fld Z h0 a1 "com/example/lasting_names/lastingnames/BodyBound" "received" "J" (.long w3)) (E_a1 : Exa Z h0 a1 "com/example/lasting_names/lastingnames/BodyBound") (F_announced_a1 : Fld Z h0 a1 "com/example/lasting_names/lastingnames/BodyBound" "announced" "Ljava/util/OptionalLong;" (.ref w5)) (F_maxBytes_a1 : Fld Z h0 a1 "com/example/lasting_names/lastingnames/BodyBound" "maxBytes" "J" (.long w6)) (g_a1 : n0 ≤ a1) (P11 : ¬ ((0 : Int32) < (lcmpW (w3 + q2) w6))) :
    MetFree l (⟨"com/example/lasting_names/lastingnames/BodyBound", "count", "(J)V"⟩ : MethodName) (head1 (Jvm.Cond.code (⟨"com/example/lasting_names/lastingnames/BodyBound", "count", "(J)V"⟩ : MethodName) prog_3_method_3_code 3 none :: ws) ({ frames := 0, cells := 0, slots := 0, locals := 0 } : Room)) (fun a U => a = #[(.ref a1), (.long q2)] ∧ Z.Warmed39 U.vm ∧ U.heap = h0) (fun _ _ _ _ _ => True) (fun _ U o U' => ∃ v L, o = .returned v ∧ Q6_2 Z a1 q2 w3 w5 w6 h0 n0 v U'.heap L ∧ FrameEnd U o U' L ({ frames := 0, cells := 0, slots := 0, locals := 0 } : Room).cells ({ frames := 0, cells := 0, slots := 0, locals := 0 } : Room).slots) := by
  refine MetFree.of_bodySF (plainFor_of_name pn_6) hisR ?_
  intro p e s m args below meth c s₁ Bd hml0 hP hK
  obtain ⟨rfl, hZ, hh⟩ := hP
  have hx := Bd.exec
  have hby := Bd.bytes
  have hml : c.maxLocals = 3 := hml0
  have hown : s.vm.findClass "com/example/lasting_names/lastingnames/BodyBound" = some m.cls := findClass_of_methodNamed Bd.named
  have hnm := (name_of_methodNamed Bd.named Bd.method).1
  have X0 : Stand p l e ({ frames := 0, cells := 0, slots := 0, locals := 0 } : Room) s m #[(.ref a1), (.long q2)] below meth c s₁ [] 0 0 := Stand.of_body Bd
  have e0 : s₁.heap = h0 := by rw [← hh, Bd.state]; rfl
  have N0 := Fr.nil n0
  have pre0 : ∀ t, Steps p.tables e below (s₁.setTop (mkF m 0 #[.val (.ref a1), .val (.long q2), .second] [])) t → Steps p.tables e below (s₁.setTop (entryFrame m #[(.ref a1), (.long q2)] 3)) t := fun t k => castTop (ef_6_RJ m a1 q2) k
  obtain ⟨T4, X4, e4, st4⟩ := getF X0 hx hZ hown (host := "") (Or.inl (hw _ (List.mem_of_getElem? (i := 28) rfl))) Via.refl e0 F_received_a1 (g := (mkF m 2 #[.val (.ref a1), .val (.long q2), .second] [(.ref a1), (.ref a1)])) rfl rfl (hb hby d6_2)
  obtain ⟨T7, h7, X7, e7, W7, st7⟩ := putF X4 hx hZ hown (host := "") (Or.inl (hw _ (List.mem_of_getElem? (i := 28) rfl))) Via.refl e4 F_received_a1 E_a1 (Or.inl (hw _ (List.mem_of_getElem? (i := 29) rfl))) (hw _ (List.mem_of_getElem? (i := 6) rfl)) (ty := .long) (by decide) rfl rfl (g := (mkF m 7 #[.val (.ref a1), .val (.long q2), .second] [(.long (w3 + q2)), (.ref a1)])) rfl rfl (hb hby d6_7)
  have K0_7 : Keep h0 h7 [a1] := (Keep.refl h0 [a1]).wr W7 (Or.inl (List.mem_of_getElem? (i := 0) rfl))
  have N7 := Fr.snoc X7 N0 g_a1
  have Z7 : n0 ≤ h7.size := Nat.le_trans Z0 (Keep.of_wr W7).1
  have Fw7 := F_received_a1.same W7
  obtain ⟨T8, X8, e8, st8⟩ := getF X7 hx hZ hown (host := "") (Or.inl (hw _ (List.mem_of_getElem? (i := 28) rfl))) Via.refl e7 Fw7 (g := (mkF m 11 #[.val (.ref a1), .val (.long q2), .second] [(.ref a1)])) rfl rfl (hb hby d6_11)
  have f9 := (F_maxBytes_a1.other W7 (Or.inr (slot_ne (Or.inr (hw _ (List.mem_of_getElem? (i := 22) rfl))) (Or.inl (hw _ (List.mem_of_getElem? (i := 29) rfl))) (by decide) (t := .long) (t' := .long) (by decide) (by decide))))
  obtain ⟨T10, X10, e10, st10⟩ := getF X8 hx hZ hown (host := "") (Or.inl (hw _ (List.mem_of_getElem? (i := 21) rfl))) Via.refl e8 f9 (g := (mkF m 15 #[.val (.ref a1), .val (.long q2), .second] [(.ref a1), (.long (w3 + q2))])) rfl rfl (hb hby d6_15)
  have f12 := (E_a1.wr W7)
  have f13 := (F_announced_a1.other W7 (Or.inr (slot_ne (Or.inl (hw _ (List.mem_of_getElem? (i := 20) rfl))) (Or.inl (hw _ (List.mem_of_getElem? (i := 29) rfl))) (by decide) (t := (.object "java/util/OptionalLong")) (t' := .long) (by decide) (by decide))))
  obtain ⟨fs, hr, hrun, hended, hW, hsame⟩ := X10.leave (v := none) (fun _ => rfl)
  refine ⟨_, _, pre0 _ ?_, hrun, hended, _, _, rfl, ?_, ⟨_, rfl⟩, hW, hsame.mono (by decide) (by decide)⟩
  · show Steps p.tables e below (s₁.setTop (mkF m 0 #[.val (.ref a1), .val (.long q2), .second] [])) _
    refine XS.aloadN X0.here hx rfl (hb hby d6_0) rfl rfl ?_
    show Steps p.tables e below (s₁.setTop (mkF m 1 #[.val (.ref a1), .val (.long q2), .second] [(.ref a1)])) _
    refine XS.dup X0.here hx rfl (hb hby d6_1) rfl rfl ?_
    show Steps p.tables e below (s₁.setTop (mkF m 2 #[.val (.ref a1), .val (.long q2), .second] [(.ref a1), (.ref a1)])) _
    refine st4 _ ?_
    show Steps p.tables e below (T4.setTop (mkF m 5 #[.val (.ref a1), .val (.long q2), .second] [(.long w3), (.ref a1)])) _
    refine XS.lloadN X4.here hx rfl (hb hby d6_5) rfl ?_
    show Steps p.tables e below (T4.setTop (mkF m 6 #[.val (.ref a1), .val (.long q2), .second] [(.long q2), (.long w3), (.ref a1)])) _
    refine XS.ladd X4.here hx rfl (hb hby d6_6) rfl ?_
    show Steps p.tables e below (T4.setTop (mkF m 7 #[.val (.ref a1), .val (.long q2), .second] [(.long (w3 + q2)), (.ref a1)])) _
    refine st7 _ ?_
    show Steps p.tables e below (T7.setTop (mkF m 10 #[.val (.ref a1), .val (.long q2), .second] [])) _
    refine XS.aloadN X7.here hx rfl (hb hby d6_10) rfl rfl ?_
    show Steps p.tables e below (T7.setTop (mkF m 11 #[.val (.ref a1), .val (.long q2), .second] [(.ref a1)])) _
    refine st8 _ ?_
    show Steps p.tables e below (T8.setTop (mkF m 14 #[.val (.ref a1), .val (.long q2), .second] [(.long (w3 + q2))])) _
    refine XS.aloadN X8.here hx rfl (hb hby d6_14) rfl rfl ?_
    show Steps p.tables e below (T8.setTop (mkF m 15 #[.val (.ref a1), .val (.long q2), .second] [(.ref a1), (.long (w3 + q2))])) _
    refine st10 _ ?_
    show Steps p.tables e below (T10.setTop (mkF m 18 #[.val (.ref a1), .val (.long q2), .second] [(.long w6), (.long (w3 + q2))])) _
    refine XS.lcmp X10.here hx rfl (hb hby d6_18) rfl ?_
    show Steps p.tables e below (T10.setTop (mkF m 19 #[.val (.ref a1), .val (.long q2), .second] [(.int (lcmpW (w3 + q2) w6))])) _
    refine XS.ifYes X10.here hx rfl (pc0 := 19) (pc' := 34) rfl (hb hby d6_19) rfl ((if0 _ _).trans (flt P11).2.2.2) (by decide) (by decide) ?_
    show Steps p.tables e below (T10.setTop (mkF m 34 #[.val (.ref a1), .val (.long q2), .second] [])) _
    exact X10.returnOut hx Bd.returns (hb hby d6_34) hr
  · show Q6_2 Z a1 q2 w3 w5 w6 h0 n0 _ T10.heap _
    rw [e10]
    exact ⟨rfl, N7, K0_7, Fw7, f12, f13, f9⟩
theorem ef_0_JJJ (m : MethodId) (x0 : Int64) (x1 : Int64) (x2 : Int64) : entryFrame m #[(.long x0), (.long x1), (.long x2)] maxLocals = mkF m 0 #[.val (.long x0), .second, .val (.long x1), .second, .val (.long x2), .second, .unset, .unset, .unset, .unset, .unset, .unset, .unset] [] := by first | (simp [entryFrame, mkF, argsToLocals, Value.category, maxLocals]; done) | rfl
theorem pn_0 : plainName "com/example/lasting_names/lastingnames/BodyBoundCountPinLaw" = true := by first | (simp [plainName, overriddenIn]; done) | decide +kernel
set_option maxRecDepth 65536 in
set_option maxHeartbeats 40000000 in
theorem rm0_1 (l : Launch) (Z : State) (a0 : Array Value) (hw : ∀ d ∈ tables_1, d.before a0 Z = true) (ws : List Jvm.Cond) (q1 : Int64) (q2 : Int64) (q3 : Int64) (w9 : Addr) (h0 : Heap) (n0 : Nat) (Z0 : n0 ≤ h0.size) (P4 : ¬ ((0 : Int32) < (lcmpW (q2 &&& (9223372036854775807 : Int64)) (q1 &&& (9223372036854775807 : Int64))))) (P6 : ¬ ((0 : Int32) < (lcmpW (q3 &&& (9223372036854775807 : Int64)) ((q1 &&& (9223372036854775807 : Int64)) - (q2 &&& (9223372036854775807 : Int64)))))) (S_EMPTY : Sta Z h0 "java/util/OptionalLong" "EMPTY" "Ljava/util/OptionalLong;" (.ref w9)) (P13 : ¬ ((0 : Int32) < (lcmpW ((0 : Int64) + (q2 &&& (9223372036854775807 : Int64))) (q1 &&& (9223372036854775807 : Int64))))) (P16 : (lcmpW ((0 : Int64) + (q2 &&& (9223372036854775807 : Int64))) (q2 &&& (9223372036854775807 : Int64))) = (0 : Int32)) (P17 : ¬ ((0 : Int32) < (lcmpW (((0 : Int64) + (q2 &&& (9223372036854775807 : Int64))) + (q3 &&& (9223372036854775807 : Int64))) (q1 &&& (9223372036854775807 : Int64))))) (P20 : (lcmpW (((0 : Int64) + (q2 &&& (9223372036854775807 : Int64))) + (q3 &&& (9223372036854775807 : Int64))) ((q2 &&& (9223372036854775807 : Int64)) + (q3 &&& (9223372036854775807 : Int64)))) = (0 : Int32)) :
    MetFree l x (head1 (Jvm.Cond.code x code maxLocals ret :: ws) room_1) (fun a U => a = #[(.long q1), (.long q2), (.long q3)] ∧ Z.Warmed39 U.vm ∧ U.heap = h0) (fun _ _ _ _ _ => True) (fun _ U o U' => ∃ v L, o = .returned v ∧ own_QT n0 v L ∧ FrameEnd U o U' L room_1.cells room_1.slots) := by
  refine MetFree.of_bodySF (plainFor_of_name pn_0) hisR ?_
  intro p e s m args below meth c s₁ Bd hml0 hP hK
  obtain ⟨rfl, hZ, hh⟩ := hP
  have hx := Bd.exec
  have hby := Bd.bytes
  have hml : c.maxLocals = 13 := hml0
  have hown : s.vm.findClass "com/example/lasting_names/lastingnames/BodyBoundCountPinLaw" = some m.cls := findClass_of_methodNamed Bd.named
  have hnm := (name_of_methodNamed Bd.named Bd.method).1
  have X0 : Stand p l e room_1 s m #[(.long q1), (.long q2), (.long q3)] below meth c s₁ [] 0 0 := Stand.of_body Bd
  have e0 : s₁.heap = h0 := by rw [← hh, Bd.state]; rfl
  have N0 := Fr.nil n0
  have pre0 : ∀ t, Steps p.tables e below (s₁.setTop (mkF m 0 #[.val (.long q1), .second, .val (.long q2), .second, .val (.long q3), .second, .unset, .unset, .unset, .unset, .unset, .unset, .unset] [])) t → Steps p.tables e below (s₁.setTop (entryFrame m #[(.long q1), (.long q2), (.long q3)] maxLocals)) t := fun t k => castTop (ef_0_JJJ m q1 q2 q3) k
  obtain ⟨_, _, ⟨T5, L5, k5, n5⟩, -, X5, ⟨Lc5, hQ5, l5, y5, z5⟩, st5⟩ := Jvm.LawKit.callS X0 hx (y := (⟨"java/lang/Math", "min", "(JJ)J"⟩ : MethodName)) hown (mvT hZ (hw _ (List.mem_of_getElem? (i := 1) rfl))) (mvT hZ (hw _ (List.mem_of_getElem? (i := 2) rfl))) (mvT hZ (hw _ (List.mem_of_getElem? (i := 3) rfl))) (mvT hZ (hw _ (List.mem_of_getElem? (i := 4) rfl))) (by decide) (backOf (W := 0) (rm1_1 l Z a0 hw [] (q2 &&& (9223372036854775807 : Int64)) (q1 &&& (9223372036854775807 : Int64)) h0 n0 Z0 P4) hZ (hw _ (List.mem_of_getElem? (i := 4) rfl)) (hw _ (List.mem_of_getElem? (i := 3) rfl)) (by decide) (by decide)) (g := (mkF m 14 #[.val (.long q1), .second, .val (.long q2), .second, .val (.long q3), .second, .val (.long (q1 &&& (9223372036854775807 : Int64))), .second, .unset, .unset, .unset, .unset, .unset] [(.long (q1 &&& (9223372036854775807 : Int64))), (.long (q2 &&& (9223372036854775807 : Int64)))])) rfl (by rw [hml]; rfl) (argsL := [(.long (q2 &&& (9223372036854775807 : Int64))), (.long (q1 &&& (9223372036854775807 : Int64)))]) (rest := []) (lenOf pd_0 rfl) rfl (by show 2 * 0 + _ ≤ _; exact Nat.le_of_eq rfl) (hb hby at_14) (fun _ _ => ⟨rfl, e0, (by decide : 0 + 0 ≤ _), (by decide : 0 + 0 ≤ _)⟩)
  dsimp only [Pt.U, Pt.locs, Pt.cells, Pt.slots] at X5 l5 y5 z5 st5 hQ5
  subst l5 y5 z5
  obtain ⟨rfl, Nq5, e5⟩ := hQ5
  have N5 := Fr.app N0 Nq5
  obtain ⟨_, _, ⟨T7, L7, k7, n7⟩, -, X7, ⟨Lc7, hQ7, l7, y7, z7⟩, st7⟩ := Jvm.LawKit.callS X5 hx (y := (⟨"java/lang/Math", "min", "(JJ)J"⟩ : MethodName)) hown (mvT hZ (hw _ (List.mem_of_getElem? (i := 1) rfl))) (mvT hZ (hw _ (List.mem_of_getElem? (i := 2) rfl))) (mvT hZ (hw _ (List.mem_of_getElem? (i := 3) rfl))) (mvT hZ (hw _ (List.mem_of_getElem? (i := 4) rfl))) (by decide) (backOf (W := 0) (rm1_1 l Z a0 hw [] (q3 &&& (9223372036854775807 : Int64)) ((q1 &&& (9223372036854775807 : Int64)) - (q2 &&& (9223372036854775807 : Int64))) h0 n0 Z0 P6) hZ (hw _ (List.mem_of_getElem? (i := 4) rfl)) (hw _ (List.mem_of_getElem? (i := 3) rfl)) (by decide) (by decide)) (g := (mkF m 30 #[.val (.long q1), .second, .val (.long q2), .second, .val (.long q3), .second, .val (.long (q1 &&& (9223372036854775807 : Int64))), .second, .val (.long (q2 &&& (9223372036854775807 : Int64))), .second, .unset, .unset, .unset] [(.long ((q1 &&& (9223372036854775807 : Int64)) - (q2 &&& (9223372036854775807 : Int64)))), (.long (q3 &&& (9223372036854775807 : Int64)))])) rfl (by rw [hml]; rfl) (argsL := [(.long (q3 &&& (9223372036854775807 : Int64))), (.long ((q1 &&& (9223372036854775807 : Int64)) - (q2 &&& (9223372036854775807 : Int64))))]) (rest := []) (lenOf pd_0 rfl) rfl (by show 2 * 0 + _ ≤ _; exact Nat.le_of_eq rfl) (hb hby at_30) (fun _ _ => ⟨rfl, e5, (by decide : 0 + 0 ≤ _), (by decide : 0 + 0 ≤ _)⟩)
  dsimp only [Pt.U, Pt.locs, Pt.cells, Pt.slots] at X7 l7 y7 z7 st7 hQ7
  subst l7 y7 z7
  obtain ⟨rfl, Nq7, e7⟩ := hQ7
  have N7 := Fr.app N5 Nq7
  obtain ⟨T8, h8, X8, e8, E8, A8, D8, -, st8⟩ := newO X7 hx hZ hown (hw _ (List.mem_of_getElem? (i := 5) rfl)) (hw _ (List.mem_of_getElem? (i := 6) rfl)) (hw _ (List.mem_of_getElem? (i := 7) rfl)) e7 (g := (mkF m 35 #[.val (.long q1), .second, .val (.long q2), .second, .val (.long q3), .second, .val (.long (q1 &&& (9223372036854775807 : Int64))), .second, .val (.long (q2 &&& (9223372036854775807 : Int64))), .second, .val (.long (q3 &&& (9223372036854775807 : Int64))), .second, .unset] [])) rfl (hb hby at_35) (by decide) (by decide)
  obtain ⟨b8, g8⟩ : ∃ z, z = h0.size := ⟨_, rfl⟩
  rw [← g8] at A8 D8 st8
  have sz_b8 : h0.size ≤ b8 := Nat.le_trans (Keep.refl h0 []).1 (Nat.le_of_eq g8.symm)
  have g_b8 : n0 ≤ b8 := Nat.le_trans Z0 sz_b8
  have K0_8 : Keep h0 h8 [] := (Keep.refl h0 []).ext E8
  have Z8 : n0 ≤ h8.size := Nat.le_trans Z0 E8.1
  have F_announced_b8 : Fld Z h8 b8 "com/example/lasting_names/lastingnames/BodyBound" "announced" "Ljava/util/OptionalLong;" .null := D8 (Or.inl (hw _ (List.mem_of_getElem? (i := 20) rfl))) (ty := (.object "java/util/OptionalLong")) (by decide)
  have F_maxBytes_b8 : Fld Z h8 b8 "com/example/lasting_names/lastingnames/BodyBound" "maxBytes" "J" (.long (0 : Int64)) := D8 (Or.inr (hw _ (List.mem_of_getElem? (i := 22) rfl))) (ty := .long) (by decide)
  have F_received_b8 : Fld Z h8 b8 "com/example/lasting_names/lastingnames/BodyBound" "received" "J" (.long (0 : Int64)) := D8 (Or.inl (hw _ (List.mem_of_getElem? (i := 29) rfl))) (ty := .long) (by decide)
  have f10 := (S_EMPTY.ext E8)
  obtain ⟨_, _, ⟨T11, L11, k11, n11⟩, -, X11, ⟨Lc11, hQ11, l11, y11, z11⟩, st11⟩ := X8.specialBack hx (y := (⟨"com/example/lasting_names/lastingnames/BodyBound", "<init>", "(J)V"⟩ : MethodName)) rfl hown (mvT hZ (hw _ (List.mem_of_getElem? (i := 8) rfl))) (mvT hZ (hw _ (List.mem_of_getElem? (i := 9) rfl))) (mvT hZ (hw _ (List.mem_of_getElem? (i := 10) rfl))) (by decide) (backOf (W := 1) (rm2_1 l Z a0 hw [] b8 (q1 &&& (9223372036854775807 : Int64)) w9 h8 n0 Z8 f10 A8 F_announced_b8 F_maxBytes_b8 F_received_b8 g_b8) hZ (hw _ (List.mem_of_getElem? (i := 10) rfl)) (hw _ (List.mem_of_getElem? (i := 7) rfl)) (by decide) (by decide)) (g := (mkF m 41 #[.val (.long q1), .second, .val (.long q2), .second, .val (.long q3), .second, .val (.long (q1 &&& (9223372036854775807 : Int64))), .second, .val (.long (q2 &&& (9223372036854775807 : Int64))), .second, .val (.long (q3 &&& (9223372036854775807 : Int64))), .second, .unset] [(.long (q1 &&& (9223372036854775807 : Int64))), (.ref b8), (.ref b8)])) rfl (by rw [hml]; rfl) (Steps.refl _) (a := b8) (argsL := [(.long (q1 &&& (9223372036854775807 : Int64)))]) (rest := [(.ref b8)]) (lenOf pd_2 rfl) rfl (by show 2 * 0 + _ ≤ _; exact Nat.le_of_eq rfl) (hb hby at_41) (fun _ _ => ⟨rfl, e8, (by decide : 1 + 0 ≤ _), (by decide : 3 + 0 ≤ _)⟩)
  dsimp only [Pt.U, Pt.locs, Pt.cells, Pt.slots] at X11 l11 y11 z11 st11 hQ11
  subst l11 y11 z11
  obtain ⟨rfl, Nq11, K11, x11_0, x11_1, x11_2, x11_3⟩ := hQ11
  have N11 := Fr.app N7 Nq11
  have K0_11 : Keep h0 T11.heap [] := K0_8.trans K11 (allS (Or.inr sz_b8) all0)
  have Z11 : n0 ≤ T11.heap.size := Nat.le_trans Z8 K11.1
  obtain ⟨cq12, kq12, q12a, q12b, q12c⟩ := isOf hZ rfl x11_0
  obtain ⟨_, _, ⟨T12, L12, k12, n12⟩, -, X12, ⟨Lc12, hQ12, l12, y12, z12⟩, st12⟩ := X11.virtualBack hx (y := (⟨"com/example/lasting_names/lastingnames/BodyBound", "received", "()J"⟩ : MethodName)) (z := (⟨"com/example/lasting_names/lastingnames/BodyBound", "received", "()J"⟩ : MethodName)) hown (mvT hZ (hw _ (List.mem_of_getElem? (i := 23) rfl))) (mvT hZ (hw _ (List.mem_of_getElem? (i := 24) rfl))) (notFace_of_selects (args := #[]) (mvT hZ (hw _ (List.mem_of_getElem? (i := 26) rfl)))) (mvT hZ (hw _ (List.mem_of_getElem? (i := 26) rfl))) (mvT hZ (hw _ (List.mem_of_getElem? (i := 25) rfl))) (by decide) (backOf (W := 0) (rm5_1 l Z a0 hw [] b8 T11.heap n0 Z11 x11_3) hZ (hw _ (List.mem_of_getElem? (i := 27) rfl)) (hw _ (List.mem_of_getElem? (i := 7) rfl)) (by decide) (by decide)) q12a q12c (g := (mkF m 48 #[.val (.long q1), .second, .val (.long q2), .second, .val (.long q3), .second, .val (.long (q1 &&& (9223372036854775807 : Int64))), .second, .val (.long (q2 &&& (9223372036854775807 : Int64))), .second, .val (.long (q3 &&& (9223372036854775807 : Int64))), .second, .val (.ref b8)] [(.ref b8)])) rfl (by rw [hml]; rfl) (Steps.refl _) (argsL := []) (rest := []) (lenOf pd_3 rfl) rfl (by show 2 * 0 + _ ≤ _; exact Nat.le_of_eq rfl) (hb hby at_48) (fun _ _ => ⟨rfl, rfl, (by decide : 1 + 0 ≤ _), (by decide : 3 + 0 ≤ _)⟩)
  dsimp only [Pt.U, Pt.locs, Pt.cells, Pt.slots] at X12 l12 y12 z12 st12 hQ12
  subst l12 y12 z12
  obtain ⟨rfl, Nq12, e12⟩ := hQ12
  have N12 := Fr.app N11 Nq12
  obtain ⟨cq14, kq14, q14a, q14b, q14c⟩ := isOf hZ e12 x11_0
  obtain ⟨_, _, ⟨T14, L14, k14, n14⟩, -, X14, ⟨Lc14, hQ14, l14, y14, z14⟩, st14⟩ := X12.virtualBack hx (y := (⟨"com/example/lasting_names/lastingnames/BodyBound", "count", "(J)V"⟩ : MethodName)) (z := (⟨"com/example/lasting_names/lastingnames/BodyBound", "count", "(J)V"⟩ : MethodName)) hown (mvT hZ (hw _ (List.mem_of_getElem? (i := 30) rfl))) (mvT hZ (hw _ (List.mem_of_getElem? (i := 31) rfl))) (notFace_of_selects (args := #[]) (mvT hZ (hw _ (List.mem_of_getElem? (i := 33) rfl)))) (mvT hZ (hw _ (List.mem_of_getElem? (i := 33) rfl))) (mvT hZ (hw _ (List.mem_of_getElem? (i := 32) rfl))) (by decide) (backOf (W := 0) (rm6_1 l Z a0 hw [] b8 (q2 &&& (9223372036854775807 : Int64)) w9 (q1 &&& (9223372036854775807 : Int64)) T11.heap n0 Z11 x11_3 x11_0 x11_1 x11_2 g_b8 P13) hZ (hw _ (List.mem_of_getElem? (i := 34) rfl)) (hw _ (List.mem_of_getElem? (i := 7) rfl)) (by decide) (by decide)) q14a q14c (g := (mkF m 62 #[.val (.long q1), .second, .val (.long q2), .second, .val (.long q3), .second, .val (.long (q1 &&& (9223372036854775807 : Int64))), .second, .val (.long (q2 &&& (9223372036854775807 : Int64))), .second, .val (.long (q3 &&& (9223372036854775807 : Int64))), .second, .val (.ref b8)] [(.long (q2 &&& (9223372036854775807 : Int64))), (.ref b8)])) rfl (by rw [hml]; rfl) (Steps.refl _) (argsL := [(.long (q2 &&& (9223372036854775807 : Int64)))]) (rest := []) (lenOf pd_2 rfl) rfl (by show 2 * 0 + _ ≤ _; exact Nat.le_of_eq rfl) (hb hby at_62) (fun _ _ => ⟨rfl, e12, (by decide : 1 + 0 ≤ _), (by decide : 3 + 0 ≤ _)⟩)
  dsimp only [Pt.U, Pt.locs, Pt.cells, Pt.slots] at X14 l14 y14 z14 st14 hQ14
  subst l14 y14 z14
  obtain ⟨rfl, Nq14, K14, x14_0, x14_1, x14_2, x14_3⟩ := hQ14
  have N14 := Fr.app N12 Nq14
  have K0_14 : Keep h0 T14.heap [] := K0_11.trans K14 (allS (Or.inr sz_b8) all0)
  have Z14 : n0 ≤ T14.heap.size := Nat.le_trans Z11 K14.1
  obtain ⟨cq15, kq15, q15a, q15b, q15c⟩ := isOf hZ rfl x14_1
  obtain ⟨_, _, ⟨T15, L15, k15, n15⟩, -, X15, ⟨Lc15, hQ15, l15, y15, z15⟩, st15⟩ := X14.virtualBack hx (y := (⟨"com/example/lasting_names/lastingnames/BodyBound", "received", "()J"⟩ : MethodName)) (z := (⟨"com/example/lasting_names/lastingnames/BodyBound", "received", "()J"⟩ : MethodName)) hown (mvT hZ (hw _ (List.mem_of_getElem? (i := 23) rfl))) (mvT hZ (hw _ (List.mem_of_getElem? (i := 24) rfl))) (notFace_of_selects (args := #[]) (mvT hZ (hw _ (List.mem_of_getElem? (i := 26) rfl)))) (mvT hZ (hw _ (List.mem_of_getElem? (i := 26) rfl))) (mvT hZ (hw _ (List.mem_of_getElem? (i := 25) rfl))) (by decide) (backOf (W := 0) (rm5_2 l Z a0 hw [] b8 ((0 : Int64) + (q2 &&& (9223372036854775807 : Int64))) T14.heap n0 Z14 x14_0) hZ (hw _ (List.mem_of_getElem? (i := 27) rfl)) (hw _ (List.mem_of_getElem? (i := 7) rfl)) (by decide) (by decide)) q15a q15c (g := (mkF m 67 #[.val (.long q1), .second, .val (.long q2), .second, .val (.long q3), .second, .val (.long (q1 &&& (9223372036854775807 : Int64))), .second, .val (.long (q2 &&& (9223372036854775807 : Int64))), .second, .val (.long (q3 &&& (9223372036854775807 : Int64))), .second, .val (.ref b8)] [(.ref b8)])) rfl (by rw [hml]; rfl) (Steps.refl _) (argsL := []) (rest := []) (lenOf pd_3 rfl) rfl (by show 2 * 0 + _ ≤ _; exact Nat.le_of_eq rfl) (hb hby at_67) (fun _ _ => ⟨rfl, rfl, (by decide : 1 + 0 ≤ _), (by decide : 3 + 0 ≤ _)⟩)
  dsimp only [Pt.U, Pt.locs, Pt.cells, Pt.slots] at X15 l15 y15 z15 st15 hQ15
  subst l15 y15 z15
  obtain ⟨rfl, Nq15, e15⟩ := hQ15
  have N15 := Fr.app N14 Nq15
  obtain ⟨cq18, kq18, q18a, q18b, q18c⟩ := isOf hZ e15 x14_1
  obtain ⟨_, _, ⟨T18, L18, k18, n18⟩, -, X18, ⟨Lc18, hQ18, l18, y18, z18⟩, st18⟩ := X15.virtualBack hx (y := (⟨"com/example/lasting_names/lastingnames/BodyBound", "count", "(J)V"⟩ : MethodName)) (z := (⟨"com/example/lasting_names/lastingnames/BodyBound", "count", "(J)V"⟩ : MethodName)) hown (mvT hZ (hw _ (List.mem_of_getElem? (i := 30) rfl))) (mvT hZ (hw _ (List.mem_of_getElem? (i := 31) rfl))) (notFace_of_selects (args := #[]) (mvT hZ (hw _ (List.mem_of_getElem? (i := 33) rfl)))) (mvT hZ (hw _ (List.mem_of_getElem? (i := 33) rfl))) (mvT hZ (hw _ (List.mem_of_getElem? (i := 32) rfl))) (by decide) (backOf (W := 0) (rm6_2 l Z a0 hw [] b8 (q3 &&& (9223372036854775807 : Int64)) ((0 : Int64) + (q2 &&& (9223372036854775807 : Int64))) w9 (q1 &&& (9223372036854775807 : Int64)) T14.heap n0 Z14 x14_0 x14_1 x14_2 x14_3 g_b8 P17) hZ (hw _ (List.mem_of_getElem? (i := 34) rfl)) (hw _ (List.mem_of_getElem? (i := 7) rfl)) (by decide) (by decide)) q18a q18c (g := (mkF m 82 #[.val (.long q1), .second, .val (.long q2), .second, .val (.long q3), .second, .val (.long (q1 &&& (9223372036854775807 : Int64))), .second, .val (.long (q2 &&& (9223372036854775807 : Int64))), .second, .val (.long (q3 &&& (9223372036854775807 : Int64))), .second, .val (.ref b8)] [(.long (q3 &&& (9223372036854775807 : Int64))), (.ref b8)])) rfl (by rw [hml]; rfl) (Steps.refl _) (argsL := [(.long (q3 &&& (9223372036854775807 : Int64)))]) (rest := []) (lenOf pd_2 rfl) rfl (by show 2 * 0 + _ ≤ _; exact Nat.le_of_eq rfl) (hb hby at_82) (fun _ _ => ⟨rfl, e15, (by decide : 1 + 0 ≤ _), (by decide : 3 + 0 ≤ _)⟩)
  dsimp only [Pt.U, Pt.locs, Pt.cells, Pt.slots] at X18 l18 y18 z18 st18 hQ18
  subst l18 y18 z18
  obtain ⟨rfl, Nq18, K18, x18_0, x18_1, x18_2, x18_3⟩ := hQ18
  have N18 := Fr.app N15 Nq18
  have K0_18 : Keep h0 T18.heap [] := K0_14.trans K18 (allS (Or.inr sz_b8) all0)
  have Z18 : n0 ≤ T18.heap.size := Nat.le_trans Z14 K18.1
  obtain ⟨cq19, kq19, q19a, q19b, q19c⟩ := isOf hZ rfl x18_1
  obtain ⟨_, _, ⟨T19, L19, k19, n19⟩, -, X19, ⟨Lc19, hQ19, l19, y19, z19⟩, st19⟩ := X18.virtualBack hx (y := (⟨"com/example/lasting_names/lastingnames/BodyBound", "received", "()J"⟩ : MethodName)) (z := (⟨"com/example/lasting_names/lastingnames/BodyBound", "received", "()J"⟩ : MethodName)) hown (mvT hZ (hw _ (List.mem_of_getElem? (i := 23) rfl))) (mvT hZ (hw _ (List.mem_of_getElem? (i := 24) rfl))) (notFace_of_selects (args := #[]) (mvT hZ (hw _ (List.mem_of_getElem? (i := 26) rfl)))) (mvT hZ (hw _ (List.mem_of_getElem? (i := 26) rfl))) (mvT hZ (hw _ (List.mem_of_getElem? (i := 25) rfl))) (by decide) (backOf (W := 0) (rm5_2 l Z a0 hw [] b8 (((0 : Int64) + (q2 &&& (9223372036854775807 : Int64))) + (q3 &&& (9223372036854775807 : Int64))) T18.heap n0 Z18 x18_0) hZ (hw _ (List.mem_of_getElem? (i := 27) rfl)) (hw _ (List.mem_of_getElem? (i := 7) rfl)) (by decide) (by decide)) q19a q19c (g := (mkF m 87 #[.val (.long q1), .second, .val (.long q2), .second, .val (.long q3), .second, .val (.long (q1 &&& (9223372036854775807 : Int64))), .second, .val (.long (q2 &&& (9223372036854775807 : Int64))), .second, .val (.long (q3 &&& (9223372036854775807 : Int64))), .second, .val (.ref b8)] [(.ref b8)])) rfl (by rw [hml]; rfl) (Steps.refl _) (argsL := []) (rest := []) (lenOf pd_3 rfl) rfl (by show 2 * 0 + _ ≤ _; exact Nat.le_of_eq rfl) (hb hby at_87) (fun _ _ => ⟨rfl, rfl, (by decide : 1 + 0 ≤ _), (by decide : 3 + 0 ≤ _)⟩)
  dsimp only [Pt.U, Pt.locs, Pt.cells, Pt.slots] at X19 l19 y19 z19 st19 hQ19
  subst l19 y19 z19
  obtain ⟨rfl, Nq19, e19⟩ := hQ19
  have N19 := Fr.app N18 Nq19
  obtain ⟨fs, hr, hrun, hended, hW, hsame⟩ := X19.leave (v := some (.int (1 : Int32))) (fun h => by rw [Bd.returns] at h; cases h)
  refine ⟨_, _, pre0 _ ?_, hrun, hended, _, _, rfl, ?_, ⟨_, rfl⟩, hW, hsame.mono (by decide) (by decide)⟩
  · show Steps p.tables e below (s₁.setTop (mkF m 0 #[.val (.long q1), .second, .val (.long q2), .second, .val (.long q3), .second, .unset, .unset, .unset, .unset, .unset, .unset, .unset] [])) _
    refine XS.lloadN X0.here hx rfl (hb hby at_0) rfl ?_
    show Steps p.tables e below (s₁.setTop (mkF m 1 #[.val (.long q1), .second, .val (.long q2), .second, .val (.long q3), .second, .unset, .unset, .unset, .unset, .unset, .unset, .unset] [(.long q1)])) _
    refine X0.ldc2Long hx hown (mvT hZ (hw _ (List.mem_of_getElem? (i := 0) rfl))) (g := (mkF m 1 #[.val (.long q1), .second, .val (.long q2), .second, .val (.long q3), .second, .unset, .unset, .unset, .unset, .unset, .unset, .unset] [(.long q1)])) rfl (hb hby at_1) _ ?_
    show Steps p.tables e below (s₁.setTop (mkF m 4 #[.val (.long q1), .second, .val (.long q2), .second, .val (.long q3), .second, .unset, .unset, .unset, .unset, .unset, .unset, .unset] [(.long (9223372036854775807 : Int64)), (.long q1)])) _
    refine XS.land X0.here hx rfl (hb hby at_4) rfl ?_
    show Steps p.tables e below (s₁.setTop (mkF m 5 #[.val (.long q1), .second, .val (.long q2), .second, .val (.long q3), .second, .unset, .unset, .unset, .unset, .unset, .unset, .unset] [(.long (q1 &&& (9223372036854775807 : Int64)))])) _
    refine XS.lstore X0.here hx rfl (hb hby at_5) rfl (l' := #[.val (.long q1), .second, .val (.long q2), .second, .val (.long q3), .second, .val (.long (q1 &&& (9223372036854775807 : Int64))), .second, .unset, .unset, .unset, .unset, .unset]) rfl ?_
    show Steps p.tables e below (s₁.setTop (mkF m 7 #[.val (.long q1), .second, .val (.long q2), .second, .val (.long q3), .second, .val (.long (q1 &&& (9223372036854775807 : Int64))), .second, .unset, .unset, .unset, .unset, .unset] [])) _
    refine XS.lloadN X0.here hx rfl (hb hby at_7) rfl ?_
    show Steps p.tables e below (s₁.setTop (mkF m 8 #[.val (.long q1), .second, .val (.long q2), .second, .val (.long q3), .second, .val (.long (q1 &&& (9223372036854775807 : Int64))), .second, .unset, .unset, .unset, .unset, .unset] [(.long q2)])) _
    refine X0.ldc2Long hx hown (mvT hZ (hw _ (List.mem_of_getElem? (i := 0) rfl))) (g := (mkF m 8 #[.val (.long q1), .second, .val (.long q2), .second, .val (.long q3), .second, .val (.long (q1 &&& (9223372036854775807 : Int64))), .second, .unset, .unset, .unset, .unset, .unset] [(.long q2)])) rfl (hb hby at_8) _ ?_
    show Steps p.tables e below (s₁.setTop (mkF m 11 #[.val (.long q1), .second, .val (.long q2), .second, .val (.long q3), .second, .val (.long (q1 &&& (9223372036854775807 : Int64))), .second, .unset, .unset, .unset, .unset, .unset] [(.long (9223372036854775807 : Int64)), (.long q2)])) _
    refine XS.land X0.here hx rfl (hb hby at_11) rfl ?_
    show Steps p.tables e below (s₁.setTop (mkF m 12 #[.val (.long q1), .second, .val (.long q2), .second, .val (.long q3), .second, .val (.long (q1 &&& (9223372036854775807 : Int64))), .second, .unset, .unset, .unset, .unset, .unset] [(.long (q2 &&& (9223372036854775807 : Int64)))])) _
    refine XS.lload X0.here hx rfl (hb hby at_12) rfl ?_
    show Steps p.tables e below (s₁.setTop (mkF m 14 #[.val (.long q1), .second, .val (.long q2), .second, .val (.long q3), .second, .val (.long (q1 &&& (9223372036854775807 : Int64))), .second, .unset, .unset, .unset, .unset, .unset] [(.long (q1 &&& (9223372036854775807 : Int64))), (.long (q2 &&& (9223372036854775807 : Int64)))])) _
    refine st5 _ ?_
    show Steps p.tables e below (T5.setTop (mkF m 17 #[.val (.long q1), .second, .val (.long q2), .second, .val (.long q3), .second, .val (.long (q1 &&& (9223372036854775807 : Int64))), .second, .unset, .unset, .unset, .unset, .unset] [(.long (q2 &&& (9223372036854775807 : Int64)))])) _
    refine XS.lstore X5.here hx rfl (hb hby at_17) rfl (l' := #[.val (.long q1), .second, .val (.long q2), .second, .val (.long q3), .second, .val (.long (q1 &&& (9223372036854775807 : Int64))), .second, .val (.long (q2 &&& (9223372036854775807 : Int64))), .second, .unset, .unset, .unset]) rfl ?_
    show Steps p.tables e below (T5.setTop (mkF m 19 #[.val (.long q1), .second, .val (.long q2), .second, .val (.long q3), .second, .val (.long (q1 &&& (9223372036854775807 : Int64))), .second, .val (.long (q2 &&& (9223372036854775807 : Int64))), .second, .unset, .unset, .unset] [])) _
    refine XS.lload X5.here hx rfl (hb hby at_19) rfl ?_
    show Steps p.tables e below (T5.setTop (mkF m 21 #[.val (.long q1), .second, .val (.long q2), .second, .val (.long q3), .second, .val (.long (q1 &&& (9223372036854775807 : Int64))), .second, .val (.long (q2 &&& (9223372036854775807 : Int64))), .second, .unset, .unset, .unset] [(.long q3)])) _
    refine X5.ldc2Long hx hown (mvT hZ (hw _ (List.mem_of_getElem? (i := 0) rfl))) (g := (mkF m 21 #[.val (.long q1), .second, .val (.long q2), .second, .val (.long q3), .second, .val (.long (q1 &&& (9223372036854775807 : Int64))), .second, .val (.long (q2 &&& (9223372036854775807 : Int64))), .second, .unset, .unset, .unset] [(.long q3)])) rfl (hb hby at_21) _ ?_
    show Steps p.tables e below (T5.setTop (mkF m 24 #[.val (.long q1), .second, .val (.long q2), .second, .val (.long q3), .second, .val (.long (q1 &&& (9223372036854775807 : Int64))), .second, .val (.long (q2 &&& (9223372036854775807 : Int64))), .second, .unset, .unset, .unset] [(.long (9223372036854775807 : Int64)), (.long q3)])) _
    refine XS.land X5.here hx rfl (hb hby at_24) rfl ?_
    show Steps p.tables e below (T5.setTop (mkF m 25 #[.val (.long q1), .second, .val (.long q2), .second, .val (.long q3), .second, .val (.long (q1 &&& (9223372036854775807 : Int64))), .second, .val (.long (q2 &&& (9223372036854775807 : Int64))), .second, .unset, .unset, .unset] [(.long (q3 &&& (9223372036854775807 : Int64)))])) _
    refine XS.lload X5.here hx rfl (hb hby at_25) rfl ?_
    show Steps p.tables e below (T5.setTop (mkF m 27 #[.val (.long q1), .second, .val (.long q2), .second, .val (.long q3), .second, .val (.long (q1 &&& (9223372036854775807 : Int64))), .second, .val (.long (q2 &&& (9223372036854775807 : Int64))), .second, .unset, .unset, .unset] [(.long (q1 &&& (9223372036854775807 : Int64))), (.long (q3 &&& (9223372036854775807 : Int64)))])) _
    refine XS.lload X5.here hx rfl (hb hby at_27) rfl ?_
    show Steps p.tables e below (T5.setTop (mkF m 29 #[.val (.long q1), .second, .val (.long q2), .second, .val (.long q3), .second, .val (.long (q1 &&& (9223372036854775807 : Int64))), .second, .val (.long (q2 &&& (9223372036854775807 : Int64))), .second, .unset, .unset, .unset] [(.long (q2 &&& (9223372036854775807 : Int64))), (.long (q1 &&& (9223372036854775807 : Int64))), (.long (q3 &&& (9223372036854775807 : Int64)))])) _
    refine XS.lsub X5.here hx rfl (hb hby at_29) rfl ?_
    show Steps p.tables e below (T5.setTop (mkF m 30 #[.val (.long q1), .second, .val (.long q2), .second, .val (.long q3), .second, .val (.long (q1 &&& (9223372036854775807 : Int64))), .second, .val (.long (q2 &&& (9223372036854775807 : Int64))), .second, .unset, .unset, .unset] [(.long ((q1 &&& (9223372036854775807 : Int64)) - (q2 &&& (9223372036854775807 : Int64)))), (.long (q3 &&& (9223372036854775807 : Int64)))])) _
    refine st7 _ ?_
    show Steps p.tables e below (T7.setTop (mkF m 33 #[.val (.long q1), .second, .val (.long q2), .second, .val (.long q3), .second, .val (.long (q1 &&& (9223372036854775807 : Int64))), .second, .val (.long (q2 &&& (9223372036854775807 : Int64))), .second, .unset, .unset, .unset] [(.long (q3 &&& (9223372036854775807 : Int64)))])) _
    refine XS.lstore X7.here hx rfl (hb hby at_33) rfl (l' := #[.val (.long q1), .second, .val (.long q2), .second, .val (.long q3), .second, .val (.long (q1 &&& (9223372036854775807 : Int64))), .second, .val (.long (q2 &&& (9223372036854775807 : Int64))), .second, .val (.long (q3 &&& (9223372036854775807 : Int64))), .second, .unset]) rfl ?_
    show Steps p.tables e below (T7.setTop (mkF m 35 #[.val (.long q1), .second, .val (.long q2), .second, .val (.long q3), .second, .val (.long (q1 &&& (9223372036854775807 : Int64))), .second, .val (.long (q2 &&& (9223372036854775807 : Int64))), .second, .val (.long (q3 &&& (9223372036854775807 : Int64))), .second, .unset] [])) _
    refine st8 _ ?_
    show Steps p.tables e below (T8.setTop (mkF m 38 #[.val (.long q1), .second, .val (.long q2), .second, .val (.long q3), .second, .val (.long (q1 &&& (9223372036854775807 : Int64))), .second, .val (.long (q2 &&& (9223372036854775807 : Int64))), .second, .val (.long (q3 &&& (9223372036854775807 : Int64))), .second, .unset] [(.ref b8)])) _
    refine XS.dup X8.here hx rfl (hb hby at_38) rfl rfl ?_
    show Steps p.tables e below (T8.setTop (mkF m 39 #[.val (.long q1), .second, .val (.long q2), .second, .val (.long q3), .second, .val (.long (q1 &&& (9223372036854775807 : Int64))), .second, .val (.long (q2 &&& (9223372036854775807 : Int64))), .second, .val (.long (q3 &&& (9223372036854775807 : Int64))), .second, .unset] [(.ref b8), (.ref b8)])) _
    refine XS.lload X8.here hx rfl (hb hby at_39) rfl ?_
    show Steps p.tables e below (T8.setTop (mkF m 41 #[.val (.long q1), .second, .val (.long q2), .second, .val (.long q3), .second, .val (.long (q1 &&& (9223372036854775807 : Int64))), .second, .val (.long (q2 &&& (9223372036854775807 : Int64))), .second, .val (.long (q3 &&& (9223372036854775807 : Int64))), .second, .unset] [(.long (q1 &&& (9223372036854775807 : Int64))), (.ref b8), (.ref b8)])) _
    refine st11.trans ?_
    show Steps p.tables e below (T11.setTop (mkF m 44 #[.val (.long q1), .second, .val (.long q2), .second, .val (.long q3), .second, .val (.long (q1 &&& (9223372036854775807 : Int64))), .second, .val (.long (q2 &&& (9223372036854775807 : Int64))), .second, .val (.long (q3 &&& (9223372036854775807 : Int64))), .second, .unset] [(.ref b8)])) _
    refine XS.astore X11.here hx rfl (hb hby at_44) rfl rfl (l' := #[.val (.long q1), .second, .val (.long q2), .second, .val (.long q3), .second, .val (.long (q1 &&& (9223372036854775807 : Int64))), .second, .val (.long (q2 &&& (9223372036854775807 : Int64))), .second, .val (.long (q3 &&& (9223372036854775807 : Int64))), .second, .val (.ref b8)]) rfl ?_
    show Steps p.tables e below (T11.setTop (mkF m 46 #[.val (.long q1), .second, .val (.long q2), .second, .val (.long q3), .second, .val (.long (q1 &&& (9223372036854775807 : Int64))), .second, .val (.long (q2 &&& (9223372036854775807 : Int64))), .second, .val (.long (q3 &&& (9223372036854775807 : Int64))), .second, .val (.ref b8)] [])) _
    refine XS.aload X11.here hx rfl (hb hby at_46) rfl rfl ?_
    show Steps p.tables e below (T11.setTop (mkF m 48 #[.val (.long q1), .second, .val (.long q2), .second, .val (.long q3), .second, .val (.long (q1 &&& (9223372036854775807 : Int64))), .second, .val (.long (q2 &&& (9223372036854775807 : Int64))), .second, .val (.long (q3 &&& (9223372036854775807 : Int64))), .second, .val (.ref b8)] [(.ref b8)])) _
    refine st12.trans ?_
    show Steps p.tables e below (T12.setTop (mkF m 51 #[.val (.long q1), .second, .val (.long q2), .second, .val (.long q3), .second, .val (.long (q1 &&& (9223372036854775807 : Int64))), .second, .val (.long (q2 &&& (9223372036854775807 : Int64))), .second, .val (.long (q3 &&& (9223372036854775807 : Int64))), .second, .val (.ref b8)] [(.long (0 : Int64))])) _
    refine XS.lconst X12.here hx rfl (hb hby at_51) ?_
    show Steps p.tables e below (T12.setTop (mkF m 52 #[.val (.long q1), .second, .val (.long q2), .second, .val (.long q3), .second, .val (.long (q1 &&& (9223372036854775807 : Int64))), .second, .val (.long (q2 &&& (9223372036854775807 : Int64))), .second, .val (.long (q3 &&& (9223372036854775807 : Int64))), .second, .val (.ref b8)] [(.long (0 : Int64)), (.long (0 : Int64))])) _
    refine XS.lcmp X12.here hx rfl (hb hby at_52) rfl ?_
    show Steps p.tables e below (T12.setTop (mkF m 53 #[.val (.long q1), .second, .val (.long q2), .second, .val (.long q3), .second, .val (.long (q1 &&& (9223372036854775807 : Int64))), .second, .val (.long (q2 &&& (9223372036854775807 : Int64))), .second, .val (.long (q3 &&& (9223372036854775807 : Int64))), .second, .val (.ref b8)] [(.int (lcmpW (0 : Int64) (0 : Int64)))])) _
    refine XS.ifYes X12.here hx rfl (pc0 := 53) (pc' := 58) rfl (hb hby at_53) rfl ((if0 _ _).trans (teq (by decide : (lcmpW (0 : Int64) (0 : Int64)) = (0 : Int32))).1) (by decide) (by decide) ?_
    show Steps p.tables e below (T12.setTop (mkF m 58 #[.val (.long q1), .second, .val (.long q2), .second, .val (.long q3), .second, .val (.long (q1 &&& (9223372036854775807 : Int64))), .second, .val (.long (q2 &&& (9223372036854775807 : Int64))), .second, .val (.long (q3 &&& (9223372036854775807 : Int64))), .second, .val (.ref b8)] [])) _
    refine XS.aload X12.here hx rfl (hb hby at_58) rfl rfl ?_
    show Steps p.tables e below (T12.setTop (mkF m 60 #[.val (.long q1), .second, .val (.long q2), .second, .val (.long q3), .second, .val (.long (q1 &&& (9223372036854775807 : Int64))), .second, .val (.long (q2 &&& (9223372036854775807 : Int64))), .second, .val (.long (q3 &&& (9223372036854775807 : Int64))), .second, .val (.ref b8)] [(.ref b8)])) _
    refine XS.lload X12.here hx rfl (hb hby at_60) rfl ?_
    show Steps p.tables e below (T12.setTop (mkF m 62 #[.val (.long q1), .second, .val (.long q2), .second, .val (.long q3), .second, .val (.long (q1 &&& (9223372036854775807 : Int64))), .second, .val (.long (q2 &&& (9223372036854775807 : Int64))), .second, .val (.long (q3 &&& (9223372036854775807 : Int64))), .second, .val (.ref b8)] [(.long (q2 &&& (9223372036854775807 : Int64))), (.ref b8)])) _
    refine st14.trans ?_
    show Steps p.tables e below (T14.setTop (mkF m 65 #[.val (.long q1), .second, .val (.long q2), .second, .val (.long q3), .second, .val (.long (q1 &&& (9223372036854775807 : Int64))), .second, .val (.long (q2 &&& (9223372036854775807 : Int64))), .second, .val (.long (q3 &&& (9223372036854775807 : Int64))), .second, .val (.ref b8)] [])) _
    refine XS.aload X14.here hx rfl (hb hby at_65) rfl rfl ?_
    show Steps p.tables e below (T14.setTop (mkF m 67 #[.val (.long q1), .second, .val (.long q2), .second, .val (.long q3), .second, .val (.long (q1 &&& (9223372036854775807 : Int64))), .second, .val (.long (q2 &&& (9223372036854775807 : Int64))), .second, .val (.long (q3 &&& (9223372036854775807 : Int64))), .second, .val (.ref b8)] [(.ref b8)])) _
    refine st15.trans ?_
    show Steps p.tables e below (T15.setTop (mkF m 70 #[.val (.long q1), .second, .val (.long q2), .second, .val (.long q3), .second, .val (.long (q1 &&& (9223372036854775807 : Int64))), .second, .val (.long (q2 &&& (9223372036854775807 : Int64))), .second, .val (.long (q3 &&& (9223372036854775807 : Int64))), .second, .val (.ref b8)] [(.long ((0 : Int64) + (q2 &&& (9223372036854775807 : Int64))))])) _
    refine XS.lload X15.here hx rfl (hb hby at_70) rfl ?_
    show Steps p.tables e below (T15.setTop (mkF m 72 #[.val (.long q1), .second, .val (.long q2), .second, .val (.long q3), .second, .val (.long (q1 &&& (9223372036854775807 : Int64))), .second, .val (.long (q2 &&& (9223372036854775807 : Int64))), .second, .val (.long (q3 &&& (9223372036854775807 : Int64))), .second, .val (.ref b8)] [(.long (q2 &&& (9223372036854775807 : Int64))), (.long ((0 : Int64) + (q2 &&& (9223372036854775807 : Int64))))])) _
    refine XS.lcmp X15.here hx rfl (hb hby at_72) rfl ?_
    show Steps p.tables e below (T15.setTop (mkF m 73 #[.val (.long q1), .second, .val (.long q2), .second, .val (.long q3), .second, .val (.long (q1 &&& (9223372036854775807 : Int64))), .second, .val (.long (q2 &&& (9223372036854775807 : Int64))), .second, .val (.long (q3 &&& (9223372036854775807 : Int64))), .second, .val (.ref b8)] [(.int (lcmpW ((0 : Int64) + (q2 &&& (9223372036854775807 : Int64))) (q2 &&& (9223372036854775807 : Int64))))])) _
    refine XS.ifYes X15.here hx rfl (pc0 := 73) (pc' := 78) rfl (hb hby at_73) rfl ((if0 _ _).trans (teq P16).1) (by decide) (by decide) ?_
    show Steps p.tables e below (T15.setTop (mkF m 78 #[.val (.long q1), .second, .val (.long q2), .second, .val (.long q3), .second, .val (.long (q1 &&& (9223372036854775807 : Int64))), .second, .val (.long (q2 &&& (9223372036854775807 : Int64))), .second, .val (.long (q3 &&& (9223372036854775807 : Int64))), .second, .val (.ref b8)] [])) _
    refine XS.aload X15.here hx rfl (hb hby at_78) rfl rfl ?_
    show Steps p.tables e below (T15.setTop (mkF m 80 #[.val (.long q1), .second, .val (.long q2), .second, .val (.long q3), .second, .val (.long (q1 &&& (9223372036854775807 : Int64))), .second, .val (.long (q2 &&& (9223372036854775807 : Int64))), .second, .val (.long (q3 &&& (9223372036854775807 : Int64))), .second, .val (.ref b8)] [(.ref b8)])) _
    refine XS.lload X15.here hx rfl (hb hby at_80) rfl ?_
    show Steps p.tables e below (T15.setTop (mkF m 82 #[.val (.long q1), .second, .val (.long q2), .second, .val (.long q3), .second, .val (.long (q1 &&& (9223372036854775807 : Int64))), .second, .val (.long (q2 &&& (9223372036854775807 : Int64))), .second, .val (.long (q3 &&& (9223372036854775807 : Int64))), .second, .val (.ref b8)] [(.long (q3 &&& (9223372036854775807 : Int64))), (.ref b8)])) _
    refine st18.trans ?_
    show Steps p.tables e below (T18.setTop (mkF m 85 #[.val (.long q1), .second, .val (.long q2), .second, .val (.long q3), .second, .val (.long (q1 &&& (9223372036854775807 : Int64))), .second, .val (.long (q2 &&& (9223372036854775807 : Int64))), .second, .val (.long (q3 &&& (9223372036854775807 : Int64))), .second, .val (.ref b8)] [])) _
    refine XS.aload X18.here hx rfl (hb hby at_85) rfl rfl ?_
    show Steps p.tables e below (T18.setTop (mkF m 87 #[.val (.long q1), .second, .val (.long q2), .second, .val (.long q3), .second, .val (.long (q1 &&& (9223372036854775807 : Int64))), .second, .val (.long (q2 &&& (9223372036854775807 : Int64))), .second, .val (.long (q3 &&& (9223372036854775807 : Int64))), .second, .val (.ref b8)] [(.ref b8)])) _
    refine st19.trans ?_
    show Steps p.tables e below (T19.setTop (mkF m 90 #[.val (.long q1), .second, .val (.long q2), .second, .val (.long q3), .second, .val (.long (q1 &&& (9223372036854775807 : Int64))), .second, .val (.long (q2 &&& (9223372036854775807 : Int64))), .second, .val (.long (q3 &&& (9223372036854775807 : Int64))), .second, .val (.ref b8)] [(.long (((0 : Int64) + (q2 &&& (9223372036854775807 : Int64))) + (q3 &&& (9223372036854775807 : Int64))))])) _
    refine XS.lload X19.here hx rfl (hb hby at_90) rfl ?_
    show Steps p.tables e below (T19.setTop (mkF m 92 #[.val (.long q1), .second, .val (.long q2), .second, .val (.long q3), .second, .val (.long (q1 &&& (9223372036854775807 : Int64))), .second, .val (.long (q2 &&& (9223372036854775807 : Int64))), .second, .val (.long (q3 &&& (9223372036854775807 : Int64))), .second, .val (.ref b8)] [(.long (q2 &&& (9223372036854775807 : Int64))), (.long (((0 : Int64) + (q2 &&& (9223372036854775807 : Int64))) + (q3 &&& (9223372036854775807 : Int64))))])) _
    refine XS.lload X19.here hx rfl (hb hby at_92) rfl ?_
    show Steps p.tables e below (T19.setTop (mkF m 94 #[.val (.long q1), .second, .val (.long q2), .second, .val (.long q3), .second, .val (.long (q1 &&& (9223372036854775807 : Int64))), .second, .val (.long (q2 &&& (9223372036854775807 : Int64))), .second, .val (.long (q3 &&& (9223372036854775807 : Int64))), .second, .val (.ref b8)] [(.long (q3 &&& (9223372036854775807 : Int64))), (.long (q2 &&& (9223372036854775807 : Int64))), (.long (((0 : Int64) + (q2 &&& (9223372036854775807 : Int64))) + (q3 &&& (9223372036854775807 : Int64))))])) _
    refine XS.ladd X19.here hx rfl (hb hby at_94) rfl ?_
    show Steps p.tables e below (T19.setTop (mkF m 95 #[.val (.long q1), .second, .val (.long q2), .second, .val (.long q3), .second, .val (.long (q1 &&& (9223372036854775807 : Int64))), .second, .val (.long (q2 &&& (9223372036854775807 : Int64))), .second, .val (.long (q3 &&& (9223372036854775807 : Int64))), .second, .val (.ref b8)] [(.long ((q2 &&& (9223372036854775807 : Int64)) + (q3 &&& (9223372036854775807 : Int64)))), (.long (((0 : Int64) + (q2 &&& (9223372036854775807 : Int64))) + (q3 &&& (9223372036854775807 : Int64))))])) _
    refine XS.lcmp X19.here hx rfl (hb hby at_95) rfl ?_
    show Steps p.tables e below (T19.setTop (mkF m 96 #[.val (.long q1), .second, .val (.long q2), .second, .val (.long q3), .second, .val (.long (q1 &&& (9223372036854775807 : Int64))), .second, .val (.long (q2 &&& (9223372036854775807 : Int64))), .second, .val (.long (q3 &&& (9223372036854775807 : Int64))), .second, .val (.ref b8)] [(.int (lcmpW (((0 : Int64) + (q2 &&& (9223372036854775807 : Int64))) + (q3 &&& (9223372036854775807 : Int64))) ((q2 &&& (9223372036854775807 : Int64)) + (q3 &&& (9223372036854775807 : Int64)))))])) _
    refine XS.ifNo X19.here hx rfl (hb hby at_96) rfl ((if0 _ _).trans (teq P20).2) ?_
    show Steps p.tables e below (T19.setTop (mkF m 99 #[.val (.long q1), .second, .val (.long q2), .second, .val (.long q3), .second, .val (.long (q1 &&& (9223372036854775807 : Int64))), .second, .val (.long (q2 &&& (9223372036854775807 : Int64))), .second, .val (.long (q3 &&& (9223372036854775807 : Int64))), .second, .val (.ref b8)] [])) _
    refine XS.iconst X19.here hx rfl (hb hby at_99) ?_
    show Steps p.tables e below (T19.setTop (mkF m 100 #[.val (.long q1), .second, .val (.long q2), .second, .val (.long q3), .second, .val (.long (q1 &&& (9223372036854775807 : Int64))), .second, .val (.long (q2 &&& (9223372036854775807 : Int64))), .second, .val (.long (q3 &&& (9223372036854775807 : Int64))), .second, .val (.ref b8)] [(.int (1 : Int32))])) _
    refine XS.goto X19.here hx rfl (pc0 := 100) (pc' := 104) rfl (hb hby at_100) (by decide) (by decide) ?_
    show Steps p.tables e below (T19.setTop (mkF m 104 #[.val (.long q1), .second, .val (.long q2), .second, .val (.long q3), .second, .val (.long (q1 &&& (9223372036854775807 : Int64))), .second, .val (.long (q2 &&& (9223372036854775807 : Int64))), .second, .val (.long (q3 &&& (9223372036854775807 : Int64))), .second, .val (.ref b8)] [(.int (1 : Int32))])) _
    exact retN X19 hx (t := .boolean) Bd.returns (by simp) (hb hby at_104) hr
  · exact ⟨rfl, N19⟩
theorem d1_10 : decode jdk_29_method_70_code 10 = .ok (.lload_n 2, 1) := by decide +kernel
def Q1_2 (Z : State) (q1 : Int64) (q2 : Int64) (h0 : Heap) (n0 : Nat) (v : Option Value) (h : Heap) (L : List Loc) : Prop := v = some (.long q2) ∧ Fr n0 L ∧ h = h0
set_option maxRecDepth 65536 in
set_option maxHeartbeats 40000000 in
theorem rm1_2 (l : Launch) (Z : State) (a0 : Array Value) (hw : ∀ d ∈ tables_1, d.before a0 Z = true) (ws : List Jvm.Cond) (q1 : Int64) (q2 : Int64) (h0 : Heap) (n0 : Nat) (Z0 : n0 ≤ h0.size) (P3 : (0 : Int32) < (lcmpW q1 q2)) :
    MetFree l (⟨"java/lang/Math", "min", "(JJ)J"⟩ : MethodName) (head1 (Jvm.Cond.code (⟨"java/lang/Math", "min", "(JJ)J"⟩ : MethodName) jdk_29_method_70_code 4 (some .long) :: ws) ({ frames := 0, cells := 0, slots := 0, locals := 0 } : Room)) (fun a U => a = #[(.long q1), (.long q2)] ∧ Z.Warmed39 U.vm ∧ U.heap = h0) (fun _ _ _ _ _ => True) (fun _ U o U' => ∃ v L, o = .returned v ∧ Q1_2 Z q1 q2 h0 n0 v U'.heap L ∧ FrameEnd U o U' L ({ frames := 0, cells := 0, slots := 0, locals := 0 } : Room).cells ({ frames := 0, cells := 0, slots := 0, locals := 0 } : Room).slots) := by
  refine MetFree.of_bodySF (Jvm.Free.JP.mathPlain rfl (by decide +kernel)) hisR ?_
  intro p e s m args below meth c s₁ Bd hml0 hP hK
  obtain ⟨rfl, hZ, hh⟩ := hP
  have hx := Bd.exec
  have hby := Bd.bytes
  have hml : c.maxLocals = 4 := hml0
  have hown : s.vm.findClass "java/lang/Math" = some m.cls := findClass_of_methodNamed Bd.named
  have hnm := (name_of_methodNamed Bd.named Bd.method).1
  have X0 : Stand p l e ({ frames := 0, cells := 0, slots := 0, locals := 0 } : Room) s m #[(.long q1), (.long q2)] below meth c s₁ [] 0 0 := Stand.of_body Bd
  have e0 : s₁.heap = h0 := by rw [← hh, Bd.state]; rfl
  have N0 := Fr.nil n0
  have pre0 : ∀ t, Steps p.tables e below (s₁.setTop (mkF m 0 #[.val (.long q1), .second, .val (.long q2), .second] [])) t → Steps p.tables e below (s₁.setTop (entryFrame m #[(.long q1), (.long q2)] 4)) t := fun t k => castTop (ef_1_JJ m q1 q2) k
  obtain ⟨fs, hr, hrun, hended, hW, hsame⟩ := X0.leave (v := some (.long q2)) (fun h => by rw [Bd.returns] at h; cases h)
  refine ⟨_, _, pre0 _ ?_, hrun, hended, _, _, rfl, ?_, ⟨_, rfl⟩, hW, hsame.mono (by decide) (by decide)⟩
  · show Steps p.tables e below (s₁.setTop (mkF m 0 #[.val (.long q1), .second, .val (.long q2), .second] [])) _
    refine XS.lloadN X0.here hx rfl (hb hby d1_0) rfl ?_
    show Steps p.tables e below (s₁.setTop (mkF m 1 #[.val (.long q1), .second, .val (.long q2), .second] [(.long q1)])) _
    refine XS.lloadN X0.here hx rfl (hb hby d1_1) rfl ?_
    show Steps p.tables e below (s₁.setTop (mkF m 2 #[.val (.long q1), .second, .val (.long q2), .second] [(.long q2), (.long q1)])) _
    refine XS.lcmp X0.here hx rfl (hb hby d1_2) rfl ?_
    show Steps p.tables e below (s₁.setTop (mkF m 3 #[.val (.long q1), .second, .val (.long q2), .second] [(.int (lcmpW q1 q2))])) _
    refine XS.ifYes X0.here hx rfl (pc0 := 3) (pc' := 10) rfl (hb hby d1_3) rfl ((if0 _ _).trans (tlt P3).2.2.1) (by decide) (by decide) ?_
    show Steps p.tables e below (s₁.setTop (mkF m 10 #[.val (.long q1), .second, .val (.long q2), .second] [])) _
    refine XS.lloadN X0.here hx rfl (hb hby d1_10) rfl ?_
    show Steps p.tables e below (s₁.setTop (mkF m 11 #[.val (.long q1), .second, .val (.long q2), .second] [(.long q2)])) _
    jvm_step X0.here [X0.here.top, hx, (hb hby d1_11), X0.method', Bd.returns, narrow]
    first | (intro acts; rw [hr _ acts rfl rfl rfl]) | rw [hr _ _ rfl rfl rfl]
    exact Steps.refl _
  · show Q1_2 Z q1 q2 h0 n0 _ s₁.heap _
    rw [e0]
    exact ⟨rfl, N0, rfl⟩
set_option maxRecDepth 65536 in
set_option maxHeartbeats 40000000 in
theorem rm0_2 (l : Launch) (Z : State) (a0 : Array Value) (hw : ∀ d ∈ tables_1, d.before a0 Z = true) (ws : List Jvm.Cond) (q1 : Int64) (q2 : Int64) (q3 : Int64) (w9 : Addr) (h0 : Heap) (n0 : Nat) (Z0 : n0 ≤ h0.size) (P4 : ¬ ((0 : Int32) < (lcmpW (q2 &&& (9223372036854775807 : Int64)) (q1 &&& (9223372036854775807 : Int64))))) (P6 : (0 : Int32) < (lcmpW (q3 &&& (9223372036854775807 : Int64)) ((q1 &&& (9223372036854775807 : Int64)) - (q2 &&& (9223372036854775807 : Int64))))) (S_EMPTY : Sta Z h0 "java/util/OptionalLong" "EMPTY" "Ljava/util/OptionalLong;" (.ref w9)) (P13 : ¬ ((0 : Int32) < (lcmpW ((0 : Int64) + (q2 &&& (9223372036854775807 : Int64))) (q1 &&& (9223372036854775807 : Int64))))) (P16 : (lcmpW ((0 : Int64) + (q2 &&& (9223372036854775807 : Int64))) (q2 &&& (9223372036854775807 : Int64))) = (0 : Int32)) (P17 : ¬ ((0 : Int32) < (lcmpW (((0 : Int64) + (q2 &&& (9223372036854775807 : Int64))) + ((q1 &&& (9223372036854775807 : Int64)) - (q2 &&& (9223372036854775807 : Int64)))) (q1 &&& (9223372036854775807 : Int64))))) (P20 : (lcmpW (((0 : Int64) + (q2 &&& (9223372036854775807 : Int64))) + ((q1 &&& (9223372036854775807 : Int64)) - (q2 &&& (9223372036854775807 : Int64)))) ((q2 &&& (9223372036854775807 : Int64)) + ((q1 &&& (9223372036854775807 : Int64)) - (q2 &&& (9223372036854775807 : Int64))))) = (0 : Int32)) :
    MetFree l x (head1 (Jvm.Cond.code x code maxLocals ret :: ws) room_1) (fun a U => a = #[(.long q1), (.long q2), (.long q3)] ∧ Z.Warmed39 U.vm ∧ U.heap = h0) (fun _ _ _ _ _ => True) (fun _ U o U' => ∃ v L, o = .returned v ∧ own_QT n0 v L ∧ FrameEnd U o U' L room_1.cells room_1.slots) := by
  refine MetFree.of_bodySF (plainFor_of_name pn_0) hisR ?_
  intro p e s m args below meth c s₁ Bd hml0 hP hK
  obtain ⟨rfl, hZ, hh⟩ := hP
  have hx := Bd.exec
  have hby := Bd.bytes
  have hml : c.maxLocals = 13 := hml0
  have hown : s.vm.findClass "com/example/lasting_names/lastingnames/BodyBoundCountPinLaw" = some m.cls := findClass_of_methodNamed Bd.named
  have hnm := (name_of_methodNamed Bd.named Bd.method).1
  have X0 : Stand p l e room_1 s m #[(.long q1), (.long q2), (.long q3)] below meth c s₁ [] 0 0 := Stand.of_body Bd
  have e0 : s₁.heap = h0 := by rw [← hh, Bd.state]; rfl
  have N0 := Fr.nil n0
  have pre0 : ∀ t, Steps p.tables e below (s₁.setTop (mkF m 0 #[.val (.long q1), .second, .val (.long q2), .second, .val (.long q3), .second, .unset, .unset, .unset, .unset, .unset, .unset, .unset] [])) t → Steps p.tables e below (s₁.setTop (entryFrame m #[(.long q1), (.long q2), (.long q3)] maxLocals)) t := fun t k => castTop (ef_0_JJJ m q1 q2 q3) k
  obtain ⟨_, _, ⟨T5, L5, k5, n5⟩, -, X5, ⟨Lc5, hQ5, l5, y5, z5⟩, st5⟩ := Jvm.LawKit.callS X0 hx (y := (⟨"java/lang/Math", "min", "(JJ)J"⟩ : MethodName)) hown (mvT hZ (hw _ (List.mem_of_getElem? (i := 1) rfl))) (mvT hZ (hw _ (List.mem_of_getElem? (i := 2) rfl))) (mvT hZ (hw _ (List.mem_of_getElem? (i := 3) rfl))) (mvT hZ (hw _ (List.mem_of_getElem? (i := 4) rfl))) (by decide) (backOf (W := 0) (rm1_1 l Z a0 hw [] (q2 &&& (9223372036854775807 : Int64)) (q1 &&& (9223372036854775807 : Int64)) h0 n0 Z0 P4) hZ (hw _ (List.mem_of_getElem? (i := 4) rfl)) (hw _ (List.mem_of_getElem? (i := 3) rfl)) (by decide) (by decide)) (g := (mkF m 14 #[.val (.long q1), .second, .val (.long q2), .second, .val (.long q3), .second, .val (.long (q1 &&& (9223372036854775807 : Int64))), .second, .unset, .unset, .unset, .unset, .unset] [(.long (q1 &&& (9223372036854775807 : Int64))), (.long (q2 &&& (9223372036854775807 : Int64)))])) rfl (by rw [hml]; rfl) (argsL := [(.long (q2 &&& (9223372036854775807 : Int64))), (.long (q1 &&& (9223372036854775807 : Int64)))]) (rest := []) (lenOf pd_0 rfl) rfl (by show 2 * 0 + _ ≤ _; exact Nat.le_of_eq rfl) (hb hby at_14) (fun _ _ => ⟨rfl, e0, (by decide : 0 + 0 ≤ _), (by decide : 0 + 0 ≤ _)⟩)
  dsimp only [Pt.U, Pt.locs, Pt.cells, Pt.slots] at X5 l5 y5 z5 st5 hQ5
  subst l5 y5 z5
  obtain ⟨rfl, Nq5, e5⟩ := hQ5
  have N5 := Fr.app N0 Nq5
  obtain ⟨_, _, ⟨T7, L7, k7, n7⟩, -, X7, ⟨Lc7, hQ7, l7, y7, z7⟩, st7⟩ := Jvm.LawKit.callS X5 hx (y := (⟨"java/lang/Math", "min", "(JJ)J"⟩ : MethodName)) hown (mvT hZ (hw _ (List.mem_of_getElem? (i := 1) rfl))) (mvT hZ (hw _ (List.mem_of_getElem? (i := 2) rfl))) (mvT hZ (hw _ (List.mem_of_getElem? (i := 3) rfl))) (mvT hZ (hw _ (List.mem_of_getElem? (i := 4) rfl))) (by decide) (backOf (W := 0) (rm1_2 l Z a0 hw [] (q3 &&& (9223372036854775807 : Int64)) ((q1 &&& (9223372036854775807 : Int64)) - (q2 &&& (9223372036854775807 : Int64))) h0 n0 Z0 P6) hZ (hw _ (List.mem_of_getElem? (i := 4) rfl)) (hw _ (List.mem_of_getElem? (i := 3) rfl)) (by decide) (by decide)) (g := (mkF m 30 #[.val (.long q1), .second, .val (.long q2), .second, .val (.long q3), .second, .val (.long (q1 &&& (9223372036854775807 : Int64))), .second, .val (.long (q2 &&& (9223372036854775807 : Int64))), .second, .unset, .unset, .unset] [(.long ((q1 &&& (9223372036854775807 : Int64)) - (q2 &&& (9223372036854775807 : Int64)))), (.long (q3 &&& (9223372036854775807 : Int64)))])) rfl (by rw [hml]; rfl) (argsL := [(.long (q3 &&& (9223372036854775807 : Int64))), (.long ((q1 &&& (9223372036854775807 : Int64)) - (q2 &&& (9223372036854775807 : Int64))))]) (rest := []) (lenOf pd_0 rfl) rfl (by show 2 * 0 + _ ≤ _; exact Nat.le_of_eq rfl) (hb hby at_30) (fun _ _ => ⟨rfl, e5, (by decide : 0 + 0 ≤ _), (by decide : 0 + 0 ≤ _)⟩)
  dsimp only [Pt.U, Pt.locs, Pt.cells, Pt.slots] at X7 l7 y7 z7 st7 hQ7
  subst l7 y7 z7
  obtain ⟨rfl, Nq7, e7⟩ := hQ7
  have N7 := Fr.app N5 Nq7
  obtain ⟨T8, h8, X8, e8, E8, A8, D8, -, st8⟩ := newO X7 hx hZ hown (hw _ (List.mem_of_getElem? (i := 5) rfl)) (hw _ (List.mem_of_getElem? (i := 6) rfl)) (hw _ (List.mem_of_getElem? (i := 7) rfl)) e7 (g := (mkF m 35 #[.val (.long q1), .second, .val (.long q2), .second, .val (.long q3), .second, .val (.long (q1 &&& (9223372036854775807 : Int64))), .second, .val (.long (q2 &&& (9223372036854775807 : Int64))), .second, .val (.long ((q1 &&& (9223372036854775807 : Int64)) - (q2 &&& (9223372036854775807 : Int64)))), .second, .unset] [])) rfl (hb hby at_35) (by decide) (by decide)
  obtain ⟨b8, g8⟩ : ∃ z, z = h0.size := ⟨_, rfl⟩
  rw [← g8] at A8 D8 st8
  have sz_b8 : h0.size ≤ b8 := Nat.le_trans (Keep.refl h0 []).1 (Nat.le_of_eq g8.symm)
  have g_b8 : n0 ≤ b8 := Nat.le_trans Z0 sz_b8
  have K0_8 : Keep h0 h8 [] := (Keep.refl h0 []).ext E8
  have Z8 : n0 ≤ h8.size := Nat.le_trans Z0 E8.1
  have F_announced_b8 : Fld Z h8 b8 "com/example/lasting_names/lastingnames/BodyBound" "announced" "Ljava/util/OptionalLong;" .null := D8 (Or.inl (hw _ (List.mem_of_getElem? (i := 20) rfl))) (ty := (.object "java/util/OptionalLong")) (by decide)
  have F_maxBytes_b8 : Fld Z h8 b8 "com/example/lasting_names/lastingnames/BodyBound" "maxBytes" "J" (.long (0 : Int64)) := D8 (Or.inr (hw _ (List.mem_of_getElem? (i := 22) rfl))) (ty := .long) (by decide)
  have F_received_b8 : Fld Z h8 b8 "com/example/lasting_names/lastingnames/BodyBound" "received" "J" (.long (0 : Int64)) := D8 (Or.inl (hw _ (List.mem_of_getElem? (i := 29) rfl))) (ty := .long) (by decide)
  have f10 := (S_EMPTY.ext E8)
  obtain ⟨_, _, ⟨T11, L11, k11, n11⟩, -, X11, ⟨Lc11, hQ11, l11, y11, z11⟩, st11⟩ := X8.specialBack hx (y := (⟨"com/example/lasting_names/lastingnames/BodyBound", "<init>", "(J)V"⟩ : MethodName)) rfl hown (mvT hZ (hw _ (List.mem_of_getElem? (i := 8) rfl))) (mvT hZ (hw _ (List.mem_of_getElem? (i := 9) rfl))) (mvT hZ (hw _ (List.mem_of_getElem? (i := 10) rfl))) (by decide) (backOf (W := 1) (rm2_1 l Z a0 hw [] b8 (q1 &&& (9223372036854775807 : Int64)) w9 h8 n0 Z8 f10 A8 F_announced_b8 F_maxBytes_b8 F_received_b8 g_b8) hZ (hw _ (List.mem_of_getElem? (i := 10) rfl)) (hw _ (List.mem_of_getElem? (i := 7) rfl)) (by decide) (by decide)) (g := (mkF m 41 #[.val (.long q1), .second, .val (.long q2), .second, .val (.long q3), .second, .val (.long (q1 &&& (9223372036854775807 : Int64))), .second, .val (.long (q2 &&& (9223372036854775807 : Int64))), .second, .val (.long ((q1 &&& (9223372036854775807 : Int64)) - (q2 &&& (9223372036854775807 : Int64)))), .second, .unset] [(.long (q1 &&& (9223372036854775807 : Int64))), (.ref b8), (.ref b8)])) rfl (by rw [hml]; rfl) (Steps.refl _) (a := b8) (argsL := [(.long (q1 &&& (9223372036854775807 : Int64)))]) (rest := [(.ref b8)]) (lenOf pd_2 rfl) rfl (by show 2 * 0 + _ ≤ _; exact Nat.le_of_eq rfl) (hb hby at_41) (fun _ _ => ⟨rfl, e8, (by decide : 1 + 0 ≤ _), (by decide : 3 + 0 ≤ _)⟩)
  dsimp only [Pt.U, Pt.locs, Pt.cells, Pt.slots] at X11 l11 y11 z11 st11 hQ11
  subst l11 y11 z11
  obtain ⟨rfl, Nq11, K11, x11_0, x11_1, x11_2, x11_3⟩ := hQ11
  have N11 := Fr.app N7 Nq11
  have K0_11 : Keep h0 T11.heap [] := K0_8.trans K11 (allS (Or.inr sz_b8) all0)
  have Z11 : n0 ≤ T11.heap.size := Nat.le_trans Z8 K11.1
  obtain ⟨cq12, kq12, q12a, q12b, q12c⟩ := isOf hZ rfl x11_0
  obtain ⟨_, _, ⟨T12, L12, k12, n12⟩, -, X12, ⟨Lc12, hQ12, l12, y12, z12⟩, st12⟩ := X11.virtualBack hx (y := (⟨"com/example/lasting_names/lastingnames/BodyBound", "received", "()J"⟩ : MethodName)) (z := (⟨"com/example/lasting_names/lastingnames/BodyBound", "received", "()J"⟩ : MethodName)) hown (mvT hZ (hw _ (List.mem_of_getElem? (i := 23) rfl))) (mvT hZ (hw _ (List.mem_of_getElem? (i := 24) rfl))) (notFace_of_selects (args := #[]) (mvT hZ (hw _ (List.mem_of_getElem? (i := 26) rfl)))) (mvT hZ (hw _ (List.mem_of_getElem? (i := 26) rfl))) (mvT hZ (hw _ (List.mem_of_getElem? (i := 25) rfl))) (by decide) (backOf (W := 0) (rm5_1 l Z a0 hw [] b8 T11.heap n0 Z11 x11_3) hZ (hw _ (List.mem_of_getElem? (i := 27) rfl)) (hw _ (List.mem_of_getElem? (i := 7) rfl)) (by decide) (by decide)) q12a q12c (g := (mkF m 48 #[.val (.long q1), .second, .val (.long q2), .second, .val (.long q3), .second, .val (.long (q1 &&& (9223372036854775807 : Int64))), .second, .val (.long (q2 &&& (9223372036854775807 : Int64))), .second, .val (.long ((q1 &&& (9223372036854775807 : Int64)) - (q2 &&& (9223372036854775807 : Int64)))), .second, .val (.ref b8)] [(.ref b8)])) rfl (by rw [hml]; rfl) (Steps.refl _) (argsL := []) (rest := []) (lenOf pd_3 rfl) rfl (by show 2 * 0 + _ ≤ _; exact Nat.le_of_eq rfl) (hb hby at_48) (fun _ _ => ⟨rfl, rfl, (by decide : 1 + 0 ≤ _), (by decide : 3 + 0 ≤ _)⟩)
  dsimp only [Pt.U, Pt.locs, Pt.cells, Pt.slots] at X12 l12 y12 z12 st12 hQ12
  subst l12 y12 z12
  obtain ⟨rfl, Nq12, e12⟩ := hQ12
  have N12 := Fr.app N11 Nq12
  obtain ⟨cq14, kq14, q14a, q14b, q14c⟩ := isOf hZ e12 x11_0
  obtain ⟨_, _, ⟨T14, L14, k14, n14⟩, -, X14, ⟨Lc14, hQ14, l14, y14, z14⟩, st14⟩ := X12.virtualBack hx (y := (⟨"com/example/lasting_names/lastingnames/BodyBound", "count", "(J)V"⟩ : MethodName)) (z := (⟨"com/example/lasting_names/lastingnames/BodyBound", "count", "(J)V"⟩ : MethodName)) hown (mvT hZ (hw _ (List.mem_of_getElem? (i := 30) rfl))) (mvT hZ (hw _ (List.mem_of_getElem? (i := 31) rfl))) (notFace_of_selects (args := #[]) (mvT hZ (hw _ (List.mem_of_getElem? (i := 33) rfl)))) (mvT hZ (hw _ (List.mem_of_getElem? (i := 33) rfl))) (mvT hZ (hw _ (List.mem_of_getElem? (i := 32) rfl))) (by decide) (backOf (W := 0) (rm6_1 l Z a0 hw [] b8 (q2 &&& (9223372036854775807 : Int64)) w9 (q1 &&& (9223372036854775807 : Int64)) T11.heap n0 Z11 x11_3 x11_0 x11_1 x11_2 g_b8 P13) hZ (hw _ (List.mem_of_getElem? (i := 34) rfl)) (hw _ (List.mem_of_getElem? (i := 7) rfl)) (by decide) (by decide)) q14a q14c (g := (mkF m 62 #[.val (.long q1), .second, .val (.long q2), .second, .val (.long q3), .second, .val (.long (q1 &&& (9223372036854775807 : Int64))), .second, .val (.long (q2 &&& (9223372036854775807 : Int64))), .second, .val (.long ((q1 &&& (9223372036854775807 : Int64)) - (q2 &&& (9223372036854775807 : Int64)))), .second, .val (.ref b8)] [(.long (q2 &&& (9223372036854775807 : Int64))), (.ref b8)])) rfl (by rw [hml]; rfl) (Steps.refl _) (argsL := [(.long (q2 &&& (9223372036854775807 : Int64)))]) (rest := []) (lenOf pd_2 rfl) rfl (by show 2 * 0 + _ ≤ _; exact Nat.le_of_eq rfl) (hb hby at_62) (fun _ _ => ⟨rfl, e12, (by decide : 1 + 0 ≤ _), (by decide : 3 + 0 ≤ _)⟩)
  dsimp only [Pt.U, Pt.locs, Pt.cells, Pt.slots] at X14 l14 y14 z14 st14 hQ14
  subst l14 y14 z14
  obtain ⟨rfl, Nq14, K14, x14_0, x14_1, x14_2, x14_3⟩ := hQ14
  have N14 := Fr.app N12 Nq14
  have K0_14 : Keep h0 T14.heap [] := K0_11.trans K14 (allS (Or.inr sz_b8) all0)
  have Z14 : n0 ≤ T14.heap.size := Nat.le_trans Z11 K14.1
  obtain ⟨cq15, kq15, q15a, q15b, q15c⟩ := isOf hZ rfl x14_1
  obtain ⟨_, _, ⟨T15, L15, k15, n15⟩, -, X15, ⟨Lc15, hQ15, l15, y15, z15⟩, st15⟩ := X14.virtualBack hx (y := (⟨"com/example/lasting_names/lastingnames/BodyBound", "received", "()J"⟩ : MethodName)) (z := (⟨"com/example/lasting_names/lastingnames/BodyBound", "received", "()J"⟩ : MethodName)) hown (mvT hZ (hw _ (List.mem_of_getElem? (i := 23) rfl))) (mvT hZ (hw _ (List.mem_of_getElem? (i := 24) rfl))) (notFace_of_selects (args := #[]) (mvT hZ (hw _ (List.mem_of_getElem? (i := 26) rfl)))) (mvT hZ (hw _ (List.mem_of_getElem? (i := 26) rfl))) (mvT hZ (hw _ (List.mem_of_getElem? (i := 25) rfl))) (by decide) (backOf (W := 0) (rm5_2 l Z a0 hw [] b8 ((0 : Int64) + (q2 &&& (9223372036854775807 : Int64))) T14.heap n0 Z14 x14_0) hZ (hw _ (List.mem_of_getElem? (i := 27) rfl)) (hw _ (List.mem_of_getElem? (i := 7) rfl)) (by decide) (by decide)) q15a q15c (g := (mkF m 67 #[.val (.long q1), .second, .val (.long q2), .second, .val (.long q3), .second, .val (.long (q1 &&& (9223372036854775807 : Int64))), .second, .val (.long (q2 &&& (9223372036854775807 : Int64))), .second, .val (.long ((q1 &&& (9223372036854775807 : Int64)) - (q2 &&& (9223372036854775807 : Int64)))), .second, .val (.ref b8)] [(.ref b8)])) rfl (by rw [hml]; rfl) (Steps.refl _) (argsL := []) (rest := []) (lenOf pd_3 rfl) rfl (by show 2 * 0 + _ ≤ _; exact Nat.le_of_eq rfl) (hb hby at_67) (fun _ _ => ⟨rfl, rfl, (by decide : 1 + 0 ≤ _), (by decide : 3 + 0 ≤ _)⟩)
  dsimp only [Pt.U, Pt.locs, Pt.cells, Pt.slots] at X15 l15 y15 z15 st15 hQ15
  subst l15 y15 z15
  obtain ⟨rfl, Nq15, e15⟩ := hQ15
  have N15 := Fr.app N14 Nq15
  obtain ⟨cq18, kq18, q18a, q18b, q18c⟩ := isOf hZ e15 x14_1
  obtain ⟨_, _, ⟨T18, L18, k18, n18⟩, -, X18, ⟨Lc18, hQ18, l18, y18, z18⟩, st18⟩ := X15.virtualBack hx (y := (⟨"com/example/lasting_names/lastingnames/BodyBound", "count", "(J)V"⟩ : MethodName)) (z := (⟨"com/example/lasting_names/lastingnames/BodyBound", "count", "(J)V"⟩ : MethodName)) hown (mvT hZ (hw _ (List.mem_of_getElem? (i := 30) rfl))) (mvT hZ (hw _ (List.mem_of_getElem? (i := 31) rfl))) (notFace_of_selects (args := #[]) (mvT hZ (hw _ (List.mem_of_getElem? (i := 33) rfl)))) (mvT hZ (hw _ (List.mem_of_getElem? (i := 33) rfl))) (mvT hZ (hw _ (List.mem_of_getElem? (i := 32) rfl))) (by decide) (backOf (W := 0) (rm6_2 l Z a0 hw [] b8 ((q1 &&& (9223372036854775807 : Int64)) - (q2 &&& (9223372036854775807 : Int64))) ((0 : Int64) + (q2 &&& (9223372036854775807 : Int64))) w9 (q1 &&& (9223372036854775807 : Int64)) T14.heap n0 Z14 x14_0 x14_1 x14_2 x14_3 g_b8 P17) hZ (hw _ (List.mem_of_getElem? (i := 34) rfl)) (hw _ (List.mem_of_getElem? (i := 7) rfl)) (by decide) (by decide)) q18a q18c (g := (mkF m 82 #[.val (.long q1), .second, .val (.long q2), .second, .val (.long q3), .second, .val (.long (q1 &&& (9223372036854775807 : Int64))), .second, .val (.long (q2 &&& (9223372036854775807 : Int64))), .second, .val (.long ((q1 &&& (9223372036854775807 : Int64)) - (q2 &&& (9223372036854775807 : Int64)))), .second, .val (.ref b8)] [(.long ((q1 &&& (9223372036854775807 : Int64)) - (q2 &&& (9223372036854775807 : Int64)))), (.ref b8)])) rfl (by rw [hml]; rfl) (Steps.refl _) (argsL := [(.long ((q1 &&& (9223372036854775807 : Int64)) - (q2 &&& (9223372036854775807 : Int64))))]) (rest := []) (lenOf pd_2 rfl) rfl (by show 2 * 0 + _ ≤ _; exact Nat.le_of_eq rfl) (hb hby at_82) (fun _ _ => ⟨rfl, e15, (by decide : 1 + 0 ≤ _), (by decide : 3 + 0 ≤ _)⟩)
  dsimp only [Pt.U, Pt.locs, Pt.cells, Pt.slots] at X18 l18 y18 z18 st18 hQ18
  subst l18 y18 z18
  obtain ⟨rfl, Nq18, K18, x18_0, x18_1, x18_2, x18_3⟩ := hQ18
  have N18 := Fr.app N15 Nq18
  have K0_18 : Keep h0 T18.heap [] := K0_14.trans K18 (allS (Or.inr sz_b8) all0)
  have Z18 : n0 ≤ T18.heap.size := Nat.le_trans Z14 K18.1
  obtain ⟨cq19, kq19, q19a, q19b, q19c⟩ := isOf hZ rfl x18_1
  obtain ⟨_, _, ⟨T19, L19, k19, n19⟩, -, X19, ⟨Lc19, hQ19, l19, y19, z19⟩, st19⟩ := X18.virtualBack hx (y := (⟨"com/example/lasting_names/lastingnames/BodyBound", "received", "()J"⟩ : MethodName)) (z := (⟨"com/example/lasting_names/lastingnames/BodyBound", "received", "()J"⟩ : MethodName)) hown (mvT hZ (hw _ (List.mem_of_getElem? (i := 23) rfl))) (mvT hZ (hw _ (List.mem_of_getElem? (i := 24) rfl))) (notFace_of_selects (args := #[]) (mvT hZ (hw _ (List.mem_of_getElem? (i := 26) rfl)))) (mvT hZ (hw _ (List.mem_of_getElem? (i := 26) rfl))) (mvT hZ (hw _ (List.mem_of_getElem? (i := 25) rfl))) (by decide) (backOf (W := 0) (rm5_2 l Z a0 hw [] b8 (((0 : Int64) + (q2 &&& (9223372036854775807 : Int64))) + ((q1 &&& (9223372036854775807 : Int64)) - (q2 &&& (9223372036854775807 : Int64)))) T18.heap n0 Z18 x18_0) hZ (hw _ (List.mem_of_getElem? (i := 27) rfl)) (hw _ (List.mem_of_getElem? (i := 7) rfl)) (by decide) (by decide)) q19a q19c (g := (mkF m 87 #[.val (.long q1), .second, .val (.long q2), .second, .val (.long q3), .second, .val (.long (q1 &&& (9223372036854775807 : Int64))), .second, .val (.long (q2 &&& (9223372036854775807 : Int64))), .second, .val (.long ((q1 &&& (9223372036854775807 : Int64)) - (q2 &&& (9223372036854775807 : Int64)))), .second, .val (.ref b8)] [(.ref b8)])) rfl (by rw [hml]; rfl) (Steps.refl _) (argsL := []) (rest := []) (lenOf pd_3 rfl) rfl (by show 2 * 0 + _ ≤ _; exact Nat.le_of_eq rfl) (hb hby at_87) (fun _ _ => ⟨rfl, rfl, (by decide : 1 + 0 ≤ _), (by decide : 3 + 0 ≤ _)⟩)
  dsimp only [Pt.U, Pt.locs, Pt.cells, Pt.slots] at X19 l19 y19 z19 st19 hQ19
  subst l19 y19 z19
  obtain ⟨rfl, Nq19, e19⟩ := hQ19
  have N19 := Fr.app N18 Nq19
  obtain ⟨fs, hr, hrun, hended, hW, hsame⟩ := X19.leave (v := some (.int (1 : Int32))) (fun h => by rw [Bd.returns] at h; cases h)
  refine ⟨_, _, pre0 _ ?_, hrun, hended, _, _, rfl, ?_, ⟨_, rfl⟩, hW, hsame.mono (by decide) (by decide)⟩
  · show Steps p.tables e below (s₁.setTop (mkF m 0 #[.val (.long q1), .second, .val (.long q2), .second, .val (.long q3), .second, .unset, .unset, .unset, .unset, .unset, .unset, .unset] [])) _
    refine XS.lloadN X0.here hx rfl (hb hby at_0) rfl ?_
    show Steps p.tables e below (s₁.setTop (mkF m 1 #[.val (.long q1), .second, .val (.long q2), .second, .val (.long q3), .second, .unset, .unset, .unset, .unset, .unset, .unset, .unset] [(.long q1)])) _
    refine X0.ldc2Long hx hown (mvT hZ (hw _ (List.mem_of_getElem? (i := 0) rfl))) (g := (mkF m 1 #[.val (.long q1), .second, .val (.long q2), .second, .val (.long q3), .second, .unset, .unset, .unset, .unset, .unset, .unset, .unset] [(.long q1)])) rfl (hb hby at_1) _ ?_
    show Steps p.tables e below (s₁.setTop (mkF m 4 #[.val (.long q1), .second, .val (.long q2), .second, .val (.long q3), .second, .unset, .unset, .unset, .unset, .unset, .unset, .unset] [(.long (9223372036854775807 : Int64)), (.long q1)])) _
    refine XS.land X0.here hx rfl (hb hby at_4) rfl ?_
    show Steps p.tables e below (s₁.setTop (mkF m 5 #[.val (.long q1), .second, .val (.long q2), .second, .val (.long q3), .second, .unset, .unset, .unset, .unset, .unset, .unset, .unset] [(.long (q1 &&& (9223372036854775807 : Int64)))])) _
    refine XS.lstore X0.here hx rfl (hb hby at_5) rfl (l' := #[.val (.long q1), .second, .val (.long q2), .second, .val (.long q3), .second, .val (.long (q1 &&& (9223372036854775807 : Int64))), .second, .unset, .unset, .unset, .unset, .unset]) rfl ?_
    show Steps p.tables e below (s₁.setTop (mkF m 7 #[.val (.long q1), .second, .val (.long q2), .second, .val (.long q3), .second, .val (.long (q1 &&& (9223372036854775807 : Int64))), .second, .unset, .unset, .unset, .unset, .unset] [])) _
    refine XS.lloadN X0.here hx rfl (hb hby at_7) rfl ?_
    show Steps p.tables e below (s₁.setTop (mkF m 8 #[.val (.long q1), .second, .val (.long q2), .second, .val (.long q3), .second, .val (.long (q1 &&& (9223372036854775807 : Int64))), .second, .unset, .unset, .unset, .unset, .unset] [(.long q2)])) _
    refine X0.ldc2Long hx hown (mvT hZ (hw _ (List.mem_of_getElem? (i := 0) rfl))) (g := (mkF m 8 #[.val (.long q1), .second, .val (.long q2), .second, .val (.long q3), .second, .val (.long (q1 &&& (9223372036854775807 : Int64))), .second, .unset, .unset, .unset, .unset, .unset] [(.long q2)])) rfl (hb hby at_8) _ ?_
    show Steps p.tables e below (s₁.setTop (mkF m 11 #[.val (.long q1), .second, .val (.long q2), .second, .val (.long q3), .second, .val (.long (q1 &&& (9223372036854775807 : Int64))), .second, .unset, .unset, .unset, .unset, .unset] [(.long (9223372036854775807 : Int64)), (.long q2)])) _
    refine XS.land X0.here hx rfl (hb hby at_11) rfl ?_
    show Steps p.tables e below (s₁.setTop (mkF m 12 #[.val (.long q1), .second, .val (.long q2), .second, .val (.long q3), .second, .val (.long (q1 &&& (9223372036854775807 : Int64))), .second, .unset, .unset, .unset, .unset, .unset] [(.long (q2 &&& (9223372036854775807 : Int64)))])) _
    refine XS.lload X0.here hx rfl (hb hby at_12) rfl ?_
    show Steps p.tables e below (s₁.setTop (mkF m 14 #[.val (.long q1), .second, .val (.long q2), .second, .val (.long q3), .second, .val (.long (q1 &&& (9223372036854775807 : Int64))), .second, .unset, .unset, .unset, .unset, .unset] [(.long (q1 &&& (9223372036854775807 : Int64))), (.long (q2 &&& (9223372036854775807 : Int64)))])) _
    refine st5 _ ?_
    show Steps p.tables e below (T5.setTop (mkF m 17 #[.val (.long q1), .second, .val (.long q2), .second, .val (.long q3), .second, .val (.long (q1 &&& (9223372036854775807 : Int64))), .second, .unset, .unset, .unset, .unset, .unset] [(.long (q2 &&& (9223372036854775807 : Int64)))])) _
    refine XS.lstore X5.here hx rfl (hb hby at_17) rfl (l' := #[.val (.long q1), .second, .val (.long q2), .second, .val (.long q3), .second, .val (.long (q1 &&& (9223372036854775807 : Int64))), .second, .val (.long (q2 &&& (9223372036854775807 : Int64))), .second, .unset, .unset, .unset]) rfl ?_
    show Steps p.tables e below (T5.setTop (mkF m 19 #[.val (.long q1), .second, .val (.long q2), .second, .val (.long q3), .second, .val (.long (q1 &&& (9223372036854775807 : Int64))), .second, .val (.long (q2 &&& (9223372036854775807 : Int64))), .second, .unset, .unset, .unset] [])) _
    refine XS.lload X5.here hx rfl (hb hby at_19) rfl ?_
    show Steps p.tables e below (T5.setTop (mkF m 21 #[.val (.long q1), .second, .val (.long q2), .second, .val (.long q3), .second, .val (.long (q1 &&& (9223372036854775807 : Int64))), .second, .val (.long (q2 &&& (9223372036854775807 : Int64))), .second, .unset, .unset, .unset] [(.long q3)])) _
    refine X5.ldc2Long hx hown (mvT hZ (hw _ (List.mem_of_getElem? (i := 0) rfl))) (g := (mkF m 21 #[.val (.long q1), .second, .val (.long q2), .second, .val (.long q3), .second, .val (.long (q1 &&& (9223372036854775807 : Int64))), .second, .val (.long (q2 &&& (9223372036854775807 : Int64))), .second, .unset, .unset, .unset] [(.long q3)])) rfl (hb hby at_21) _ ?_
    show Steps p.tables e below (T5.setTop (mkF m 24 #[.val (.long q1), .second, .val (.long q2), .second, .val (.long q3), .second, .val (.long (q1 &&& (9223372036854775807 : Int64))), .second, .val (.long (q2 &&& (9223372036854775807 : Int64))), .second, .unset, .unset, .unset] [(.long (9223372036854775807 : Int64)), (.long q3)])) _
    refine XS.land X5.here hx rfl (hb hby at_24) rfl ?_
    show Steps p.tables e below (T5.setTop (mkF m 25 #[.val (.long q1), .second, .val (.long q2), .second, .val (.long q3), .second, .val (.long (q1 &&& (9223372036854775807 : Int64))), .second, .val (.long (q2 &&& (9223372036854775807 : Int64))), .second, .unset, .unset, .unset] [(.long (q3 &&& (9223372036854775807 : Int64)))])) _
    refine XS.lload X5.here hx rfl (hb hby at_25) rfl ?_
    show Steps p.tables e below (T5.setTop (mkF m 27 #[.val (.long q1), .second, .val (.long q2), .second, .val (.long q3), .second, .val (.long (q1 &&& (9223372036854775807 : Int64))), .second, .val (.long (q2 &&& (9223372036854775807 : Int64))), .second, .unset, .unset, .unset] [(.long (q1 &&& (9223372036854775807 : Int64))), (.long (q3 &&& (9223372036854775807 : Int64)))])) _
    refine XS.lload X5.here hx rfl (hb hby at_27) rfl ?_
    show Steps p.tables e below (T5.setTop (mkF m 29 #[.val (.long q1), .second, .val (.long q2), .second, .val (.long q3), .second, .val (.long (q1 &&& (9223372036854775807 : Int64))), .second, .val (.long (q2 &&& (9223372036854775807 : Int64))), .second, .unset, .unset, .unset] [(.long (q2 &&& (9223372036854775807 : Int64))), (.long (q1 &&& (9223372036854775807 : Int64))), (.long (q3 &&& (9223372036854775807 : Int64)))])) _
    refine XS.lsub X5.here hx rfl (hb hby at_29) rfl ?_
    show Steps p.tables e below (T5.setTop (mkF m 30 #[.val (.long q1), .second, .val (.long q2), .second, .val (.long q3), .second, .val (.long (q1 &&& (9223372036854775807 : Int64))), .second, .val (.long (q2 &&& (9223372036854775807 : Int64))), .second, .unset, .unset, .unset] [(.long ((q1 &&& (9223372036854775807 : Int64)) - (q2 &&& (9223372036854775807 : Int64)))), (.long (q3 &&& (9223372036854775807 : Int64)))])) _
    refine st7 _ ?_
    show Steps p.tables e below (T7.setTop (mkF m 33 #[.val (.long q1), .second, .val (.long q2), .second, .val (.long q3), .second, .val (.long (q1 &&& (9223372036854775807 : Int64))), .second, .val (.long (q2 &&& (9223372036854775807 : Int64))), .second, .unset, .unset, .unset] [(.long ((q1 &&& (9223372036854775807 : Int64)) - (q2 &&& (9223372036854775807 : Int64))))])) _
    refine XS.lstore X7.here hx rfl (hb hby at_33) rfl (l' := #[.val (.long q1), .second, .val (.long q2), .second, .val (.long q3), .second, .val (.long (q1 &&& (9223372036854775807 : Int64))), .second, .val (.long (q2 &&& (9223372036854775807 : Int64))), .second, .val (.long ((q1 &&& (9223372036854775807 : Int64)) - (q2 &&& (9223372036854775807 : Int64)))), .second, .unset]) rfl ?_
    show Steps p.tables e below (T7.setTop (mkF m 35 #[.val (.long q1), .second, .val (.long q2), .second, .val (.long q3), .second, .val (.long (q1 &&& (9223372036854775807 : Int64))), .second, .val (.long (q2 &&& (9223372036854775807 : Int64))), .second, .val (.long ((q1 &&& (9223372036854775807 : Int64)) - (q2 &&& (9223372036854775807 : Int64)))), .second, .unset] [])) _
    refine st8 _ ?_
    show Steps p.tables e below (T8.setTop (mkF m 38 #[.val (.long q1), .second, .val (.long q2), .second, .val (.long q3), .second, .val (.long (q1 &&& (9223372036854775807 : Int64))), .second, .val (.long (q2 &&& (9223372036854775807 : Int64))), .second, .val (.long ((q1 &&& (9223372036854775807 : Int64)) - (q2 &&& (9223372036854775807 : Int64)))), .second, .unset] [(.ref b8)])) _
    refine XS.dup X8.here hx rfl (hb hby at_38) rfl rfl ?_
    show Steps p.tables e below (T8.setTop (mkF m 39 #[.val (.long q1), .second, .val (.long q2), .second, .val (.long q3), .second, .val (.long (q1 &&& (9223372036854775807 : Int64))), .second, .val (.long (q2 &&& (9223372036854775807 : Int64))), .second, .val (.long ((q1 &&& (9223372036854775807 : Int64)) - (q2 &&& (9223372036854775807 : Int64)))), .second, .unset] [(.ref b8), (.ref b8)])) _
    refine XS.lload X8.here hx rfl (hb hby at_39) rfl ?_
    show Steps p.tables e below (T8.setTop (mkF m 41 #[.val (.long q1), .second, .val (.long q2), .second, .val (.long q3), .second, .val (.long (q1 &&& (9223372036854775807 : Int64))), .second, .val (.long (q2 &&& (9223372036854775807 : Int64))), .second, .val (.long ((q1 &&& (9223372036854775807 : Int64)) - (q2 &&& (9223372036854775807 : Int64)))), .second, .unset] [(.long (q1 &&& (9223372036854775807 : Int64))), (.ref b8), (.ref b8)])) _
    refine st11.trans ?_
    show Steps p.tables e below (T11.setTop (mkF m 44 #[.val (.long q1), .second, .val (.long q2), .second, .val (.long q3), .second, .val (.long (q1 &&& (9223372036854775807 : Int64))), .second, .val (.long (q2 &&& (9223372036854775807 : Int64))), .second, .val (.long ((q1 &&& (9223372036854775807 : Int64)) - (q2 &&& (9223372036854775807 : Int64)))), .second, .unset] [(.ref b8)])) _
    refine XS.astore X11.here hx rfl (hb hby at_44) rfl rfl (l' := #[.val (.long q1), .second, .val (.long q2), .second, .val (.long q3), .second, .val (.long (q1 &&& (9223372036854775807 : Int64))), .second, .val (.long (q2 &&& (9223372036854775807 : Int64))), .second, .val (.long ((q1 &&& (9223372036854775807 : Int64)) - (q2 &&& (9223372036854775807 : Int64)))), .second, .val (.ref b8)]) rfl ?_
    show Steps p.tables e below (T11.setTop (mkF m 46 #[.val (.long q1), .second, .val (.long q2), .second, .val (.long q3), .second, .val (.long (q1 &&& (9223372036854775807 : Int64))), .second, .val (.long (q2 &&& (9223372036854775807 : Int64))), .second, .val (.long ((q1 &&& (9223372036854775807 : Int64)) - (q2 &&& (9223372036854775807 : Int64)))), .second, .val (.ref b8)] [])) _
    refine XS.aload X11.here hx rfl (hb hby at_46) rfl rfl ?_
    show Steps p.tables e below (T11.setTop (mkF m 48 #[.val (.long q1), .second, .val (.long q2), .second, .val (.long q3), .second, .val (.long (q1 &&& (9223372036854775807 : Int64))), .second, .val (.long (q2 &&& (9223372036854775807 : Int64))), .second, .val (.long ((q1 &&& (9223372036854775807 : Int64)) - (q2 &&& (9223372036854775807 : Int64)))), .second, .val (.ref b8)] [(.ref b8)])) _
    refine st12.trans ?_
    show Steps p.tables e below (T12.setTop (mkF m 51 #[.val (.long q1), .second, .val (.long q2), .second, .val (.long q3), .second, .val (.long (q1 &&& (9223372036854775807 : Int64))), .second, .val (.long (q2 &&& (9223372036854775807 : Int64))), .second, .val (.long ((q1 &&& (9223372036854775807 : Int64)) - (q2 &&& (9223372036854775807 : Int64)))), .second, .val (.ref b8)] [(.long (0 : Int64))])) _
    refine XS.lconst X12.here hx rfl (hb hby at_51) ?_
    show Steps p.tables e below (T12.setTop (mkF m 52 #[.val (.long q1), .second, .val (.long q2), .second, .val (.long q3), .second, .val (.long (q1 &&& (9223372036854775807 : Int64))), .second, .val (.long (q2 &&& (9223372036854775807 : Int64))), .second, .val (.long ((q1 &&& (9223372036854775807 : Int64)) - (q2 &&& (9223372036854775807 : Int64)))), .second, .val (.ref b8)] [(.long (0 : Int64)), (.long (0 : Int64))])) _
    refine XS.lcmp X12.here hx rfl (hb hby at_52) rfl ?_
    show Steps p.tables e below (T12.setTop (mkF m 53 #[.val (.long q1), .second, .val (.long q2), .second, .val (.long q3), .second, .val (.long (q1 &&& (9223372036854775807 : Int64))), .second, .val (.long (q2 &&& (9223372036854775807 : Int64))), .second, .val (.long ((q1 &&& (9223372036854775807 : Int64)) - (q2 &&& (9223372036854775807 : Int64)))), .second, .val (.ref b8)] [(.int (lcmpW (0 : Int64) (0 : Int64)))])) _
    refine XS.ifYes X12.here hx rfl (pc0 := 53) (pc' := 58) rfl (hb hby at_53) rfl ((if0 _ _).trans (teq (by decide : (lcmpW (0 : Int64) (0 : Int64)) = (0 : Int32))).1) (by decide) (by decide) ?_
    show Steps p.tables e below (T12.setTop (mkF m 58 #[.val (.long q1), .second, .val (.long q2), .second, .val (.long q3), .second, .val (.long (q1 &&& (9223372036854775807 : Int64))), .second, .val (.long (q2 &&& (9223372036854775807 : Int64))), .second, .val (.long ((q1 &&& (9223372036854775807 : Int64)) - (q2 &&& (9223372036854775807 : Int64)))), .second, .val (.ref b8)] [])) _
    refine XS.aload X12.here hx rfl (hb hby at_58) rfl rfl ?_
    show Steps p.tables e below (T12.setTop (mkF m 60 #[.val (.long q1), .second, .val (.long q2), .second, .val (.long q3), .second, .val (.long (q1 &&& (9223372036854775807 : Int64))), .second, .val (.long (q2 &&& (9223372036854775807 : Int64))), .second, .val (.long ((q1 &&& (9223372036854775807 : Int64)) - (q2 &&& (9223372036854775807 : Int64)))), .second, .val (.ref b8)] [(.ref b8)])) _
    refine XS.lload X12.here hx rfl (hb hby at_60) rfl ?_
    show Steps p.tables e below (T12.setTop (mkF m 62 #[.val (.long q1), .second, .val (.long q2), .second, .val (.long q3), .second, .val (.long (q1 &&& (9223372036854775807 : Int64))), .second, .val (.long (q2 &&& (9223372036854775807 : Int64))), .second, .val (.long ((q1 &&& (9223372036854775807 : Int64)) - (q2 &&& (9223372036854775807 : Int64)))), .second, .val (.ref b8)] [(.long (q2 &&& (9223372036854775807 : Int64))), (.ref b8)])) _
    refine st14.trans ?_
    show Steps p.tables e below (T14.setTop (mkF m 65 #[.val (.long q1), .second, .val (.long q2), .second, .val (.long q3), .second, .val (.long (q1 &&& (9223372036854775807 : Int64))), .second, .val (.long (q2 &&& (9223372036854775807 : Int64))), .second, .val (.long ((q1 &&& (9223372036854775807 : Int64)) - (q2 &&& (9223372036854775807 : Int64)))), .second, .val (.ref b8)] [])) _
    refine XS.aload X14.here hx rfl (hb hby at_65) rfl rfl ?_
    show Steps p.tables e below (T14.setTop (mkF m 67 #[.val (.long q1), .second, .val (.long q2), .second, .val (.long q3), .second, .val (.long (q1 &&& (9223372036854775807 : Int64))), .second, .val (.long (q2 &&& (9223372036854775807 : Int64))), .second, .val (.long ((q1 &&& (9223372036854775807 : Int64)) - (q2 &&& (9223372036854775807 : Int64)))), .second, .val (.ref b8)] [(.ref b8)])) _
    refine st15.trans ?_
    show Steps p.tables e below (T15.setTop (mkF m 70 #[.val (.long q1), .second, .val (.long q2), .second, .val (.long q3), .second, .val (.long (q1 &&& (9223372036854775807 : Int64))), .second, .val (.long (q2 &&& (9223372036854775807 : Int64))), .second, .val (.long ((q1 &&& (9223372036854775807 : Int64)) - (q2 &&& (9223372036854775807 : Int64)))), .second, .val (.ref b8)] [(.long ((0 : Int64) + (q2 &&& (9223372036854775807 : Int64))))])) _
    refine XS.lload X15.here hx rfl (hb hby at_70) rfl ?_
    show Steps p.tables e below (T15.setTop (mkF m 72 #[.val (.long q1), .second, .val (.long q2), .second, .val (.long q3), .second, .val (.long (q1 &&& (9223372036854775807 : Int64))), .second, .val (.long (q2 &&& (9223372036854775807 : Int64))), .second, .val (.long ((q1 &&& (9223372036854775807 : Int64)) - (q2 &&& (9223372036854775807 : Int64)))), .second, .val (.ref b8)] [(.long (q2 &&& (9223372036854775807 : Int64))), (.long ((0 : Int64) + (q2 &&& (9223372036854775807 : Int64))))])) _
    refine XS.lcmp X15.here hx rfl (hb hby at_72) rfl ?_
    show Steps p.tables e below (T15.setTop (mkF m 73 #[.val (.long q1), .second, .val (.long q2), .second, .val (.long q3), .second, .val (.long (q1 &&& (9223372036854775807 : Int64))), .second, .val (.long (q2 &&& (9223372036854775807 : Int64))), .second, .val (.long ((q1 &&& (9223372036854775807 : Int64)) - (q2 &&& (9223372036854775807 : Int64)))), .second, .val (.ref b8)] [(.int (lcmpW ((0 : Int64) + (q2 &&& (9223372036854775807 : Int64))) (q2 &&& (9223372036854775807 : Int64))))])) _
    refine XS.ifYes X15.here hx rfl (pc0 := 73) (pc' := 78) rfl (hb hby at_73) rfl ((if0 _ _).trans (teq P16).1) (by decide) (by decide) ?_
    show Steps p.tables e below (T15.setTop (mkF m 78 #[.val (.long q1), .second, .val (.long q2), .second, .val (.long q3), .second, .val (.long (q1 &&& (9223372036854775807 : Int64))), .second, .val (.long (q2 &&& (9223372036854775807 : Int64))), .second, .val (.long ((q1 &&& (9223372036854775807 : Int64)) - (q2 &&& (9223372036854775807 : Int64)))), .second, .val (.ref b8)] [])) _
    refine XS.aload X15.here hx rfl (hb hby at_78) rfl rfl ?_
    show Steps p.tables e below (T15.setTop (mkF m 80 #[.val (.long q1), .second, .val (.long q2), .second, .val (.long q3), .second, .val (.long (q1 &&& (9223372036854775807 : Int64))), .second, .val (.long (q2 &&& (9223372036854775807 : Int64))), .second, .val (.long ((q1 &&& (9223372036854775807 : Int64)) - (q2 &&& (9223372036854775807 : Int64)))), .second, .val (.ref b8)] [(.ref b8)])) _
    refine XS.lload X15.here hx rfl (hb hby at_80) rfl ?_
    show Steps p.tables e below (T15.setTop (mkF m 82 #[.val (.long q1), .second, .val (.long q2), .second, .val (.long q3), .second, .val (.long (q1 &&& (9223372036854775807 : Int64))), .second, .val (.long (q2 &&& (9223372036854775807 : Int64))), .second, .val (.long ((q1 &&& (9223372036854775807 : Int64)) - (q2 &&& (9223372036854775807 : Int64)))), .second, .val (.ref b8)] [(.long ((q1 &&& (9223372036854775807 : Int64)) - (q2 &&& (9223372036854775807 : Int64)))), (.ref b8)])) _
    refine st18.trans ?_
    show Steps p.tables e below (T18.setTop (mkF m 85 #[.val (.long q1), .second, .val (.long q2), .second, .val (.long q3), .second, .val (.long (q1 &&& (9223372036854775807 : Int64))), .second, .val (.long (q2 &&& (9223372036854775807 : Int64))), .second, .val (.long ((q1 &&& (9223372036854775807 : Int64)) - (q2 &&& (9223372036854775807 : Int64)))), .second, .val (.ref b8)] [])) _
    refine XS.aload X18.here hx rfl (hb hby at_85) rfl rfl ?_
    show Steps p.tables e below (T18.setTop (mkF m 87 #[.val (.long q1), .second, .val (.long q2), .second, .val (.long q3), .second, .val (.long (q1 &&& (9223372036854775807 : Int64))), .second, .val (.long (q2 &&& (9223372036854775807 : Int64))), .second, .val (.long ((q1 &&& (9223372036854775807 : Int64)) - (q2 &&& (9223372036854775807 : Int64)))), .second, .val (.ref b8)] [(.ref b8)])) _
    refine st19.trans ?_
    show Steps p.tables e below (T19.setTop (mkF m 90 #[.val (.long q1), .second, .val (.long q2), .second, .val (.long q3), .second, .val (.long (q1 &&& (9223372036854775807 : Int64))), .second, .val (.long (q2 &&& (9223372036854775807 : Int64))), .second, .val (.long ((q1 &&& (9223372036854775807 : Int64)) - (q2 &&& (9223372036854775807 : Int64)))), .second, .val (.ref b8)] [(.long (((0 : Int64) + (q2 &&& (9223372036854775807 : Int64))) + ((q1 &&& (9223372036854775807 : Int64)) - (q2 &&& (9223372036854775807 : Int64)))))])) _
    refine XS.lload X19.here hx rfl (hb hby at_90) rfl ?_
    show Steps p.tables e below (T19.setTop (mkF m 92 #[.val (.long q1), .second, .val (.long q2), .second, .val (.long q3), .second, .val (.long (q1 &&& (9223372036854775807 : Int64))), .second, .val (.long (q2 &&& (9223372036854775807 : Int64))), .second, .val (.long ((q1 &&& (9223372036854775807 : Int64)) - (q2 &&& (9223372036854775807 : Int64)))), .second, .val (.ref b8)] [(.long (q2 &&& (9223372036854775807 : Int64))), (.long (((0 : Int64) + (q2 &&& (9223372036854775807 : Int64))) + ((q1 &&& (9223372036854775807 : Int64)) - (q2 &&& (9223372036854775807 : Int64)))))])) _
    refine XS.lload X19.here hx rfl (hb hby at_92) rfl ?_
    show Steps p.tables e below (T19.setTop (mkF m 94 #[.val (.long q1), .second, .val (.long q2), .second, .val (.long q3), .second, .val (.long (q1 &&& (9223372036854775807 : Int64))), .second, .val (.long (q2 &&& (9223372036854775807 : Int64))), .second, .val (.long ((q1 &&& (9223372036854775807 : Int64)) - (q2 &&& (9223372036854775807 : Int64)))), .second, .val (.ref b8)] [(.long ((q1 &&& (9223372036854775807 : Int64)) - (q2 &&& (9223372036854775807 : Int64)))), (.long (q2 &&& (9223372036854775807 : Int64))), (.long (((0 : Int64) + (q2 &&& (9223372036854775807 : Int64))) + ((q1 &&& (9223372036854775807 : Int64)) - (q2 &&& (9223372036854775807 : Int64)))))])) _
    refine XS.ladd X19.here hx rfl (hb hby at_94) rfl ?_
    show Steps p.tables e below (T19.setTop (mkF m 95 #[.val (.long q1), .second, .val (.long q2), .second, .val (.long q3), .second, .val (.long (q1 &&& (9223372036854775807 : Int64))), .second, .val (.long (q2 &&& (9223372036854775807 : Int64))), .second, .val (.long ((q1 &&& (9223372036854775807 : Int64)) - (q2 &&& (9223372036854775807 : Int64)))), .second, .val (.ref b8)] [(.long ((q2 &&& (9223372036854775807 : Int64)) + ((q1 &&& (9223372036854775807 : Int64)) - (q2 &&& (9223372036854775807 : Int64))))), (.long (((0 : Int64) + (q2 &&& (9223372036854775807 : Int64))) + ((q1 &&& (9223372036854775807 : Int64)) - (q2 &&& (9223372036854775807 : Int64)))))])) _
    refine XS.lcmp X19.here hx rfl (hb hby at_95) rfl ?_
    show Steps p.tables e below (T19.setTop (mkF m 96 #[.val (.long q1), .second, .val (.long q2), .second, .val (.long q3), .second, .val (.long (q1 &&& (9223372036854775807 : Int64))), .second, .val (.long (q2 &&& (9223372036854775807 : Int64))), .second, .val (.long ((q1 &&& (9223372036854775807 : Int64)) - (q2 &&& (9223372036854775807 : Int64)))), .second, .val (.ref b8)] [(.int (lcmpW (((0 : Int64) + (q2 &&& (9223372036854775807 : Int64))) + ((q1 &&& (9223372036854775807 : Int64)) - (q2 &&& (9223372036854775807 : Int64)))) ((q2 &&& (9223372036854775807 : Int64)) + ((q1 &&& (9223372036854775807 : Int64)) - (q2 &&& (9223372036854775807 : Int64))))))])) _
    refine XS.ifNo X19.here hx rfl (hb hby at_96) rfl ((if0 _ _).trans (teq P20).2) ?_
    show Steps p.tables e below (T19.setTop (mkF m 99 #[.val (.long q1), .second, .val (.long q2), .second, .val (.long q3), .second, .val (.long (q1 &&& (9223372036854775807 : Int64))), .second, .val (.long (q2 &&& (9223372036854775807 : Int64))), .second, .val (.long ((q1 &&& (9223372036854775807 : Int64)) - (q2 &&& (9223372036854775807 : Int64)))), .second, .val (.ref b8)] [])) _
    refine XS.iconst X19.here hx rfl (hb hby at_99) ?_
    show Steps p.tables e below (T19.setTop (mkF m 100 #[.val (.long q1), .second, .val (.long q2), .second, .val (.long q3), .second, .val (.long (q1 &&& (9223372036854775807 : Int64))), .second, .val (.long (q2 &&& (9223372036854775807 : Int64))), .second, .val (.long ((q1 &&& (9223372036854775807 : Int64)) - (q2 &&& (9223372036854775807 : Int64)))), .second, .val (.ref b8)] [(.int (1 : Int32))])) _
    refine XS.goto X19.here hx rfl (pc0 := 100) (pc' := 104) rfl (hb hby at_100) (by decide) (by decide) ?_
    show Steps p.tables e below (T19.setTop (mkF m 104 #[.val (.long q1), .second, .val (.long q2), .second, .val (.long q3), .second, .val (.long (q1 &&& (9223372036854775807 : Int64))), .second, .val (.long (q2 &&& (9223372036854775807 : Int64))), .second, .val (.long ((q1 &&& (9223372036854775807 : Int64)) - (q2 &&& (9223372036854775807 : Int64)))), .second, .val (.ref b8)] [(.int (1 : Int32))])) _
    exact retN X19 hx (t := .boolean) Bd.returns (by simp) (hb hby at_104) hr
  · exact ⟨rfl, N19⟩
set_option maxRecDepth 65536 in
set_option maxHeartbeats 40000000 in
theorem rm0_3 (l : Launch) (Z : State) (a0 : Array Value) (hw : ∀ d ∈ tables_1, d.before a0 Z = true) (ws : List Jvm.Cond) (q1 : Int64) (q2 : Int64) (q3 : Int64) (w9 : Addr) (h0 : Heap) (n0 : Nat) (Z0 : n0 ≤ h0.size) (P4 : (0 : Int32) < (lcmpW (q2 &&& (9223372036854775807 : Int64)) (q1 &&& (9223372036854775807 : Int64)))) (P6 : ¬ ((0 : Int32) < (lcmpW (q3 &&& (9223372036854775807 : Int64)) ((q1 &&& (9223372036854775807 : Int64)) - (q1 &&& (9223372036854775807 : Int64)))))) (S_EMPTY : Sta Z h0 "java/util/OptionalLong" "EMPTY" "Ljava/util/OptionalLong;" (.ref w9)) (P13 : ¬ ((0 : Int32) < (lcmpW ((0 : Int64) + (q1 &&& (9223372036854775807 : Int64))) (q1 &&& (9223372036854775807 : Int64))))) (P16 : (lcmpW ((0 : Int64) + (q1 &&& (9223372036854775807 : Int64))) (q1 &&& (9223372036854775807 : Int64))) = (0 : Int32)) (P17 : ¬ ((0 : Int32) < (lcmpW (((0 : Int64) + (q1 &&& (9223372036854775807 : Int64))) + (q3 &&& (9223372036854775807 : Int64))) (q1 &&& (9223372036854775807 : Int64))))) (P20 : (lcmpW (((0 : Int64) + (q1 &&& (9223372036854775807 : Int64))) + (q3 &&& (9223372036854775807 : Int64))) ((q1 &&& (9223372036854775807 : Int64)) + (q3 &&& (9223372036854775807 : Int64)))) = (0 : Int32)) :
    MetFree l x (head1 (Jvm.Cond.code x code maxLocals ret :: ws) room_1) (fun a U => a = #[(.long q1), (.long q2), (.long q3)] ∧ Z.Warmed39 U.vm ∧ U.heap = h0) (fun _ _ _ _ _ => True) (fun _ U o U' => ∃ v L, o = .returned v ∧ own_QT n0 v L ∧ FrameEnd U o U' L room_1.cells room_1.slots) := by
  refine MetFree.of_bodySF (plainFor_of_name pn_0) hisR ?_
  intro p e s m args below meth c s₁ Bd hml0 hP hK
  obtain ⟨rfl, hZ, hh⟩ := hP
  have hx := Bd.exec
  have hby := Bd.bytes
  have hml : c.maxLocals = 13 := hml0
  have hown : s.vm.findClass "com/example/lasting_names/lastingnames/BodyBoundCountPinLaw" = some m.cls := findClass_of_methodNamed Bd.named
  have hnm := (name_of_methodNamed Bd.named Bd.method).1
  have X0 : Stand p l e room_1 s m #[(.long q1), (.long q2), (.long q3)] below meth c s₁ [] 0 0 := Stand.of_body Bd
  have e0 : s₁.heap = h0 := by rw [← hh, Bd.state]; rfl
  have N0 := Fr.nil n0
  have pre0 : ∀ t, Steps p.tables e below (s₁.setTop (mkF m 0 #[.val (.long q1), .second, .val (.long q2), .second, .val (.long q3), .second, .unset, .unset, .unset, .unset, .unset, .unset, .unset] [])) t → Steps p.tables e below (s₁.setTop (entryFrame m #[(.long q1), (.long q2), (.long q3)] maxLocals)) t := fun t k => castTop (ef_0_JJJ m q1 q2 q3) k
  obtain ⟨_, _, ⟨T5, L5, k5, n5⟩, -, X5, ⟨Lc5, hQ5, l5, y5, z5⟩, st5⟩ := Jvm.LawKit.callS X0 hx (y := (⟨"java/lang/Math", "min", "(JJ)J"⟩ : MethodName)) hown (mvT hZ (hw _ (List.mem_of_getElem? (i := 1) rfl))) (mvT hZ (hw _ (List.mem_of_getElem? (i := 2) rfl))) (mvT hZ (hw _ (List.mem_of_getElem? (i := 3) rfl))) (mvT hZ (hw _ (List.mem_of_getElem? (i := 4) rfl))) (by decide) (backOf (W := 0) (rm1_2 l Z a0 hw [] (q2 &&& (9223372036854775807 : Int64)) (q1 &&& (9223372036854775807 : Int64)) h0 n0 Z0 P4) hZ (hw _ (List.mem_of_getElem? (i := 4) rfl)) (hw _ (List.mem_of_getElem? (i := 3) rfl)) (by decide) (by decide)) (g := (mkF m 14 #[.val (.long q1), .second, .val (.long q2), .second, .val (.long q3), .second, .val (.long (q1 &&& (9223372036854775807 : Int64))), .second, .unset, .unset, .unset, .unset, .unset] [(.long (q1 &&& (9223372036854775807 : Int64))), (.long (q2 &&& (9223372036854775807 : Int64)))])) rfl (by rw [hml]; rfl) (argsL := [(.long (q2 &&& (9223372036854775807 : Int64))), (.long (q1 &&& (9223372036854775807 : Int64)))]) (rest := []) (lenOf pd_0 rfl) rfl (by show 2 * 0 + _ ≤ _; exact Nat.le_of_eq rfl) (hb hby at_14) (fun _ _ => ⟨rfl, e0, (by decide : 0 + 0 ≤ _), (by decide : 0 + 0 ≤ _)⟩)
  dsimp only [Pt.U, Pt.locs, Pt.cells, Pt.slots] at X5 l5 y5 z5 st5 hQ5
  subst l5 y5 z5
  obtain ⟨rfl, Nq5, e5⟩ := hQ5
  have N5 := Fr.app N0 Nq5
  obtain ⟨_, _, ⟨T7, L7, k7, n7⟩, -, X7, ⟨Lc7, hQ7, l7, y7, z7⟩, st7⟩ := Jvm.LawKit.callS X5 hx (y := (⟨"java/lang/Math", "min", "(JJ)J"⟩ : MethodName)) hown (mvT hZ (hw _ (List.mem_of_getElem? (i := 1) rfl))) (mvT hZ (hw _ (List.mem_of_getElem? (i := 2) rfl))) (mvT hZ (hw _ (List.mem_of_getElem? (i := 3) rfl))) (mvT hZ (hw _ (List.mem_of_getElem? (i := 4) rfl))) (by decide) (backOf (W := 0) (rm1_1 l Z a0 hw [] (q3 &&& (9223372036854775807 : Int64)) ((q1 &&& (9223372036854775807 : Int64)) - (q1 &&& (9223372036854775807 : Int64))) h0 n0 Z0 P6) hZ (hw _ (List.mem_of_getElem? (i := 4) rfl)) (hw _ (List.mem_of_getElem? (i := 3) rfl)) (by decide) (by decide)) (g := (mkF m 30 #[.val (.long q1), .second, .val (.long q2), .second, .val (.long q3), .second, .val (.long (q1 &&& (9223372036854775807 : Int64))), .second, .val (.long (q1 &&& (9223372036854775807 : Int64))), .second, .unset, .unset, .unset] [(.long ((q1 &&& (9223372036854775807 : Int64)) - (q1 &&& (9223372036854775807 : Int64)))), (.long (q3 &&& (9223372036854775807 : Int64)))])) rfl (by rw [hml]; rfl) (argsL := [(.long (q3 &&& (9223372036854775807 : Int64))), (.long ((q1 &&& (9223372036854775807 : Int64)) - (q1 &&& (9223372036854775807 : Int64))))]) (rest := []) (lenOf pd_0 rfl) rfl (by show 2 * 0 + _ ≤ _; exact Nat.le_of_eq rfl) (hb hby at_30) (fun _ _ => ⟨rfl, e5, (by decide : 0 + 0 ≤ _), (by decide : 0 + 0 ≤ _)⟩)
  dsimp only [Pt.U, Pt.locs, Pt.cells, Pt.slots] at X7 l7 y7 z7 st7 hQ7
  subst l7 y7 z7
  obtain ⟨rfl, Nq7, e7⟩ := hQ7
  have N7 := Fr.app N5 Nq7
  obtain ⟨T8, h8, X8, e8, E8, A8, D8, -, st8⟩ := newO X7 hx hZ hown (hw _ (List.mem_of_getElem? (i := 5) rfl)) (hw _ (List.mem_of_getElem? (i := 6) rfl)) (hw _ (List.mem_of_getElem? (i := 7) rfl)) e7 (g := (mkF m 35 #[.val (.long q1), .second, .val (.long q2), .second, .val (.long q3), .second, .val (.long (q1 &&& (9223372036854775807 : Int64))), .second, .val (.long (q1 &&& (9223372036854775807 : Int64))), .second, .val (.long (q3 &&& (9223372036854775807 : Int64))), .second, .unset] [])) rfl (hb hby at_35) (by decide) (by decide)
  obtain ⟨b8, g8⟩ : ∃ z, z = h0.size := ⟨_, rfl⟩
  rw [← g8] at A8 D8 st8
  have sz_b8 : h0.size ≤ b8 := Nat.le_trans (Keep.refl h0 []).1 (Nat.le_of_eq g8.symm)
  have g_b8 : n0 ≤ b8 := Nat.le_trans Z0 sz_b8
  have K0_8 : Keep h0 h8 [] := (Keep.refl h0 []).ext E8
  have Z8 : n0 ≤ h8.size := Nat.le_trans Z0 E8.1
  have F_announced_b8 : Fld Z h8 b8 "com/example/lasting_names/lastingnames/BodyBound" "announced" "Ljava/util/OptionalLong;" .null := D8 (Or.inl (hw _ (List.mem_of_getElem? (i := 20) rfl))) (ty := (.object "java/util/OptionalLong")) (by decide)
  have F_maxBytes_b8 : Fld Z h8 b8 "com/example/lasting_names/lastingnames/BodyBound" "maxBytes" "J" (.long (0 : Int64)) := D8 (Or.inr (hw _ (List.mem_of_getElem? (i := 22) rfl))) (ty := .long) (by decide)
  have F_received_b8 : Fld Z h8 b8 "com/example/lasting_names/lastingnames/BodyBound" "received" "J" (.long (0 : Int64)) := D8 (Or.inl (hw _ (List.mem_of_getElem? (i := 29) rfl))) (ty := .long) (by decide)
  have f10 := (S_EMPTY.ext E8)
  obtain ⟨_, _, ⟨T11, L11, k11, n11⟩, -, X11, ⟨Lc11, hQ11, l11, y11, z11⟩, st11⟩ := X8.specialBack hx (y := (⟨"com/example/lasting_names/lastingnames/BodyBound", "<init>", "(J)V"⟩ : MethodName)) rfl hown (mvT hZ (hw _ (List.mem_of_getElem? (i := 8) rfl))) (mvT hZ (hw _ (List.mem_of_getElem? (i := 9) rfl))) (mvT hZ (hw _ (List.mem_of_getElem? (i := 10) rfl))) (by decide) (backOf (W := 1) (rm2_1 l Z a0 hw [] b8 (q1 &&& (9223372036854775807 : Int64)) w9 h8 n0 Z8 f10 A8 F_announced_b8 F_maxBytes_b8 F_received_b8 g_b8) hZ (hw _ (List.mem_of_getElem? (i := 10) rfl)) (hw _ (List.mem_of_getElem? (i := 7) rfl)) (by decide) (by decide)) (g := (mkF m 41 #[.val (.long q1), .second, .val (.long q2), .second, .val (.long q3), .second, .val (.long (q1 &&& (9223372036854775807 : Int64))), .second, .val (.long (q1 &&& (9223372036854775807 : Int64))), .second, .val (.long (q3 &&& (9223372036854775807 : Int64))), .second, .unset] [(.long (q1 &&& (9223372036854775807 : Int64))), (.ref b8), (.ref b8)])) rfl (by rw [hml]; rfl) (Steps.refl _) (a := b8) (argsL := [(.long (q1 &&& (9223372036854775807 : Int64)))]) (rest := [(.ref b8)]) (lenOf pd_2 rfl) rfl (by show 2 * 0 + _ ≤ _; exact Nat.le_of_eq rfl) (hb hby at_41) (fun _ _ => ⟨rfl, e8, (by decide : 1 + 0 ≤ _), (by decide : 3 + 0 ≤ _)⟩)
  dsimp only [Pt.U, Pt.locs, Pt.cells, Pt.slots] at X11 l11 y11 z11 st11 hQ11
  subst l11 y11 z11
  obtain ⟨rfl, Nq11, K11, x11_0, x11_1, x11_2, x11_3⟩ := hQ11
  have N11 := Fr.app N7 Nq11
  have K0_11 : Keep h0 T11.heap [] := K0_8.trans K11 (allS (Or.inr sz_b8) all0)
  have Z11 : n0 ≤ T11.heap.size := Nat.le_trans Z8 K11.1
  obtain ⟨cq12, kq12, q12a, q12b, q12c⟩ := isOf hZ rfl x11_0
  obtain ⟨_, _, ⟨T12, L12, k12, n12⟩, -, X12, ⟨Lc12, hQ12, l12, y12, z12⟩, st12⟩ := X11.virtualBack hx (y := (⟨"com/example/lasting_names/lastingnames/BodyBound", "received", "()J"⟩ : MethodName)) (z := (⟨"com/example/lasting_names/lastingnames/BodyBound", "received", "()J"⟩ : MethodName)) hown (mvT hZ (hw _ (List.mem_of_getElem? (i := 23) rfl))) (mvT hZ (hw _ (List.mem_of_getElem? (i := 24) rfl))) (notFace_of_selects (args := #[]) (mvT hZ (hw _ (List.mem_of_getElem? (i := 26) rfl)))) (mvT hZ (hw _ (List.mem_of_getElem? (i := 26) rfl))) (mvT hZ (hw _ (List.mem_of_getElem? (i := 25) rfl))) (by decide) (backOf (W := 0) (rm5_1 l Z a0 hw [] b8 T11.heap n0 Z11 x11_3) hZ (hw _ (List.mem_of_getElem? (i := 27) rfl)) (hw _ (List.mem_of_getElem? (i := 7) rfl)) (by decide) (by decide)) q12a q12c (g := (mkF m 48 #[.val (.long q1), .second, .val (.long q2), .second, .val (.long q3), .second, .val (.long (q1 &&& (9223372036854775807 : Int64))), .second, .val (.long (q1 &&& (9223372036854775807 : Int64))), .second, .val (.long (q3 &&& (9223372036854775807 : Int64))), .second, .val (.ref b8)] [(.ref b8)])) rfl (by rw [hml]; rfl) (Steps.refl _) (argsL := []) (rest := []) (lenOf pd_3 rfl) rfl (by show 2 * 0 + _ ≤ _; exact Nat.le_of_eq rfl) (hb hby at_48) (fun _ _ => ⟨rfl, rfl, (by decide : 1 + 0 ≤ _), (by decide : 3 + 0 ≤ _)⟩)
  dsimp only [Pt.U, Pt.locs, Pt.cells, Pt.slots] at X12 l12 y12 z12 st12 hQ12
  subst l12 y12 z12
  obtain ⟨rfl, Nq12, e12⟩ := hQ12
  have N12 := Fr.app N11 Nq12
  obtain ⟨cq14, kq14, q14a, q14b, q14c⟩ := isOf hZ e12 x11_0
  obtain ⟨_, _, ⟨T14, L14, k14, n14⟩, -, X14, ⟨Lc14, hQ14, l14, y14, z14⟩, st14⟩ := X12.virtualBack hx (y := (⟨"com/example/lasting_names/lastingnames/BodyBound", "count", "(J)V"⟩ : MethodName)) (z := (⟨"com/example/lasting_names/lastingnames/BodyBound", "count", "(J)V"⟩ : MethodName)) hown (mvT hZ (hw _ (List.mem_of_getElem? (i := 30) rfl))) (mvT hZ (hw _ (List.mem_of_getElem? (i := 31) rfl))) (notFace_of_selects (args := #[]) (mvT hZ (hw _ (List.mem_of_getElem? (i := 33) rfl)))) (mvT hZ (hw _ (List.mem_of_getElem? (i := 33) rfl))) (mvT hZ (hw _ (List.mem_of_getElem? (i := 32) rfl))) (by decide) (backOf (W := 0) (rm6_1 l Z a0 hw [] b8 (q1 &&& (9223372036854775807 : Int64)) w9 (q1 &&& (9223372036854775807 : Int64)) T11.heap n0 Z11 x11_3 x11_0 x11_1 x11_2 g_b8 P13) hZ (hw _ (List.mem_of_getElem? (i := 34) rfl)) (hw _ (List.mem_of_getElem? (i := 7) rfl)) (by decide) (by decide)) q14a q14c (g := (mkF m 62 #[.val (.long q1), .second, .val (.long q2), .second, .val (.long q3), .second, .val (.long (q1 &&& (9223372036854775807 : Int64))), .second, .val (.long (q1 &&& (9223372036854775807 : Int64))), .second, .val (.long (q3 &&& (9223372036854775807 : Int64))), .second, .val (.ref b8)] [(.long (q1 &&& (9223372036854775807 : Int64))), (.ref b8)])) rfl (by rw [hml]; rfl) (Steps.refl _) (argsL := [(.long (q1 &&& (9223372036854775807 : Int64)))]) (rest := []) (lenOf pd_2 rfl) rfl (by show 2 * 0 + _ ≤ _; exact Nat.le_of_eq rfl) (hb hby at_62) (fun _ _ => ⟨rfl, e12, (by decide : 1 + 0 ≤ _), (by decide : 3 + 0 ≤ _)⟩)
  dsimp only [Pt.U, Pt.locs, Pt.cells, Pt.slots] at X14 l14 y14 z14 st14 hQ14
  subst l14 y14 z14
  obtain ⟨rfl, Nq14, K14, x14_0, x14_1, x14_2, x14_3⟩ := hQ14
  have N14 := Fr.app N12 Nq14
  have K0_14 : Keep h0 T14.heap [] := K0_11.trans K14 (allS (Or.inr sz_b8) all0)
  have Z14 : n0 ≤ T14.heap.size := Nat.le_trans Z11 K14.1
  obtain ⟨cq15, kq15, q15a, q15b, q15c⟩ := isOf hZ rfl x14_1
  obtain ⟨_, _, ⟨T15, L15, k15, n15⟩, -, X15, ⟨Lc15, hQ15, l15, y15, z15⟩, st15⟩ := X14.virtualBack hx (y := (⟨"com/example/lasting_names/lastingnames/BodyBound", "received", "()J"⟩ : MethodName)) (z := (⟨"com/example/lasting_names/lastingnames/BodyBound", "received", "()J"⟩ : MethodName)) hown (mvT hZ (hw _ (List.mem_of_getElem? (i := 23) rfl))) (mvT hZ (hw _ (List.mem_of_getElem? (i := 24) rfl))) (notFace_of_selects (args := #[]) (mvT hZ (hw _ (List.mem_of_getElem? (i := 26) rfl)))) (mvT hZ (hw _ (List.mem_of_getElem? (i := 26) rfl))) (mvT hZ (hw _ (List.mem_of_getElem? (i := 25) rfl))) (by decide) (backOf (W := 0) (rm5_2 l Z a0 hw [] b8 ((0 : Int64) + (q1 &&& (9223372036854775807 : Int64))) T14.heap n0 Z14 x14_0) hZ (hw _ (List.mem_of_getElem? (i := 27) rfl)) (hw _ (List.mem_of_getElem? (i := 7) rfl)) (by decide) (by decide)) q15a q15c (g := (mkF m 67 #[.val (.long q1), .second, .val (.long q2), .second, .val (.long q3), .second, .val (.long (q1 &&& (9223372036854775807 : Int64))), .second, .val (.long (q1 &&& (9223372036854775807 : Int64))), .second, .val (.long (q3 &&& (9223372036854775807 : Int64))), .second, .val (.ref b8)] [(.ref b8)])) rfl (by rw [hml]; rfl) (Steps.refl _) (argsL := []) (rest := []) (lenOf pd_3 rfl) rfl (by show 2 * 0 + _ ≤ _; exact Nat.le_of_eq rfl) (hb hby at_67) (fun _ _ => ⟨rfl, rfl, (by decide : 1 + 0 ≤ _), (by decide : 3 + 0 ≤ _)⟩)
  dsimp only [Pt.U, Pt.locs, Pt.cells, Pt.slots] at X15 l15 y15 z15 st15 hQ15
  subst l15 y15 z15
  obtain ⟨rfl, Nq15, e15⟩ := hQ15
  have N15 := Fr.app N14 Nq15
  obtain ⟨cq18, kq18, q18a, q18b, q18c⟩ := isOf hZ e15 x14_1
  obtain ⟨_, _, ⟨T18, L18, k18, n18⟩, -, X18, ⟨Lc18, hQ18, l18, y18, z18⟩, st18⟩ := X15.virtualBack hx (y := (⟨"com/example/lasting_names/lastingnames/BodyBound", "count", "(J)V"⟩ : MethodName)) (z := (⟨"com/example/lasting_names/lastingnames/BodyBound", "count", "(J)V"⟩ : MethodName)) hown (mvT hZ (hw _ (List.mem_of_getElem? (i := 30) rfl))) (mvT hZ (hw _ (List.mem_of_getElem? (i := 31) rfl))) (notFace_of_selects (args := #[]) (mvT hZ (hw _ (List.mem_of_getElem? (i := 33) rfl)))) (mvT hZ (hw _ (List.mem_of_getElem? (i := 33) rfl))) (mvT hZ (hw _ (List.mem_of_getElem? (i := 32) rfl))) (by decide) (backOf (W := 0) (rm6_2 l Z a0 hw [] b8 (q3 &&& (9223372036854775807 : Int64)) ((0 : Int64) + (q1 &&& (9223372036854775807 : Int64))) w9 (q1 &&& (9223372036854775807 : Int64)) T14.heap n0 Z14 x14_0 x14_1 x14_2 x14_3 g_b8 P17) hZ (hw _ (List.mem_of_getElem? (i := 34) rfl)) (hw _ (List.mem_of_getElem? (i := 7) rfl)) (by decide) (by decide)) q18a q18c (g := (mkF m 82 #[.val (.long q1), .second, .val (.long q2), .second, .val (.long q3), .second, .val (.long (q1 &&& (9223372036854775807 : Int64))), .second, .val (.long (q1 &&& (9223372036854775807 : Int64))), .second, .val (.long (q3 &&& (9223372036854775807 : Int64))), .second, .val (.ref b8)] [(.long (q3 &&& (9223372036854775807 : Int64))), (.ref b8)])) rfl (by rw [hml]; rfl) (Steps.refl _) (argsL := [(.long (q3 &&& (9223372036854775807 : Int64)))]) (rest := []) (lenOf pd_2 rfl) rfl (by show 2 * 0 + _ ≤ _; exact Nat.le_of_eq rfl) (hb hby at_82) (fun _ _ => ⟨rfl, e15, (by decide : 1 + 0 ≤ _), (by decide : 3 + 0 ≤ _)⟩)
  dsimp only [Pt.U, Pt.locs, Pt.cells, Pt.slots] at X18 l18 y18 z18 st18 hQ18
  subst l18 y18 z18
  obtain ⟨rfl, Nq18, K18, x18_0, x18_1, x18_2, x18_3⟩ := hQ18
  have N18 := Fr.app N15 Nq18
  have K0_18 : Keep h0 T18.heap [] := K0_14.trans K18 (allS (Or.inr sz_b8) all0)
  have Z18 : n0 ≤ T18.heap.size := Nat.le_trans Z14 K18.1
  obtain ⟨cq19, kq19, q19a, q19b, q19c⟩ := isOf hZ rfl x18_1
  obtain ⟨_, _, ⟨T19, L19, k19, n19⟩, -, X19, ⟨Lc19, hQ19, l19, y19, z19⟩, st19⟩ := X18.virtualBack hx (y := (⟨"com/example/lasting_names/lastingnames/BodyBound", "received", "()J"⟩ : MethodName)) (z := (⟨"com/example/lasting_names/lastingnames/BodyBound", "received", "()J"⟩ : MethodName)) hown (mvT hZ (hw _ (List.mem_of_getElem? (i := 23) rfl))) (mvT hZ (hw _ (List.mem_of_getElem? (i := 24) rfl))) (notFace_of_selects (args := #[]) (mvT hZ (hw _ (List.mem_of_getElem? (i := 26) rfl)))) (mvT hZ (hw _ (List.mem_of_getElem? (i := 26) rfl))) (mvT hZ (hw _ (List.mem_of_getElem? (i := 25) rfl))) (by decide) (backOf (W := 0) (rm5_2 l Z a0 hw [] b8 (((0 : Int64) + (q1 &&& (9223372036854775807 : Int64))) + (q3 &&& (9223372036854775807 : Int64))) T18.heap n0 Z18 x18_0) hZ (hw _ (List.mem_of_getElem? (i := 27) rfl)) (hw _ (List.mem_of_getElem? (i := 7) rfl)) (by decide) (by decide)) q19a q19c (g := (mkF m 87 #[.val (.long q1), .second, .val (.long q2), .second, .val (.long q3), .second, .val (.long (q1 &&& (9223372036854775807 : Int64))), .second, .val (.long (q1 &&& (9223372036854775807 : Int64))), .second, .val (.long (q3 &&& (9223372036854775807 : Int64))), .second, .val (.ref b8)] [(.ref b8)])) rfl (by rw [hml]; rfl) (Steps.refl _) (argsL := []) (rest := []) (lenOf pd_3 rfl) rfl (by show 2 * 0 + _ ≤ _; exact Nat.le_of_eq rfl) (hb hby at_87) (fun _ _ => ⟨rfl, rfl, (by decide : 1 + 0 ≤ _), (by decide : 3 + 0 ≤ _)⟩)
  dsimp only [Pt.U, Pt.locs, Pt.cells, Pt.slots] at X19 l19 y19 z19 st19 hQ19
  subst l19 y19 z19
  obtain ⟨rfl, Nq19, e19⟩ := hQ19
  have N19 := Fr.app N18 Nq19
  obtain ⟨fs, hr, hrun, hended, hW, hsame⟩ := X19.leave (v := some (.int (1 : Int32))) (fun h => by rw [Bd.returns] at h; cases h)
  refine ⟨_, _, pre0 _ ?_, hrun, hended, _, _, rfl, ?_, ⟨_, rfl⟩, hW, hsame.mono (by decide) (by decide)⟩
  · show Steps p.tables e below (s₁.setTop (mkF m 0 #[.val (.long q1), .second, .val (.long q2), .second, .val (.long q3), .second, .unset, .unset, .unset, .unset, .unset, .unset, .unset] [])) _
    refine XS.lloadN X0.here hx rfl (hb hby at_0) rfl ?_
    show Steps p.tables e below (s₁.setTop (mkF m 1 #[.val (.long q1), .second, .val (.long q2), .second, .val (.long q3), .second, .unset, .unset, .unset, .unset, .unset, .unset, .unset] [(.long q1)])) _
    refine X0.ldc2Long hx hown (mvT hZ (hw _ (List.mem_of_getElem? (i := 0) rfl))) (g := (mkF m 1 #[.val (.long q1), .second, .val (.long q2), .second, .val (.long q3), .second, .unset, .unset, .unset, .unset, .unset, .unset, .unset] [(.long q1)])) rfl (hb hby at_1) _ ?_
    show Steps p.tables e below (s₁.setTop (mkF m 4 #[.val (.long q1), .second, .val (.long q2), .second, .val (.long q3), .second, .unset, .unset, .unset, .unset, .unset, .unset, .unset] [(.long (9223372036854775807 : Int64)), (.long q1)])) _
    refine XS.land X0.here hx rfl (hb hby at_4) rfl ?_
    show Steps p.tables e below (s₁.setTop (mkF m 5 #[.val (.long q1), .second, .val (.long q2), .second, .val (.long q3), .second, .unset, .unset, .unset, .unset, .unset, .unset, .unset] [(.long (q1 &&& (9223372036854775807 : Int64)))])) _
    refine XS.lstore X0.here hx rfl (hb hby at_5) rfl (l' := #[.val (.long q1), .second, .val (.long q2), .second, .val (.long q3), .second, .val (.long (q1 &&& (9223372036854775807 : Int64))), .second, .unset, .unset, .unset, .unset, .unset]) rfl ?_
    show Steps p.tables e below (s₁.setTop (mkF m 7 #[.val (.long q1), .second, .val (.long q2), .second, .val (.long q3), .second, .val (.long (q1 &&& (9223372036854775807 : Int64))), .second, .unset, .unset, .unset, .unset, .unset] [])) _
    refine XS.lloadN X0.here hx rfl (hb hby at_7) rfl ?_
    show Steps p.tables e below (s₁.setTop (mkF m 8 #[.val (.long q1), .second, .val (.long q2), .second, .val (.long q3), .second, .val (.long (q1 &&& (9223372036854775807 : Int64))), .second, .unset, .unset, .unset, .unset, .unset] [(.long q2)])) _
    refine X0.ldc2Long hx hown (mvT hZ (hw _ (List.mem_of_getElem? (i := 0) rfl))) (g := (mkF m 8 #[.val (.long q1), .second, .val (.long q2), .second, .val (.long q3), .second, .val (.long (q1 &&& (9223372036854775807 : Int64))), .second, .unset, .unset, .unset, .unset, .unset] [(.long q2)])) rfl (hb hby at_8) _ ?_
    show Steps p.tables e below (s₁.setTop (mkF m 11 #[.val (.long q1), .second, .val (.long q2), .second, .val (.long q3), .second, .val (.long (q1 &&& (9223372036854775807 : Int64))), .second, .unset, .unset, .unset, .unset, .unset] [(.long (9223372036854775807 : Int64)), (.long q2)])) _
    refine XS.land X0.here hx rfl (hb hby at_11) rfl ?_
    show Steps p.tables e below (s₁.setTop (mkF m 12 #[.val (.long q1), .second, .val (.long q2), .second, .val (.long q3), .second, .val (.long (q1 &&& (9223372036854775807 : Int64))), .second, .unset, .unset, .unset, .unset, .unset] [(.long (q2 &&& (9223372036854775807 : Int64)))])) _
    refine XS.lload X0.here hx rfl (hb hby at_12) rfl ?_
    show Steps p.tables e below (s₁.setTop (mkF m 14 #[.val (.long q1), .second, .val (.long q2), .second, .val (.long q3), .second, .val (.long (q1 &&& (9223372036854775807 : Int64))), .second, .unset, .unset, .unset, .unset, .unset] [(.long (q1 &&& (9223372036854775807 : Int64))), (.long (q2 &&& (9223372036854775807 : Int64)))])) _
    refine st5 _ ?_
    show Steps p.tables e below (T5.setTop (mkF m 17 #[.val (.long q1), .second, .val (.long q2), .second, .val (.long q3), .second, .val (.long (q1 &&& (9223372036854775807 : Int64))), .second, .unset, .unset, .unset, .unset, .unset] [(.long (q1 &&& (9223372036854775807 : Int64)))])) _
    refine XS.lstore X5.here hx rfl (hb hby at_17) rfl (l' := #[.val (.long q1), .second, .val (.long q2), .second, .val (.long q3), .second, .val (.long (q1 &&& (9223372036854775807 : Int64))), .second, .val (.long (q1 &&& (9223372036854775807 : Int64))), .second, .unset, .unset, .unset]) rfl ?_
    show Steps p.tables e below (T5.setTop (mkF m 19 #[.val (.long q1), .second, .val (.long q2), .second, .val (.long q3), .second, .val (.long (q1 &&& (9223372036854775807 : Int64))), .second, .val (.long (q1 &&& (9223372036854775807 : Int64))), .second, .unset, .unset, .unset] [])) _
    refine XS.lload X5.here hx rfl (hb hby at_19) rfl ?_
    show Steps p.tables e below (T5.setTop (mkF m 21 #[.val (.long q1), .second, .val (.long q2), .second, .val (.long q3), .second, .val (.long (q1 &&& (9223372036854775807 : Int64))), .second, .val (.long (q1 &&& (9223372036854775807 : Int64))), .second, .unset, .unset, .unset] [(.long q3)])) _
    refine X5.ldc2Long hx hown (mvT hZ (hw _ (List.mem_of_getElem? (i := 0) rfl))) (g := (mkF m 21 #[.val (.long q1), .second, .val (.long q2), .second, .val (.long q3), .second, .val (.long (q1 &&& (9223372036854775807 : Int64))), .second, .val (.long (q1 &&& (9223372036854775807 : Int64))), .second, .unset, .unset, .unset] [(.long q3)])) rfl (hb hby at_21) _ ?_
    show Steps p.tables e below (T5.setTop (mkF m 24 #[.val (.long q1), .second, .val (.long q2), .second, .val (.long q3), .second, .val (.long (q1 &&& (9223372036854775807 : Int64))), .second, .val (.long (q1 &&& (9223372036854775807 : Int64))), .second, .unset, .unset, .unset] [(.long (9223372036854775807 : Int64)), (.long q3)])) _
    refine XS.land X5.here hx rfl (hb hby at_24) rfl ?_
    show Steps p.tables e below (T5.setTop (mkF m 25 #[.val (.long q1), .second, .val (.long q2), .second, .val (.long q3), .second, .val (.long (q1 &&& (9223372036854775807 : Int64))), .second, .val (.long (q1 &&& (9223372036854775807 : Int64))), .second, .unset, .unset, .unset] [(.long (q3 &&& (9223372036854775807 : Int64)))])) _
    refine XS.lload X5.here hx rfl (hb hby at_25) rfl ?_
    show Steps p.tables e below (T5.setTop (mkF m 27 #[.val (.long q1), .second, .val (.long q2), .second, .val (.long q3), .second, .val (.long (q1 &&& (9223372036854775807 : Int64))), .second, .val (.long (q1 &&& (9223372036854775807 : Int64))), .second, .unset, .unset, .unset] [(.long (q1 &&& (9223372036854775807 : Int64))), (.long (q3 &&& (9223372036854775807 : Int64)))])) _
    refine XS.lload X5.here hx rfl (hb hby at_27) rfl ?_
    show Steps p.tables e below (T5.setTop (mkF m 29 #[.val (.long q1), .second, .val (.long q2), .second, .val (.long q3), .second, .val (.long (q1 &&& (9223372036854775807 : Int64))), .second, .val (.long (q1 &&& (9223372036854775807 : Int64))), .second, .unset, .unset, .unset] [(.long (q1 &&& (9223372036854775807 : Int64))), (.long (q1 &&& (9223372036854775807 : Int64))), (.long (q3 &&& (9223372036854775807 : Int64)))])) _
    refine XS.lsub X5.here hx rfl (hb hby at_29) rfl ?_
    show Steps p.tables e below (T5.setTop (mkF m 30 #[.val (.long q1), .second, .val (.long q2), .second, .val (.long q3), .second, .val (.long (q1 &&& (9223372036854775807 : Int64))), .second, .val (.long (q1 &&& (9223372036854775807 : Int64))), .second, .unset, .unset, .unset] [(.long ((q1 &&& (9223372036854775807 : Int64)) - (q1 &&& (9223372036854775807 : Int64)))), (.long (q3 &&& (9223372036854775807 : Int64)))])) _
    refine st7 _ ?_
    show Steps p.tables e below (T7.setTop (mkF m 33 #[.val (.long q1), .second, .val (.long q2), .second, .val (.long q3), .second, .val (.long (q1 &&& (9223372036854775807 : Int64))), .second, .val (.long (q1 &&& (9223372036854775807 : Int64))), .second, .unset, .unset, .unset] [(.long (q3 &&& (9223372036854775807 : Int64)))])) _
    refine XS.lstore X7.here hx rfl (hb hby at_33) rfl (l' := #[.val (.long q1), .second, .val (.long q2), .second, .val (.long q3), .second, .val (.long (q1 &&& (9223372036854775807 : Int64))), .second, .val (.long (q1 &&& (9223372036854775807 : Int64))), .second, .val (.long (q3 &&& (9223372036854775807 : Int64))), .second, .unset]) rfl ?_
    show Steps p.tables e below (T7.setTop (mkF m 35 #[.val (.long q1), .second, .val (.long q2), .second, .val (.long q3), .second, .val (.long (q1 &&& (9223372036854775807 : Int64))), .second, .val (.long (q1 &&& (9223372036854775807 : Int64))), .second, .val (.long (q3 &&& (9223372036854775807 : Int64))), .second, .unset] [])) _
    refine st8 _ ?_
    show Steps p.tables e below (T8.setTop (mkF m 38 #[.val (.long q1), .second, .val (.long q2), .second, .val (.long q3), .second, .val (.long (q1 &&& (9223372036854775807 : Int64))), .second, .val (.long (q1 &&& (9223372036854775807 : Int64))), .second, .val (.long (q3 &&& (9223372036854775807 : Int64))), .second, .unset] [(.ref b8)])) _
    refine XS.dup X8.here hx rfl (hb hby at_38) rfl rfl ?_
    show Steps p.tables e below (T8.setTop (mkF m 39 #[.val (.long q1), .second, .val (.long q2), .second, .val (.long q3), .second, .val (.long (q1 &&& (9223372036854775807 : Int64))), .second, .val (.long (q1 &&& (9223372036854775807 : Int64))), .second, .val (.long (q3 &&& (9223372036854775807 : Int64))), .second, .unset] [(.ref b8), (.ref b8)])) _
    refine XS.lload X8.here hx rfl (hb hby at_39) rfl ?_
    show Steps p.tables e below (T8.setTop (mkF m 41 #[.val (.long q1), .second, .val (.long q2), .second, .val (.long q3), .second, .val (.long (q1 &&& (9223372036854775807 : Int64))), .second, .val (.long (q1 &&& (9223372036854775807 : Int64))), .second, .val (.long (q3 &&& (9223372036854775807 : Int64))), .second, .unset] [(.long (q1 &&& (9223372036854775807 : Int64))), (.ref b8), (.ref b8)])) _
    refine st11.trans ?_
    show Steps p.tables e below (T11.setTop (mkF m 44 #[.val (.long q1), .second, .val (.long q2), .second, .val (.long q3), .second, .val (.long (q1 &&& (9223372036854775807 : Int64))), .second, .val (.long (q1 &&& (9223372036854775807 : Int64))), .second, .val (.long (q3 &&& (9223372036854775807 : Int64))), .second, .unset] [(.ref b8)])) _
    refine XS.astore X11.here hx rfl (hb hby at_44) rfl rfl (l' := #[.val (.long q1), .second, .val (.long q2), .second, .val (.long q3), .second, .val (.long (q1 &&& (9223372036854775807 : Int64))), .second, .val (.long (q1 &&& (9223372036854775807 : Int64))), .second, .val (.long (q3 &&& (9223372036854775807 : Int64))), .second, .val (.ref b8)]) rfl ?_
    show Steps p.tables e below (T11.setTop (mkF m 46 #[.val (.long q1), .second, .val (.long q2), .second, .val (.long q3), .second, .val (.long (q1 &&& (9223372036854775807 : Int64))), .second, .val (.long (q1 &&& (9223372036854775807 : Int64))), .second, .val (.long (q3 &&& (9223372036854775807 : Int64))), .second, .val (.ref b8)] [])) _
    refine XS.aload X11.here hx rfl (hb hby at_46) rfl rfl ?_
    show Steps p.tables e below (T11.setTop (mkF m 48 #[.val (.long q1), .second, .val (.long q2), .second, .val (.long q3), .second, .val (.long (q1 &&& (9223372036854775807 : Int64))), .second, .val (.long (q1 &&& (9223372036854775807 : Int64))), .second, .val (.long (q3 &&& (9223372036854775807 : Int64))), .second, .val (.ref b8)] [(.ref b8)])) _
    refine st12.trans ?_
    show Steps p.tables e below (T12.setTop (mkF m 51 #[.val (.long q1), .second, .val (.long q2), .second, .val (.long q3), .second, .val (.long (q1 &&& (9223372036854775807 : Int64))), .second, .val (.long (q1 &&& (9223372036854775807 : Int64))), .second, .val (.long (q3 &&& (9223372036854775807 : Int64))), .second, .val (.ref b8)] [(.long (0 : Int64))])) _
    refine XS.lconst X12.here hx rfl (hb hby at_51) ?_
    show Steps p.tables e below (T12.setTop (mkF m 52 #[.val (.long q1), .second, .val (.long q2), .second, .val (.long q3), .second, .val (.long (q1 &&& (9223372036854775807 : Int64))), .second, .val (.long (q1 &&& (9223372036854775807 : Int64))), .second, .val (.long (q3 &&& (9223372036854775807 : Int64))), .second, .val (.ref b8)] [(.long (0 : Int64)), (.long (0 : Int64))])) _
    refine XS.lcmp X12.here hx rfl (hb hby at_52) rfl ?_
    show Steps p.tables e below (T12.setTop (mkF m 53 #[.val (.long q1), .second, .val (.long q2), .second, .val (.long q3), .second, .val (.long (q1 &&& (9223372036854775807 : Int64))), .second, .val (.long (q1 &&& (9223372036854775807 : Int64))), .second, .val (.long (q3 &&& (9223372036854775807 : Int64))), .second, .val (.ref b8)] [(.int (lcmpW (0 : Int64) (0 : Int64)))])) _
    refine XS.ifYes X12.here hx rfl (pc0 := 53) (pc' := 58) rfl (hb hby at_53) rfl ((if0 _ _).trans (teq (by decide : (lcmpW (0 : Int64) (0 : Int64)) = (0 : Int32))).1) (by decide) (by decide) ?_
    show Steps p.tables e below (T12.setTop (mkF m 58 #[.val (.long q1), .second, .val (.long q2), .second, .val (.long q3), .second, .val (.long (q1 &&& (9223372036854775807 : Int64))), .second, .val (.long (q1 &&& (9223372036854775807 : Int64))), .second, .val (.long (q3 &&& (9223372036854775807 : Int64))), .second, .val (.ref b8)] [])) _
    refine XS.aload X12.here hx rfl (hb hby at_58) rfl rfl ?_
    show Steps p.tables e below (T12.setTop (mkF m 60 #[.val (.long q1), .second, .val (.long q2), .second, .val (.long q3), .second, .val (.long (q1 &&& (9223372036854775807 : Int64))), .second, .val (.long (q1 &&& (9223372036854775807 : Int64))), .second, .val (.long (q3 &&& (9223372036854775807 : Int64))), .second, .val (.ref b8)] [(.ref b8)])) _
    refine XS.lload X12.here hx rfl (hb hby at_60) rfl ?_
    show Steps p.tables e below (T12.setTop (mkF m 62 #[.val (.long q1), .second, .val (.long q2), .second, .val (.long q3), .second, .val (.long (q1 &&& (9223372036854775807 : Int64))), .second, .val (.long (q1 &&& (9223372036854775807 : Int64))), .second, .val (.long (q3 &&& (9223372036854775807 : Int64))), .second, .val (.ref b8)] [(.long (q1 &&& (9223372036854775807 : Int64))), (.ref b8)])) _
    refine st14.trans ?_
    show Steps p.tables e below (T14.setTop (mkF m 65 #[.val (.long q1), .second, .val (.long q2), .second, .val (.long q3), .second, .val (.long (q1 &&& (9223372036854775807 : Int64))), .second, .val (.long (q1 &&& (9223372036854775807 : Int64))), .second, .val (.long (q3 &&& (9223372036854775807 : Int64))), .second, .val (.ref b8)] [])) _
    refine XS.aload X14.here hx rfl (hb hby at_65) rfl rfl ?_
    show Steps p.tables e below (T14.setTop (mkF m 67 #[.val (.long q1), .second, .val (.long q2), .second, .val (.long q3), .second, .val (.long (q1 &&& (9223372036854775807 : Int64))), .second, .val (.long (q1 &&& (9223372036854775807 : Int64))), .second, .val (.long (q3 &&& (9223372036854775807 : Int64))), .second, .val (.ref b8)] [(.ref b8)])) _
    refine st15.trans ?_
    show Steps p.tables e below (T15.setTop (mkF m 70 #[.val (.long q1), .second, .val (.long q2), .second, .val (.long q3), .second, .val (.long (q1 &&& (9223372036854775807 : Int64))), .second, .val (.long (q1 &&& (9223372036854775807 : Int64))), .second, .val (.long (q3 &&& (9223372036854775807 : Int64))), .second, .val (.ref b8)] [(.long ((0 : Int64) + (q1 &&& (9223372036854775807 : Int64))))])) _
    refine XS.lload X15.here hx rfl (hb hby at_70) rfl ?_
    show Steps p.tables e below (T15.setTop (mkF m 72 #[.val (.long q1), .second, .val (.long q2), .second, .val (.long q3), .second, .val (.long (q1 &&& (9223372036854775807 : Int64))), .second, .val (.long (q1 &&& (9223372036854775807 : Int64))), .second, .val (.long (q3 &&& (9223372036854775807 : Int64))), .second, .val (.ref b8)] [(.long (q1 &&& (9223372036854775807 : Int64))), (.long ((0 : Int64) + (q1 &&& (9223372036854775807 : Int64))))])) _
    refine XS.lcmp X15.here hx rfl (hb hby at_72) rfl ?_
    show Steps p.tables e below (T15.setTop (mkF m 73 #[.val (.long q1), .second, .val (.long q2), .second, .val (.long q3), .second, .val (.long (q1 &&& (9223372036854775807 : Int64))), .second, .val (.long (q1 &&& (9223372036854775807 : Int64))), .second, .val (.long (q3 &&& (9223372036854775807 : Int64))), .second, .val (.ref b8)] [(.int (lcmpW ((0 : Int64) + (q1 &&& (9223372036854775807 : Int64))) (q1 &&& (9223372036854775807 : Int64))))])) _
    refine XS.ifYes X15.here hx rfl (pc0 := 73) (pc' := 78) rfl (hb hby at_73) rfl ((if0 _ _).trans (teq P16).1) (by decide) (by decide) ?_
    show Steps p.tables e below (T15.setTop (mkF m 78 #[.val (.long q1), .second, .val (.long q2), .second, .val (.long q3), .second, .val (.long (q1 &&& (9223372036854775807 : Int64))), .second, .val (.long (q1 &&& (9223372036854775807 : Int64))), .second, .val (.long (q3 &&& (9223372036854775807 : Int64))), .second, .val (.ref b8)] [])) _
    refine XS.aload X15.here hx rfl (hb hby at_78) rfl rfl ?_
    show Steps p.tables e below (T15.setTop (mkF m 80 #[.val (.long q1), .second, .val (.long q2), .second, .val (.long q3), .second, .val (.long (q1 &&& (9223372036854775807 : Int64))), .second, .val (.long (q1 &&& (9223372036854775807 : Int64))), .second, .val (.long (q3 &&& (9223372036854775807 : Int64))), .second, .val (.ref b8)] [(.ref b8)])) _
    refine XS.lload X15.here hx rfl (hb hby at_80) rfl ?_
    show Steps p.tables e below (T15.setTop (mkF m 82 #[.val (.long q1), .second, .val (.long q2), .second, .val (.long q3), .second, .val (.long (q1 &&& (9223372036854775807 : Int64))), .second, .val (.long (q1 &&& (9223372036854775807 : Int64))), .second, .val (.long (q3 &&& (9223372036854775807 : Int64))), .second, .val (.ref b8)] [(.long (q3 &&& (9223372036854775807 : Int64))), (.ref b8)])) _
    refine st18.trans ?_
    show Steps p.tables e below (T18.setTop (mkF m 85 #[.val (.long q1), .second, .val (.long q2), .second, .val (.long q3), .second, .val (.long (q1 &&& (9223372036854775807 : Int64))), .second, .val (.long (q1 &&& (9223372036854775807 : Int64))), .second, .val (.long (q3 &&& (9223372036854775807 : Int64))), .second, .val (.ref b8)] [])) _
    refine XS.aload X18.here hx rfl (hb hby at_85) rfl rfl ?_
    show Steps p.tables e below (T18.setTop (mkF m 87 #[.val (.long q1), .second, .val (.long q2), .second, .val (.long q3), .second, .val (.long (q1 &&& (9223372036854775807 : Int64))), .second, .val (.long (q1 &&& (9223372036854775807 : Int64))), .second, .val (.long (q3 &&& (9223372036854775807 : Int64))), .second, .val (.ref b8)] [(.ref b8)])) _
    refine st19.trans ?_
    show Steps p.tables e below (T19.setTop (mkF m 90 #[.val (.long q1), .second, .val (.long q2), .second, .val (.long q3), .second, .val (.long (q1 &&& (9223372036854775807 : Int64))), .second, .val (.long (q1 &&& (9223372036854775807 : Int64))), .second, .val (.long (q3 &&& (9223372036854775807 : Int64))), .second, .val (.ref b8)] [(.long (((0 : Int64) + (q1 &&& (9223372036854775807 : Int64))) + (q3 &&& (9223372036854775807 : Int64))))])) _
    refine XS.lload X19.here hx rfl (hb hby at_90) rfl ?_
    show Steps p.tables e below (T19.setTop (mkF m 92 #[.val (.long q1), .second, .val (.long q2), .second, .val (.long q3), .second, .val (.long (q1 &&& (9223372036854775807 : Int64))), .second, .val (.long (q1 &&& (9223372036854775807 : Int64))), .second, .val (.long (q3 &&& (9223372036854775807 : Int64))), .second, .val (.ref b8)] [(.long (q1 &&& (9223372036854775807 : Int64))), (.long (((0 : Int64) + (q1 &&& (9223372036854775807 : Int64))) + (q3 &&& (9223372036854775807 : Int64))))])) _
    refine XS.lload X19.here hx rfl (hb hby at_92) rfl ?_
    show Steps p.tables e below (T19.setTop (mkF m 94 #[.val (.long q1), .second, .val (.long q2), .second, .val (.long q3), .second, .val (.long (q1 &&& (9223372036854775807 : Int64))), .second, .val (.long (q1 &&& (9223372036854775807 : Int64))), .second, .val (.long (q3 &&& (9223372036854775807 : Int64))), .second, .val (.ref b8)] [(.long (q3 &&& (9223372036854775807 : Int64))), (.long (q1 &&& (9223372036854775807 : Int64))), (.long (((0 : Int64) + (q1 &&& (9223372036854775807 : Int64))) + (q3 &&& (9223372036854775807 : Int64))))])) _
    refine XS.ladd X19.here hx rfl (hb hby at_94) rfl ?_
    show Steps p.tables e below (T19.setTop (mkF m 95 #[.val (.long q1), .second, .val (.long q2), .second, .val (.long q3), .second, .val (.long (q1 &&& (9223372036854775807 : Int64))), .second, .val (.long (q1 &&& (9223372036854775807 : Int64))), .second, .val (.long (q3 &&& (9223372036854775807 : Int64))), .second, .val (.ref b8)] [(.long ((q1 &&& (9223372036854775807 : Int64)) + (q3 &&& (9223372036854775807 : Int64)))), (.long (((0 : Int64) + (q1 &&& (9223372036854775807 : Int64))) + (q3 &&& (9223372036854775807 : Int64))))])) _
    refine XS.lcmp X19.here hx rfl (hb hby at_95) rfl ?_
    show Steps p.tables e below (T19.setTop (mkF m 96 #[.val (.long q1), .second, .val (.long q2), .second, .val (.long q3), .second, .val (.long (q1 &&& (9223372036854775807 : Int64))), .second, .val (.long (q1 &&& (9223372036854775807 : Int64))), .second, .val (.long (q3 &&& (9223372036854775807 : Int64))), .second, .val (.ref b8)] [(.int (lcmpW (((0 : Int64) + (q1 &&& (9223372036854775807 : Int64))) + (q3 &&& (9223372036854775807 : Int64))) ((q1 &&& (9223372036854775807 : Int64)) + (q3 &&& (9223372036854775807 : Int64)))))])) _
    refine XS.ifNo X19.here hx rfl (hb hby at_96) rfl ((if0 _ _).trans (teq P20).2) ?_
    show Steps p.tables e below (T19.setTop (mkF m 99 #[.val (.long q1), .second, .val (.long q2), .second, .val (.long q3), .second, .val (.long (q1 &&& (9223372036854775807 : Int64))), .second, .val (.long (q1 &&& (9223372036854775807 : Int64))), .second, .val (.long (q3 &&& (9223372036854775807 : Int64))), .second, .val (.ref b8)] [])) _
    refine XS.iconst X19.here hx rfl (hb hby at_99) ?_
    show Steps p.tables e below (T19.setTop (mkF m 100 #[.val (.long q1), .second, .val (.long q2), .second, .val (.long q3), .second, .val (.long (q1 &&& (9223372036854775807 : Int64))), .second, .val (.long (q1 &&& (9223372036854775807 : Int64))), .second, .val (.long (q3 &&& (9223372036854775807 : Int64))), .second, .val (.ref b8)] [(.int (1 : Int32))])) _
    refine XS.goto X19.here hx rfl (pc0 := 100) (pc' := 104) rfl (hb hby at_100) (by decide) (by decide) ?_
    show Steps p.tables e below (T19.setTop (mkF m 104 #[.val (.long q1), .second, .val (.long q2), .second, .val (.long q3), .second, .val (.long (q1 &&& (9223372036854775807 : Int64))), .second, .val (.long (q1 &&& (9223372036854775807 : Int64))), .second, .val (.long (q3 &&& (9223372036854775807 : Int64))), .second, .val (.ref b8)] [(.int (1 : Int32))])) _
    exact retN X19 hx (t := .boolean) Bd.returns (by simp) (hb hby at_104) hr
  · exact ⟨rfl, N19⟩
set_option maxRecDepth 65536 in
set_option maxHeartbeats 40000000 in
theorem rm0_4 (l : Launch) (Z : State) (a0 : Array Value) (hw : ∀ d ∈ tables_1, d.before a0 Z = true) (ws : List Jvm.Cond) (q1 : Int64) (q2 : Int64) (q3 : Int64) (w9 : Addr) (h0 : Heap) (n0 : Nat) (Z0 : n0 ≤ h0.size) (P4 : (0 : Int32) < (lcmpW (q2 &&& (9223372036854775807 : Int64)) (q1 &&& (9223372036854775807 : Int64)))) (P6 : (0 : Int32) < (lcmpW (q3 &&& (9223372036854775807 : Int64)) ((q1 &&& (9223372036854775807 : Int64)) - (q1 &&& (9223372036854775807 : Int64))))) (S_EMPTY : Sta Z h0 "java/util/OptionalLong" "EMPTY" "Ljava/util/OptionalLong;" (.ref w9)) (P13 : ¬ ((0 : Int32) < (lcmpW ((0 : Int64) + (q1 &&& (9223372036854775807 : Int64))) (q1 &&& (9223372036854775807 : Int64))))) (P16 : (lcmpW ((0 : Int64) + (q1 &&& (9223372036854775807 : Int64))) (q1 &&& (9223372036854775807 : Int64))) = (0 : Int32)) (P17 : ¬ ((0 : Int32) < (lcmpW (((0 : Int64) + (q1 &&& (9223372036854775807 : Int64))) + ((q1 &&& (9223372036854775807 : Int64)) - (q1 &&& (9223372036854775807 : Int64)))) (q1 &&& (9223372036854775807 : Int64))))) (P20 : (lcmpW (((0 : Int64) + (q1 &&& (9223372036854775807 : Int64))) + ((q1 &&& (9223372036854775807 : Int64)) - (q1 &&& (9223372036854775807 : Int64)))) ((q1 &&& (9223372036854775807 : Int64)) + ((q1 &&& (9223372036854775807 : Int64)) - (q1 &&& (9223372036854775807 : Int64))))) = (0 : Int32)) :
    MetFree l x (head1 (Jvm.Cond.code x code maxLocals ret :: ws) room_1) (fun a U => a = #[(.long q1), (.long q2), (.long q3)] ∧ Z.Warmed39 U.vm ∧ U.heap = h0) (fun _ _ _ _ _ => True) (fun _ U o U' => ∃ v L, o = .returned v ∧ own_QT n0 v L ∧ FrameEnd U o U' L room_1.cells room_1.slots) := by
  refine MetFree.of_bodySF (plainFor_of_name pn_0) hisR ?_
  intro p e s m args below meth c s₁ Bd hml0 hP hK
  obtain ⟨rfl, hZ, hh⟩ := hP
  have hx := Bd.exec
  have hby := Bd.bytes
  have hml : c.maxLocals = 13 := hml0
  have hown : s.vm.findClass "com/example/lasting_names/lastingnames/BodyBoundCountPinLaw" = some m.cls := findClass_of_methodNamed Bd.named
  have hnm := (name_of_methodNamed Bd.named Bd.method).1
  have X0 : Stand p l e room_1 s m #[(.long q1), (.long q2), (.long q3)] below meth c s₁ [] 0 0 := Stand.of_body Bd
  have e0 : s₁.heap = h0 := by rw [← hh, Bd.state]; rfl
  have N0 := Fr.nil n0
  have pre0 : ∀ t, Steps p.tables e below (s₁.setTop (mkF m 0 #[.val (.long q1), .second, .val (.long q2), .second, .val (.long q3), .second, .unset, .unset, .unset, .unset, .unset, .unset, .unset] [])) t → Steps p.tables e below (s₁.setTop (entryFrame m #[(.long q1), (.long q2), (.long q3)] maxLocals)) t := fun t k => castTop (ef_0_JJJ m q1 q2 q3) k
  obtain ⟨_, _, ⟨T5, L5, k5, n5⟩, -, X5, ⟨Lc5, hQ5, l5, y5, z5⟩, st5⟩ := Jvm.LawKit.callS X0 hx (y := (⟨"java/lang/Math", "min", "(JJ)J"⟩ : MethodName)) hown (mvT hZ (hw _ (List.mem_of_getElem? (i := 1) rfl))) (mvT hZ (hw _ (List.mem_of_getElem? (i := 2) rfl))) (mvT hZ (hw _ (List.mem_of_getElem? (i := 3) rfl))) (mvT hZ (hw _ (List.mem_of_getElem? (i := 4) rfl))) (by decide) (backOf (W := 0) (rm1_2 l Z a0 hw [] (q2 &&& (9223372036854775807 : Int64)) (q1 &&& (9223372036854775807 : Int64)) h0 n0 Z0 P4) hZ (hw _ (List.mem_of_getElem? (i := 4) rfl)) (hw _ (List.mem_of_getElem? (i := 3) rfl)) (by decide) (by decide)) (g := (mkF m 14 #[.val (.long q1), .second, .val (.long q2), .second, .val (.long q3), .second, .val (.long (q1 &&& (9223372036854775807 : Int64))), .second, .unset, .unset, .unset, .unset, .unset] [(.long (q1 &&& (9223372036854775807 : Int64))), (.long (q2 &&& (9223372036854775807 : Int64)))])) rfl (by rw [hml]; rfl) (argsL := [(.long (q2 &&& (9223372036854775807 : Int64))), (.long (q1 &&& (9223372036854775807 : Int64)))]) (rest := []) (lenOf pd_0 rfl) rfl (by show 2 * 0 + _ ≤ _; exact Nat.le_of_eq rfl) (hb hby at_14) (fun _ _ => ⟨rfl, e0, (by decide : 0 + 0 ≤ _), (by decide : 0 + 0 ≤ _)⟩)
  dsimp only [Pt.U, Pt.locs, Pt.cells, Pt.slots] at X5 l5 y5 z5 st5 hQ5
  subst l5 y5 z5
  obtain ⟨rfl, Nq5, e5⟩ := hQ5
  have N5 := Fr.app N0 Nq5
  obtain ⟨_, _, ⟨T7, L7, k7, n7⟩, -, X7, ⟨Lc7, hQ7, l7, y7, z7⟩, st7⟩ := Jvm.LawKit.callS X5 hx (y := (⟨"java/lang/Math", "min", "(JJ)J"⟩ : MethodName)) hown (mvT hZ (hw _ (List.mem_of_getElem? (i := 1) rfl))) (mvT hZ (hw _ (List.mem_of_getElem? (i := 2) rfl))) (mvT hZ (hw _ (List.mem_of_getElem? (i := 3) rfl))) (mvT hZ (hw _ (List.mem_of_getElem? (i := 4) rfl))) (by decide) (backOf (W := 0) (rm1_2 l Z a0 hw [] (q3 &&& (9223372036854775807 : Int64)) ((q1 &&& (9223372036854775807 : Int64)) - (q1 &&& (9223372036854775807 : Int64))) h0 n0 Z0 P6) hZ (hw _ (List.mem_of_getElem? (i := 4) rfl)) (hw _ (List.mem_of_getElem? (i := 3) rfl)) (by decide) (by decide)) (g := (mkF m 30 #[.val (.long q1), .second, .val (.long q2), .second, .val (.long q3), .second, .val (.long (q1 &&& (9223372036854775807 : Int64))), .second, .val (.long (q1 &&& (9223372036854775807 : Int64))), .second, .unset, .unset, .unset] [(.long ((q1 &&& (9223372036854775807 : Int64)) - (q1 &&& (9223372036854775807 : Int64)))), (.long (q3 &&& (9223372036854775807 : Int64)))])) rfl (by rw [hml]; rfl) (argsL := [(.long (q3 &&& (9223372036854775807 : Int64))), (.long ((q1 &&& (9223372036854775807 : Int64)) - (q1 &&& (9223372036854775807 : Int64))))]) (rest := []) (lenOf pd_0 rfl) rfl (by show 2 * 0 + _ ≤ _; exact Nat.le_of_eq rfl) (hb hby at_30) (fun _ _ => ⟨rfl, e5, (by decide : 0 + 0 ≤ _), (by decide : 0 + 0 ≤ _)⟩)
  dsimp only [Pt.U, Pt.locs, Pt.cells, Pt.slots] at X7 l7 y7 z7 st7 hQ7
  subst l7 y7 z7
  obtain ⟨rfl, Nq7, e7⟩ := hQ7
  have N7 := Fr.app N5 Nq7
  obtain ⟨T8, h8, X8, e8, E8, A8, D8, -, st8⟩ := newO X7 hx hZ hown (hw _ (List.mem_of_getElem? (i := 5) rfl)) (hw _ (List.mem_of_getElem? (i := 6) rfl)) (hw _ (List.mem_of_getElem? (i := 7) rfl)) e7 (g := (mkF m 35 #[.val (.long q1), .second, .val (.long q2), .second, .val (.long q3), .second, .val (.long (q1 &&& (9223372036854775807 : Int64))), .second, .val (.long (q1 &&& (9223372036854775807 : Int64))), .second, .val (.long ((q1 &&& (9223372036854775807 : Int64)) - (q1 &&& (9223372036854775807 : Int64)))), .second, .unset] [])) rfl (hb hby at_35) (by decide) (by decide)
  obtain ⟨b8, g8⟩ : ∃ z, z = h0.size := ⟨_, rfl⟩
  rw [← g8] at A8 D8 st8
  have sz_b8 : h0.size ≤ b8 := Nat.le_trans (Keep.refl h0 []).1 (Nat.le_of_eq g8.symm)
  have g_b8 : n0 ≤ b8 := Nat.le_trans Z0 sz_b8
  have K0_8 : Keep h0 h8 [] := (Keep.refl h0 []).ext E8
  have Z8 : n0 ≤ h8.size := Nat.le_trans Z0 E8.1
  have F_announced_b8 : Fld Z h8 b8 "com/example/lasting_names/lastingnames/BodyBound" "announced" "Ljava/util/OptionalLong;" .null := D8 (Or.inl (hw _ (List.mem_of_getElem? (i := 20) rfl))) (ty := (.object "java/util/OptionalLong")) (by decide)
  have F_maxBytes_b8 : Fld Z h8 b8 "com/example/lasting_names/lastingnames/BodyBound" "maxBytes" "J" (.long (0 : Int64)) := D8 (Or.inr (hw _ (List.mem_of_getElem? (i := 22) rfl))) (ty := .long) (by decide)
  have F_received_b8 : Fld Z h8 b8 "com/example/lasting_names/lastingnames/BodyBound" "received" "J" (.long (0 : Int64)) := D8 (Or.inl (hw _ (List.mem_of_getElem? (i := 29) rfl))) (ty := .long) (by decide)
  have f10 := (S_EMPTY.ext E8)
  obtain ⟨_, _, ⟨T11, L11, k11, n11⟩, -, X11, ⟨Lc11, hQ11, l11, y11, z11⟩, st11⟩ := X8.specialBack hx (y := (⟨"com/example/lasting_names/lastingnames/BodyBound", "<init>", "(J)V"⟩ : MethodName)) rfl hown (mvT hZ (hw _ (List.mem_of_getElem? (i := 8) rfl))) (mvT hZ (hw _ (List.mem_of_getElem? (i := 9) rfl))) (mvT hZ (hw _ (List.mem_of_getElem? (i := 10) rfl))) (by decide) (backOf (W := 1) (rm2_1 l Z a0 hw [] b8 (q1 &&& (9223372036854775807 : Int64)) w9 h8 n0 Z8 f10 A8 F_announced_b8 F_maxBytes_b8 F_received_b8 g_b8) hZ (hw _ (List.mem_of_getElem? (i := 10) rfl)) (hw _ (List.mem_of_getElem? (i := 7) rfl)) (by decide) (by decide)) (g := (mkF m 41 #[.val (.long q1), .second, .val (.long q2), .second, .val (.long q3), .second, .val (.long (q1 &&& (9223372036854775807 : Int64))), .second, .val (.long (q1 &&& (9223372036854775807 : Int64))), .second, .val (.long ((q1 &&& (9223372036854775807 : Int64)) - (q1 &&& (9223372036854775807 : Int64)))), .second, .unset] [(.long (q1 &&& (9223372036854775807 : Int64))), (.ref b8), (.ref b8)])) rfl (by rw [hml]; rfl) (Steps.refl _) (a := b8) (argsL := [(.long (q1 &&& (9223372036854775807 : Int64)))]) (rest := [(.ref b8)]) (lenOf pd_2 rfl) rfl (by show 2 * 0 + _ ≤ _; exact Nat.le_of_eq rfl) (hb hby at_41) (fun _ _ => ⟨rfl, e8, (by decide : 1 + 0 ≤ _), (by decide : 3 + 0 ≤ _)⟩)
  dsimp only [Pt.U, Pt.locs, Pt.cells, Pt.slots] at X11 l11 y11 z11 st11 hQ11
  subst l11 y11 z11
  obtain ⟨rfl, Nq11, K11, x11_0, x11_1, x11_2, x11_3⟩ := hQ11
  have N11 := Fr.app N7 Nq11
  have K0_11 : Keep h0 T11.heap [] := K0_8.trans K11 (allS (Or.inr sz_b8) all0)
  have Z11 : n0 ≤ T11.heap.size := Nat.le_trans Z8 K11.1
  obtain ⟨cq12, kq12, q12a, q12b, q12c⟩ := isOf hZ rfl x11_0
  obtain ⟨_, _, ⟨T12, L12, k12, n12⟩, -, X12, ⟨Lc12, hQ12, l12, y12, z12⟩, st12⟩ := X11.virtualBack hx (y := (⟨"com/example/lasting_names/lastingnames/BodyBound", "received", "()J"⟩ : MethodName)) (z := (⟨"com/example/lasting_names/lastingnames/BodyBound", "received", "()J"⟩ : MethodName)) hown (mvT hZ (hw _ (List.mem_of_getElem? (i := 23) rfl))) (mvT hZ (hw _ (List.mem_of_getElem? (i := 24) rfl))) (notFace_of_selects (args := #[]) (mvT hZ (hw _ (List.mem_of_getElem? (i := 26) rfl)))) (mvT hZ (hw _ (List.mem_of_getElem? (i := 26) rfl))) (mvT hZ (hw _ (List.mem_of_getElem? (i := 25) rfl))) (by decide) (backOf (W := 0) (rm5_1 l Z a0 hw [] b8 T11.heap n0 Z11 x11_3) hZ (hw _ (List.mem_of_getElem? (i := 27) rfl)) (hw _ (List.mem_of_getElem? (i := 7) rfl)) (by decide) (by decide)) q12a q12c (g := (mkF m 48 #[.val (.long q1), .second, .val (.long q2), .second, .val (.long q3), .second, .val (.long (q1 &&& (9223372036854775807 : Int64))), .second, .val (.long (q1 &&& (9223372036854775807 : Int64))), .second, .val (.long ((q1 &&& (9223372036854775807 : Int64)) - (q1 &&& (9223372036854775807 : Int64)))), .second, .val (.ref b8)] [(.ref b8)])) rfl (by rw [hml]; rfl) (Steps.refl _) (argsL := []) (rest := []) (lenOf pd_3 rfl) rfl (by show 2 * 0 + _ ≤ _; exact Nat.le_of_eq rfl) (hb hby at_48) (fun _ _ => ⟨rfl, rfl, (by decide : 1 + 0 ≤ _), (by decide : 3 + 0 ≤ _)⟩)
  dsimp only [Pt.U, Pt.locs, Pt.cells, Pt.slots] at X12 l12 y12 z12 st12 hQ12
  subst l12 y12 z12
  obtain ⟨rfl, Nq12, e12⟩ := hQ12
  have N12 := Fr.app N11 Nq12
  obtain ⟨cq14, kq14, q14a, q14b, q14c⟩ := isOf hZ e12 x11_0
  obtain ⟨_, _, ⟨T14, L14, k14, n14⟩, -, X14, ⟨Lc14, hQ14, l14, y14, z14⟩, st14⟩ := X12.virtualBack hx (y := (⟨"com/example/lasting_names/lastingnames/BodyBound", "count", "(J)V"⟩ : MethodName)) (z := (⟨"com/example/lasting_names/lastingnames/BodyBound", "count", "(J)V"⟩ : MethodName)) hown (mvT hZ (hw _ (List.mem_of_getElem? (i := 30) rfl))) (mvT hZ (hw _ (List.mem_of_getElem? (i := 31) rfl))) (notFace_of_selects (args := #[]) (mvT hZ (hw _ (List.mem_of_getElem? (i := 33) rfl)))) (mvT hZ (hw _ (List.mem_of_getElem? (i := 33) rfl))) (mvT hZ (hw _ (List.mem_of_getElem? (i := 32) rfl))) (by decide) (backOf (W := 0) (rm6_1 l Z a0 hw [] b8 (q1 &&& (9223372036854775807 : Int64)) w9 (q1 &&& (9223372036854775807 : Int64)) T11.heap n0 Z11 x11_3 x11_0 x11_1 x11_2 g_b8 P13) hZ (hw _ (List.mem_of_getElem? (i := 34) rfl)) (hw _ (List.mem_of_getElem? (i := 7) rfl)) (by decide) (by decide)) q14a q14c (g := (mkF m 62 #[.val (.long q1), .second, .val (.long q2), .second, .val (.long q3), .second, .val (.long (q1 &&& (9223372036854775807 : Int64))), .second, .val (.long (q1 &&& (9223372036854775807 : Int64))), .second, .val (.long ((q1 &&& (9223372036854775807 : Int64)) - (q1 &&& (9223372036854775807 : Int64)))), .second, .val (.ref b8)] [(.long (q1 &&& (9223372036854775807 : Int64))), (.ref b8)])) rfl (by rw [hml]; rfl) (Steps.refl _) (argsL := [(.long (q1 &&& (9223372036854775807 : Int64)))]) (rest := []) (lenOf pd_2 rfl) rfl (by show 2 * 0 + _ ≤ _; exact Nat.le_of_eq rfl) (hb hby at_62) (fun _ _ => ⟨rfl, e12, (by decide : 1 + 0 ≤ _), (by decide : 3 + 0 ≤ _)⟩)
  dsimp only [Pt.U, Pt.locs, Pt.cells, Pt.slots] at X14 l14 y14 z14 st14 hQ14
  subst l14 y14 z14
  obtain ⟨rfl, Nq14, K14, x14_0, x14_1, x14_2, x14_3⟩ := hQ14
  have N14 := Fr.app N12 Nq14
  have K0_14 : Keep h0 T14.heap [] := K0_11.trans K14 (allS (Or.inr sz_b8) all0)
  have Z14 : n0 ≤ T14.heap.size := Nat.le_trans Z11 K14.1
  obtain ⟨cq15, kq15, q15a, q15b, q15c⟩ := isOf hZ rfl x14_1
  obtain ⟨_, _, ⟨T15, L15, k15, n15⟩, -, X15, ⟨Lc15, hQ15, l15, y15, z15⟩, st15⟩ := X14.virtualBack hx (y := (⟨"com/example/lasting_names/lastingnames/BodyBound", "received", "()J"⟩ : MethodName)) (z := (⟨"com/example/lasting_names/lastingnames/BodyBound", "received", "()J"⟩ : MethodName)) hown (mvT hZ (hw _ (List.mem_of_getElem? (i := 23) rfl))) (mvT hZ (hw _ (List.mem_of_getElem? (i := 24) rfl))) (notFace_of_selects (args := #[]) (mvT hZ (hw _ (List.mem_of_getElem? (i := 26) rfl)))) (mvT hZ (hw _ (List.mem_of_getElem? (i := 26) rfl))) (mvT hZ (hw _ (List.mem_of_getElem? (i := 25) rfl))) (by decide) (backOf (W := 0) (rm5_2 l Z a0 hw [] b8 ((0 : Int64) + (q1 &&& (9223372036854775807 : Int64))) T14.heap n0 Z14 x14_0) hZ (hw _ (List.mem_of_getElem? (i := 27) rfl)) (hw _ (List.mem_of_getElem? (i := 7) rfl)) (by decide) (by decide)) q15a q15c (g := (mkF m 67 #[.val (.long q1), .second, .val (.long q2), .second, .val (.long q3), .second, .val (.long (q1 &&& (9223372036854775807 : Int64))), .second, .val (.long (q1 &&& (9223372036854775807 : Int64))), .second, .val (.long ((q1 &&& (9223372036854775807 : Int64)) - (q1 &&& (9223372036854775807 : Int64)))), .second, .val (.ref b8)] [(.ref b8)])) rfl (by rw [hml]; rfl) (Steps.refl _) (argsL := []) (rest := []) (lenOf pd_3 rfl) rfl (by show 2 * 0 + _ ≤ _; exact Nat.le_of_eq rfl) (hb hby at_67) (fun _ _ => ⟨rfl, rfl, (by decide : 1 + 0 ≤ _), (by decide : 3 + 0 ≤ _)⟩)
  dsimp only [Pt.U, Pt.locs, Pt.cells, Pt.slots] at X15 l15 y15 z15 st15 hQ15
  subst l15 y15 z15
  obtain ⟨rfl, Nq15, e15⟩ := hQ15
  have N15 := Fr.app N14 Nq15
  obtain ⟨cq18, kq18, q18a, q18b, q18c⟩ := isOf hZ e15 x14_1
  obtain ⟨_, _, ⟨T18, L18, k18, n18⟩, -, X18, ⟨Lc18, hQ18, l18, y18, z18⟩, st18⟩ := X15.virtualBack hx (y := (⟨"com/example/lasting_names/lastingnames/BodyBound", "count", "(J)V"⟩ : MethodName)) (z := (⟨"com/example/lasting_names/lastingnames/BodyBound", "count", "(J)V"⟩ : MethodName)) hown (mvT hZ (hw _ (List.mem_of_getElem? (i := 30) rfl))) (mvT hZ (hw _ (List.mem_of_getElem? (i := 31) rfl))) (notFace_of_selects (args := #[]) (mvT hZ (hw _ (List.mem_of_getElem? (i := 33) rfl)))) (mvT hZ (hw _ (List.mem_of_getElem? (i := 33) rfl))) (mvT hZ (hw _ (List.mem_of_getElem? (i := 32) rfl))) (by decide) (backOf (W := 0) (rm6_2 l Z a0 hw [] b8 ((q1 &&& (9223372036854775807 : Int64)) - (q1 &&& (9223372036854775807 : Int64))) ((0 : Int64) + (q1 &&& (9223372036854775807 : Int64))) w9 (q1 &&& (9223372036854775807 : Int64)) T14.heap n0 Z14 x14_0 x14_1 x14_2 x14_3 g_b8 P17) hZ (hw _ (List.mem_of_getElem? (i := 34) rfl)) (hw _ (List.mem_of_getElem? (i := 7) rfl)) (by decide) (by decide)) q18a q18c (g := (mkF m 82 #[.val (.long q1), .second, .val (.long q2), .second, .val (.long q3), .second, .val (.long (q1 &&& (9223372036854775807 : Int64))), .second, .val (.long (q1 &&& (9223372036854775807 : Int64))), .second, .val (.long ((q1 &&& (9223372036854775807 : Int64)) - (q1 &&& (9223372036854775807 : Int64)))), .second, .val (.ref b8)] [(.long ((q1 &&& (9223372036854775807 : Int64)) - (q1 &&& (9223372036854775807 : Int64)))), (.ref b8)])) rfl (by rw [hml]; rfl) (Steps.refl _) (argsL := [(.long ((q1 &&& (9223372036854775807 : Int64)) - (q1 &&& (9223372036854775807 : Int64))))]) (rest := []) (lenOf pd_2 rfl) rfl (by show 2 * 0 + _ ≤ _; exact Nat.le_of_eq rfl) (hb hby at_82) (fun _ _ => ⟨rfl, e15, (by decide : 1 + 0 ≤ _), (by decide : 3 + 0 ≤ _)⟩)
  dsimp only [Pt.U, Pt.locs, Pt.cells, Pt.slots] at X18 l18 y18 z18 st18 hQ18
  subst l18 y18 z18
  obtain ⟨rfl, Nq18, K18, x18_0, x18_1, x18_2, x18_3⟩ := hQ18
  have N18 := Fr.app N15 Nq18
  have K0_18 : Keep h0 T18.heap [] := K0_14.trans K18 (allS (Or.inr sz_b8) all0)
  have Z18 : n0 ≤ T18.heap.size := Nat.le_trans Z14 K18.1
  obtain ⟨cq19, kq19, q19a, q19b, q19c⟩ := isOf hZ rfl x18_1
  obtain ⟨_, _, ⟨T19, L19, k19, n19⟩, -, X19, ⟨Lc19, hQ19, l19, y19, z19⟩, st19⟩ := X18.virtualBack hx (y := (⟨"com/example/lasting_names/lastingnames/BodyBound", "received", "()J"⟩ : MethodName)) (z := (⟨"com/example/lasting_names/lastingnames/BodyBound", "received", "()J"⟩ : MethodName)) hown (mvT hZ (hw _ (List.mem_of_getElem? (i := 23) rfl))) (mvT hZ (hw _ (List.mem_of_getElem? (i := 24) rfl))) (notFace_of_selects (args := #[]) (mvT hZ (hw _ (List.mem_of_getElem? (i := 26) rfl)))) (mvT hZ (hw _ (List.mem_of_getElem? (i := 26) rfl))) (mvT hZ (hw _ (List.mem_of_getElem? (i := 25) rfl))) (by decide) (backOf (W := 0) (rm5_2 l Z a0 hw [] b8 (((0 : Int64) + (q1 &&& (9223372036854775807 : Int64))) + ((q1 &&& (9223372036854775807 : Int64)) - (q1 &&& (9223372036854775807 : Int64)))) T18.heap n0 Z18 x18_0) hZ (hw _ (List.mem_of_getElem? (i := 27) rfl)) (hw _ (List.mem_of_getElem? (i := 7) rfl)) (by decide) (by decide)) q19a q19c (g := (mkF m 87 #[.val (.long q1), .second, .val (.long q2), .second, .val (.long q3), .second, .val (.long (q1 &&& (9223372036854775807 : Int64))), .second, .val (.long (q1 &&& (9223372036854775807 : Int64))), .second, .val (.long ((q1 &&& (9223372036854775807 : Int64)) - (q1 &&& (9223372036854775807 : Int64)))), .second, .val (.ref b8)] [(.ref b8)])) rfl (by rw [hml]; rfl) (Steps.refl _) (argsL := []) (rest := []) (lenOf pd_3 rfl) rfl (by show 2 * 0 + _ ≤ _; exact Nat.le_of_eq rfl) (hb hby at_87) (fun _ _ => ⟨rfl, rfl, (by decide : 1 + 0 ≤ _), (by decide : 3 + 0 ≤ _)⟩)
  dsimp only [Pt.U, Pt.locs, Pt.cells, Pt.slots] at X19 l19 y19 z19 st19 hQ19
  subst l19 y19 z19
  obtain ⟨rfl, Nq19, e19⟩ := hQ19
  have N19 := Fr.app N18 Nq19
  obtain ⟨fs, hr, hrun, hended, hW, hsame⟩ := X19.leave (v := some (.int (1 : Int32))) (fun h => by rw [Bd.returns] at h; cases h)
  refine ⟨_, _, pre0 _ ?_, hrun, hended, _, _, rfl, ?_, ⟨_, rfl⟩, hW, hsame.mono (by decide) (by decide)⟩
  · show Steps p.tables e below (s₁.setTop (mkF m 0 #[.val (.long q1), .second, .val (.long q2), .second, .val (.long q3), .second, .unset, .unset, .unset, .unset, .unset, .unset, .unset] [])) _
    refine XS.lloadN X0.here hx rfl (hb hby at_0) rfl ?_
    show Steps p.tables e below (s₁.setTop (mkF m 1 #[.val (.long q1), .second, .val (.long q2), .second, .val (.long q3), .second, .unset, .unset, .unset, .unset, .unset, .unset, .unset] [(.long q1)])) _
    refine X0.ldc2Long hx hown (mvT hZ (hw _ (List.mem_of_getElem? (i := 0) rfl))) (g := (mkF m 1 #[.val (.long q1), .second, .val (.long q2), .second, .val (.long q3), .second, .unset, .unset, .unset, .unset, .unset, .unset, .unset] [(.long q1)])) rfl (hb hby at_1) _ ?_
    show Steps p.tables e below (s₁.setTop (mkF m 4 #[.val (.long q1), .second, .val (.long q2), .second, .val (.long q3), .second, .unset, .unset, .unset, .unset, .unset, .unset, .unset] [(.long (9223372036854775807 : Int64)), (.long q1)])) _
    refine XS.land X0.here hx rfl (hb hby at_4) rfl ?_
    show Steps p.tables e below (s₁.setTop (mkF m 5 #[.val (.long q1), .second, .val (.long q2), .second, .val (.long q3), .second, .unset, .unset, .unset, .unset, .unset, .unset, .unset] [(.long (q1 &&& (9223372036854775807 : Int64)))])) _
    refine XS.lstore X0.here hx rfl (hb hby at_5) rfl (l' := #[.val (.long q1), .second, .val (.long q2), .second, .val (.long q3), .second, .val (.long (q1 &&& (9223372036854775807 : Int64))), .second, .unset, .unset, .unset, .unset, .unset]) rfl ?_
    show Steps p.tables e below (s₁.setTop (mkF m 7 #[.val (.long q1), .second, .val (.long q2), .second, .val (.long q3), .second, .val (.long (q1 &&& (9223372036854775807 : Int64))), .second, .unset, .unset, .unset, .unset, .unset] [])) _
    refine XS.lloadN X0.here hx rfl (hb hby at_7) rfl ?_
    show Steps p.tables e below (s₁.setTop (mkF m 8 #[.val (.long q1), .second, .val (.long q2), .second, .val (.long q3), .second, .val (.long (q1 &&& (9223372036854775807 : Int64))), .second, .unset, .unset, .unset, .unset, .unset] [(.long q2)])) _
    refine X0.ldc2Long hx hown (mvT hZ (hw _ (List.mem_of_getElem? (i := 0) rfl))) (g := (mkF m 8 #[.val (.long q1), .second, .val (.long q2), .second, .val (.long q3), .second, .val (.long (q1 &&& (9223372036854775807 : Int64))), .second, .unset, .unset, .unset, .unset, .unset] [(.long q2)])) rfl (hb hby at_8) _ ?_
    show Steps p.tables e below (s₁.setTop (mkF m 11 #[.val (.long q1), .second, .val (.long q2), .second, .val (.long q3), .second, .val (.long (q1 &&& (9223372036854775807 : Int64))), .second, .unset, .unset, .unset, .unset, .unset] [(.long (9223372036854775807 : Int64)), (.long q2)])) _
    refine XS.land X0.here hx rfl (hb hby at_11) rfl ?_
    show Steps p.tables e below (s₁.setTop (mkF m 12 #[.val (.long q1), .second, .val (.long q2), .second, .val (.long q3), .second, .val (.long (q1 &&& (9223372036854775807 : Int64))), .second, .unset, .unset, .unset, .unset, .unset] [(.long (q2 &&& (9223372036854775807 : Int64)))])) _
    refine XS.lload X0.here hx rfl (hb hby at_12) rfl ?_
    show Steps p.tables e below (s₁.setTop (mkF m 14 #[.val (.long q1), .second, .val (.long q2), .second, .val (.long q3), .second, .val (.long (q1 &&& (9223372036854775807 : Int64))), .second, .unset, .unset, .unset, .unset, .unset] [(.long (q1 &&& (9223372036854775807 : Int64))), (.long (q2 &&& (9223372036854775807 : Int64)))])) _
    refine st5 _ ?_
    show Steps p.tables e below (T5.setTop (mkF m 17 #[.val (.long q1), .second, .val (.long q2), .second, .val (.long q3), .second, .val (.long (q1 &&& (9223372036854775807 : Int64))), .second, .unset, .unset, .unset, .unset, .unset] [(.long (q1 &&& (9223372036854775807 : Int64)))])) _
    refine XS.lstore X5.here hx rfl (hb hby at_17) rfl (l' := #[.val (.long q1), .second, .val (.long q2), .second, .val (.long q3), .second, .val (.long (q1 &&& (9223372036854775807 : Int64))), .second, .val (.long (q1 &&& (9223372036854775807 : Int64))), .second, .unset, .unset, .unset]) rfl ?_
    show Steps p.tables e below (T5.setTop (mkF m 19 #[.val (.long q1), .second, .val (.long q2), .second, .val (.long q3), .second, .val (.long (q1 &&& (9223372036854775807 : Int64))), .second, .val (.long (q1 &&& (9223372036854775807 : Int64))), .second, .unset, .unset, .unset] [])) _
    refine XS.lload X5.here hx rfl (hb hby at_19) rfl ?_
    show Steps p.tables e below (T5.setTop (mkF m 21 #[.val (.long q1), .second, .val (.long q2), .second, .val (.long q3), .second, .val (.long (q1 &&& (9223372036854775807 : Int64))), .second, .val (.long (q1 &&& (9223372036854775807 : Int64))), .second, .unset, .unset, .unset] [(.long q3)])) _
    refine X5.ldc2Long hx hown (mvT hZ (hw _ (List.mem_of_getElem? (i := 0) rfl))) (g := (mkF m 21 #[.val (.long q1), .second, .val (.long q2), .second, .val (.long q3), .second, .val (.long (q1 &&& (9223372036854775807 : Int64))), .second, .val (.long (q1 &&& (9223372036854775807 : Int64))), .second, .unset, .unset, .unset] [(.long q3)])) rfl (hb hby at_21) _ ?_
    show Steps p.tables e below (T5.setTop (mkF m 24 #[.val (.long q1), .second, .val (.long q2), .second, .val (.long q3), .second, .val (.long (q1 &&& (9223372036854775807 : Int64))), .second, .val (.long (q1 &&& (9223372036854775807 : Int64))), .second, .unset, .unset, .unset] [(.long (9223372036854775807 : Int64)), (.long q3)])) _
    refine XS.land X5.here hx rfl (hb hby at_24) rfl ?_
    show Steps p.tables e below (T5.setTop (mkF m 25 #[.val (.long q1), .second, .val (.long q2), .second, .val (.long q3), .second, .val (.long (q1 &&& (9223372036854775807 : Int64))), .second, .val (.long (q1 &&& (9223372036854775807 : Int64))), .second, .unset, .unset, .unset] [(.long (q3 &&& (9223372036854775807 : Int64)))])) _
    refine XS.lload X5.here hx rfl (hb hby at_25) rfl ?_
    show Steps p.tables e below (T5.setTop (mkF m 27 #[.val (.long q1), .second, .val (.long q2), .second, .val (.long q3), .second, .val (.long (q1 &&& (9223372036854775807 : Int64))), .second, .val (.long (q1 &&& (9223372036854775807 : Int64))), .second, .unset, .unset, .unset] [(.long (q1 &&& (9223372036854775807 : Int64))), (.long (q3 &&& (9223372036854775807 : Int64)))])) _
    refine XS.lload X5.here hx rfl (hb hby at_27) rfl ?_
    show Steps p.tables e below (T5.setTop (mkF m 29 #[.val (.long q1), .second, .val (.long q2), .second, .val (.long q3), .second, .val (.long (q1 &&& (9223372036854775807 : Int64))), .second, .val (.long (q1 &&& (9223372036854775807 : Int64))), .second, .unset, .unset, .unset] [(.long (q1 &&& (9223372036854775807 : Int64))), (.long (q1 &&& (9223372036854775807 : Int64))), (.long (q3 &&& (9223372036854775807 : Int64)))])) _
    refine XS.lsub X5.here hx rfl (hb hby at_29) rfl ?_
    show Steps p.tables e below (T5.setTop (mkF m 30 #[.val (.long q1), .second, .val (.long q2), .second, .val (.long q3), .second, .val (.long (q1 &&& (9223372036854775807 : Int64))), .second, .val (.long (q1 &&& (9223372036854775807 : Int64))), .second, .unset, .unset, .unset] [(.long ((q1 &&& (9223372036854775807 : Int64)) - (q1 &&& (9223372036854775807 : Int64)))), (.long (q3 &&& (9223372036854775807 : Int64)))])) _
    refine st7 _ ?_
    show Steps p.tables e below (T7.setTop (mkF m 33 #[.val (.long q1), .second, .val (.long q2), .second, .val (.long q3), .second, .val (.long (q1 &&& (9223372036854775807 : Int64))), .second, .val (.long (q1 &&& (9223372036854775807 : Int64))), .second, .unset, .unset, .unset] [(.long ((q1 &&& (9223372036854775807 : Int64)) - (q1 &&& (9223372036854775807 : Int64))))])) _
    refine XS.lstore X7.here hx rfl (hb hby at_33) rfl (l' := #[.val (.long q1), .second, .val (.long q2), .second, .val (.long q3), .second, .val (.long (q1 &&& (9223372036854775807 : Int64))), .second, .val (.long (q1 &&& (9223372036854775807 : Int64))), .second, .val (.long ((q1 &&& (9223372036854775807 : Int64)) - (q1 &&& (9223372036854775807 : Int64)))), .second, .unset]) rfl ?_
    show Steps p.tables e below (T7.setTop (mkF m 35 #[.val (.long q1), .second, .val (.long q2), .second, .val (.long q3), .second, .val (.long (q1 &&& (9223372036854775807 : Int64))), .second, .val (.long (q1 &&& (9223372036854775807 : Int64))), .second, .val (.long ((q1 &&& (9223372036854775807 : Int64)) - (q1 &&& (9223372036854775807 : Int64)))), .second, .unset] [])) _
    refine st8 _ ?_
    show Steps p.tables e below (T8.setTop (mkF m 38 #[.val (.long q1), .second, .val (.long q2), .second, .val (.long q3), .second, .val (.long (q1 &&& (9223372036854775807 : Int64))), .second, .val (.long (q1 &&& (9223372036854775807 : Int64))), .second, .val (.long ((q1 &&& (9223372036854775807 : Int64)) - (q1 &&& (9223372036854775807 : Int64)))), .second, .unset] [(.ref b8)])) _
    refine XS.dup X8.here hx rfl (hb hby at_38) rfl rfl ?_
    show Steps p.tables e below (T8.setTop (mkF m 39 #[.val (.long q1), .second, .val (.long q2), .second, .val (.long q3), .second, .val (.long (q1 &&& (9223372036854775807 : Int64))), .second, .val (.long (q1 &&& (9223372036854775807 : Int64))), .second, .val (.long ((q1 &&& (9223372036854775807 : Int64)) - (q1 &&& (9223372036854775807 : Int64)))), .second, .unset] [(.ref b8), (.ref b8)])) _
    refine XS.lload X8.here hx rfl (hb hby at_39) rfl ?_
    show Steps p.tables e below (T8.setTop (mkF m 41 #[.val (.long q1), .second, .val (.long q2), .second, .val (.long q3), .second, .val (.long (q1 &&& (9223372036854775807 : Int64))), .second, .val (.long (q1 &&& (9223372036854775807 : Int64))), .second, .val (.long ((q1 &&& (9223372036854775807 : Int64)) - (q1 &&& (9223372036854775807 : Int64)))), .second, .unset] [(.long (q1 &&& (9223372036854775807 : Int64))), (.ref b8), (.ref b8)])) _
    refine st11.trans ?_
    show Steps p.tables e below (T11.setTop (mkF m 44 #[.val (.long q1), .second, .val (.long q2), .second, .val (.long q3), .second, .val (.long (q1 &&& (9223372036854775807 : Int64))), .second, .val (.long (q1 &&& (9223372036854775807 : Int64))), .second, .val (.long ((q1 &&& (9223372036854775807 : Int64)) - (q1 &&& (9223372036854775807 : Int64)))), .second, .unset] [(.ref b8)])) _
    refine XS.astore X11.here hx rfl (hb hby at_44) rfl rfl (l' := #[.val (.long q1), .second, .val (.long q2), .second, .val (.long q3), .second, .val (.long (q1 &&& (9223372036854775807 : Int64))), .second, .val (.long (q1 &&& (9223372036854775807 : Int64))), .second, .val (.long ((q1 &&& (9223372036854775807 : Int64)) - (q1 &&& (9223372036854775807 : Int64)))), .second, .val (.ref b8)]) rfl ?_
    show Steps p.tables e below (T11.setTop (mkF m 46 #[.val (.long q1), .second, .val (.long q2), .second, .val (.long q3), .second, .val (.long (q1 &&& (9223372036854775807 : Int64))), .second, .val (.long (q1 &&& (9223372036854775807 : Int64))), .second, .val (.long ((q1 &&& (9223372036854775807 : Int64)) - (q1 &&& (9223372036854775807 : Int64)))), .second, .val (.ref b8)] [])) _
    refine XS.aload X11.here hx rfl (hb hby at_46) rfl rfl ?_
    show Steps p.tables e below (T11.setTop (mkF m 48 #[.val (.long q1), .second, .val (.long q2), .second, .val (.long q3), .second, .val (.long (q1 &&& (9223372036854775807 : Int64))), .second, .val (.long (q1 &&& (9223372036854775807 : Int64))), .second, .val (.long ((q1 &&& (9223372036854775807 : Int64)) - (q1 &&& (9223372036854775807 : Int64)))), .second, .val (.ref b8)] [(.ref b8)])) _
    refine st12.trans ?_
    show Steps p.tables e below (T12.setTop (mkF m 51 #[.val (.long q1), .second, .val (.long q2), .second, .val (.long q3), .second, .val (.long (q1 &&& (9223372036854775807 : Int64))), .second, .val (.long (q1 &&& (9223372036854775807 : Int64))), .second, .val (.long ((q1 &&& (9223372036854775807 : Int64)) - (q1 &&& (9223372036854775807 : Int64)))), .second, .val (.ref b8)] [(.long (0 : Int64))])) _
    refine XS.lconst X12.here hx rfl (hb hby at_51) ?_
    show Steps p.tables e below (T12.setTop (mkF m 52 #[.val (.long q1), .second, .val (.long q2), .second, .val (.long q3), .second, .val (.long (q1 &&& (9223372036854775807 : Int64))), .second, .val (.long (q1 &&& (9223372036854775807 : Int64))), .second, .val (.long ((q1 &&& (9223372036854775807 : Int64)) - (q1 &&& (9223372036854775807 : Int64)))), .second, .val (.ref b8)] [(.long (0 : Int64)), (.long (0 : Int64))])) _
    refine XS.lcmp X12.here hx rfl (hb hby at_52) rfl ?_
    show Steps p.tables e below (T12.setTop (mkF m 53 #[.val (.long q1), .second, .val (.long q2), .second, .val (.long q3), .second, .val (.long (q1 &&& (9223372036854775807 : Int64))), .second, .val (.long (q1 &&& (9223372036854775807 : Int64))), .second, .val (.long ((q1 &&& (9223372036854775807 : Int64)) - (q1 &&& (9223372036854775807 : Int64)))), .second, .val (.ref b8)] [(.int (lcmpW (0 : Int64) (0 : Int64)))])) _
    refine XS.ifYes X12.here hx rfl (pc0 := 53) (pc' := 58) rfl (hb hby at_53) rfl ((if0 _ _).trans (teq (by decide : (lcmpW (0 : Int64) (0 : Int64)) = (0 : Int32))).1) (by decide) (by decide) ?_
    show Steps p.tables e below (T12.setTop (mkF m 58 #[.val (.long q1), .second, .val (.long q2), .second, .val (.long q3), .second, .val (.long (q1 &&& (9223372036854775807 : Int64))), .second, .val (.long (q1 &&& (9223372036854775807 : Int64))), .second, .val (.long ((q1 &&& (9223372036854775807 : Int64)) - (q1 &&& (9223372036854775807 : Int64)))), .second, .val (.ref b8)] [])) _
    refine XS.aload X12.here hx rfl (hb hby at_58) rfl rfl ?_
    show Steps p.tables e below (T12.setTop (mkF m 60 #[.val (.long q1), .second, .val (.long q2), .second, .val (.long q3), .second, .val (.long (q1 &&& (9223372036854775807 : Int64))), .second, .val (.long (q1 &&& (9223372036854775807 : Int64))), .second, .val (.long ((q1 &&& (9223372036854775807 : Int64)) - (q1 &&& (9223372036854775807 : Int64)))), .second, .val (.ref b8)] [(.ref b8)])) _
    refine XS.lload X12.here hx rfl (hb hby at_60) rfl ?_
    show Steps p.tables e below (T12.setTop (mkF m 62 #[.val (.long q1), .second, .val (.long q2), .second, .val (.long q3), .second, .val (.long (q1 &&& (9223372036854775807 : Int64))), .second, .val (.long (q1 &&& (9223372036854775807 : Int64))), .second, .val (.long ((q1 &&& (9223372036854775807 : Int64)) - (q1 &&& (9223372036854775807 : Int64)))), .second, .val (.ref b8)] [(.long (q1 &&& (9223372036854775807 : Int64))), (.ref b8)])) _
    refine st14.trans ?_
    show Steps p.tables e below (T14.setTop (mkF m 65 #[.val (.long q1), .second, .val (.long q2), .second, .val (.long q3), .second, .val (.long (q1 &&& (9223372036854775807 : Int64))), .second, .val (.long (q1 &&& (9223372036854775807 : Int64))), .second, .val (.long ((q1 &&& (9223372036854775807 : Int64)) - (q1 &&& (9223372036854775807 : Int64)))), .second, .val (.ref b8)] [])) _
    refine XS.aload X14.here hx rfl (hb hby at_65) rfl rfl ?_
    show Steps p.tables e below (T14.setTop (mkF m 67 #[.val (.long q1), .second, .val (.long q2), .second, .val (.long q3), .second, .val (.long (q1 &&& (9223372036854775807 : Int64))), .second, .val (.long (q1 &&& (9223372036854775807 : Int64))), .second, .val (.long ((q1 &&& (9223372036854775807 : Int64)) - (q1 &&& (9223372036854775807 : Int64)))), .second, .val (.ref b8)] [(.ref b8)])) _
    refine st15.trans ?_
    show Steps p.tables e below (T15.setTop (mkF m 70 #[.val (.long q1), .second, .val (.long q2), .second, .val (.long q3), .second, .val (.long (q1 &&& (9223372036854775807 : Int64))), .second, .val (.long (q1 &&& (9223372036854775807 : Int64))), .second, .val (.long ((q1 &&& (9223372036854775807 : Int64)) - (q1 &&& (9223372036854775807 : Int64)))), .second, .val (.ref b8)] [(.long ((0 : Int64) + (q1 &&& (9223372036854775807 : Int64))))])) _
    refine XS.lload X15.here hx rfl (hb hby at_70) rfl ?_
    show Steps p.tables e below (T15.setTop (mkF m 72 #[.val (.long q1), .second, .val (.long q2), .second, .val (.long q3), .second, .val (.long (q1 &&& (9223372036854775807 : Int64))), .second, .val (.long (q1 &&& (9223372036854775807 : Int64))), .second, .val (.long ((q1 &&& (9223372036854775807 : Int64)) - (q1 &&& (9223372036854775807 : Int64)))), .second, .val (.ref b8)] [(.long (q1 &&& (9223372036854775807 : Int64))), (.long ((0 : Int64) + (q1 &&& (9223372036854775807 : Int64))))])) _
    refine XS.lcmp X15.here hx rfl (hb hby at_72) rfl ?_
    show Steps p.tables e below (T15.setTop (mkF m 73 #[.val (.long q1), .second, .val (.long q2), .second, .val (.long q3), .second, .val (.long (q1 &&& (9223372036854775807 : Int64))), .second, .val (.long (q1 &&& (9223372036854775807 : Int64))), .second, .val (.long ((q1 &&& (9223372036854775807 : Int64)) - (q1 &&& (9223372036854775807 : Int64)))), .second, .val (.ref b8)] [(.int (lcmpW ((0 : Int64) + (q1 &&& (9223372036854775807 : Int64))) (q1 &&& (9223372036854775807 : Int64))))])) _
    refine XS.ifYes X15.here hx rfl (pc0 := 73) (pc' := 78) rfl (hb hby at_73) rfl ((if0 _ _).trans (teq P16).1) (by decide) (by decide) ?_
    show Steps p.tables e below (T15.setTop (mkF m 78 #[.val (.long q1), .second, .val (.long q2), .second, .val (.long q3), .second, .val (.long (q1 &&& (9223372036854775807 : Int64))), .second, .val (.long (q1 &&& (9223372036854775807 : Int64))), .second, .val (.long ((q1 &&& (9223372036854775807 : Int64)) - (q1 &&& (9223372036854775807 : Int64)))), .second, .val (.ref b8)] [])) _
    refine XS.aload X15.here hx rfl (hb hby at_78) rfl rfl ?_
    show Steps p.tables e below (T15.setTop (mkF m 80 #[.val (.long q1), .second, .val (.long q2), .second, .val (.long q3), .second, .val (.long (q1 &&& (9223372036854775807 : Int64))), .second, .val (.long (q1 &&& (9223372036854775807 : Int64))), .second, .val (.long ((q1 &&& (9223372036854775807 : Int64)) - (q1 &&& (9223372036854775807 : Int64)))), .second, .val (.ref b8)] [(.ref b8)])) _
    refine XS.lload X15.here hx rfl (hb hby at_80) rfl ?_
    show Steps p.tables e below (T15.setTop (mkF m 82 #[.val (.long q1), .second, .val (.long q2), .second, .val (.long q3), .second, .val (.long (q1 &&& (9223372036854775807 : Int64))), .second, .val (.long (q1 &&& (9223372036854775807 : Int64))), .second, .val (.long ((q1 &&& (9223372036854775807 : Int64)) - (q1 &&& (9223372036854775807 : Int64)))), .second, .val (.ref b8)] [(.long ((q1 &&& (9223372036854775807 : Int64)) - (q1 &&& (9223372036854775807 : Int64)))), (.ref b8)])) _
    refine st18.trans ?_
    show Steps p.tables e below (T18.setTop (mkF m 85 #[.val (.long q1), .second, .val (.long q2), .second, .val (.long q3), .second, .val (.long (q1 &&& (9223372036854775807 : Int64))), .second, .val (.long (q1 &&& (9223372036854775807 : Int64))), .second, .val (.long ((q1 &&& (9223372036854775807 : Int64)) - (q1 &&& (9223372036854775807 : Int64)))), .second, .val (.ref b8)] [])) _
    refine XS.aload X18.here hx rfl (hb hby at_85) rfl rfl ?_
    show Steps p.tables e below (T18.setTop (mkF m 87 #[.val (.long q1), .second, .val (.long q2), .second, .val (.long q3), .second, .val (.long (q1 &&& (9223372036854775807 : Int64))), .second, .val (.long (q1 &&& (9223372036854775807 : Int64))), .second, .val (.long ((q1 &&& (9223372036854775807 : Int64)) - (q1 &&& (9223372036854775807 : Int64)))), .second, .val (.ref b8)] [(.ref b8)])) _
    refine st19.trans ?_
    show Steps p.tables e below (T19.setTop (mkF m 90 #[.val (.long q1), .second, .val (.long q2), .second, .val (.long q3), .second, .val (.long (q1 &&& (9223372036854775807 : Int64))), .second, .val (.long (q1 &&& (9223372036854775807 : Int64))), .second, .val (.long ((q1 &&& (9223372036854775807 : Int64)) - (q1 &&& (9223372036854775807 : Int64)))), .second, .val (.ref b8)] [(.long (((0 : Int64) + (q1 &&& (9223372036854775807 : Int64))) + ((q1 &&& (9223372036854775807 : Int64)) - (q1 &&& (9223372036854775807 : Int64)))))])) _
    refine XS.lload X19.here hx rfl (hb hby at_90) rfl ?_
    show Steps p.tables e below (T19.setTop (mkF m 92 #[.val (.long q1), .second, .val (.long q2), .second, .val (.long q3), .second, .val (.long (q1 &&& (9223372036854775807 : Int64))), .second, .val (.long (q1 &&& (9223372036854775807 : Int64))), .second, .val (.long ((q1 &&& (9223372036854775807 : Int64)) - (q1 &&& (9223372036854775807 : Int64)))), .second, .val (.ref b8)] [(.long (q1 &&& (9223372036854775807 : Int64))), (.long (((0 : Int64) + (q1 &&& (9223372036854775807 : Int64))) + ((q1 &&& (9223372036854775807 : Int64)) - (q1 &&& (9223372036854775807 : Int64)))))])) _
    refine XS.lload X19.here hx rfl (hb hby at_92) rfl ?_
    show Steps p.tables e below (T19.setTop (mkF m 94 #[.val (.long q1), .second, .val (.long q2), .second, .val (.long q3), .second, .val (.long (q1 &&& (9223372036854775807 : Int64))), .second, .val (.long (q1 &&& (9223372036854775807 : Int64))), .second, .val (.long ((q1 &&& (9223372036854775807 : Int64)) - (q1 &&& (9223372036854775807 : Int64)))), .second, .val (.ref b8)] [(.long ((q1 &&& (9223372036854775807 : Int64)) - (q1 &&& (9223372036854775807 : Int64)))), (.long (q1 &&& (9223372036854775807 : Int64))), (.long (((0 : Int64) + (q1 &&& (9223372036854775807 : Int64))) + ((q1 &&& (9223372036854775807 : Int64)) - (q1 &&& (9223372036854775807 : Int64)))))])) _
    refine XS.ladd X19.here hx rfl (hb hby at_94) rfl ?_
    show Steps p.tables e below (T19.setTop (mkF m 95 #[.val (.long q1), .second, .val (.long q2), .second, .val (.long q3), .second, .val (.long (q1 &&& (9223372036854775807 : Int64))), .second, .val (.long (q1 &&& (9223372036854775807 : Int64))), .second, .val (.long ((q1 &&& (9223372036854775807 : Int64)) - (q1 &&& (9223372036854775807 : Int64)))), .second, .val (.ref b8)] [(.long ((q1 &&& (9223372036854775807 : Int64)) + ((q1 &&& (9223372036854775807 : Int64)) - (q1 &&& (9223372036854775807 : Int64))))), (.long (((0 : Int64) + (q1 &&& (9223372036854775807 : Int64))) + ((q1 &&& (9223372036854775807 : Int64)) - (q1 &&& (9223372036854775807 : Int64)))))])) _
    refine XS.lcmp X19.here hx rfl (hb hby at_95) rfl ?_
    show Steps p.tables e below (T19.setTop (mkF m 96 #[.val (.long q1), .second, .val (.long q2), .second, .val (.long q3), .second, .val (.long (q1 &&& (9223372036854775807 : Int64))), .second, .val (.long (q1 &&& (9223372036854775807 : Int64))), .second, .val (.long ((q1 &&& (9223372036854775807 : Int64)) - (q1 &&& (9223372036854775807 : Int64)))), .second, .val (.ref b8)] [(.int (lcmpW (((0 : Int64) + (q1 &&& (9223372036854775807 : Int64))) + ((q1 &&& (9223372036854775807 : Int64)) - (q1 &&& (9223372036854775807 : Int64)))) ((q1 &&& (9223372036854775807 : Int64)) + ((q1 &&& (9223372036854775807 : Int64)) - (q1 &&& (9223372036854775807 : Int64))))))])) _
    refine XS.ifNo X19.here hx rfl (hb hby at_96) rfl ((if0 _ _).trans (teq P20).2) ?_
    show Steps p.tables e below (T19.setTop (mkF m 99 #[.val (.long q1), .second, .val (.long q2), .second, .val (.long q3), .second, .val (.long (q1 &&& (9223372036854775807 : Int64))), .second, .val (.long (q1 &&& (9223372036854775807 : Int64))), .second, .val (.long ((q1 &&& (9223372036854775807 : Int64)) - (q1 &&& (9223372036854775807 : Int64)))), .second, .val (.ref b8)] [])) _
    refine XS.iconst X19.here hx rfl (hb hby at_99) ?_
    show Steps p.tables e below (T19.setTop (mkF m 100 #[.val (.long q1), .second, .val (.long q2), .second, .val (.long q3), .second, .val (.long (q1 &&& (9223372036854775807 : Int64))), .second, .val (.long (q1 &&& (9223372036854775807 : Int64))), .second, .val (.long ((q1 &&& (9223372036854775807 : Int64)) - (q1 &&& (9223372036854775807 : Int64)))), .second, .val (.ref b8)] [(.int (1 : Int32))])) _
    refine XS.goto X19.here hx rfl (pc0 := 100) (pc' := 104) rfl (hb hby at_100) (by decide) (by decide) ?_
    show Steps p.tables e below (T19.setTop (mkF m 104 #[.val (.long q1), .second, .val (.long q2), .second, .val (.long q3), .second, .val (.long (q1 &&& (9223372036854775807 : Int64))), .second, .val (.long (q1 &&& (9223372036854775807 : Int64))), .second, .val (.long ((q1 &&& (9223372036854775807 : Int64)) - (q1 &&& (9223372036854775807 : Int64)))), .second, .val (.ref b8)] [(.int (1 : Int32))])) _
    exact retN X19 hx (t := .boolean) Bd.returns (by simp) (hb hby at_104) hr
  · exact ⟨rfl, N19⟩
theorem own_dead_1 (i0 : Int64) (i1 : Int64) (i2 : Int64) (hc1 : (0 : Int32) < (lcmpW (i1 &&& (9223372036854775807 : Int64)) (i0 &&& (9223372036854775807 : Int64)))) (hc2 : (0 : Int32) < (lcmpW (i2 &&& (9223372036854775807 : Int64)) ((i0 &&& (9223372036854775807 : Int64)) - (i0 &&& (9223372036854775807 : Int64))))) (hc3 : (0 : Int32) < (lcmpW ((0 : Int64) + (i0 &&& (9223372036854775807 : Int64))) (i0 &&& (9223372036854775807 : Int64)))) : False := by
  have q1 := rng64 i1
  have q2 : (i1 &&& (9223372036854775807 : Int64)).toInt = i1.toInt % 9223372036854775808 := Jvm.Kit.i64_mask i1 (9223372036854775807 : Int64) (k := 63) (by decide) (by decide)
  have q3 := rng64 (i1 &&& (9223372036854775807 : Int64))
  have q4 := rng64 i0
  have q5 : (i0 &&& (9223372036854775807 : Int64)).toInt = i0.toInt % 9223372036854775808 := Jvm.Kit.i64_mask i0 (9223372036854775807 : Int64) (k := 63) (by decide) (by decide)
  have q6 := rng64 (i0 &&& (9223372036854775807 : Int64))
  have q7 := Int64.lt_iff_toInt_lt.mp ((lw_gt (i1 &&& (9223372036854775807 : Int64)) (i0 &&& (9223372036854775807 : Int64))).mp hc1)
  have q8 := rng64 i2
  have q9 : (i2 &&& (9223372036854775807 : Int64)).toInt = i2.toInt % 9223372036854775808 := Jvm.Kit.i64_mask i2 (9223372036854775807 : Int64) (k := 63) (by decide) (by decide)
  have q10 := rng64 (i2 &&& (9223372036854775807 : Int64))
  have q11 := c_lsub (i0 &&& (9223372036854775807 : Int64)) (i0 &&& (9223372036854775807 : Int64))
  have q12 := rng64 ((i0 &&& (9223372036854775807 : Int64)) - (i0 &&& (9223372036854775807 : Int64)))
  have q13 := Int64.lt_iff_toInt_lt.mp ((lw_gt (i2 &&& (9223372036854775807 : Int64)) ((i0 &&& (9223372036854775807 : Int64)) - (i0 &&& (9223372036854775807 : Int64)))).mp hc2)
  have q14 : (0 : Int64).toInt = 0 := rfl
  have q15 := c_ladd (0 : Int64) (i0 &&& (9223372036854775807 : Int64))
  have q16 := rng64 ((0 : Int64) + (i0 &&& (9223372036854775807 : Int64)))
  have q17 := Int64.lt_iff_toInt_lt.mp ((lw_gt ((0 : Int64) + (i0 &&& (9223372036854775807 : Int64))) (i0 &&& (9223372036854775807 : Int64))).mp hc3)
  omega
theorem own_dead_2 (i0 : Int64) (i1 : Int64) (i2 : Int64) (hc1 : (0 : Int32) < (lcmpW (i1 &&& (9223372036854775807 : Int64)) (i0 &&& (9223372036854775807 : Int64)))) (hc2 : (0 : Int32) < (lcmpW (i2 &&& (9223372036854775807 : Int64)) ((i0 &&& (9223372036854775807 : Int64)) - (i0 &&& (9223372036854775807 : Int64))))) (hc3 : ¬ ((0 : Int32) < (lcmpW ((0 : Int64) + (i0 &&& (9223372036854775807 : Int64))) (i0 &&& (9223372036854775807 : Int64))))) (hc4 : (lcmpW ((0 : Int64) + (i0 &&& (9223372036854775807 : Int64))) (i0 &&& (9223372036854775807 : Int64))) = (0 : Int32)) (hc5 : (0 : Int32) < (lcmpW (((0 : Int64) + (i0 &&& (9223372036854775807 : Int64))) + ((i0 &&& (9223372036854775807 : Int64)) - (i0 &&& (9223372036854775807 : Int64)))) (i0 &&& (9223372036854775807 : Int64)))) : False := by
  have q1 := rng64 i1
  have q2 : (i1 &&& (9223372036854775807 : Int64)).toInt = i1.toInt % 9223372036854775808 := Jvm.Kit.i64_mask i1 (9223372036854775807 : Int64) (k := 63) (by decide) (by decide)
  have q3 := rng64 (i1 &&& (9223372036854775807 : Int64))
  have q4 := rng64 i0
  have q5 : (i0 &&& (9223372036854775807 : Int64)).toInt = i0.toInt % 9223372036854775808 := Jvm.Kit.i64_mask i0 (9223372036854775807 : Int64) (k := 63) (by decide) (by decide)
  have q6 := rng64 (i0 &&& (9223372036854775807 : Int64))
  have q7 := Int64.lt_iff_toInt_lt.mp ((lw_gt (i1 &&& (9223372036854775807 : Int64)) (i0 &&& (9223372036854775807 : Int64))).mp hc1)
  have q8 := rng64 i2
  have q9 : (i2 &&& (9223372036854775807 : Int64)).toInt = i2.toInt % 9223372036854775808 := Jvm.Kit.i64_mask i2 (9223372036854775807 : Int64) (k := 63) (by decide) (by decide)
  have q10 := rng64 (i2 &&& (9223372036854775807 : Int64))
  have q11 := c_lsub (i0 &&& (9223372036854775807 : Int64)) (i0 &&& (9223372036854775807 : Int64))
  have q12 := rng64 ((i0 &&& (9223372036854775807 : Int64)) - (i0 &&& (9223372036854775807 : Int64)))
  have q13 := Int64.lt_iff_toInt_lt.mp ((lw_gt (i2 &&& (9223372036854775807 : Int64)) ((i0 &&& (9223372036854775807 : Int64)) - (i0 &&& (9223372036854775807 : Int64)))).mp hc2)
  have q14 : (0 : Int64).toInt = 0 := rfl
  have q15 := c_ladd (0 : Int64) (i0 &&& (9223372036854775807 : Int64))
  have q16 := rng64 ((0 : Int64) + (i0 &&& (9223372036854775807 : Int64)))
  have q17 := mt (fun z => (lw_gt ((0 : Int64) + (i0 &&& (9223372036854775807 : Int64))) (i0 &&& (9223372036854775807 : Int64))).mpr (Int64.lt_iff_toInt_lt.mpr z)) hc3
  have q18 := congrArg Int64.toInt ((lw_eq ((0 : Int64) + (i0 &&& (9223372036854775807 : Int64))) (i0 &&& (9223372036854775807 : Int64))).mp hc4)
  have q19 := c_ladd ((0 : Int64) + (i0 &&& (9223372036854775807 : Int64))) ((i0 &&& (9223372036854775807 : Int64)) - (i0 &&& (9223372036854775807 : Int64)))
  have q20 := rng64 (((0 : Int64) + (i0 &&& (9223372036854775807 : Int64))) + ((i0 &&& (9223372036854775807 : Int64)) - (i0 &&& (9223372036854775807 : Int64))))
  have q21 := Int64.lt_iff_toInt_lt.mp ((lw_gt (((0 : Int64) + (i0 &&& (9223372036854775807 : Int64))) + ((i0 &&& (9223372036854775807 : Int64)) - (i0 &&& (9223372036854775807 : Int64)))) (i0 &&& (9223372036854775807 : Int64))).mp hc5)
  omega
theorem own_dead_3 (i0 : Int64) (i1 : Int64) (i2 : Int64) (hc1 : (0 : Int32) < (lcmpW (i1 &&& (9223372036854775807 : Int64)) (i0 &&& (9223372036854775807 : Int64)))) (hc2 : (0 : Int32) < (lcmpW (i2 &&& (9223372036854775807 : Int64)) ((i0 &&& (9223372036854775807 : Int64)) - (i0 &&& (9223372036854775807 : Int64))))) (hc3 : ¬ ((0 : Int32) < (lcmpW ((0 : Int64) + (i0 &&& (9223372036854775807 : Int64))) (i0 &&& (9223372036854775807 : Int64))))) (hc4 : (lcmpW ((0 : Int64) + (i0 &&& (9223372036854775807 : Int64))) (i0 &&& (9223372036854775807 : Int64))) = (0 : Int32)) (hc5 : ¬ ((0 : Int32) < (lcmpW (((0 : Int64) + (i0 &&& (9223372036854775807 : Int64))) + ((i0 &&& (9223372036854775807 : Int64)) - (i0 &&& (9223372036854775807 : Int64)))) (i0 &&& (9223372036854775807 : Int64))))) (hc6 : ¬ ((lcmpW (((0 : Int64) + (i0 &&& (9223372036854775807 : Int64))) + ((i0 &&& (9223372036854775807 : Int64)) - (i0 &&& (9223372036854775807 : Int64)))) ((i0 &&& (9223372036854775807 : Int64)) + ((i0 &&& (9223372036854775807 : Int64)) - (i0 &&& (9223372036854775807 : Int64))))) = (0 : Int32))) : False := by
  have q1 := rng64 i1
  have q2 : (i1 &&& (9223372036854775807 : Int64)).toInt = i1.toInt % 9223372036854775808 := Jvm.Kit.i64_mask i1 (9223372036854775807 : Int64) (k := 63) (by decide) (by decide)
  have q3 := rng64 (i1 &&& (9223372036854775807 : Int64))
  have q4 := rng64 i0
  have q5 : (i0 &&& (9223372036854775807 : Int64)).toInt = i0.toInt % 9223372036854775808 := Jvm.Kit.i64_mask i0 (9223372036854775807 : Int64) (k := 63) (by decide) (by decide)
  have q6 := rng64 (i0 &&& (9223372036854775807 : Int64))
  have q7 := Int64.lt_iff_toInt_lt.mp ((lw_gt (i1 &&& (9223372036854775807 : Int64)) (i0 &&& (9223372036854775807 : Int64))).mp hc1)
  have q8 := rng64 i2
  have q9 : (i2 &&& (9223372036854775807 : Int64)).toInt = i2.toInt % 9223372036854775808 := Jvm.Kit.i64_mask i2 (9223372036854775807 : Int64) (k := 63) (by decide) (by decide)
  have q10 := rng64 (i2 &&& (9223372036854775807 : Int64))
  have q11 := c_lsub (i0 &&& (9223372036854775807 : Int64)) (i0 &&& (9223372036854775807 : Int64))
  have q12 := rng64 ((i0 &&& (9223372036854775807 : Int64)) - (i0 &&& (9223372036854775807 : Int64)))
  have q13 := Int64.lt_iff_toInt_lt.mp ((lw_gt (i2 &&& (9223372036854775807 : Int64)) ((i0 &&& (9223372036854775807 : Int64)) - (i0 &&& (9223372036854775807 : Int64)))).mp hc2)
  have q14 : (0 : Int64).toInt = 0 := rfl
  have q15 := c_ladd (0 : Int64) (i0 &&& (9223372036854775807 : Int64))
  have q16 := rng64 ((0 : Int64) + (i0 &&& (9223372036854775807 : Int64)))
  have q17 := mt (fun z => (lw_gt ((0 : Int64) + (i0 &&& (9223372036854775807 : Int64))) (i0 &&& (9223372036854775807 : Int64))).mpr (Int64.lt_iff_toInt_lt.mpr z)) hc3
  have q18 := congrArg Int64.toInt ((lw_eq ((0 : Int64) + (i0 &&& (9223372036854775807 : Int64))) (i0 &&& (9223372036854775807 : Int64))).mp hc4)
  have q19 := c_ladd ((0 : Int64) + (i0 &&& (9223372036854775807 : Int64))) ((i0 &&& (9223372036854775807 : Int64)) - (i0 &&& (9223372036854775807 : Int64)))
  have q20 := rng64 (((0 : Int64) + (i0 &&& (9223372036854775807 : Int64))) + ((i0 &&& (9223372036854775807 : Int64)) - (i0 &&& (9223372036854775807 : Int64))))
  have q21 := mt (fun z => (lw_gt (((0 : Int64) + (i0 &&& (9223372036854775807 : Int64))) + ((i0 &&& (9223372036854775807 : Int64)) - (i0 &&& (9223372036854775807 : Int64)))) (i0 &&& (9223372036854775807 : Int64))).mpr (Int64.lt_iff_toInt_lt.mpr z)) hc5
  have q22 := c_ladd (i0 &&& (9223372036854775807 : Int64)) ((i0 &&& (9223372036854775807 : Int64)) - (i0 &&& (9223372036854775807 : Int64)))
  have q23 := rng64 ((i0 &&& (9223372036854775807 : Int64)) + ((i0 &&& (9223372036854775807 : Int64)) - (i0 &&& (9223372036854775807 : Int64))))
  have q24 := mt (fun z : ((((0 : Int64) + (i0 &&& (9223372036854775807 : Int64))) + ((i0 &&& (9223372036854775807 : Int64)) - (i0 &&& (9223372036854775807 : Int64))))).toInt = (((i0 &&& (9223372036854775807 : Int64)) + ((i0 &&& (9223372036854775807 : Int64)) - (i0 &&& (9223372036854775807 : Int64))))).toInt => (lw_eq (((0 : Int64) + (i0 &&& (9223372036854775807 : Int64))) + ((i0 &&& (9223372036854775807 : Int64)) - (i0 &&& (9223372036854775807 : Int64)))) ((i0 &&& (9223372036854775807 : Int64)) + ((i0 &&& (9223372036854775807 : Int64)) - (i0 &&& (9223372036854775807 : Int64))))).mpr (Int64.toInt_inj.mp z)) hc6
  omega
theorem own_dead_4 (i0 : Int64) (i1 : Int64) (i2 : Int64) (hc1 : (0 : Int32) < (lcmpW (i1 &&& (9223372036854775807 : Int64)) (i0 &&& (9223372036854775807 : Int64)))) (hc2 : (0 : Int32) < (lcmpW (i2 &&& (9223372036854775807 : Int64)) ((i0 &&& (9223372036854775807 : Int64)) - (i0 &&& (9223372036854775807 : Int64))))) (hc3 : ¬ ((0 : Int32) < (lcmpW ((0 : Int64) + (i0 &&& (9223372036854775807 : Int64))) (i0 &&& (9223372036854775807 : Int64))))) (hc4 : ¬ ((lcmpW ((0 : Int64) + (i0 &&& (9223372036854775807 : Int64))) (i0 &&& (9223372036854775807 : Int64))) = (0 : Int32))) : False := by
  have q1 := rng64 i1
  have q2 : (i1 &&& (9223372036854775807 : Int64)).toInt = i1.toInt % 9223372036854775808 := Jvm.Kit.i64_mask i1 (9223372036854775807 : Int64) (k := 63) (by decide) (by decide)
  have q3 := rng64 (i1 &&& (9223372036854775807 : Int64))
  have q4 := rng64 i0
  have q5 : (i0 &&& (9223372036854775807 : Int64)).toInt = i0.toInt % 9223372036854775808 := Jvm.Kit.i64_mask i0 (9223372036854775807 : Int64) (k := 63) (by decide) (by decide)
  have q6 := rng64 (i0 &&& (9223372036854775807 : Int64))
  have q7 := Int64.lt_iff_toInt_lt.mp ((lw_gt (i1 &&& (9223372036854775807 : Int64)) (i0 &&& (9223372036854775807 : Int64))).mp hc1)
  have q8 := rng64 i2
  have q9 : (i2 &&& (9223372036854775807 : Int64)).toInt = i2.toInt % 9223372036854775808 := Jvm.Kit.i64_mask i2 (9223372036854775807 : Int64) (k := 63) (by decide) (by decide)
  have q10 := rng64 (i2 &&& (9223372036854775807 : Int64))
  have q11 := c_lsub (i0 &&& (9223372036854775807 : Int64)) (i0 &&& (9223372036854775807 : Int64))
  have q12 := rng64 ((i0 &&& (9223372036854775807 : Int64)) - (i0 &&& (9223372036854775807 : Int64)))
  have q13 := Int64.lt_iff_toInt_lt.mp ((lw_gt (i2 &&& (9223372036854775807 : Int64)) ((i0 &&& (9223372036854775807 : Int64)) - (i0 &&& (9223372036854775807 : Int64)))).mp hc2)
  have q14 : (0 : Int64).toInt = 0 := rfl
  have q15 := c_ladd (0 : Int64) (i0 &&& (9223372036854775807 : Int64))
  have q16 := rng64 ((0 : Int64) + (i0 &&& (9223372036854775807 : Int64)))
  have q17 := mt (fun z => (lw_gt ((0 : Int64) + (i0 &&& (9223372036854775807 : Int64))) (i0 &&& (9223372036854775807 : Int64))).mpr (Int64.lt_iff_toInt_lt.mpr z)) hc3
  have q18 := mt (fun z : (((0 : Int64) + (i0 &&& (9223372036854775807 : Int64)))).toInt = ((i0 &&& (9223372036854775807 : Int64))).toInt => (lw_eq ((0 : Int64) + (i0 &&& (9223372036854775807 : Int64))) (i0 &&& (9223372036854775807 : Int64))).mpr (Int64.toInt_inj.mp z)) hc4
  omega
theorem own_dead_5 (i0 : Int64) (i1 : Int64) (i2 : Int64) (hc1 : (0 : Int32) < (lcmpW (i1 &&& (9223372036854775807 : Int64)) (i0 &&& (9223372036854775807 : Int64)))) (hc2 : ¬ ((0 : Int32) < (lcmpW (i2 &&& (9223372036854775807 : Int64)) ((i0 &&& (9223372036854775807 : Int64)) - (i0 &&& (9223372036854775807 : Int64)))))) (hc7 : (0 : Int32) < (lcmpW ((0 : Int64) + (i0 &&& (9223372036854775807 : Int64))) (i0 &&& (9223372036854775807 : Int64)))) : False := by
  have q1 := rng64 i1
  have q2 : (i1 &&& (9223372036854775807 : Int64)).toInt = i1.toInt % 9223372036854775808 := Jvm.Kit.i64_mask i1 (9223372036854775807 : Int64) (k := 63) (by decide) (by decide)
  have q3 := rng64 (i1 &&& (9223372036854775807 : Int64))
  have q4 := rng64 i0
  have q5 : (i0 &&& (9223372036854775807 : Int64)).toInt = i0.toInt % 9223372036854775808 := Jvm.Kit.i64_mask i0 (9223372036854775807 : Int64) (k := 63) (by decide) (by decide)
  have q6 := rng64 (i0 &&& (9223372036854775807 : Int64))
  have q7 := Int64.lt_iff_toInt_lt.mp ((lw_gt (i1 &&& (9223372036854775807 : Int64)) (i0 &&& (9223372036854775807 : Int64))).mp hc1)
  have q8 := rng64 i2
  have q9 : (i2 &&& (9223372036854775807 : Int64)).toInt = i2.toInt % 9223372036854775808 := Jvm.Kit.i64_mask i2 (9223372036854775807 : Int64) (k := 63) (by decide) (by decide)
  have q10 := rng64 (i2 &&& (9223372036854775807 : Int64))
  have q11 := c_lsub (i0 &&& (9223372036854775807 : Int64)) (i0 &&& (9223372036854775807 : Int64))
  have q12 := rng64 ((i0 &&& (9223372036854775807 : Int64)) - (i0 &&& (9223372036854775807 : Int64)))
  have q13 := mt (fun z => (lw_gt (i2 &&& (9223372036854775807 : Int64)) ((i0 &&& (9223372036854775807 : Int64)) - (i0 &&& (9223372036854775807 : Int64)))).mpr (Int64.lt_iff_toInt_lt.mpr z)) hc2
  have q14 : (0 : Int64).toInt = 0 := rfl
  have q15 := c_ladd (0 : Int64) (i0 &&& (9223372036854775807 : Int64))
  have q16 := rng64 ((0 : Int64) + (i0 &&& (9223372036854775807 : Int64)))
  have q17 := Int64.lt_iff_toInt_lt.mp ((lw_gt ((0 : Int64) + (i0 &&& (9223372036854775807 : Int64))) (i0 &&& (9223372036854775807 : Int64))).mp hc7)
  omega
theorem own_dead_6 (i0 : Int64) (i1 : Int64) (i2 : Int64) (hc1 : (0 : Int32) < (lcmpW (i1 &&& (9223372036854775807 : Int64)) (i0 &&& (9223372036854775807 : Int64)))) (hc2 : ¬ ((0 : Int32) < (lcmpW (i2 &&& (9223372036854775807 : Int64)) ((i0 &&& (9223372036854775807 : Int64)) - (i0 &&& (9223372036854775807 : Int64)))))) (hc7 : ¬ ((0 : Int32) < (lcmpW ((0 : Int64) + (i0 &&& (9223372036854775807 : Int64))) (i0 &&& (9223372036854775807 : Int64))))) (hc8 : (lcmpW ((0 : Int64) + (i0 &&& (9223372036854775807 : Int64))) (i0 &&& (9223372036854775807 : Int64))) = (0 : Int32)) (hc9 : (0 : Int32) < (lcmpW (((0 : Int64) + (i0 &&& (9223372036854775807 : Int64))) + (i2 &&& (9223372036854775807 : Int64))) (i0 &&& (9223372036854775807 : Int64)))) : False := by
  have q1 := rng64 i1
  have q2 : (i1 &&& (9223372036854775807 : Int64)).toInt = i1.toInt % 9223372036854775808 := Jvm.Kit.i64_mask i1 (9223372036854775807 : Int64) (k := 63) (by decide) (by decide)
  have q3 := rng64 (i1 &&& (9223372036854775807 : Int64))
  have q4 := rng64 i0
  have q5 : (i0 &&& (9223372036854775807 : Int64)).toInt = i0.toInt % 9223372036854775808 := Jvm.Kit.i64_mask i0 (9223372036854775807 : Int64) (k := 63) (by decide) (by decide)
  have q6 := rng64 (i0 &&& (9223372036854775807 : Int64))
  have q7 := Int64.lt_iff_toInt_lt.mp ((lw_gt (i1 &&& (9223372036854775807 : Int64)) (i0 &&& (9223372036854775807 : Int64))).mp hc1)
  have q8 := rng64 i2
  have q9 : (i2 &&& (9223372036854775807 : Int64)).toInt = i2.toInt % 9223372036854775808 := Jvm.Kit.i64_mask i2 (9223372036854775807 : Int64) (k := 63) (by decide) (by decide)
  have q10 := rng64 (i2 &&& (9223372036854775807 : Int64))
  have q11 := c_lsub (i0 &&& (9223372036854775807 : Int64)) (i0 &&& (9223372036854775807 : Int64))
  have q12 := rng64 ((i0 &&& (9223372036854775807 : Int64)) - (i0 &&& (9223372036854775807 : Int64)))
  have q13 := mt (fun z => (lw_gt (i2 &&& (9223372036854775807 : Int64)) ((i0 &&& (9223372036854775807 : Int64)) - (i0 &&& (9223372036854775807 : Int64)))).mpr (Int64.lt_iff_toInt_lt.mpr z)) hc2
  have q14 : (0 : Int64).toInt = 0 := rfl
  have q15 := c_ladd (0 : Int64) (i0 &&& (9223372036854775807 : Int64))
  have q16 := rng64 ((0 : Int64) + (i0 &&& (9223372036854775807 : Int64)))
  have q17 := mt (fun z => (lw_gt ((0 : Int64) + (i0 &&& (9223372036854775807 : Int64))) (i0 &&& (9223372036854775807 : Int64))).mpr (Int64.lt_iff_toInt_lt.mpr z)) hc7
  have q18 := congrArg Int64.toInt ((lw_eq ((0 : Int64) + (i0 &&& (9223372036854775807 : Int64))) (i0 &&& (9223372036854775807 : Int64))).mp hc8)
  have q19 := c_ladd ((0 : Int64) + (i0 &&& (9223372036854775807 : Int64))) (i2 &&& (9223372036854775807 : Int64))
  have q20 := rng64 (((0 : Int64) + (i0 &&& (9223372036854775807 : Int64))) + (i2 &&& (9223372036854775807 : Int64)))
  have q21 := Int64.lt_iff_toInt_lt.mp ((lw_gt (((0 : Int64) + (i0 &&& (9223372036854775807 : Int64))) + (i2 &&& (9223372036854775807 : Int64))) (i0 &&& (9223372036854775807 : Int64))).mp hc9)
  omega
theorem own_dead_7 (i0 : Int64) (i1 : Int64) (i2 : Int64) (hc1 : (0 : Int32) < (lcmpW (i1 &&& (9223372036854775807 : Int64)) (i0 &&& (9223372036854775807 : Int64)))) (hc2 : ¬ ((0 : Int32) < (lcmpW (i2 &&& (9223372036854775807 : Int64)) ((i0 &&& (9223372036854775807 : Int64)) - (i0 &&& (9223372036854775807 : Int64)))))) (hc7 : ¬ ((0 : Int32) < (lcmpW ((0 : Int64) + (i0 &&& (9223372036854775807 : Int64))) (i0 &&& (9223372036854775807 : Int64))))) (hc8 : (lcmpW ((0 : Int64) + (i0 &&& (9223372036854775807 : Int64))) (i0 &&& (9223372036854775807 : Int64))) = (0 : Int32)) (hc9 : ¬ ((0 : Int32) < (lcmpW (((0 : Int64) + (i0 &&& (9223372036854775807 : Int64))) + (i2 &&& (9223372036854775807 : Int64))) (i0 &&& (9223372036854775807 : Int64))))) (hc10 : ¬ ((lcmpW (((0 : Int64) + (i0 &&& (9223372036854775807 : Int64))) + (i2 &&& (9223372036854775807 : Int64))) ((i0 &&& (9223372036854775807 : Int64)) + (i2 &&& (9223372036854775807 : Int64)))) = (0 : Int32))) : False := by
  have q1 := rng64 i1
  have q2 : (i1 &&& (9223372036854775807 : Int64)).toInt = i1.toInt % 9223372036854775808 := Jvm.Kit.i64_mask i1 (9223372036854775807 : Int64) (k := 63) (by decide) (by decide)
  have q3 := rng64 (i1 &&& (9223372036854775807 : Int64))
  have q4 := rng64 i0
  have q5 : (i0 &&& (9223372036854775807 : Int64)).toInt = i0.toInt % 9223372036854775808 := Jvm.Kit.i64_mask i0 (9223372036854775807 : Int64) (k := 63) (by decide) (by decide)
  have q6 := rng64 (i0 &&& (9223372036854775807 : Int64))
  have q7 := Int64.lt_iff_toInt_lt.mp ((lw_gt (i1 &&& (9223372036854775807 : Int64)) (i0 &&& (9223372036854775807 : Int64))).mp hc1)
  have q8 := rng64 i2
  have q9 : (i2 &&& (9223372036854775807 : Int64)).toInt = i2.toInt % 9223372036854775808 := Jvm.Kit.i64_mask i2 (9223372036854775807 : Int64) (k := 63) (by decide) (by decide)
  have q10 := rng64 (i2 &&& (9223372036854775807 : Int64))
  have q11 := c_lsub (i0 &&& (9223372036854775807 : Int64)) (i0 &&& (9223372036854775807 : Int64))
  have q12 := rng64 ((i0 &&& (9223372036854775807 : Int64)) - (i0 &&& (9223372036854775807 : Int64)))
  have q13 := mt (fun z => (lw_gt (i2 &&& (9223372036854775807 : Int64)) ((i0 &&& (9223372036854775807 : Int64)) - (i0 &&& (9223372036854775807 : Int64)))).mpr (Int64.lt_iff_toInt_lt.mpr z)) hc2
  have q14 : (0 : Int64).toInt = 0 := rfl
  have q15 := c_ladd (0 : Int64) (i0 &&& (9223372036854775807 : Int64))
  have q16 := rng64 ((0 : Int64) + (i0 &&& (9223372036854775807 : Int64)))
  have q17 := mt (fun z => (lw_gt ((0 : Int64) + (i0 &&& (9223372036854775807 : Int64))) (i0 &&& (9223372036854775807 : Int64))).mpr (Int64.lt_iff_toInt_lt.mpr z)) hc7
  have q18 := congrArg Int64.toInt ((lw_eq ((0 : Int64) + (i0 &&& (9223372036854775807 : Int64))) (i0 &&& (9223372036854775807 : Int64))).mp hc8)
  have q19 := c_ladd ((0 : Int64) + (i0 &&& (9223372036854775807 : Int64))) (i2 &&& (9223372036854775807 : Int64))
  have q20 := rng64 (((0 : Int64) + (i0 &&& (9223372036854775807 : Int64))) + (i2 &&& (9223372036854775807 : Int64)))
  have q21 := mt (fun z => (lw_gt (((0 : Int64) + (i0 &&& (9223372036854775807 : Int64))) + (i2 &&& (9223372036854775807 : Int64))) (i0 &&& (9223372036854775807 : Int64))).mpr (Int64.lt_iff_toInt_lt.mpr z)) hc9
  have q22 := c_ladd (i0 &&& (9223372036854775807 : Int64)) (i2 &&& (9223372036854775807 : Int64))
  have q23 := rng64 ((i0 &&& (9223372036854775807 : Int64)) + (i2 &&& (9223372036854775807 : Int64)))
  have q24 := mt (fun z : ((((0 : Int64) + (i0 &&& (9223372036854775807 : Int64))) + (i2 &&& (9223372036854775807 : Int64)))).toInt = (((i0 &&& (9223372036854775807 : Int64)) + (i2 &&& (9223372036854775807 : Int64)))).toInt => (lw_eq (((0 : Int64) + (i0 &&& (9223372036854775807 : Int64))) + (i2 &&& (9223372036854775807 : Int64))) ((i0 &&& (9223372036854775807 : Int64)) + (i2 &&& (9223372036854775807 : Int64)))).mpr (Int64.toInt_inj.mp z)) hc10
  omega
theorem own_dead_8 (i0 : Int64) (i1 : Int64) (i2 : Int64) (hc1 : (0 : Int32) < (lcmpW (i1 &&& (9223372036854775807 : Int64)) (i0 &&& (9223372036854775807 : Int64)))) (hc2 : ¬ ((0 : Int32) < (lcmpW (i2 &&& (9223372036854775807 : Int64)) ((i0 &&& (9223372036854775807 : Int64)) - (i0 &&& (9223372036854775807 : Int64)))))) (hc7 : ¬ ((0 : Int32) < (lcmpW ((0 : Int64) + (i0 &&& (9223372036854775807 : Int64))) (i0 &&& (9223372036854775807 : Int64))))) (hc8 : ¬ ((lcmpW ((0 : Int64) + (i0 &&& (9223372036854775807 : Int64))) (i0 &&& (9223372036854775807 : Int64))) = (0 : Int32))) : False := by
  have q1 := rng64 i1
  have q2 : (i1 &&& (9223372036854775807 : Int64)).toInt = i1.toInt % 9223372036854775808 := Jvm.Kit.i64_mask i1 (9223372036854775807 : Int64) (k := 63) (by decide) (by decide)
  have q3 := rng64 (i1 &&& (9223372036854775807 : Int64))
  have q4 := rng64 i0
  have q5 : (i0 &&& (9223372036854775807 : Int64)).toInt = i0.toInt % 9223372036854775808 := Jvm.Kit.i64_mask i0 (9223372036854775807 : Int64) (k := 63) (by decide) (by decide)
  have q6 := rng64 (i0 &&& (9223372036854775807 : Int64))
  have q7 := Int64.lt_iff_toInt_lt.mp ((lw_gt (i1 &&& (9223372036854775807 : Int64)) (i0 &&& (9223372036854775807 : Int64))).mp hc1)
  have q8 := rng64 i2
  have q9 : (i2 &&& (9223372036854775807 : Int64)).toInt = i2.toInt % 9223372036854775808 := Jvm.Kit.i64_mask i2 (9223372036854775807 : Int64) (k := 63) (by decide) (by decide)
  have q10 := rng64 (i2 &&& (9223372036854775807 : Int64))
  have q11 := c_lsub (i0 &&& (9223372036854775807 : Int64)) (i0 &&& (9223372036854775807 : Int64))
  have q12 := rng64 ((i0 &&& (9223372036854775807 : Int64)) - (i0 &&& (9223372036854775807 : Int64)))
  have q13 := mt (fun z => (lw_gt (i2 &&& (9223372036854775807 : Int64)) ((i0 &&& (9223372036854775807 : Int64)) - (i0 &&& (9223372036854775807 : Int64)))).mpr (Int64.lt_iff_toInt_lt.mpr z)) hc2
  have q14 : (0 : Int64).toInt = 0 := rfl
  have q15 := c_ladd (0 : Int64) (i0 &&& (9223372036854775807 : Int64))
  have q16 := rng64 ((0 : Int64) + (i0 &&& (9223372036854775807 : Int64)))
  have q17 := mt (fun z => (lw_gt ((0 : Int64) + (i0 &&& (9223372036854775807 : Int64))) (i0 &&& (9223372036854775807 : Int64))).mpr (Int64.lt_iff_toInt_lt.mpr z)) hc7
  have q18 := mt (fun z : (((0 : Int64) + (i0 &&& (9223372036854775807 : Int64)))).toInt = ((i0 &&& (9223372036854775807 : Int64))).toInt => (lw_eq ((0 : Int64) + (i0 &&& (9223372036854775807 : Int64))) (i0 &&& (9223372036854775807 : Int64))).mpr (Int64.toInt_inj.mp z)) hc8
  omega
theorem own_dead_9 (i0 : Int64) (i1 : Int64) (i2 : Int64) (hc1 : ¬ ((0 : Int32) < (lcmpW (i1 &&& (9223372036854775807 : Int64)) (i0 &&& (9223372036854775807 : Int64))))) (hc11 : (0 : Int32) < (lcmpW (i2 &&& (9223372036854775807 : Int64)) ((i0 &&& (9223372036854775807 : Int64)) - (i1 &&& (9223372036854775807 : Int64))))) (hc12 : (0 : Int32) < (lcmpW ((0 : Int64) + (i1 &&& (9223372036854775807 : Int64))) (i0 &&& (9223372036854775807 : Int64)))) : False := by
  have q1 := rng64 i1
  have q2 : (i1 &&& (9223372036854775807 : Int64)).toInt = i1.toInt % 9223372036854775808 := Jvm.Kit.i64_mask i1 (9223372036854775807 : Int64) (k := 63) (by decide) (by decide)
  have q3 := rng64 (i1 &&& (9223372036854775807 : Int64))
  have q4 := rng64 i0
  have q5 : (i0 &&& (9223372036854775807 : Int64)).toInt = i0.toInt % 9223372036854775808 := Jvm.Kit.i64_mask i0 (9223372036854775807 : Int64) (k := 63) (by decide) (by decide)
  have q6 := rng64 (i0 &&& (9223372036854775807 : Int64))
  have q7 := mt (fun z => (lw_gt (i1 &&& (9223372036854775807 : Int64)) (i0 &&& (9223372036854775807 : Int64))).mpr (Int64.lt_iff_toInt_lt.mpr z)) hc1
  have q8 := rng64 i2
  have q9 : (i2 &&& (9223372036854775807 : Int64)).toInt = i2.toInt % 9223372036854775808 := Jvm.Kit.i64_mask i2 (9223372036854775807 : Int64) (k := 63) (by decide) (by decide)
  have q10 := rng64 (i2 &&& (9223372036854775807 : Int64))
  have q11 := c_lsub (i0 &&& (9223372036854775807 : Int64)) (i1 &&& (9223372036854775807 : Int64))
  have q12 := rng64 ((i0 &&& (9223372036854775807 : Int64)) - (i1 &&& (9223372036854775807 : Int64)))
  have q13 := Int64.lt_iff_toInt_lt.mp ((lw_gt (i2 &&& (9223372036854775807 : Int64)) ((i0 &&& (9223372036854775807 : Int64)) - (i1 &&& (9223372036854775807 : Int64)))).mp hc11)
  have q14 : (0 : Int64).toInt = 0 := rfl
  have q15 := c_ladd (0 : Int64) (i1 &&& (9223372036854775807 : Int64))
  have q16 := rng64 ((0 : Int64) + (i1 &&& (9223372036854775807 : Int64)))
  have q17 := Int64.lt_iff_toInt_lt.mp ((lw_gt ((0 : Int64) + (i1 &&& (9223372036854775807 : Int64))) (i0 &&& (9223372036854775807 : Int64))).mp hc12)
  omega
theorem own_dead_10 (i0 : Int64) (i1 : Int64) (i2 : Int64) (hc1 : ¬ ((0 : Int32) < (lcmpW (i1 &&& (9223372036854775807 : Int64)) (i0 &&& (9223372036854775807 : Int64))))) (hc11 : (0 : Int32) < (lcmpW (i2 &&& (9223372036854775807 : Int64)) ((i0 &&& (9223372036854775807 : Int64)) - (i1 &&& (9223372036854775807 : Int64))))) (hc12 : ¬ ((0 : Int32) < (lcmpW ((0 : Int64) + (i1 &&& (9223372036854775807 : Int64))) (i0 &&& (9223372036854775807 : Int64))))) (hc13 : (lcmpW ((0 : Int64) + (i1 &&& (9223372036854775807 : Int64))) (i1 &&& (9223372036854775807 : Int64))) = (0 : Int32)) (hc14 : (0 : Int32) < (lcmpW (((0 : Int64) + (i1 &&& (9223372036854775807 : Int64))) + ((i0 &&& (9223372036854775807 : Int64)) - (i1 &&& (9223372036854775807 : Int64)))) (i0 &&& (9223372036854775807 : Int64)))) : False := by
  have q1 := rng64 i1
  have q2 : (i1 &&& (9223372036854775807 : Int64)).toInt = i1.toInt % 9223372036854775808 := Jvm.Kit.i64_mask i1 (9223372036854775807 : Int64) (k := 63) (by decide) (by decide)
  have q3 := rng64 (i1 &&& (9223372036854775807 : Int64))
  have q4 := rng64 i0
  have q5 : (i0 &&& (9223372036854775807 : Int64)).toInt = i0.toInt % 9223372036854775808 := Jvm.Kit.i64_mask i0 (9223372036854775807 : Int64) (k := 63) (by decide) (by decide)
  have q6 := rng64 (i0 &&& (9223372036854775807 : Int64))
  have q7 := mt (fun z => (lw_gt (i1 &&& (9223372036854775807 : Int64)) (i0 &&& (9223372036854775807 : Int64))).mpr (Int64.lt_iff_toInt_lt.mpr z)) hc1
  have q8 := rng64 i2
  have q9 : (i2 &&& (9223372036854775807 : Int64)).toInt = i2.toInt % 9223372036854775808 := Jvm.Kit.i64_mask i2 (9223372036854775807 : Int64) (k := 63) (by decide) (by decide)
  have q10 := rng64 (i2 &&& (9223372036854775807 : Int64))
  have q11 := c_lsub (i0 &&& (9223372036854775807 : Int64)) (i1 &&& (9223372036854775807 : Int64))
  have q12 := rng64 ((i0 &&& (9223372036854775807 : Int64)) - (i1 &&& (9223372036854775807 : Int64)))
  have q13 := Int64.lt_iff_toInt_lt.mp ((lw_gt (i2 &&& (9223372036854775807 : Int64)) ((i0 &&& (9223372036854775807 : Int64)) - (i1 &&& (9223372036854775807 : Int64)))).mp hc11)
  have q14 : (0 : Int64).toInt = 0 := rfl
  have q15 := c_ladd (0 : Int64) (i1 &&& (9223372036854775807 : Int64))
  have q16 := rng64 ((0 : Int64) + (i1 &&& (9223372036854775807 : Int64)))
  have q17 := mt (fun z => (lw_gt ((0 : Int64) + (i1 &&& (9223372036854775807 : Int64))) (i0 &&& (9223372036854775807 : Int64))).mpr (Int64.lt_iff_toInt_lt.mpr z)) hc12
  have q18 := congrArg Int64.toInt ((lw_eq ((0 : Int64) + (i1 &&& (9223372036854775807 : Int64))) (i1 &&& (9223372036854775807 : Int64))).mp hc13)
  have q19 := c_ladd ((0 : Int64) + (i1 &&& (9223372036854775807 : Int64))) ((i0 &&& (9223372036854775807 : Int64)) - (i1 &&& (9223372036854775807 : Int64)))
  have q20 := rng64 (((0 : Int64) + (i1 &&& (9223372036854775807 : Int64))) + ((i0 &&& (9223372036854775807 : Int64)) - (i1 &&& (9223372036854775807 : Int64))))
  have q21 := Int64.lt_iff_toInt_lt.mp ((lw_gt (((0 : Int64) + (i1 &&& (9223372036854775807 : Int64))) + ((i0 &&& (9223372036854775807 : Int64)) - (i1 &&& (9223372036854775807 : Int64)))) (i0 &&& (9223372036854775807 : Int64))).mp hc14)
  omega
theorem own_dead_11 (i0 : Int64) (i1 : Int64) (i2 : Int64) (hc1 : ¬ ((0 : Int32) < (lcmpW (i1 &&& (9223372036854775807 : Int64)) (i0 &&& (9223372036854775807 : Int64))))) (hc11 : (0 : Int32) < (lcmpW (i2 &&& (9223372036854775807 : Int64)) ((i0 &&& (9223372036854775807 : Int64)) - (i1 &&& (9223372036854775807 : Int64))))) (hc12 : ¬ ((0 : Int32) < (lcmpW ((0 : Int64) + (i1 &&& (9223372036854775807 : Int64))) (i0 &&& (9223372036854775807 : Int64))))) (hc13 : (lcmpW ((0 : Int64) + (i1 &&& (9223372036854775807 : Int64))) (i1 &&& (9223372036854775807 : Int64))) = (0 : Int32)) (hc14 : ¬ ((0 : Int32) < (lcmpW (((0 : Int64) + (i1 &&& (9223372036854775807 : Int64))) + ((i0 &&& (9223372036854775807 : Int64)) - (i1 &&& (9223372036854775807 : Int64)))) (i0 &&& (9223372036854775807 : Int64))))) (hc15 : ¬ ((lcmpW (((0 : Int64) + (i1 &&& (9223372036854775807 : Int64))) + ((i0 &&& (9223372036854775807 : Int64)) - (i1 &&& (9223372036854775807 : Int64)))) ((i1 &&& (9223372036854775807 : Int64)) + ((i0 &&& (9223372036854775807 : Int64)) - (i1 &&& (9223372036854775807 : Int64))))) = (0 : Int32))) : False := by
  have q1 := rng64 i1
  have q2 : (i1 &&& (9223372036854775807 : Int64)).toInt = i1.toInt % 9223372036854775808 := Jvm.Kit.i64_mask i1 (9223372036854775807 : Int64) (k := 63) (by decide) (by decide)
  have q3 := rng64 (i1 &&& (9223372036854775807 : Int64))
  have q4 := rng64 i0
  have q5 : (i0 &&& (9223372036854775807 : Int64)).toInt = i0.toInt % 9223372036854775808 := Jvm.Kit.i64_mask i0 (9223372036854775807 : Int64) (k := 63) (by decide) (by decide)
  have q6 := rng64 (i0 &&& (9223372036854775807 : Int64))
  have q7 := mt (fun z => (lw_gt (i1 &&& (9223372036854775807 : Int64)) (i0 &&& (9223372036854775807 : Int64))).mpr (Int64.lt_iff_toInt_lt.mpr z)) hc1
  have q8 := rng64 i2
  have q9 : (i2 &&& (9223372036854775807 : Int64)).toInt = i2.toInt % 9223372036854775808 := Jvm.Kit.i64_mask i2 (9223372036854775807 : Int64) (k := 63) (by decide) (by decide)
  have q10 := rng64 (i2 &&& (9223372036854775807 : Int64))
  have q11 := c_lsub (i0 &&& (9223372036854775807 : Int64)) (i1 &&& (9223372036854775807 : Int64))
  have q12 := rng64 ((i0 &&& (9223372036854775807 : Int64)) - (i1 &&& (9223372036854775807 : Int64)))
  have q13 := Int64.lt_iff_toInt_lt.mp ((lw_gt (i2 &&& (9223372036854775807 : Int64)) ((i0 &&& (9223372036854775807 : Int64)) - (i1 &&& (9223372036854775807 : Int64)))).mp hc11)
  have q14 : (0 : Int64).toInt = 0 := rfl
  have q15 := c_ladd (0 : Int64) (i1 &&& (9223372036854775807 : Int64))
  have q16 := rng64 ((0 : Int64) + (i1 &&& (9223372036854775807 : Int64)))
  have q17 := mt (fun z => (lw_gt ((0 : Int64) + (i1 &&& (9223372036854775807 : Int64))) (i0 &&& (9223372036854775807 : Int64))).mpr (Int64.lt_iff_toInt_lt.mpr z)) hc12
  have q18 := congrArg Int64.toInt ((lw_eq ((0 : Int64) + (i1 &&& (9223372036854775807 : Int64))) (i1 &&& (9223372036854775807 : Int64))).mp hc13)
  have q19 := c_ladd ((0 : Int64) + (i1 &&& (9223372036854775807 : Int64))) ((i0 &&& (9223372036854775807 : Int64)) - (i1 &&& (9223372036854775807 : Int64)))
  have q20 := rng64 (((0 : Int64) + (i1 &&& (9223372036854775807 : Int64))) + ((i0 &&& (9223372036854775807 : Int64)) - (i1 &&& (9223372036854775807 : Int64))))
  have q21 := mt (fun z => (lw_gt (((0 : Int64) + (i1 &&& (9223372036854775807 : Int64))) + ((i0 &&& (9223372036854775807 : Int64)) - (i1 &&& (9223372036854775807 : Int64)))) (i0 &&& (9223372036854775807 : Int64))).mpr (Int64.lt_iff_toInt_lt.mpr z)) hc14
  have q22 := c_ladd (i1 &&& (9223372036854775807 : Int64)) ((i0 &&& (9223372036854775807 : Int64)) - (i1 &&& (9223372036854775807 : Int64)))
  have q23 := rng64 ((i1 &&& (9223372036854775807 : Int64)) + ((i0 &&& (9223372036854775807 : Int64)) - (i1 &&& (9223372036854775807 : Int64))))
  have q24 := mt (fun z : ((((0 : Int64) + (i1 &&& (9223372036854775807 : Int64))) + ((i0 &&& (9223372036854775807 : Int64)) - (i1 &&& (9223372036854775807 : Int64))))).toInt = (((i1 &&& (9223372036854775807 : Int64)) + ((i0 &&& (9223372036854775807 : Int64)) - (i1 &&& (9223372036854775807 : Int64))))).toInt => (lw_eq (((0 : Int64) + (i1 &&& (9223372036854775807 : Int64))) + ((i0 &&& (9223372036854775807 : Int64)) - (i1 &&& (9223372036854775807 : Int64)))) ((i1 &&& (9223372036854775807 : Int64)) + ((i0 &&& (9223372036854775807 : Int64)) - (i1 &&& (9223372036854775807 : Int64))))).mpr (Int64.toInt_inj.mp z)) hc15
  omega
theorem own_dead_12 (i0 : Int64) (i1 : Int64) (i2 : Int64) (hc1 : ¬ ((0 : Int32) < (lcmpW (i1 &&& (9223372036854775807 : Int64)) (i0 &&& (9223372036854775807 : Int64))))) (hc11 : (0 : Int32) < (lcmpW (i2 &&& (9223372036854775807 : Int64)) ((i0 &&& (9223372036854775807 : Int64)) - (i1 &&& (9223372036854775807 : Int64))))) (hc12 : ¬ ((0 : Int32) < (lcmpW ((0 : Int64) + (i1 &&& (9223372036854775807 : Int64))) (i0 &&& (9223372036854775807 : Int64))))) (hc13 : ¬ ((lcmpW ((0 : Int64) + (i1 &&& (9223372036854775807 : Int64))) (i1 &&& (9223372036854775807 : Int64))) = (0 : Int32))) : False := by
  have q1 := rng64 i1
  have q2 : (i1 &&& (9223372036854775807 : Int64)).toInt = i1.toInt % 9223372036854775808 := Jvm.Kit.i64_mask i1 (9223372036854775807 : Int64) (k := 63) (by decide) (by decide)
  have q3 := rng64 (i1 &&& (9223372036854775807 : Int64))
  have q4 := rng64 i0
  have q5 : (i0 &&& (9223372036854775807 : Int64)).toInt = i0.toInt % 9223372036854775808 := Jvm.Kit.i64_mask i0 (9223372036854775807 : Int64) (k := 63) (by decide) (by decide)
  have q6 := rng64 (i0 &&& (9223372036854775807 : Int64))
  have q7 := mt (fun z => (lw_gt (i1 &&& (9223372036854775807 : Int64)) (i0 &&& (9223372036854775807 : Int64))).mpr (Int64.lt_iff_toInt_lt.mpr z)) hc1
  have q8 := rng64 i2
  have q9 : (i2 &&& (9223372036854775807 : Int64)).toInt = i2.toInt % 9223372036854775808 := Jvm.Kit.i64_mask i2 (9223372036854775807 : Int64) (k := 63) (by decide) (by decide)
  have q10 := rng64 (i2 &&& (9223372036854775807 : Int64))
  have q11 := c_lsub (i0 &&& (9223372036854775807 : Int64)) (i1 &&& (9223372036854775807 : Int64))
  have q12 := rng64 ((i0 &&& (9223372036854775807 : Int64)) - (i1 &&& (9223372036854775807 : Int64)))
  have q13 := Int64.lt_iff_toInt_lt.mp ((lw_gt (i2 &&& (9223372036854775807 : Int64)) ((i0 &&& (9223372036854775807 : Int64)) - (i1 &&& (9223372036854775807 : Int64)))).mp hc11)
  have q14 : (0 : Int64).toInt = 0 := rfl
  have q15 := c_ladd (0 : Int64) (i1 &&& (9223372036854775807 : Int64))
  have q16 := rng64 ((0 : Int64) + (i1 &&& (9223372036854775807 : Int64)))
  have q17 := mt (fun z => (lw_gt ((0 : Int64) + (i1 &&& (9223372036854775807 : Int64))) (i0 &&& (9223372036854775807 : Int64))).mpr (Int64.lt_iff_toInt_lt.mpr z)) hc12
  have q18 := mt (fun z : (((0 : Int64) + (i1 &&& (9223372036854775807 : Int64)))).toInt = ((i1 &&& (9223372036854775807 : Int64))).toInt => (lw_eq ((0 : Int64) + (i1 &&& (9223372036854775807 : Int64))) (i1 &&& (9223372036854775807 : Int64))).mpr (Int64.toInt_inj.mp z)) hc13
  omega
theorem own_dead_13 (i0 : Int64) (i1 : Int64) (i2 : Int64) (hc1 : ¬ ((0 : Int32) < (lcmpW (i1 &&& (9223372036854775807 : Int64)) (i0 &&& (9223372036854775807 : Int64))))) (hc11 : ¬ ((0 : Int32) < (lcmpW (i2 &&& (9223372036854775807 : Int64)) ((i0 &&& (9223372036854775807 : Int64)) - (i1 &&& (9223372036854775807 : Int64)))))) (hc16 : (0 : Int32) < (lcmpW ((0 : Int64) + (i1 &&& (9223372036854775807 : Int64))) (i0 &&& (9223372036854775807 : Int64)))) : False := by
  have q1 := rng64 i1
  have q2 : (i1 &&& (9223372036854775807 : Int64)).toInt = i1.toInt % 9223372036854775808 := Jvm.Kit.i64_mask i1 (9223372036854775807 : Int64) (k := 63) (by decide) (by decide)
  have q3 := rng64 (i1 &&& (9223372036854775807 : Int64))
  have q4 := rng64 i0
  have q5 : (i0 &&& (9223372036854775807 : Int64)).toInt = i0.toInt % 9223372036854775808 := Jvm.Kit.i64_mask i0 (9223372036854775807 : Int64) (k := 63) (by decide) (by decide)
  have q6 := rng64 (i0 &&& (9223372036854775807 : Int64))
  have q7 := mt (fun z => (lw_gt (i1 &&& (9223372036854775807 : Int64)) (i0 &&& (9223372036854775807 : Int64))).mpr (Int64.lt_iff_toInt_lt.mpr z)) hc1
  have q8 := rng64 i2
  have q9 : (i2 &&& (9223372036854775807 : Int64)).toInt = i2.toInt % 9223372036854775808 := Jvm.Kit.i64_mask i2 (9223372036854775807 : Int64) (k := 63) (by decide) (by decide)
  have q10 := rng64 (i2 &&& (9223372036854775807 : Int64))
  have q11 := c_lsub (i0 &&& (9223372036854775807 : Int64)) (i1 &&& (9223372036854775807 : Int64))
  have q12 := rng64 ((i0 &&& (9223372036854775807 : Int64)) - (i1 &&& (9223372036854775807 : Int64)))
  have q13 := mt (fun z => (lw_gt (i2 &&& (9223372036854775807 : Int64)) ((i0 &&& (9223372036854775807 : Int64)) - (i1 &&& (9223372036854775807 : Int64)))).mpr (Int64.lt_iff_toInt_lt.mpr z)) hc11
  have q14 : (0 : Int64).toInt = 0 := rfl
  have q15 := c_ladd (0 : Int64) (i1 &&& (9223372036854775807 : Int64))
  have q16 := rng64 ((0 : Int64) + (i1 &&& (9223372036854775807 : Int64)))
  have q17 := Int64.lt_iff_toInt_lt.mp ((lw_gt ((0 : Int64) + (i1 &&& (9223372036854775807 : Int64))) (i0 &&& (9223372036854775807 : Int64))).mp hc16)
  omega
theorem own_dead_14 (i0 : Int64) (i1 : Int64) (i2 : Int64) (hc1 : ¬ ((0 : Int32) < (lcmpW (i1 &&& (9223372036854775807 : Int64)) (i0 &&& (9223372036854775807 : Int64))))) (hc11 : ¬ ((0 : Int32) < (lcmpW (i2 &&& (9223372036854775807 : Int64)) ((i0 &&& (9223372036854775807 : Int64)) - (i1 &&& (9223372036854775807 : Int64)))))) (hc16 : ¬ ((0 : Int32) < (lcmpW ((0 : Int64) + (i1 &&& (9223372036854775807 : Int64))) (i0 &&& (9223372036854775807 : Int64))))) (hc17 : (lcmpW ((0 : Int64) + (i1 &&& (9223372036854775807 : Int64))) (i1 &&& (9223372036854775807 : Int64))) = (0 : Int32)) (hc18 : (0 : Int32) < (lcmpW (((0 : Int64) + (i1 &&& (9223372036854775807 : Int64))) + (i2 &&& (9223372036854775807 : Int64))) (i0 &&& (9223372036854775807 : Int64)))) : False := by
  have q1 := rng64 i1
  have q2 : (i1 &&& (9223372036854775807 : Int64)).toInt = i1.toInt % 9223372036854775808 := Jvm.Kit.i64_mask i1 (9223372036854775807 : Int64) (k := 63) (by decide) (by decide)
  have q3 := rng64 (i1 &&& (9223372036854775807 : Int64))
  have q4 := rng64 i0
  have q5 : (i0 &&& (9223372036854775807 : Int64)).toInt = i0.toInt % 9223372036854775808 := Jvm.Kit.i64_mask i0 (9223372036854775807 : Int64) (k := 63) (by decide) (by decide)
  have q6 := rng64 (i0 &&& (9223372036854775807 : Int64))
  have q7 := mt (fun z => (lw_gt (i1 &&& (9223372036854775807 : Int64)) (i0 &&& (9223372036854775807 : Int64))).mpr (Int64.lt_iff_toInt_lt.mpr z)) hc1
  have q8 := rng64 i2
  have q9 : (i2 &&& (9223372036854775807 : Int64)).toInt = i2.toInt % 9223372036854775808 := Jvm.Kit.i64_mask i2 (9223372036854775807 : Int64) (k := 63) (by decide) (by decide)
  have q10 := rng64 (i2 &&& (9223372036854775807 : Int64))
  have q11 := c_lsub (i0 &&& (9223372036854775807 : Int64)) (i1 &&& (9223372036854775807 : Int64))
  have q12 := rng64 ((i0 &&& (9223372036854775807 : Int64)) - (i1 &&& (9223372036854775807 : Int64)))
  have q13 := mt (fun z => (lw_gt (i2 &&& (9223372036854775807 : Int64)) ((i0 &&& (9223372036854775807 : Int64)) - (i1 &&& (9223372036854775807 : Int64)))).mpr (Int64.lt_iff_toInt_lt.mpr z)) hc11
  have q14 : (0 : Int64).toInt = 0 := rfl
  have q15 := c_ladd (0 : Int64) (i1 &&& (9223372036854775807 : Int64))
  have q16 := rng64 ((0 : Int64) + (i1 &&& (9223372036854775807 : Int64)))
  have q17 := mt (fun z => (lw_gt ((0 : Int64) + (i1 &&& (9223372036854775807 : Int64))) (i0 &&& (9223372036854775807 : Int64))).mpr (Int64.lt_iff_toInt_lt.mpr z)) hc16
  have q18 := congrArg Int64.toInt ((lw_eq ((0 : Int64) + (i1 &&& (9223372036854775807 : Int64))) (i1 &&& (9223372036854775807 : Int64))).mp hc17)
  have q19 := c_ladd ((0 : Int64) + (i1 &&& (9223372036854775807 : Int64))) (i2 &&& (9223372036854775807 : Int64))
  have q20 := rng64 (((0 : Int64) + (i1 &&& (9223372036854775807 : Int64))) + (i2 &&& (9223372036854775807 : Int64)))
  have q21 := Int64.lt_iff_toInt_lt.mp ((lw_gt (((0 : Int64) + (i1 &&& (9223372036854775807 : Int64))) + (i2 &&& (9223372036854775807 : Int64))) (i0 &&& (9223372036854775807 : Int64))).mp hc18)
  omega
theorem own_dead_15 (i0 : Int64) (i1 : Int64) (i2 : Int64) (hc1 : ¬ ((0 : Int32) < (lcmpW (i1 &&& (9223372036854775807 : Int64)) (i0 &&& (9223372036854775807 : Int64))))) (hc11 : ¬ ((0 : Int32) < (lcmpW (i2 &&& (9223372036854775807 : Int64)) ((i0 &&& (9223372036854775807 : Int64)) - (i1 &&& (9223372036854775807 : Int64)))))) (hc16 : ¬ ((0 : Int32) < (lcmpW ((0 : Int64) + (i1 &&& (9223372036854775807 : Int64))) (i0 &&& (9223372036854775807 : Int64))))) (hc17 : (lcmpW ((0 : Int64) + (i1 &&& (9223372036854775807 : Int64))) (i1 &&& (9223372036854775807 : Int64))) = (0 : Int32)) (hc18 : ¬ ((0 : Int32) < (lcmpW (((0 : Int64) + (i1 &&& (9223372036854775807 : Int64))) + (i2 &&& (9223372036854775807 : Int64))) (i0 &&& (9223372036854775807 : Int64))))) (hc19 : ¬ ((lcmpW (((0 : Int64) + (i1 &&& (9223372036854775807 : Int64))) + (i2 &&& (9223372036854775807 : Int64))) ((i1 &&& (9223372036854775807 : Int64)) + (i2 &&& (9223372036854775807 : Int64)))) = (0 : Int32))) : False := by
  have q1 := rng64 i1
  have q2 : (i1 &&& (9223372036854775807 : Int64)).toInt = i1.toInt % 9223372036854775808 := Jvm.Kit.i64_mask i1 (9223372036854775807 : Int64) (k := 63) (by decide) (by decide)
  have q3 := rng64 (i1 &&& (9223372036854775807 : Int64))
  have q4 := rng64 i0
  have q5 : (i0 &&& (9223372036854775807 : Int64)).toInt = i0.toInt % 9223372036854775808 := Jvm.Kit.i64_mask i0 (9223372036854775807 : Int64) (k := 63) (by decide) (by decide)
  have q6 := rng64 (i0 &&& (9223372036854775807 : Int64))
  have q7 := mt (fun z => (lw_gt (i1 &&& (9223372036854775807 : Int64)) (i0 &&& (9223372036854775807 : Int64))).mpr (Int64.lt_iff_toInt_lt.mpr z)) hc1
  have q8 := rng64 i2
  have q9 : (i2 &&& (9223372036854775807 : Int64)).toInt = i2.toInt % 9223372036854775808 := Jvm.Kit.i64_mask i2 (9223372036854775807 : Int64) (k := 63) (by decide) (by decide)
  have q10 := rng64 (i2 &&& (9223372036854775807 : Int64))
  have q11 := c_lsub (i0 &&& (9223372036854775807 : Int64)) (i1 &&& (9223372036854775807 : Int64))
  have q12 := rng64 ((i0 &&& (9223372036854775807 : Int64)) - (i1 &&& (9223372036854775807 : Int64)))
  have q13 := mt (fun z => (lw_gt (i2 &&& (9223372036854775807 : Int64)) ((i0 &&& (9223372036854775807 : Int64)) - (i1 &&& (9223372036854775807 : Int64)))).mpr (Int64.lt_iff_toInt_lt.mpr z)) hc11
  have q14 : (0 : Int64).toInt = 0 := rfl
  have q15 := c_ladd (0 : Int64) (i1 &&& (9223372036854775807 : Int64))
  have q16 := rng64 ((0 : Int64) + (i1 &&& (9223372036854775807 : Int64)))
  have q17 := mt (fun z => (lw_gt ((0 : Int64) + (i1 &&& (9223372036854775807 : Int64))) (i0 &&& (9223372036854775807 : Int64))).mpr (Int64.lt_iff_toInt_lt.mpr z)) hc16
  have q18 := congrArg Int64.toInt ((lw_eq ((0 : Int64) + (i1 &&& (9223372036854775807 : Int64))) (i1 &&& (9223372036854775807 : Int64))).mp hc17)
  have q19 := c_ladd ((0 : Int64) + (i1 &&& (9223372036854775807 : Int64))) (i2 &&& (9223372036854775807 : Int64))
  have q20 := rng64 (((0 : Int64) + (i1 &&& (9223372036854775807 : Int64))) + (i2 &&& (9223372036854775807 : Int64)))
  have q21 := mt (fun z => (lw_gt (((0 : Int64) + (i1 &&& (9223372036854775807 : Int64))) + (i2 &&& (9223372036854775807 : Int64))) (i0 &&& (9223372036854775807 : Int64))).mpr (Int64.lt_iff_toInt_lt.mpr z)) hc18
  have q22 := c_ladd (i1 &&& (9223372036854775807 : Int64)) (i2 &&& (9223372036854775807 : Int64))
  have q23 := rng64 ((i1 &&& (9223372036854775807 : Int64)) + (i2 &&& (9223372036854775807 : Int64)))
  have q24 := mt (fun z : ((((0 : Int64) + (i1 &&& (9223372036854775807 : Int64))) + (i2 &&& (9223372036854775807 : Int64)))).toInt = (((i1 &&& (9223372036854775807 : Int64)) + (i2 &&& (9223372036854775807 : Int64)))).toInt => (lw_eq (((0 : Int64) + (i1 &&& (9223372036854775807 : Int64))) + (i2 &&& (9223372036854775807 : Int64))) ((i1 &&& (9223372036854775807 : Int64)) + (i2 &&& (9223372036854775807 : Int64)))).mpr (Int64.toInt_inj.mp z)) hc19
  omega
theorem own_dead_16 (i0 : Int64) (i1 : Int64) (i2 : Int64) (hc1 : ¬ ((0 : Int32) < (lcmpW (i1 &&& (9223372036854775807 : Int64)) (i0 &&& (9223372036854775807 : Int64))))) (hc11 : ¬ ((0 : Int32) < (lcmpW (i2 &&& (9223372036854775807 : Int64)) ((i0 &&& (9223372036854775807 : Int64)) - (i1 &&& (9223372036854775807 : Int64)))))) (hc16 : ¬ ((0 : Int32) < (lcmpW ((0 : Int64) + (i1 &&& (9223372036854775807 : Int64))) (i0 &&& (9223372036854775807 : Int64))))) (hc17 : ¬ ((lcmpW ((0 : Int64) + (i1 &&& (9223372036854775807 : Int64))) (i1 &&& (9223372036854775807 : Int64))) = (0 : Int32))) : False := by
  have q1 := rng64 i1
  have q2 : (i1 &&& (9223372036854775807 : Int64)).toInt = i1.toInt % 9223372036854775808 := Jvm.Kit.i64_mask i1 (9223372036854775807 : Int64) (k := 63) (by decide) (by decide)
  have q3 := rng64 (i1 &&& (9223372036854775807 : Int64))
  have q4 := rng64 i0
  have q5 : (i0 &&& (9223372036854775807 : Int64)).toInt = i0.toInt % 9223372036854775808 := Jvm.Kit.i64_mask i0 (9223372036854775807 : Int64) (k := 63) (by decide) (by decide)
  have q6 := rng64 (i0 &&& (9223372036854775807 : Int64))
  have q7 := mt (fun z => (lw_gt (i1 &&& (9223372036854775807 : Int64)) (i0 &&& (9223372036854775807 : Int64))).mpr (Int64.lt_iff_toInt_lt.mpr z)) hc1
  have q8 := rng64 i2
  have q9 : (i2 &&& (9223372036854775807 : Int64)).toInt = i2.toInt % 9223372036854775808 := Jvm.Kit.i64_mask i2 (9223372036854775807 : Int64) (k := 63) (by decide) (by decide)
  have q10 := rng64 (i2 &&& (9223372036854775807 : Int64))
  have q11 := c_lsub (i0 &&& (9223372036854775807 : Int64)) (i1 &&& (9223372036854775807 : Int64))
  have q12 := rng64 ((i0 &&& (9223372036854775807 : Int64)) - (i1 &&& (9223372036854775807 : Int64)))
  have q13 := mt (fun z => (lw_gt (i2 &&& (9223372036854775807 : Int64)) ((i0 &&& (9223372036854775807 : Int64)) - (i1 &&& (9223372036854775807 : Int64)))).mpr (Int64.lt_iff_toInt_lt.mpr z)) hc11
  have q14 : (0 : Int64).toInt = 0 := rfl
  have q15 := c_ladd (0 : Int64) (i1 &&& (9223372036854775807 : Int64))
  have q16 := rng64 ((0 : Int64) + (i1 &&& (9223372036854775807 : Int64)))
  have q17 := mt (fun z => (lw_gt ((0 : Int64) + (i1 &&& (9223372036854775807 : Int64))) (i0 &&& (9223372036854775807 : Int64))).mpr (Int64.lt_iff_toInt_lt.mpr z)) hc16
  have q18 := mt (fun z : (((0 : Int64) + (i1 &&& (9223372036854775807 : Int64)))).toInt = ((i1 &&& (9223372036854775807 : Int64))).toInt => (lw_eq ((0 : Int64) + (i1 &&& (9223372036854775807 : Int64))) (i1 &&& (9223372036854775807 : Int64))).mpr (Int64.toInt_inj.mp z)) hc17
  omega
set_option maxRecDepth 65536 in
set_option maxHeartbeats 40000000 in
theorem comes_1 {Post : Tables → Env → Array Value → State → Outcome → State → Prop} (hpost : ∀ tb e args s v u, (limb_1_1.after args s (.returned v) u = true ∧ limb_1_2.after args s (.returned v) u = true ∧ True) → FrameEnd s (.returned v) u (Jvm.fieldLocs frame_1_writes args s ++ Jvm.arrayLocs frame_1_arrays args s ++ Jvm.staticLocs frame_1_statics s) 16 128 → Post tb e args s (.returned v) u) :
    ArmFor flags0 classFile x code maxLocals ret World_1 tables_1 room_1 Calls_1 rest_1 Pre_1 Post := by
  intro l hfl _ _ p e ha hc hk s m args below hf hA hF happ hP
  obtain ⟨hcalls, hrest, hpre⟩ := hP
  obtain ⟨-, -, -, hnamed, -, -, -, hat⟩ := (Spec.applies_iff hf).mp happ
  obtain ⟨hg, hn⟩ := and_e (Cond.before_iff.mp (show (Jvm.Cond.and given_1 narrow_1).before args s = true from hpre))
  obtain ⟨g0, gr0⟩ := and_e hg
  obtain ⟨g1, gr1⟩ := and_e gr0
  obtain ⟨g2, gr2⟩ := and_e gr1
  obtain ⟨w0, w1, w2, rfl⟩ : ∃ w0 w1 w2 : Value, args = #[w0, w1, w2] := by
    have hs : args.size = 3 := by simpa [Cond.value, given_1] using g0
    obtain ⟨L⟩ := args
    match L, hs with
    | [w0, w1, w2], _ => exact ⟨w0, w1, w2, rfl⟩
  have hw := fun d (hd : d ∈ tables_1) => atoms_spec (ws := Jvm.Cond.code x code maxLocals ret :: tables_1) hat d (List.mem_cons_of_mem _ hd)
  have hfit : Fit s := fun {y c} hc i hi => by
    obtain ⟨ha, rfl⟩ := Array.getElem?_eq_some_iff.mp hc
    have q := List.all_eq_true.mp ((Array.all_eq_true_iff_forall_mem.mp hF) _ (Array.getElem_mem ha)) i (List.mem_range.mpr hi)
    simpa [Array.getElem?_eq_getElem hi] using q
  obtain ⟨hsets, hown0⟩ := atoms_of _ (rest_1_c_eq ▸ (show rest_1_c.before _ s = true from hrest))
  obtain ⟨i0, ei0⟩ := isL_v g1
  obtain rfl : w0 = (.long i0) := Option.some.inj ei0
  obtain ⟨i1, ei1⟩ := isL_v g2
  obtain rfl : w1 = (.long i1) := Option.some.inj ei1
  obtain ⟨i2, ei2⟩ := isL_v gr2
  obtain rfl : w2 = (.long i2) := Option.some.inj ei2
  obtain ⟨x_EMPTY_0, ev_EMPTY_0⟩ := exa_v (Cond.before_iff.mp (hsets _ (List.mem_of_getElem? (i := 2) rfl)))
  have S_EMPTY_0 := Sta.start ev_EMPTY_0 (Or.inl (hsets _ (List.mem_of_getElem? (i := 1) rfl)))
  have E_EMPTY_0 := Exa.start ev_EMPTY_0 (Cond.before_iff.mp (hsets _ (List.mem_of_getElem? (i := 2) rfl)))
  have F_EMPTY_0_isPresent := own_fld_int ev_EMPTY_0 (Cond.before_iff.mp (hsets _ (List.mem_of_getElem? (i := 3) rfl)))
  have F_EMPTY_0_value := own_fld_long ev_EMPTY_0 (Cond.before_iff.mp (hsets _ (List.mem_of_getElem? (i := 4) rfl)))
  have hM : MetFree l x (head1 (Jvm.Cond.code x code maxLocals ret :: tables_1) room_1) (fun a U => a = #[(.long i0), (.long i1), (.long i2)] ∧ s.Warmed39 U.vm ∧ U.heap = s.heap) (fun _ _ _ _ _ => True) (fun _ U o U' => ∃ v L, o = .returned v ∧ own_QT s.heap.size v L ∧ FrameEnd U o U' L room_1.cells room_1.slots) := by
    by_cases hc1 : (0 : Int32) < (lcmpW (i1 &&& (9223372036854775807 : Int64)) (i0 &&& (9223372036854775807 : Int64)))
    · by_cases hc2 : (0 : Int32) < (lcmpW (i2 &&& (9223372036854775807 : Int64)) ((i0 &&& (9223372036854775807 : Int64)) - (i0 &&& (9223372036854775807 : Int64))))
      · by_cases hc3 : (0 : Int32) < (lcmpW ((0 : Int64) + (i0 &&& (9223372036854775807 : Int64))) (i0 &&& (9223372036854775807 : Int64)))
        · exact (own_dead_1 i0 i1 i2 hc1 hc2 hc3).elim
        · by_cases hc4 : (lcmpW ((0 : Int64) + (i0 &&& (9223372036854775807 : Int64))) (i0 &&& (9223372036854775807 : Int64))) = (0 : Int32)
          · by_cases hc5 : (0 : Int32) < (lcmpW (((0 : Int64) + (i0 &&& (9223372036854775807 : Int64))) + ((i0 &&& (9223372036854775807 : Int64)) - (i0 &&& (9223372036854775807 : Int64)))) (i0 &&& (9223372036854775807 : Int64)))
            · exact (own_dead_2 i0 i1 i2 hc1 hc2 hc3 hc4 hc5).elim
            · by_cases hc6 : (lcmpW (((0 : Int64) + (i0 &&& (9223372036854775807 : Int64))) + ((i0 &&& (9223372036854775807 : Int64)) - (i0 &&& (9223372036854775807 : Int64)))) ((i0 &&& (9223372036854775807 : Int64)) + ((i0 &&& (9223372036854775807 : Int64)) - (i0 &&& (9223372036854775807 : Int64))))) = (0 : Int32)
              · exact rm0_4 l s _ hw tables_1 i0 i1 i2 x_EMPTY_0 s.heap s.heap.size (Nat.le_refl _) hc1 hc2 S_EMPTY_0 hc3 hc4 hc5 hc6
              · exact (own_dead_3 i0 i1 i2 hc1 hc2 hc3 hc4 hc5 hc6).elim
          · exact (own_dead_4 i0 i1 i2 hc1 hc2 hc3 hc4).elim
      · by_cases hc7 : (0 : Int32) < (lcmpW ((0 : Int64) + (i0 &&& (9223372036854775807 : Int64))) (i0 &&& (9223372036854775807 : Int64)))
        · exact (own_dead_5 i0 i1 i2 hc1 hc2 hc7).elim
        · by_cases hc8 : (lcmpW ((0 : Int64) + (i0 &&& (9223372036854775807 : Int64))) (i0 &&& (9223372036854775807 : Int64))) = (0 : Int32)
          · by_cases hc9 : (0 : Int32) < (lcmpW (((0 : Int64) + (i0 &&& (9223372036854775807 : Int64))) + (i2 &&& (9223372036854775807 : Int64))) (i0 &&& (9223372036854775807 : Int64)))
            · exact (own_dead_6 i0 i1 i2 hc1 hc2 hc7 hc8 hc9).elim
            · by_cases hc10 : (lcmpW (((0 : Int64) + (i0 &&& (9223372036854775807 : Int64))) + (i2 &&& (9223372036854775807 : Int64))) ((i0 &&& (9223372036854775807 : Int64)) + (i2 &&& (9223372036854775807 : Int64)))) = (0 : Int32)
              · exact rm0_3 l s _ hw tables_1 i0 i1 i2 x_EMPTY_0 s.heap s.heap.size (Nat.le_refl _) hc1 hc2 S_EMPTY_0 hc7 hc8 hc9 hc10
              · exact (own_dead_7 i0 i1 i2 hc1 hc2 hc7 hc8 hc9 hc10).elim
          · exact (own_dead_8 i0 i1 i2 hc1 hc2 hc7 hc8).elim
    · by_cases hc11 : (0 : Int32) < (lcmpW (i2 &&& (9223372036854775807 : Int64)) ((i0 &&& (9223372036854775807 : Int64)) - (i1 &&& (9223372036854775807 : Int64))))
      · by_cases hc12 : (0 : Int32) < (lcmpW ((0 : Int64) + (i1 &&& (9223372036854775807 : Int64))) (i0 &&& (9223372036854775807 : Int64)))
        · exact (own_dead_9 i0 i1 i2 hc1 hc11 hc12).elim
        · by_cases hc13 : (lcmpW ((0 : Int64) + (i1 &&& (9223372036854775807 : Int64))) (i1 &&& (9223372036854775807 : Int64))) = (0 : Int32)
          · by_cases hc14 : (0 : Int32) < (lcmpW (((0 : Int64) + (i1 &&& (9223372036854775807 : Int64))) + ((i0 &&& (9223372036854775807 : Int64)) - (i1 &&& (9223372036854775807 : Int64)))) (i0 &&& (9223372036854775807 : Int64)))
            · exact (own_dead_10 i0 i1 i2 hc1 hc11 hc12 hc13 hc14).elim
            · by_cases hc15 : (lcmpW (((0 : Int64) + (i1 &&& (9223372036854775807 : Int64))) + ((i0 &&& (9223372036854775807 : Int64)) - (i1 &&& (9223372036854775807 : Int64)))) ((i1 &&& (9223372036854775807 : Int64)) + ((i0 &&& (9223372036854775807 : Int64)) - (i1 &&& (9223372036854775807 : Int64))))) = (0 : Int32)
              · exact rm0_2 l s _ hw tables_1 i0 i1 i2 x_EMPTY_0 s.heap s.heap.size (Nat.le_refl _) hc1 hc11 S_EMPTY_0 hc12 hc13 hc14 hc15
              · exact (own_dead_11 i0 i1 i2 hc1 hc11 hc12 hc13 hc14 hc15).elim
          · exact (own_dead_12 i0 i1 i2 hc1 hc11 hc12 hc13).elim
      · by_cases hc16 : (0 : Int32) < (lcmpW ((0 : Int64) + (i1 &&& (9223372036854775807 : Int64))) (i0 &&& (9223372036854775807 : Int64)))
        · exact (own_dead_13 i0 i1 i2 hc1 hc11 hc16).elim
        · by_cases hc17 : (lcmpW ((0 : Int64) + (i1 &&& (9223372036854775807 : Int64))) (i1 &&& (9223372036854775807 : Int64))) = (0 : Int32)
          · by_cases hc18 : (0 : Int32) < (lcmpW (((0 : Int64) + (i1 &&& (9223372036854775807 : Int64))) + (i2 &&& (9223372036854775807 : Int64))) (i0 &&& (9223372036854775807 : Int64)))
            · exact (own_dead_14 i0 i1 i2 hc1 hc11 hc16 hc17 hc18).elim
            · by_cases hc19 : (lcmpW (((0 : Int64) + (i1 &&& (9223372036854775807 : Int64))) + (i2 &&& (9223372036854775807 : Int64))) ((i1 &&& (9223372036854775807 : Int64)) + (i2 &&& (9223372036854775807 : Int64)))) = (0 : Int32)
              · exact rm0_1 l s _ hw tables_1 i0 i1 i2 x_EMPTY_0 s.heap s.heap.size (Nat.le_refl _) hc1 hc11 S_EMPTY_0 hc16 hc17 hc18 hc19
              · exact (own_dead_15 i0 i1 i2 hc1 hc11 hc16 hc17 hc18 hc19).elim
          · exact (own_dead_16 i0 i1 i2 hc1 hc11 hc16 hc17).elim
  obtain ⟨n, o, h1, h2, h3, _, L, rfl, ⟨rfl, N⟩, hq⟩ := hM p e ha hc hk s m _ below hf ((Spec.applies_iff_loose hf).mp happ).1 ⟨rfl, State.Warmed39.refl s, rfl⟩ trivial
  refine ⟨n, _, h1, h2, h3, hpost _ _ _ _ _ _ ⟨Cond.after_iff.mpr rfl, Cond.after_iff.mpr (eq_i res_at (Term.int_eval (1)) rfl), trivial⟩ ⟨hq.1, hq.2.1, (hq.2.2.sift fun y hy => Or.inr (N y hy)).mono (by decide) (by decide)⟩⟩
theorem main_1_1 : Claimed_1_1 := comes_1 fun _ _ _ _ _ _ h hF => ⟨h.1, hF⟩
theorem main_1_2 : Claimed_1_2 := comes_1 fun _ _ _ _ _ _ h hF => ⟨h.2.1, hF⟩
end Jvm.Pilot.@@N@@
namespace Jvm.Pilot.@@N@@
open Jvm Jvm.ClassFile Sem Op Lib Jvm.Free Jvm.Stand Jvm.Pilot.@@N@@.Jvm.D
/-! MADE BY PROGRAM (witnessworld.py) out of the Statement's table words and the real class files: 11 classes; the members and pool entries that the words name. The judged class is class 1, her method 1. -/
namespace start1
open Jvm.ClassFile
def u (s : String) : CpInfo := .utf8 (stringToUtf16 s)
/-- a pool by its gaps: so many unusable entries, then the entry; so many at the end -/
def gap : Nat → List CpInfo → List CpInfo
  | 0, r => r
  | n + 1, r => .unusable :: gap n r
def poolList (es : List (Nat × CpInfo)) (last : Nat) : List CpInfo := es.foldr (fun e r => gap e.1 (e.2 :: r)) (gap last [])
def pool (es : List (Nat × CpInfo)) (last : Nat) : Array CpInfo := ⟨poolList es last⟩
def fileOf (pool : Array CpInfo) (this : Nat) (attrs : Array Attribute := #[]) (ms : Array MethodInfo := #[]) (fl : Nat := 33) (sup : Nat := 0) (ifs : Array Nat := #[]) (fds : Array FieldInfo := #[]) : ClassFile where
  minorVersion := 0
  majorVersion := 65
  constantPool := pool
  accessFlags := fl
  thisClass := this
  superClass := sup
  interfaces := ifs
  fields := fds
  methods := ms
  attributes := attrs
def plain (name : String) (sup : Option ClassId) : Class where
  name := name
  kind := .ordinary
  loader := none
  accessFlags := 33
  super := sup
  interfaces := #[]
  cf := none
  fields := #[]
  methods := #[]
  instanceTypes := #[]
  staticTypes := #[]
  resolved := #[]
  callSites := []
  init := .initialized
  statics := none
  mirror := none

def pool0 : Array CpInfo := pool [(5, u "<init>"), (0, u "()V"), (1, .class_ 10), (1, u "java/lang/Object")] 113

def k0c0 : Code := { maxStack := 0, maxLocals := 1, code := object_method_1_code, exceptionTable := #[], attributes := #[] }
def k0m0 : Method := { name := "<init>", desc := "()V", sig := { parameters := [], returnType := none }, accessFlags := 1, code := some k0c0 }
/-- java/lang/Object -/
def k0 : Class := { plain "java/lang/Object" none with
  accessFlags := 33
  interfaces := #[]
  cf := some (fileOf pool0 8 #[] #[{ accessFlags := 1, nameIndex := 5, descriptorIndex := 6, attributes := #[] }] 33 0 #[] #[])
  fields := #[]
  methods := #[k0m0]
  instanceTypes := #[]
  staticTypes := #[]
  resolved := Array.replicate 124 none
  statics := none }

def pool1 : Array CpInfo := pool [(2, .class_ 4), (1, u "java/lang/Object"), (0, u "<init>"), (0, u "()V"), (2, .long 9223372036854775807), (1, .methodref 12 13), (0, .class_ 14), (0, .nameAndType 15 16), (0, u "java/lang/Math"), (0, u "min"), (0, u "(JJ)J"), (0, .class_ 18), (0, u "com/example/lasting_names/lastingnames/BodyBound"), (0, .methodref 17 20), (0, .nameAndType 5 21), (0, u "(J)V"), (0, .methodref 17 23), (0, .nameAndType 24 25), (0, u "received"), (0, u "()J"), (0, .methodref 17 27), (0, .nameAndType 28 21), (0, u "count"), (0, .class_ 30), (0, u "com/example/lasting_names/lastingnames/BodyBoundCountPinLaw"), (2, u "law"), (0, u "(JJJ)Z")] 6

def k1m0 : Method := { name := "<init>", desc := "()V", sig := { parameters := [], returnType := none }, accessFlags := 2, code := none }
def k1c1 : Code := { maxStack := 6, maxLocals := 13, code := code, exceptionTable := #[], attributes := #[] }
def k1m1 : Method := { name := "law", desc := "(JJJ)Z", sig := { parameters := [.long, .long, .long], returnType := some .boolean }, accessFlags := 9, code := some k1c1 }
/-- com/example/lasting_names/lastingnames/BodyBoundCountPinLaw -/
def k1 : Class := { plain "com/example/lasting_names/lastingnames/BodyBoundCountPinLaw" (some 0) with
  accessFlags := 49
  interfaces := #[]
  cf := some (fileOf pool1 29 #[] #[{ accessFlags := 2, nameIndex := 5, descriptorIndex := 6, attributes := #[] }, { accessFlags := 9, nameIndex := 33, descriptorIndex := 34, attributes := #[] }] 49 2 #[] #[])
  fields := #[]
  methods := #[k1m0, k1m1]
  instanceTypes := #[]
  staticTypes := #[]
  resolved := Array.replicate 41 none
  statics := none }

def pool2 : Array CpInfo := pool [(1, .class_ 2), (0, u "java/lang/Math"), (1, .class_ 6), (1, u "java/lang/Object"), (0, u "<init>"), (0, u "()V"), (89, .class_ 100), (1, u "java/lang/Math$RandomNumberGeneratorHolder"), (20, u "(JJ)J"), (50, u "negativeZeroFloatBits"), (0, u "J"), (2, u "negativeZeroDoubleBits"), (24, u "min"), (43, u "$assertionsDisabled"), (0, u "Z"), (91, u "twoToTheDoubleScaleDown"), (0, u "D"), (4, u "twoToTheDoubleScaleUp"), (9, u "E"), (3, u "PI"), (2, u "TAU"), (2, u "DEGREES_TO_RADIANS"), (0, u "RADIANS_TO_DEGREES")] 94

def k2m0 : Method := { name := "<init>", desc := "()V", sig := { parameters := [], returnType := none }, accessFlags := 2, code := none }
def k2c1 : Code := { maxStack := 4, maxLocals := 4, code := jdk_29_method_70_code, exceptionTable := #[], attributes := #[] }
def k2m1 : Method := { name := "min", desc := "(JJ)J", sig := { parameters := [.long, .long], returnType := some .long }, accessFlags := 9, code := some k2c1 }
/-- java/lang/Math -/
def k2 : Class := { plain "java/lang/Math" (some 0) with
  accessFlags := 49
  interfaces := #[]
  cf := some (fileOf pool2 1 #[.nestMembers #[98]] #[{ accessFlags := 2, nameIndex := 7, descriptorIndex := 8, attributes := #[] }, { accessFlags := 9, nameIndex := 201, descriptorIndex := 121, attributes := #[] }] 49 4 #[] #[{ accessFlags := 25, nameIndex := 354, descriptorIndex := 339, attributes := #[] }, { accessFlags := 25, nameIndex := 358, descriptorIndex := 339, attributes := #[] }, { accessFlags := 25, nameIndex := 361, descriptorIndex := 339, attributes := #[] }, { accessFlags := 26, nameIndex := 364, descriptorIndex := 339, attributes := #[] }, { accessFlags := 26, nameIndex := 365, descriptorIndex := 339, attributes := #[] }, { accessFlags := 26, nameIndex := 172, descriptorIndex := 173, attributes := #[] }, { accessFlags := 26, nameIndex := 176, descriptorIndex := 173, attributes := #[] }, { accessFlags := 8, nameIndex := 344, descriptorIndex := 339, attributes := #[] }, { accessFlags := 8, nameIndex := 338, descriptorIndex := 339, attributes := #[] }, { accessFlags := 4120, nameIndex := 245, descriptorIndex := 246, attributes := #[] }])
  fields := #[{ name := "E", type := .double, accessFlags := 25, slot := 0, constantValue := 0 }, { name := "PI", type := .double, accessFlags := 25, slot := 1, constantValue := 0 }, { name := "TAU", type := .double, accessFlags := 25, slot := 2, constantValue := 0 }, { name := "DEGREES_TO_RADIANS", type := .double, accessFlags := 26, slot := 3, constantValue := 0 }, { name := "RADIANS_TO_DEGREES", type := .double, accessFlags := 26, slot := 4, constantValue := 0 }, { name := "negativeZeroFloatBits", type := .long, accessFlags := 26, slot := 5, constantValue := 0 }, { name := "negativeZeroDoubleBits", type := .long, accessFlags := 26, slot := 6, constantValue := 0 }, { name := "twoToTheDoubleScaleUp", type := .double, accessFlags := 8, slot := 7, constantValue := 0 }, { name := "twoToTheDoubleScaleDown", type := .double, accessFlags := 8, slot := 8, constantValue := 0 }, { name := "$assertionsDisabled", type := .boolean, accessFlags := 4120, slot := 9, constantValue := 0 }]
  methods := #[k2m0, k2m1]
  instanceTypes := #[]
  staticTypes := #[.double, .double, .double, .double, .double, .long, .long, .double, .double, .boolean]
  resolved := Array.replicate 460 none
  statics := none }

def pool3 : Array CpInfo := pool [(1, .methodref 2 3), (0, .class_ 4), (0, .nameAndType 5 6), (0, u "java/lang/Object"), (0, u "<init>"), (0, u "()V"), (0, .methodref 8 9), (0, .class_ 10), (0, .nameAndType 11 12), (0, u "java/util/OptionalLong"), (0, u "empty"), (0, u "()Ljava/util/OptionalLong;"), (0, .fieldref 14 15), (0, .class_ 16), (0, .nameAndType 17 18), (0, u "com/example/lasting_names/lastingnames/BodyBound"), (0, u "announced"), (0, u "Ljava/util/OptionalLong;"), (0, .fieldref 14 20), (0, .nameAndType 21 22), (0, u "maxBytes"), (0, u "J"), (9, u "()J"), (3, .fieldref 14 37), (0, .nameAndType 38 22), (0, u "received"), (2, u "(J)V"), (12, u "count")] 5

def k3c0 : Code := { maxStack := 3, maxLocals := 3, code := prog_3_method_1_code, exceptionTable := #[], attributes := #[] }
def k3m0 : Method := { name := "<init>", desc := "(J)V", sig := { parameters := [.long], returnType := none }, accessFlags := 0, code := some k3c0 }
def k3c1 : Code := { maxStack := 5, maxLocals := 3, code := prog_3_method_3_code, exceptionTable := #[], attributes := #[] }
def k3m1 : Method := { name := "count", desc := "(J)V", sig := { parameters := [.long], returnType := none }, accessFlags := 0, code := some k3c1 }
def k3c2 : Code := { maxStack := 2, maxLocals := 1, code := prog_3_method_4_code, exceptionTable := #[], attributes := #[] }
def k3m2 : Method := { name := "received", desc := "()J", sig := { parameters := [], returnType := some .long }, accessFlags := 0, code := some k3c2 }
/-- com/example/lasting_names/lastingnames/BodyBound -/
def k3 : Class := { plain "com/example/lasting_names/lastingnames/BodyBound" (some 0) with
  accessFlags := 32
  interfaces := #[]
  cf := some (fileOf pool3 14 #[] #[{ accessFlags := 0, nameIndex := 5, descriptorIndex := 41, attributes := #[] }, { accessFlags := 0, nameIndex := 54, descriptorIndex := 41, attributes := #[] }, { accessFlags := 0, nameIndex := 38, descriptorIndex := 32, attributes := #[] }] 32 2 #[] #[{ accessFlags := 18, nameIndex := 21, descriptorIndex := 22, attributes := #[] }, { accessFlags := 66, nameIndex := 17, descriptorIndex := 18, attributes := #[] }, { accessFlags := 66, nameIndex := 38, descriptorIndex := 22, attributes := #[] }])
  fields := #[{ name := "maxBytes", type := .long, accessFlags := 18, slot := 0, constantValue := 0 }, { name := "announced", type := (.object "java/util/OptionalLong"), accessFlags := 66, slot := 1, constantValue := 0 }, { name := "received", type := .long, accessFlags := 66, slot := 2, constantValue := 0 }]
  methods := #[k3m0, k3m1, k3m2]
  instanceTypes := #[.long, (.object "java/util/OptionalLong"), .long]
  staticTypes := #[]
  resolved := Array.replicate 60 none
  statics := none }

def pool4 : Array CpInfo := pool [(2, .class_ 4), (1, u "java/lang/Object"), (0, u "<init>"), (0, u "()V"), (1, .class_ 10), (1, u "java/util/OptionalLong"), (0, u "isPresent"), (0, u "Z"), (2, u "value"), (0, u "J"), (0, .fieldref 8 18), (0, .nameAndType 19 20), (0, u "EMPTY"), (0, u "Ljava/util/OptionalLong;"), (28, u "empty"), (46, u "()Ljava/util/OptionalLong;")] 41

def k4m0 : Method := { name := "<init>", desc := "()V", sig := { parameters := [], returnType := none }, accessFlags := 2, code := none }
def k4c1 : Code := { maxStack := 1, maxLocals := 0, code := jdk_2650_method_2_code, exceptionTable := #[], attributes := #[] }
def k4m1 : Method := { name := "empty", desc := "()Ljava/util/OptionalLong;", sig := { parameters := [], returnType := some (.object "java/util/OptionalLong") }, accessFlags := 9, code := some k4c1 }
/-- java/util/OptionalLong -/
def k4 : Class := { plain "java/util/OptionalLong" (some 0) with
  accessFlags := 49
  interfaces := #[]
  cf := some (fileOf pool4 8 #[] #[{ accessFlags := 2, nameIndex := 5, descriptorIndex := 6, attributes := #[] }, { accessFlags := 9, nameIndex := 49, descriptorIndex := 96, attributes := #[] }] 49 2 #[] #[{ accessFlags := 26, nameIndex := 19, descriptorIndex := 20, attributes := #[] }, { accessFlags := 18, nameIndex := 11, descriptorIndex := 12, attributes := #[] }, { accessFlags := 18, nameIndex := 15, descriptorIndex := 16, attributes := #[] }])
  fields := #[{ name := "EMPTY", type := (.object "java/util/OptionalLong"), accessFlags := 26, slot := 0, constantValue := 0 }, { name := "isPresent", type := .boolean, accessFlags := 18, slot := 0, constantValue := 0 }, { name := "value", type := .long, accessFlags := 18, slot := 1, constantValue := 0 }]
  methods := #[k4m0, k4m1]
  instanceTypes := #[.boolean, .long]
  staticTypes := #[(.object "java/util/OptionalLong")]
  resolved := Array.replicate 138 none
  statics := some 0 }

def pool5 : Array CpInfo := pool [(1, u "java/lang/Cloneable"), (0, .class_ 1), (0, u "java/lang/Object"), (0, .class_ 3)] 3

/-- java/lang/Cloneable -/
def k5 : Class := { plain "java/lang/Cloneable" (some 0) with
  accessFlags := 1537
  interfaces := #[]
  cf := some (fileOf pool5 2 #[] #[] 1537 4 #[] #[])
  fields := #[]
  methods := #[]
  instanceTypes := #[]
  staticTypes := #[]
  resolved := Array.replicate 8 none
  statics := none }

def pool6 : Array CpInfo := pool [(1, u "java/io/Serializable"), (0, .class_ 1), (0, u "java/lang/Object"), (0, .class_ 3)] 3

/-- java/io/Serializable -/
def k6 : Class := { plain "java/io/Serializable" (some 0) with
  accessFlags := 1537
  interfaces := #[]
  cf := some (fileOf pool6 2 #[] #[] 1537 4 #[] #[])
  fields := #[]
  methods := #[]
  instanceTypes := #[]
  staticTypes := #[]
  resolved := Array.replicate 8 none
  statics := none }

/-- the primitive byte -/
def k7 : Class := { plain "byte" none with kind := .primitive 'B', accessFlags := 0x411 }
/-- [B -/
def k8 : Class := { plain "[B" (some 0) with kind := .array 7 .byte, interfaces := #[5, 6], accessFlags := 1041 }

/-- the primitive int -/
def k9 : Class := { plain "int" none with kind := .primitive 'I', accessFlags := 0x411 }
/-- [I -/
def k10 : Class := { plain "[I" (some 0) with kind := .array 9 .int, interfaces := #[5, 6], accessFlags := 1041 }

def heap : Heap := #[{ cls := 4, slots := #[.ref 1], vm := .statics 4 },
  { cls := 4, slots := #[.int 0, .long 0], vm := .none }]
def classes : Array Class := #[k0, k1, k2, k3, k4, k5, k6, k7, k8, k9, k10]
def interned : List (Array UInt16 × Addr) := []
def slotsUsed : Nat := 3
def theMethod : MethodId := ⟨1, 1⟩
def args0 : Array Value := #[.long 5, .long 3, .long 1]
def aboutOver (below : List Frame) : State where
  vm := { classes := classes, interned := interned.toArray }
  heap := heap
  slotsUsed := slotsUsed
  threads := #[{ frames := .invoking theMethod args0 :: below }]
def below0 : List Frame := [.native { method := ⟨0, 0⟩, args := #[] }]
def about1 : State := aboutOver below0
def p0 : Program := .bare "" "" ""
def e0 : Env := launch0.env 0 0 0
theorem w_frames : about1.frames = Frame.invoking theMethod args0 :: below0 := rfl
set_option maxRecDepth 65536 in
theorem w_args : argsFit about1.vm theMethod args0 = true := by decide +kernel
set_option maxRecDepth 65536 in
theorem w_heap : heapFits about1 = true := by decide +kernel
set_option maxRecDepth 65536 in
theorem w_runnable : about1.curStatus? = some .runnable := by decide +kernel
set_option maxRecDepth 65536 in
theorem w_alone : about1.alone = true := by decide +kernel
set_option maxRecDepth 65536 in
theorem w_named : about1.methodNamed? x = some theMethod := by decide +kernel
set_option maxRecDepth 65536 in
theorem w_hears : about1.hears theMethod below0 = true := by decide +kernel
set_option maxRecDepth 65536 in
theorem w_ripe : about1.ripe theMethod args0 below0 = true := by decide +kernel
theorem w_running : about1.status = .running := rfl
set_option maxRecDepth 65536 in
theorem w_room : about1.hasRoom e0.platform room_1 = true :=
  launch0.hasRoom_least _ room_1 (by decide +kernel) (by decide +kernel) (by decide +kernel) (by decide +kernel) (by decide +kernel) (by decide +kernel)
theorem allAtoms_all (ts : List Jvm.Cond) (a : Array Jvm.Value) (st : Jvm.State) : (allAtoms ts).before a st = ts.all (fun c => c.before a st) := by
  induction ts with
  | nil => rfl
  | cons c t ih =>
    show (Jvm.Cond.and c (allAtoms t)).before a st = _
    rw [Jvm.Cond.before_and, ih, List.all_cons]
def words1 : List Jvm.Cond := Jvm.Cond.code x code maxLocals ret :: tables_1
/-- a 'code' word, met by the world's own term for the bytes: nothing is compared byte by byte -/
theorem code_word {y : MethodName} {bytes : ByteArray} {mx : Nat} {rt : Option FieldType} {a : Array Value} {s : State} {m : MethodId} {meth : Method} {c : Code} (h1 : s.methodNamed? y = some m) (h2 : s.vm.method? m = some meth) (h3 : meth.code = some c) (h4 : c.code = bytes)
    (h5 : (c.maxLocals == mx && c.exceptionTable.isEmpty && decide (c.maxStack ≤ mostOperands) && decide (meth.sig.returnType = rt) && !meth.locks && decide (parseMethodDescriptor y.desc = some meth.sig)) = true) : (Jvm.Cond.code y bytes mx rt).before a s = true := by
  simp only [Bool.and_eq_true, beq_iff_eq, Bool.not_eq_true', decide_eq_true_eq] at h5
  obtain ⟨⟨⟨⟨⟨g1, g2⟩, g3⟩, g4⟩, g5⟩, g6⟩ := h5
  simp [Cond.before, Cond.holds, Cond.value, h1, h2, h3, h4, g1, g2, g3, g4, g5, g6]
def isCode : Jvm.Cond → Bool
  | .code _ _ _ _ => true
  | _ => false
theorem all_split {L : List Jvm.Cond} {P : Jvm.Cond → Bool} (h1 : L.all (fun c => isCode c || P c) = true) (h2 : ∀ c ∈ L.filter isCode, P c = true) : L.all P = true := by
  refine List.all_eq_true.mpr fun c hc => ?_
  have h := List.all_eq_true.mp h1 c hc
  rcases Bool.eq_false_or_eq_true (isCode c) with hi | hi
  · exact h2 c (List.mem_filter.mpr ⟨hc, hi⟩)
  · simpa [hi] using h
set_option maxRecDepth 65536 in
theorem w_c0 : (Jvm.Cond.code x code maxLocals ret).before args0 about1 = true := code_word (m := ⟨1, 1⟩) (meth := k1m1) (c := k1c1) (by decide +kernel) rfl rfl rfl (by decide +kernel)
set_option maxRecDepth 65536 in
theorem w_c1 : (Jvm.Cond.code ({ cls := "java/lang/Math", name := "min", desc := "(JJ)J" } : Jvm.MethodName) jdk_29_method_70_code (4 : Nat) (Option.some Jvm.ClassFile.FieldType.long)).before args0 about1 = true := code_word (m := ⟨2, 1⟩) (meth := k2m1) (c := k2c1) (by decide +kernel) rfl rfl rfl (by decide +kernel)
set_option maxRecDepth 65536 in
theorem w_c2 : (Jvm.Cond.code ({ cls := "com/example/lasting_names/lastingnames/BodyBound", name := "<init>", desc := "(J)V" } : Jvm.MethodName) prog_3_method_1_code (3 : Nat) (Option.none : Option Jvm.ClassFile.FieldType)).before args0 about1 = true := code_word (m := ⟨3, 0⟩) (meth := k3m0) (c := k3c0) (by decide +kernel) rfl rfl rfl (by decide +kernel)
set_option maxRecDepth 65536 in
theorem w_c3 : (Jvm.Cond.code ({ cls := "java/lang/Object", name := "<init>", desc := "()V" } : Jvm.MethodName) object_method_1_code (1 : Nat) (Option.none : Option Jvm.ClassFile.FieldType)).before args0 about1 = true := code_word (m := ⟨0, 0⟩) (meth := k0m0) (c := k0c0) (by decide +kernel) rfl rfl rfl (by decide +kernel)
set_option maxRecDepth 65536 in
theorem w_c4 : (Jvm.Cond.code ({ cls := "java/util/OptionalLong", name := "empty", desc := "()Ljava/util/OptionalLong;" } : Jvm.MethodName) jdk_2650_method_2_code (0 : Nat) (Option.some (Jvm.ClassFile.FieldType.object "java/util/OptionalLong"))).before args0 about1 = true := code_word (m := ⟨4, 1⟩) (meth := k4m1) (c := k4c1) (by decide +kernel) rfl rfl rfl (by decide +kernel)
set_option maxRecDepth 65536 in
theorem w_c5 : (Jvm.Cond.code ({ cls := "com/example/lasting_names/lastingnames/BodyBound", name := "received", desc := "()J" } : Jvm.MethodName) prog_3_method_4_code (1 : Nat) (Option.some Jvm.ClassFile.FieldType.long)).before args0 about1 = true := code_word (m := ⟨3, 2⟩) (meth := k3m2) (c := k3c2) (by decide +kernel) rfl rfl rfl (by decide +kernel)
set_option maxRecDepth 65536 in
theorem w_c6 : (Jvm.Cond.code ({ cls := "com/example/lasting_names/lastingnames/BodyBound", name := "count", desc := "(J)V" } : Jvm.MethodName) prog_3_method_3_code (3 : Nat) (Option.none : Option Jvm.ClassFile.FieldType)).before args0 about1 = true := code_word (m := ⟨3, 1⟩) (meth := k3m1) (c := k3c1) (by decide +kernel) rfl rfl rfl (by decide +kernel)
def codes1 : List Jvm.Cond := [Jvm.Cond.code x code maxLocals ret, Jvm.Cond.code ({ cls := "java/lang/Math", name := "min", desc := "(JJ)J" } : Jvm.MethodName) jdk_29_method_70_code (4 : Nat) (Option.some Jvm.ClassFile.FieldType.long), Jvm.Cond.code ({ cls := "com/example/lasting_names/lastingnames/BodyBound", name := "<init>", desc := "(J)V" } : Jvm.MethodName) prog_3_method_1_code (3 : Nat) (Option.none : Option Jvm.ClassFile.FieldType), Jvm.Cond.code ({ cls := "java/lang/Object", name := "<init>", desc := "()V" } : Jvm.MethodName) object_method_1_code (1 : Nat) (Option.none : Option Jvm.ClassFile.FieldType), Jvm.Cond.code ({ cls := "java/util/OptionalLong", name := "empty", desc := "()Ljava/util/OptionalLong;" } : Jvm.MethodName) jdk_2650_method_2_code (0 : Nat) (Option.some (Jvm.ClassFile.FieldType.object "java/util/OptionalLong")), Jvm.Cond.code ({ cls := "com/example/lasting_names/lastingnames/BodyBound", name := "received", desc := "()J" } : Jvm.MethodName) prog_3_method_4_code (1 : Nat) (Option.some Jvm.ClassFile.FieldType.long), Jvm.Cond.code ({ cls := "com/example/lasting_names/lastingnames/BodyBound", name := "count", desc := "(J)V" } : Jvm.MethodName) prog_3_method_3_code (3 : Nat) (Option.none : Option Jvm.ClassFile.FieldType)]
set_option maxRecDepth 65536 in
theorem codes_eq : words1.filter isCode = codes1 := rfl
theorem w_codes : ∀ c ∈ words1.filter isCode, c.before args0 about1 = true := by
  rw [codes_eq]
  intro c hc
  simp only [codes1, List.mem_cons, List.not_mem_nil, or_false] at hc
  rcases hc with rfl | rfl | rfl | rfl | rfl | rfl | rfl
  · exact w_c0
  · exact w_c1
  · exact w_c2
  · exact w_c3
  · exact w_c4
  · exact w_c5
  · exact w_c6
set_option maxRecDepth 65536 in
theorem w_t1 : (words1.take 24).all (fun c => isCode c || c.before args0 about1) = true := by decide +kernel
set_option maxRecDepth 65536 in
theorem w_t2 : (words1.drop 24).all (fun c => isCode c || c.before args0 about1) = true := by decide +kernel
theorem w_tables : (allAtoms (Jvm.Cond.code x code maxLocals ret :: tables_1)).before args0 about1 = true := by
  rw [allAtoms_all]
  show words1.all (fun c => c.before args0 about1) = true
  refine all_split ?_ w_codes
  rw [← List.take_append_drop 24 words1, List.all_append, w_t1, w_t2]
  rfl
set_option maxRecDepth 65536 in
theorem w_rest : rest_1_c.before args0 about1 = true := by decide +kernel
set_option maxRecDepth 65536 in
theorem w_case : (Jvm.Cond.and given_1 narrow_1).before args0 about1 = true := by decide +kernel
theorem w_applies : (headSpec (Jvm.Cond.code x code maxLocals ret :: tables_1) room_1).applies x e0.platform about1 = true :=
  (Spec.applies_iff w_frames).mpr ⟨w_running, w_runnable, w_alone, w_named, w_hears, w_ripe, w_room, w_tables⟩
theorem atStart : AtStart classFile x code maxLocals ret World_1 tables_1 room_1 Calls_1 rest_1 Pre_1 launch0 p0 e0 about1 theMethod args0 below0 :=
  ⟨lists_1, trivial, launch0.admits_env _ _ _, launch0.least_env, fairChoices_fair.cas, fairChoices_fair.clock, w_frames, w_args, w_heap, w_applies, trivial, w_rest, w_case⟩
end start1
theorem witness_1 : WitnessClaimed_1 := ⟨start1.p0, start1.e0, start1.about1, start1.theMethod, start1.args0, start1.below0, start1.atStart⟩
end Jvm.Pilot.@@N@@
