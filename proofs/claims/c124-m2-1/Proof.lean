import JvmDerived
import JvmDerived.Pilot.@@N@@Statement
import JvmDerived.Pilot.@@N@@Code
set_option linter.unusedVariables false
set_option linter.unusedSimpArgs false
@@BLOCK:NumsL.lean.txt@@
namespace Jvm.RoadKit
open Sem ClassFile Op Lib Jvm.Stand Jvm.Free Jvm.LawKit
section New
variable {p : Program} {l : Launch} {e : Env} {R : Room} {s : State} {m : MethodId} {args : Array Value} {below : List Frame} {meth : Method} {c : Code} {T : State} {locs : List Loc} {cells slots : Nat}
theorem retI (X : Stand p l e R s m args below meth c T locs cells slots) (hx : p.tables.exec = Jvm.exec) {pc : Nat} {Ls : Array Slot} {z : Int32} {rest : List Value} (hret : meth.sig.returnType = some .int) (hd : decode c.code pc = .ok (.ireturn, 1)) {fs : List Frame}
    (hl : ∀ (f : JFrame) (acts : List Action), f.method = m → f.locked = none → f.entered = [] → (doReturn e (T.setTop f) acts (some (.int z))).1 = T.setFrames fs) : Steps p.tables e below (T.setTop (mkF m pc Ls (.int z :: rest))) (T.setFrames fs) := by
  have hm' : T.vm.method? m = some meth := X.method'
  have hn : narrow .int (.int z) = .int z := rfl
  show Steps p.tables e below (T.setTop { method := m, pc := pc, locals := Ls, stack := _ :: rest, locked := none }) _
  jvm_step X.here [X.here.top, hx, hd, hm', hret, hn]
  first | (intro acts; rw [hl _ acts rfl rfl rfl]) | rw [hl _ _ rfl rfl rfl]
  exact Steps.refl _
end New
end Jvm.RoadKit
namespace Jvm.Pilot.@@N@@
open Jvm Jvm.ClassFile Sem Op Lib Jvm.Free Jvm.Stand Jvm.LawKit Jvm.RoadKit Bundle Jvm.Pilot.@@N@@.Jvm.D
def own_QT (n0 : Nat) (v : Option Value) (L : List Loc) : Prop := v = some (.int (1 : Int32)) ∧ Fr n0 L
theorem own_b8 (x : Int32) : nar .byte (x.toInt8.toInt32) = x.toInt8.toInt32 := by simp [nar]
theorem own_nost {Z : State} {h : Heap} {a : Addr} {C : String} (F : Exa Z h a C) : ∃ cell : Cell, h[a]? = some cell ∧ cell.vm.isStatics = false := by
  obtain ⟨cell, k, h1, -, -, h4, -⟩ := F; exact ⟨cell, h1, h4⟩
theorem own_nostV {Z : State} {h : Heap} {a : Addr} {k : ClassId} {ty : FieldType} {z : Int32} {vs : List Value} {dv : Value} (F : Arv Z h a k ty z vs dv) : ∃ cell : Cell, h[a]? = some cell ∧ cell.vm.isStatics = false := by
  obtain ⟨cell, A, -⟩ := F; exact ⟨cell, A.1, A.plain⟩
theorem own_arr_keep {Z : State} {h h' : Heap} {ws : List Addr} {a : Addr} {c : Cell} {ty : FieldType} (F : Arr Z h a c ty) (K : Keep h h' ws) (q : a ∉ ws) : Arr Z h' a c ty := ⟨K.2.1 a c F.1 q, F.2⟩
theorem own_sta_keep {Z : State} {h h' : Heap} {ws : List Addr} {C n d : String} {v : Value} (F : Sta Z h C n d v) (K : Keep h h' ws) (q : ∀ x ∈ ws, ∃ cell : Cell, h[x]? = some cell ∧ cell.vm.isStatics = false) : Sta Z h' C n d v := by
  obtain ⟨cf, i, k, f, st, cell, h1, h2, h3, h4, h5, h6, h7⟩ := F
  refine ⟨cf, i, k, f, st, cell, h1, h2, h3, h4, K.2.1 _ _ h5 fun hm => ?_, h6, h7⟩
  obtain ⟨c2, g1, g2⟩ := q _ hm
  cases h5.symm.trans g1
  rw [h6] at g2; cases g2
theorem own_fld_int {Z : State} {args : Array Value} {ts : Term} {C n d : String} {k : Int32} {x : Addr} (ev : ts.eval args Z none [] Z = some (.ref x)) (h : (Jvm.Cond.eq (.field ts C n d) (.int k)).value args Z none Z [] = some true) : Fld Z Z.heap x C n d (.int k) := by
  apply Fld.start
  obtain ⟨u, w, e1, e2, k1, k2⟩ := cmp_v (Or.inl h)
  rw [fld_at ev] at e1
  have e3 : w = .int k := (Option.some.inj (e2.symm.trans (Term.int_eval k)))
  subst e3
  obtain ⟨z, rfl⟩ : ∃ z, u = .int z := k2
  have e4 : (Term.field ts C n d).eval args Z none [] Z = some (.int z) := (fld_at ev).trans e1
  have : z = k := by simpa [Cond.value, e4, e2] using h
  rw [e1, this]
theorem own_fld_long {Z : State} {args : Array Value} {ts : Term} {C n d : String} {k : Int64} {x : Addr} (ev : ts.eval args Z none [] Z = some (.ref x)) (h : (Jvm.Cond.eq (.field ts C n d) (.long k)).value args Z none Z [] = some true) : Fld Z Z.heap x C n d (.long k) := by
  apply Fld.start
  obtain ⟨u, w, e1, e2, k1, k2⟩ := cmp_v (Or.inl h)
  rw [fld_at ev] at e1
  have e3 : w = .long k := (Option.some.inj (e2.symm.trans (long_at k)))
  subst e3
  obtain ⟨z, rfl⟩ : ∃ z, u = .long z := k2
  have e4 : (Term.field ts C n d).eval args Z none [] Z = some (.long z) := (fld_at ev).trans e1
  have : z = k := by simpa [Cond.value, e4, e2] using h
  rw [e1, this]
theorem own_fld_ref {Z : State} {args : Array Value} {ts us : Term} {C n d : String} {x y : Addr} (ev : ts.eval args Z none [] Z = some (.ref x)) (eu : us.eval args Z none [] Z = some (.ref y)) (h : (Jvm.Cond.eq (.field ts C n d) us).value args Z none Z [] = some true) : Fld Z Z.heap x C n d (.ref y) := by
  apply Fld.start
  obtain ⟨u, w, e1, e2, k1, k2⟩ := cmp_v (Or.inl h)
  rw [fld_at ev] at e1
  cases e2.symm.trans eu
  have e4 : (Term.field ts C n d).eval args Z none [] Z = some u := (fld_at ev).trans e1
  have hu : u.isRef = true := k2.2
  have : u = .ref y := gotT (eq_R e4 e2 hu rfl) h
  rw [e1, this]
theorem own_fld_null {Z : State} {args : Array Value} {ts : Term} {C n d : String} {x : Addr} (ev : ts.eval args Z none [] Z = some (.ref x)) (h : (Jvm.Cond.eq (.field ts C n d) .null).value args Z none Z [] = some true) : Fld Z Z.heap x C n d .null :=
  Fld.start ((fld_at ev).symm.trans (null_v h))
theorem own_len {Z : State} {args : Array Value} {ts : Term} {k : Int32} {x : Addr} {c : Cell} {ty : FieldType} (A : Arr Z Z.heap x c ty) (ev : ts.eval args Z none [] Z = some (.ref x)) (h : (Jvm.Cond.eq (.length ts) (.int k)).value args Z none Z [] = some true) : c.slots.size < 2 ^ 31 ∧ c.slots.size.toInt32 = k := by
  obtain ⟨u, w, e1, e2, k1, k2⟩ := cmp_v (Or.inl h)
  have hA := Arr.fin (Vm.Alike.refl _) A
  have hl : c.slots.size < 2 ^ 31 := by
    apply Decidable.byContradiction
    intro hn
    have hn' : ¬ c.slots.size < 2147483648 := hn
    simp [Term.eval, ev, hA, hn'] at e1
  have e4 := len_f ev hA hl
  have e3 : w = .int k := (Option.some.inj (e2.symm.trans (Term.int_eval k)))
  subst e3
  exact ⟨hl, by simpa [Cond.value, e4, e2] using h⟩
theorem own_elem_ref {Z : State} {args : Array Value} {ts us : Term} {j : Int32} {x y : Addr} {c : Cell} {ty : FieldType} (A : Arr Z Z.heap x c ty) (ev : ts.eval args Z none [] Z = some (.ref x)) (eu : us.eval args Z none [] Z = some (.ref y)) (h : (Jvm.Cond.eq (.elem ts (.int j)) us).value args Z none Z [] = some true) (i : Nat) (hi : j.toNatClampNeg = i) : c.slots[i]? = some (.ref y) := by
  obtain ⟨u, w, e1, e2, k1, k2⟩ := cmp_v (Or.inl h)
  cases e2.symm.trans eu
  have hu : u.isRef = true := k2.2
  have e5 : u = .ref y := gotT (eq_R e1 e2 hu rfl) h
  rw [← hi, (elem_in e1 ev (Term.int_eval j) A.1).2, e5]
theorem own_elem_int {Z : State} {args : Array Value} {ts : Term} {j k : Int32} {x : Addr} {c : Cell} {ty : FieldType} (A : Arr Z Z.heap x c ty) (ev : ts.eval args Z none [] Z = some (.ref x)) (h : (Jvm.Cond.eq (.elem ts (.int j)) (.int k)).value args Z none Z [] = some true) (i : Nat) (hi : j.toNatClampNeg = i) : c.slots[i]? = some (.int k) := by
  obtain ⟨u, w, e1, e2, k1, k2⟩ := cmp_v (Or.inl h)
  have e3 : w = .int k := (Option.some.inj (e2.symm.trans (Term.int_eval k)))
  subst e3
  obtain ⟨z, rfl⟩ : ∃ z, u = .int z := k2
  have e5 : z = k := by simpa [Cond.value, e1, e2] using h
  rw [← hi, (elem_in e1 ev (Term.int_eval j) A.1).2, e5]
theorem own_sub {Z : State} {args : Array Value} {j k : Int32} (nn : ¬ j < 0) : (Term.sub (Term.index 0) (Term.int k)).eval args Z none [j.toNatClampNeg] Z = some (.int (j - k)) := by
  have e1 : (Term.index 0).eval args Z none [j.toNatClampNeg] Z = some (.int j) := idx_at nn
  have e2 : (Term.int k).eval args Z none [j.toNatClampNeg] Z = some (.int k) := Term.int_eval k
  simp [Term.eval] at e1 e2 ⊢
  simp [e1]
theorem own_ne_int {a b : Int32} (h : a ≠ b) : Value.int a ≠ Value.int b := fun q => h (Value.int.inj q)

theorem d1_0 : decode prog_30_method_5_code 0 = .ok (.invokestatic 36, 3) := by decide +kernel
theorem d2_0 : decode prog_30_method_1_code 0 = .ok (.getstatic 13, 3) := by decide +kernel
theorem d2_3 : decode prog_30_method_1_code 3 = .ok (.invokevirtual 17, 3) := by decide +kernel
theorem d2_6 : decode prog_30_method_1_code 6 = .ok (.checkcast 18, 3) := by decide +kernel
theorem d2_9 : decode prog_30_method_1_code 9 = .ok (.areturn, 1) := by decide +kernel
theorem ef_2 (m : MethodId)  : entryFrame m #[] 0 = mkF m 0 #[] [] := by first | (simp [entryFrame, mkF, argsToLocals, Value.category]; done) | rfl
theorem pn_2 : plainName "com/example/eneo/eneo/model/AccountType" = true := by first | (simp [plainName, overriddenIn]; done) | decide +kernel
def Q2_1 (Z : State) (w1 : Addr) (k_w1 : ClassId) (w3 : Addr) (w4 : Addr) (w5 : Addr) (h0 : Heap) (n0 : Nat) (v : Option Value) (h : Heap) (L : List Loc) : Prop := ∃ (b6 : Addr), v = some (.ref b6) ∧ Fr n0 L ∧ Keep h0 h [] ∧ h0.size ≤ b6 ∧ Arv Z h b6 k_w1 (.object "com/example/eneo/eneo/model/AccountType") (3 : Int32) [(.ref w3), (.ref w4), (.ref w5)] .null ∧ Exa Z h b6 "[Lcom/example/eneo/eneo/model/AccountType;"
set_option maxRecDepth 65536 in
set_option maxHeartbeats 40000000 in
theorem rm2_1 (l : Launch) (Z : State) (a0 : Array Value) (hw : ∀ d ∈ tables_1, d.before a0 Z = true) (ws : List Jvm.Cond) (w1 : Addr) (k_w1 : ClassId) (w3 : Addr) (w4 : Addr) (w5 : Addr) (h0 : Heap) (n0 : Nat) (Z0 : n0 ≤ h0.size) (S__VALUES : Sta Z h0 "com/example/eneo/eneo/model/AccountType" "$VALUES" "[Lcom/example/eneo/eneo/model/AccountType;" (.ref w1)) (V_w1 : Arv Z h0 w1 k_w1 (.object "com/example/eneo/eneo/model/AccountType") (3 : Int32) [(.ref w3), (.ref w4), (.ref w5)] .null) (E_w1 : Exa Z h0 w1 "[Lcom/example/eneo/eneo/model/AccountType;") :
    MetFree l (⟨"com/example/eneo/eneo/model/AccountType", "values", "()[Lcom/example/eneo/eneo/model/AccountType;"⟩ : MethodName) (head1 (Jvm.Cond.code (⟨"com/example/eneo/eneo/model/AccountType", "values", "()[Lcom/example/eneo/eneo/model/AccountType;"⟩ : MethodName) prog_30_method_1_code 0 (some (.array (.object "com/example/eneo/eneo/model/AccountType"))) :: ws) ({ frames := 1, cells := 1, slots := 3, locals := 14 } : Room)) (fun a U => a = #[] ∧ Z.Warmed39 U.vm ∧ U.heap = h0) (fun _ _ _ _ _ => True) (fun _ U o U' => ∃ v L, o = .returned v ∧ Q2_1 Z w1 k_w1 w3 w4 w5 h0 n0 v U'.heap L ∧ FrameEnd U o U' L ({ frames := 1, cells := 1, slots := 3, locals := 14 } : Room).cells ({ frames := 1, cells := 1, slots := 3, locals := 14 } : Room).slots) := by
  refine MetFree.of_bodySF (plainFor_of_name pn_2) hisR ?_
  intro p e s m args below meth c s₁ Bd hml0 hP hK
  obtain ⟨rfl, hZ, hh⟩ := hP
  have hx := Bd.exec
  have hby := Bd.bytes
  have hml : c.maxLocals = 0 := hml0
  have hown : s.vm.findClass "com/example/eneo/eneo/model/AccountType" = some m.cls := findClass_of_methodNamed Bd.named
  have hnm := (name_of_methodNamed Bd.named Bd.method).1
  have X0 : Stand p l e ({ frames := 1, cells := 1, slots := 3, locals := 14 } : Room) s m #[] below meth c s₁ [] 0 0 := Stand.of_body Bd
  have e0 : s₁.heap = h0 := by rw [← hh, Bd.state]; rfl
  have N0 := Fr.nil n0
  have pre0 : ∀ t, Steps p.tables e below (s₁.setTop (mkF m 0 #[] [])) t → Steps p.tables e below (s₁.setTop (entryFrame m #[] 0)) t := fun t k => castTop (ef_2 m ) k
  obtain ⟨T2, X2, e2, st2⟩ := getS2 X0 hx hZ hown (host := "") (Or.inl (hw _ (List.mem_of_getElem? (i := 10) rfl))) Via.refl e0 S__VALUES (g := (mkF m 0 #[] [])) rfl (hb hby d2_0)
  obtain ⟨T6, h6, X6, e6, E6, A6, Q6, st6⟩ := cloneH X2 hx hZ hown (hw _ (List.mem_of_getElem? (i := 12) rfl)) (hw _ (List.mem_of_getElem? (i := 13) rfl)) (hw _ (List.mem_of_getElem? (i := 17) rfl)) (hw _ (List.mem_of_getElem? (i := 15) rfl)) (hw _ (List.mem_of_getElem? (i := 16) rfl)) (hw _ (List.mem_of_getElem? (i := 18) rfl)) e2 (Arv.arh V_w1) E_w1 (g := (mkF m 3 #[] [(.ref w1)])) rfl (by rw [hml]; rfl) rfl (hb hby d2_3) (by decide) (W := 0) (by show 2 * 0 + _ ≤ _; exact Nat.le_of_eq rfl) (by decide) (cap := 3) (by decide) (by decide) (by decide)
  obtain ⟨b6, g6⟩ : ∃ z, z = h0.size := ⟨_, rfl⟩
  rw [← g6] at A6 Q6 st6
  have sz_b6 : h0.size ≤ b6 := Nat.le_trans (Keep.refl h0 []).1 (Nat.le_of_eq g6.symm)
  have g_b6 : n0 ≤ b6 := Nat.le_trans Z0 sz_b6
  have K0_6 : Keep h0 h6 [] := (Keep.refl h0 []).ext E6
  have Z6 : n0 ≤ h6.size := Nat.le_trans Z0 E6.1
  have V_b6 : Arv Z h6 b6 k_w1 (.object "com/example/eneo/eneo/model/AccountType") (3 : Int32) [(.ref w3), (.ref w4), (.ref w5)] .null := A6
  obtain ⟨T7, X7, e7, st7⟩ := castY X6 hx hZ hown (hw _ (List.mem_of_getElem? (i := 22) rfl)) e6 (Ins.self Q6) (g := (mkF m 6 #[] [(.ref b6)])) rfl rfl (hb hby d2_6)
  obtain ⟨fs, hr, hrun, hended, hW, hsame⟩ := X7.leave (v := some (.ref b6)) (fun h => by rw [Bd.returns] at h; cases h)
  refine ⟨_, _, pre0 _ ?_, hrun, hended, _, _, rfl, ?_, ⟨_, rfl⟩, hW, hsame.mono (by decide) (by decide)⟩
  · show Steps p.tables e below (s₁.setTop (mkF m 0 #[] [])) _
    refine st2 _ ?_
    show Steps p.tables e below (T2.setTop (mkF m 3 #[] [(.ref w1)])) _
    refine st6 _ ?_
    show Steps p.tables e below (T6.setTop (mkF m 6 #[] [(.ref b6)])) _
    refine st7 _ ?_
    show Steps p.tables e below (T7.setTop (mkF m 9 #[] [(.ref b6)])) _
    jvm_step X7.here [X7.here.top, hx, (hb hby d2_9), X7.method', Bd.returns, Value.isRef, FieldType.isReference]
    first | (intro acts; rw [hr _ acts rfl rfl rfl]) | rw [hr _ _ rfl rfl rfl]
    exact Steps.refl _
  · show Q2_1 Z w1 k_w1 w3 w4 w5 h0 n0 _ T7.heap _
    rw [e7]
    exact ⟨b6, rfl, N0, K0_6, sz_b6, V_b6, Q6⟩
theorem pd_0 : parseMethodDescriptor "()[Lcom/example/eneo/eneo/model/AccountType;" = some ⟨[], some (.array (.object "com/example/eneo/eneo/model/AccountType"))⟩ := by decide +kernel
theorem d1_3 : decode prog_30_method_5_code 3 = .ok (.astore_n 1, 1) := by decide +kernel
theorem d1_4 : decode prog_30_method_5_code 4 = .ok (.aload_n 1, 1) := by decide +kernel
theorem d1_5 : decode prog_30_method_5_code 5 = .ok (.arraylength, 1) := by decide +kernel
theorem d1_6 : decode prog_30_method_5_code 6 = .ok (.istore_n 2, 1) := by decide +kernel
theorem d1_7 : decode prog_30_method_5_code 7 = .ok (.iconst 0, 1) := by decide +kernel
theorem d1_8 : decode prog_30_method_5_code 8 = .ok (.istore_n 3, 1) := by decide +kernel
theorem d1_9 : decode prog_30_method_5_code 9 = .ok (.iload_n 3, 1) := by decide +kernel
theorem d1_10 : decode prog_30_method_5_code 10 = .ok (.iload_n 2, 1) := by decide +kernel
theorem d1_11 : decode prog_30_method_5_code 11 = .ok (.if_icmp .ge 26, 3) := by decide +kernel
theorem d1_14 : decode prog_30_method_5_code 14 = .ok (.aload_n 1, 1) := by decide +kernel
theorem d1_15 : decode prog_30_method_5_code 15 = .ok (.iload_n 3, 1) := by decide +kernel
theorem d1_16 : decode prog_30_method_5_code 16 = .ok (.aaload, 1) := by decide +kernel
theorem d1_17 : decode prog_30_method_5_code 17 = .ok (.astore 4, 2) := by decide +kernel
theorem d1_19 : decode prog_30_method_5_code 19 = .ok (.aload 4, 2) := by decide +kernel
theorem d1_21 : decode prog_30_method_5_code 21 = .ok (.getfield 32, 3) := by decide +kernel
theorem d1_24 : decode prog_30_method_5_code 24 = .ok (.iload_n 0, 1) := by decide +kernel
theorem d1_25 : decode prog_30_method_5_code 25 = .ok (.if_icmp .ne 6, 3) := by decide +kernel
theorem d1_28 : decode prog_30_method_5_code 28 = .ok (.aload 4, 2) := by decide +kernel
theorem d1_30 : decode prog_30_method_5_code 30 = .ok (.areturn, 1) := by decide +kernel
theorem ef_1_I (m : MethodId) (x0 : Int32) : entryFrame m #[(.int x0)] 5 = mkF m 0 #[.val (.int x0), .unset, .unset, .unset, .unset] [] := by first | (simp [entryFrame, mkF, argsToLocals, Value.category]; done) | rfl
theorem pn_1 : plainName "com/example/eneo/eneo/model/AccountType" = true := by first | (simp [plainName, overriddenIn]; done) | decide +kernel
def Q1_1 (Z : State) (p1 : Int32) (w2 : Addr) (k_w2 : ClassId) (w3 : Addr) (w4 : Addr) (w5 : Addr) (h0 : Heap) (n0 : Nat) (v : Option Value) (h : Heap) (L : List Loc) : Prop := v = some (.ref w3) ∧ Fr n0 L ∧ Keep h0 h []
set_option maxRecDepth 65536 in
set_option maxHeartbeats 40000000 in
theorem rm1_1 (l : Launch) (Z : State) (a0 : Array Value) (hw : ∀ d ∈ tables_1, d.before a0 Z = true) (ws : List Jvm.Cond) (p1 : Int32) (w2 : Addr) (k_w2 : ClassId) (w3 : Addr) (w4 : Addr) (w5 : Addr) (h0 : Heap) (n0 : Nat) (Z0 : n0 ≤ h0.size) (V_w2 : Arv Z h0 w2 k_w2 (.object "com/example/eneo/eneo/model/AccountType") (3 : Int32) [(.ref w3), (.ref w4), (.ref w5)] .null) (S__VALUES : Sta Z h0 "com/example/eneo/eneo/model/AccountType" "$VALUES" "[Lcom/example/eneo/eneo/model/AccountType;" (.ref w2)) (E_w2 : Exa Z h0 w2 "[Lcom/example/eneo/eneo/model/AccountType;") (F_code_w3 : Fld Z h0 w3 "com/example/eneo/eneo/model/AccountType" "code" "I" (.int (0 : Int32))) (P11 : (0 : Int32) = p1) :
    MetFree l (⟨"com/example/eneo/eneo/model/AccountType", "ofCode", "(I)Lcom/example/eneo/eneo/model/AccountType;"⟩ : MethodName) (head1 (Jvm.Cond.code (⟨"com/example/eneo/eneo/model/AccountType", "ofCode", "(I)Lcom/example/eneo/eneo/model/AccountType;"⟩ : MethodName) prog_30_method_5_code 5 (some (.object "com/example/eneo/eneo/model/AccountType")) :: ws) ({ frames := 2, cells := 1, slots := 3, locals := 25 } : Room)) (fun a U => a = #[(.int p1)] ∧ Z.Warmed39 U.vm ∧ U.heap = h0) (fun _ _ _ _ _ => True) (fun _ U o U' => ∃ v L, o = .returned v ∧ Q1_1 Z p1 w2 k_w2 w3 w4 w5 h0 n0 v U'.heap L ∧ FrameEnd U o U' L ({ frames := 2, cells := 1, slots := 3, locals := 25 } : Room).cells ({ frames := 2, cells := 1, slots := 3, locals := 25 } : Room).slots) := by
  refine MetFree.of_bodySF (plainFor_of_name pn_1) hisR ?_
  intro p e s m args below meth c s₁ Bd hml0 hP hK
  obtain ⟨rfl, hZ, hh⟩ := hP
  have hx := Bd.exec
  have hby := Bd.bytes
  have hml : c.maxLocals = 5 := hml0
  have hown : s.vm.findClass "com/example/eneo/eneo/model/AccountType" = some m.cls := findClass_of_methodNamed Bd.named
  have hnm := (name_of_methodNamed Bd.named Bd.method).1
  have X0 : Stand p l e ({ frames := 2, cells := 1, slots := 3, locals := 25 } : Room) s m #[(.int p1)] below meth c s₁ [] 0 0 := Stand.of_body Bd
  have e0 : s₁.heap = h0 := by rw [← hh, Bd.state]; rfl
  have N0 := Fr.nil n0
  have pre0 : ∀ t, Steps p.tables e below (s₁.setTop (mkF m 0 #[.val (.int p1), .unset, .unset, .unset, .unset] [])) t → Steps p.tables e below (s₁.setTop (entryFrame m #[(.int p1)] 5)) t := fun t k => castTop (ef_1_I m p1) k
  obtain ⟨_, _, ⟨T6, L6, k6, n6⟩, -, X6, ⟨Lc6, hQ6, l6, y6, z6⟩, st6⟩ := Jvm.LawKit.callS X0 hx (y := (⟨"com/example/eneo/eneo/model/AccountType", "values", "()[Lcom/example/eneo/eneo/model/AccountType;"⟩ : MethodName)) hown (mvT hZ (hw _ (List.mem_of_getElem? (i := 7) rfl))) (mvT hZ (hw _ (List.mem_of_getElem? (i := 8) rfl))) (mvT hZ (hw _ (List.mem_of_getElem? (i := 2) rfl))) (mvT hZ (hw _ (List.mem_of_getElem? (i := 9) rfl))) (by decide) (backOf (W := 0) (rm2_1 l Z a0 hw [] w2 k_w2 w3 w4 w5 h0 n0 Z0 S__VALUES V_w2 E_w2) hZ (hw _ (List.mem_of_getElem? (i := 9) rfl)) (hw _ (List.mem_of_getElem? (i := 2) rfl)) (by decide) (by decide)) (g := (mkF m 0 #[.val (.int p1), .unset, .unset, .unset, .unset] [])) rfl (by rw [hml]; rfl) (argsL := []) (rest := []) (lenOf pd_0 rfl) rfl (by show 2 * 0 + _ ≤ _; exact Nat.le_of_eq rfl) (hb hby d1_0) (fun _ _ => ⟨rfl, e0, (by decide : 0 + 1 ≤ _), (by decide : 0 + 3 ≤ _)⟩)
  dsimp only [Pt.U, Pt.locs, Pt.cells, Pt.slots] at X6 l6 y6 z6 st6 hQ6
  subst l6 y6 z6
  obtain ⟨b6_6, rfl, Nq6, K6, x6_0, x6_1, x6_2⟩ := hQ6
  have N6 := Fr.app N0 Nq6
  have sz_b6_6 : h0.size ≤ b6_6 := Nat.le_trans (Keep.refl h0 []).1 x6_0
  have g_b6_6 : n0 ≤ b6_6 := Nat.le_trans Z0 sz_b6_6
  have K0_6 : Keep h0 T6.heap [] := (Keep.refl h0 []).trans K6 all0
  have Z6 : n0 ≤ T6.heap.size := Nat.le_trans Z0 K6.1
  obtain ⟨cl7, Ar7, -, S7, N_7, -, -⟩ := id x6_1
  obtain ⟨cl8, Ar8, q8, S8, N_8, H8, G8⟩ := id x6_1
  have hin8 : ¬ ((0 : Int32) < 0 ∨ cl8.slots.size ≤ ((0 : Int32)).toNatClampNeg) := inb_of S8 ⟨by decide, (by decide : (0 : Int32) < (3 : Int32))⟩
  have hat8 : cl8.slots[((0 : Int32)).toNatClampNeg]? = some (.ref w3) := Has.at H8 hin8 rfl
  have f9 := (F_code_w3.keep K6 nin0)
  obtain ⟨T10, X10, e10, st10⟩ := getF X6 hx hZ hown (host := "") (Or.inl (hw _ (List.mem_of_getElem? (i := 24) rfl))) Via.refl rfl f9 (g := (mkF m 21 #[.val (.int p1), .val (.ref b6_6), .val (.int (3 : Int32)), .val (.int (0 : Int32)), .val (.ref w3)] [(.ref w3)])) rfl rfl (hb hby d1_21)
  obtain ⟨fs, hr, hrun, hended, hW, hsame⟩ := X10.leave (v := some (.ref w3)) (fun h => by rw [Bd.returns] at h; cases h)
  refine ⟨_, _, pre0 _ ?_, hrun, hended, _, _, rfl, ?_, ⟨_, rfl⟩, hW, hsame.mono (by decide) (by decide)⟩
  · show Steps p.tables e below (s₁.setTop (mkF m 0 #[.val (.int p1), .unset, .unset, .unset, .unset] [])) _
    refine st6 _ ?_
    show Steps p.tables e below (T6.setTop (mkF m 3 #[.val (.int p1), .unset, .unset, .unset, .unset] [(.ref b6_6)])) _
    refine XS.astoreN X6.here hx rfl (hb hby d1_3) rfl rfl (l' := #[.val (.int p1), .val (.ref b6_6), .unset, .unset, .unset]) rfl ?_
    show Steps p.tables e below (T6.setTop (mkF m 4 #[.val (.int p1), .val (.ref b6_6), .unset, .unset, .unset] [])) _
    refine XS.aloadN X6.here hx rfl (hb hby d1_4) rfl rfl ?_
    show Steps p.tables e below (T6.setTop (mkF m 5 #[.val (.int p1), .val (.ref b6_6), .unset, .unset, .unset] [(.ref b6_6)])) _
    refine X6.arraylength hx (Ar7.1) (State.isArrayOf_alike hZ.alike Ar7.2.1) (g := (mkF m 5 #[.val (.int p1), .val (.ref b6_6), .unset, .unset, .unset] [(.ref b6_6)])) rfl rfl (hb hby d1_5) _ ?_
    rw [len_of S7 N_7]
    show Steps p.tables e below (T6.setTop (mkF m 6 #[.val (.int p1), .val (.ref b6_6), .unset, .unset, .unset] [(.int (3 : Int32))])) _
    refine XS.istoreN X6.here hx rfl (hb hby d1_6) rfl (l' := #[.val (.int p1), .val (.ref b6_6), .val (.int (3 : Int32)), .unset, .unset]) rfl ?_
    show Steps p.tables e below (T6.setTop (mkF m 7 #[.val (.int p1), .val (.ref b6_6), .val (.int (3 : Int32)), .unset, .unset] [])) _
    refine XS.iconst X6.here hx rfl (hb hby d1_7) ?_
    show Steps p.tables e below (T6.setTop (mkF m 8 #[.val (.int p1), .val (.ref b6_6), .val (.int (3 : Int32)), .unset, .unset] [(.int (0 : Int32))])) _
    refine XS.istoreN X6.here hx rfl (hb hby d1_8) rfl (l' := #[.val (.int p1), .val (.ref b6_6), .val (.int (3 : Int32)), .val (.int (0 : Int32)), .unset]) rfl ?_
    show Steps p.tables e below (T6.setTop (mkF m 9 #[.val (.int p1), .val (.ref b6_6), .val (.int (3 : Int32)), .val (.int (0 : Int32)), .unset] [])) _
    refine XS.iloadN X6.here hx rfl (hb hby d1_9) rfl ?_
    show Steps p.tables e below (T6.setTop (mkF m 10 #[.val (.int p1), .val (.ref b6_6), .val (.int (3 : Int32)), .val (.int (0 : Int32)), .unset] [(.int (0 : Int32))])) _
    refine XS.iloadN X6.here hx rfl (hb hby d1_10) rfl ?_
    show Steps p.tables e below (T6.setTop (mkF m 11 #[.val (.int p1), .val (.ref b6_6), .val (.int (3 : Int32)), .val (.int (0 : Int32)), .unset] [(.int (3 : Int32)), (.int (0 : Int32))])) _
    refine XS.icmpNo X6.here hx rfl (hb hby d1_11) rfl (tlt (by decide : (0 : Int32) < (3 : Int32))).2.1 ?_
    show Steps p.tables e below (T6.setTop (mkF m 14 #[.val (.int p1), .val (.ref b6_6), .val (.int (3 : Int32)), .val (.int (0 : Int32)), .unset] [])) _
    refine XS.aloadN X6.here hx rfl (hb hby d1_14) rfl rfl ?_
    show Steps p.tables e below (T6.setTop (mkF m 15 #[.val (.int p1), .val (.ref b6_6), .val (.int (3 : Int32)), .val (.int (0 : Int32)), .unset] [(.ref b6_6)])) _
    refine XS.iloadN X6.here hx rfl (hb hby d1_15) rfl ?_
    show Steps p.tables e below (T6.setTop (mkF m 16 #[.val (.int p1), .val (.ref b6_6), .val (.int (3 : Int32)), .val (.int (0 : Int32)), .unset] [(.int (0 : Int32)), (.ref b6_6)])) _
    refine X6.aaload hx (j := (0 : Int32)) (v := (.ref w3)) (Ar8.1) (State.isArrayOf_alike hZ.alike Ar8.2.1) rfl Ar8.2.2 hin8 hat8 (g := (mkF m 16 #[.val (.int p1), .val (.ref b6_6), .val (.int (3 : Int32)), .val (.int (0 : Int32)), .unset] [(.int (0 : Int32)), (.ref b6_6)])) rfl rfl (hb hby d1_16) _ ?_
    show Steps p.tables e below (T6.setTop (mkF m 17 #[.val (.int p1), .val (.ref b6_6), .val (.int (3 : Int32)), .val (.int (0 : Int32)), .unset] [(.ref w3)])) _
    refine XS.astore X6.here hx rfl (hb hby d1_17) rfl rfl (l' := #[.val (.int p1), .val (.ref b6_6), .val (.int (3 : Int32)), .val (.int (0 : Int32)), .val (.ref w3)]) rfl ?_
    show Steps p.tables e below (T6.setTop (mkF m 19 #[.val (.int p1), .val (.ref b6_6), .val (.int (3 : Int32)), .val (.int (0 : Int32)), .val (.ref w3)] [])) _
    refine XS.aload X6.here hx rfl (hb hby d1_19) rfl rfl ?_
    show Steps p.tables e below (T6.setTop (mkF m 21 #[.val (.int p1), .val (.ref b6_6), .val (.int (3 : Int32)), .val (.int (0 : Int32)), .val (.ref w3)] [(.ref w3)])) _
    refine st10 _ ?_
    show Steps p.tables e below (T10.setTop (mkF m 24 #[.val (.int p1), .val (.ref b6_6), .val (.int (3 : Int32)), .val (.int (0 : Int32)), .val (.ref w3)] [(.int (0 : Int32))])) _
    refine XS.iloadN X10.here hx rfl (hb hby d1_24) rfl ?_
    show Steps p.tables e below (T10.setTop (mkF m 25 #[.val (.int p1), .val (.ref b6_6), .val (.int (3 : Int32)), .val (.int (0 : Int32)), .val (.ref w3)] [(.int p1), (.int (0 : Int32))])) _
    refine XS.icmpNo X10.here hx rfl (hb hby d1_25) rfl (teq P11).2 ?_
    show Steps p.tables e below (T10.setTop (mkF m 28 #[.val (.int p1), .val (.ref b6_6), .val (.int (3 : Int32)), .val (.int (0 : Int32)), .val (.ref w3)] [])) _
    refine XS.aload X10.here hx rfl (hb hby d1_28) rfl rfl ?_
    show Steps p.tables e below (T10.setTop (mkF m 30 #[.val (.int p1), .val (.ref b6_6), .val (.int (3 : Int32)), .val (.int (0 : Int32)), .val (.ref w3)] [(.ref w3)])) _
    jvm_step X10.here [X10.here.top, hx, (hb hby d1_30), X10.method', Bd.returns, Value.isRef, FieldType.isReference]
    first | (intro acts; rw [hr _ acts rfl rfl rfl]) | rw [hr _ _ rfl rfl rfl]
    exact Steps.refl _
  · show Q1_1 Z p1 w2 k_w2 w3 w4 w5 h0 n0 _ T10.heap _
    rw [e10]
    exact ⟨rfl, N6, K0_6⟩
theorem pd_1 : parseMethodDescriptor "(I)Lcom/example/eneo/eneo/model/AccountType;" = some ⟨[.int], some (.object "com/example/eneo/eneo/model/AccountType")⟩ := by decide +kernel
theorem d3_0 : decode prog_30_method_4_code 0 = .ok (.aload_n 0, 1) := by decide +kernel
theorem d3_1 : decode prog_30_method_4_code 1 = .ok (.getfield 32, 3) := by decide +kernel
theorem d3_4 : decode prog_30_method_4_code 4 = .ok (.ireturn, 1) := by decide +kernel
theorem ef_3_R (m : MethodId) (x0 : Addr) : entryFrame m #[(.ref x0)] 1 = mkF m 0 #[.val (.ref x0)] [] := by first | (simp [entryFrame, mkF, argsToLocals, Value.category]; done) | rfl
theorem pn_3 : plainName "com/example/eneo/eneo/model/AccountType" = true := by first | (simp [plainName, overriddenIn]; done) | decide +kernel
def Q3_1 (Z : State) (a1 : Addr) (h0 : Heap) (n0 : Nat) (v : Option Value) (h : Heap) (L : List Loc) : Prop := v = some (.int (0 : Int32)) ∧ Fr n0 L ∧ h = h0
set_option maxRecDepth 65536 in
set_option maxHeartbeats 40000000 in
theorem rm3_1 (l : Launch) (Z : State) (a0 : Array Value) (hw : ∀ d ∈ tables_1, d.before a0 Z = true) (ws : List Jvm.Cond) (a1 : Addr) (h0 : Heap) (n0 : Nat) (Z0 : n0 ≤ h0.size) (F_code_a1 : Fld Z h0 a1 "com/example/eneo/eneo/model/AccountType" "code" "I" (.int (0 : Int32))) :
    MetFree l (⟨"com/example/eneo/eneo/model/AccountType", "code", "()I"⟩ : MethodName) (head1 (Jvm.Cond.code (⟨"com/example/eneo/eneo/model/AccountType", "code", "()I"⟩ : MethodName) prog_30_method_4_code 1 (some .int) :: ws) ({ frames := 0, cells := 0, slots := 0, locals := 0 } : Room)) (fun a U => a = #[(.ref a1)] ∧ Z.Warmed39 U.vm ∧ U.heap = h0) (fun _ _ _ _ _ => True) (fun _ U o U' => ∃ v L, o = .returned v ∧ Q3_1 Z a1 h0 n0 v U'.heap L ∧ FrameEnd U o U' L ({ frames := 0, cells := 0, slots := 0, locals := 0 } : Room).cells ({ frames := 0, cells := 0, slots := 0, locals := 0 } : Room).slots) := by
  refine MetFree.of_bodySF (plainFor_of_name pn_3) hisR ?_
  intro p e s m args below meth c s₁ Bd hml0 hP hK
  obtain ⟨rfl, hZ, hh⟩ := hP
  have hx := Bd.exec
  have hby := Bd.bytes
  have hml : c.maxLocals = 1 := hml0
  have hown : s.vm.findClass "com/example/eneo/eneo/model/AccountType" = some m.cls := findClass_of_methodNamed Bd.named
  have hnm := (name_of_methodNamed Bd.named Bd.method).1
  have X0 : Stand p l e ({ frames := 0, cells := 0, slots := 0, locals := 0 } : Room) s m #[(.ref a1)] below meth c s₁ [] 0 0 := Stand.of_body Bd
  have e0 : s₁.heap = h0 := by rw [← hh, Bd.state]; rfl
  have N0 := Fr.nil n0
  have pre0 : ∀ t, Steps p.tables e below (s₁.setTop (mkF m 0 #[.val (.ref a1)] [])) t → Steps p.tables e below (s₁.setTop (entryFrame m #[(.ref a1)] 1)) t := fun t k => castTop (ef_3_R m a1) k
  obtain ⟨T2, X2, e2, st2⟩ := getF X0 hx hZ hown (host := "") (Or.inl (hw _ (List.mem_of_getElem? (i := 24) rfl))) Via.refl e0 F_code_a1 (g := (mkF m 1 #[.val (.ref a1)] [(.ref a1)])) rfl rfl (hb hby d3_1)
  obtain ⟨fs, hr, hrun, hended, hW, hsame⟩ := X2.leave (v := some (.int (0 : Int32))) (fun h => by rw [Bd.returns] at h; cases h)
  refine ⟨_, _, pre0 _ ?_, hrun, hended, _, _, rfl, ?_, ⟨_, rfl⟩, hW, hsame.mono (by decide) (by decide)⟩
  · show Steps p.tables e below (s₁.setTop (mkF m 0 #[.val (.ref a1)] [])) _
    refine XS.aloadN X0.here hx rfl (hb hby d3_0) rfl rfl ?_
    show Steps p.tables e below (s₁.setTop (mkF m 1 #[.val (.ref a1)] [(.ref a1)])) _
    refine st2 _ ?_
    show Steps p.tables e below (T2.setTop (mkF m 4 #[.val (.ref a1)] [(.int (0 : Int32))])) _
    exact retI X2 hx Bd.returns (hb hby d3_4) hr
  · show Q3_1 Z a1 h0 n0 _ T2.heap _
    rw [e2]
    exact ⟨rfl, N0, rfl⟩
theorem pd_2 : parseMethodDescriptor "()I" = some ⟨[], some .int⟩ := by decide +kernel
theorem ef_0_I (m : MethodId) (x0 : Int32) : entryFrame m #[(.int x0)] maxLocals = mkF m 0 #[.val (.int x0), .unset, .unset, .unset] [] := by first | (simp [entryFrame, mkF, argsToLocals, Value.category, maxLocals]; done) | rfl
theorem pn_0 : plainName "com/example/eneo/eneo/model/AccountTypeOfCodePinLaw" = true := by first | (simp [plainName, overriddenIn]; done) | decide +kernel
set_option maxRecDepth 65536 in
set_option maxHeartbeats 40000000 in
theorem rm0_1 (l : Launch) (Z : State) (a0 : Array Value) (hw : ∀ d ∈ tables_1, d.before a0 Z = true) (ws : List Jvm.Cond) (p1 : Int32) (w3 : Addr) (w5 : Addr) (k_w5 : ClassId) (w6 : Addr) (w7 : Addr) (h0 : Heap) (n0 : Nat) (Z0 : n0 ≤ h0.size) (P2 : ((p1 &&& (2147483647 : Int32)) % (3 : Int32)) = (0 : Int32)) (S_USER : Sta Z h0 "com/example/eneo/eneo/model/AccountType" "USER" "Lcom/example/eneo/eneo/model/AccountType;" (.ref w3)) (F_code_w3 : Fld Z h0 w3 "com/example/eneo/eneo/model/AccountType" "code" "I" (.int (0 : Int32))) (V_w5 : Arv Z h0 w5 k_w5 (.object "com/example/eneo/eneo/model/AccountType") (3 : Int32) [(.ref w3), (.ref w6), (.ref w7)] .null) (S__VALUES : Sta Z h0 "com/example/eneo/eneo/model/AccountType" "$VALUES" "[Lcom/example/eneo/eneo/model/AccountType;" (.ref w5)) (E_w5 : Exa Z h0 w5 "[Lcom/example/eneo/eneo/model/AccountType;") (P8 : (0 : Int32) = ((p1 &&& (2147483647 : Int32)) % (3 : Int32))) (E_w3 : Exa Z h0 w3 "com/example/eneo/eneo/model/AccountType") :
    MetFree l x (head1 (Jvm.Cond.code x code maxLocals ret :: ws) room_1) (fun a U => a = #[(.int p1)] ∧ Z.Warmed39 U.vm ∧ U.heap = h0) (fun _ _ _ _ _ => True) (fun _ U o U' => ∃ v L, o = .returned v ∧ own_QT n0 v L ∧ FrameEnd U o U' L room_1.cells room_1.slots) := by
  refine MetFree.of_bodySF (plainFor_of_name pn_0) hisR ?_
  intro p e s m args below meth c s₁ Bd hml0 hP hK
  obtain ⟨rfl, hZ, hh⟩ := hP
  have hx := Bd.exec
  have hby := Bd.bytes
  have hml : c.maxLocals = 4 := hml0
  have hown : s.vm.findClass "com/example/eneo/eneo/model/AccountTypeOfCodePinLaw" = some m.cls := findClass_of_methodNamed Bd.named
  have hnm := (name_of_methodNamed Bd.named Bd.method).1
  have X0 : Stand p l e room_1 s m #[(.int p1)] below meth c s₁ [] 0 0 := Stand.of_body Bd
  have e0 : s₁.heap = h0 := by rw [← hh, Bd.state]; rfl
  have N0 := Fr.nil n0
  have pre0 : ∀ t, Steps p.tables e below (s₁.setTop (mkF m 0 #[.val (.int p1), .unset, .unset, .unset] [])) t → Steps p.tables e below (s₁.setTop (entryFrame m #[(.int p1)] maxLocals)) t := fun t k => castTop (ef_0_I m p1) k
  obtain ⟨T4, X4, e4, st4⟩ := getS2 X0 hx hZ hown (host := "") (Or.inl (hw _ (List.mem_of_getElem? (i := 1) rfl))) Via.refl e0 S_USER (g := (mkF m 11 #[.val (.int p1), .val (.int ((p1 &&& (2147483647 : Int32)) % (3 : Int32))), .unset, .unset] [])) rfl (hb hby at_11)
  obtain ⟨_, _, ⟨T9, L9, k9, n9⟩, -, X9, ⟨Lc9, hQ9, l9, y9, z9⟩, st9⟩ := Jvm.LawKit.callS X4 hx (y := (⟨"com/example/eneo/eneo/model/AccountType", "ofCode", "(I)Lcom/example/eneo/eneo/model/AccountType;"⟩ : MethodName)) hown (mvT hZ (hw _ (List.mem_of_getElem? (i := 4) rfl))) (mvT hZ (hw _ (List.mem_of_getElem? (i := 5) rfl))) (mvT hZ (hw _ (List.mem_of_getElem? (i := 2) rfl))) (mvT hZ (hw _ (List.mem_of_getElem? (i := 6) rfl))) (by decide) (backOf (W := 0) (rm1_1 l Z a0 hw [] ((p1 &&& (2147483647 : Int32)) % (3 : Int32)) w5 k_w5 w3 w6 w7 h0 n0 Z0 V_w5 S__VALUES E_w5 F_code_w3 P8) hZ (hw _ (List.mem_of_getElem? (i := 6) rfl)) (hw _ (List.mem_of_getElem? (i := 2) rfl)) (by decide) (by decide)) (g := (mkF m 35 #[.val (.int p1), .val (.int ((p1 &&& (2147483647 : Int32)) % (3 : Int32))), .val (.ref w3), .unset] [(.int ((p1 &&& (2147483647 : Int32)) % (3 : Int32)))])) rfl (by rw [hml]; rfl) (argsL := [(.int ((p1 &&& (2147483647 : Int32)) % (3 : Int32)))]) (rest := []) (lenOf pd_1 rfl) rfl (by show 2 * 0 + _ ≤ _; exact Nat.le_of_eq rfl) (hb hby at_35) (fun _ _ => ⟨rfl, e4, (by decide : 0 + 1 ≤ _), (by decide : 0 + 3 ≤ _)⟩)
  dsimp only [Pt.U, Pt.locs, Pt.cells, Pt.slots] at X9 l9 y9 z9 st9 hQ9
  subst l9 y9 z9
  obtain ⟨rfl, Nq9, K9⟩ := hQ9
  have N9 := Fr.app N0 Nq9
  have K0_9 : Keep h0 T9.heap [] := (Keep.refl h0 []).trans K9 all0
  have Z9 : n0 ≤ T9.heap.size := Nat.le_trans Z0 K9.1
  have f10 := (F_code_w3.keep K9 nin0)
  have f12 := (E_w3.keep K9)
  obtain ⟨cq11, kq11, q11a, q11b, q11c⟩ := isOf hZ rfl f12
  obtain ⟨_, _, ⟨T11, L11, k11, n11⟩, -, X11, ⟨Lc11, hQ11, l11, y11, z11⟩, st11⟩ := X9.virtualBack hx (y := (⟨"com/example/eneo/eneo/model/AccountType", "code", "()I"⟩ : MethodName)) (z := (⟨"com/example/eneo/eneo/model/AccountType", "code", "()I"⟩ : MethodName)) hown (mvT hZ (hw _ (List.mem_of_getElem? (i := 26) rfl))) (mvT hZ (hw _ (List.mem_of_getElem? (i := 27) rfl))) (notFace_of_selects (args := #[]) (mvT hZ (hw _ (List.mem_of_getElem? (i := 29) rfl)))) (mvT hZ (hw _ (List.mem_of_getElem? (i := 29) rfl))) (mvT hZ (hw _ (List.mem_of_getElem? (i := 28) rfl))) (by decide) (backOf (W := 0) (rm3_1 l Z a0 hw [] w3 T9.heap n0 Z9 f10) hZ (hw _ (List.mem_of_getElem? (i := 30) rfl)) (hw _ (List.mem_of_getElem? (i := 2) rfl)) (by decide) (by decide)) q11a q11c (g := (mkF m 45 #[.val (.int p1), .val (.int ((p1 &&& (2147483647 : Int32)) % (3 : Int32))), .val (.ref w3), .val (.ref w3)] [(.ref w3)])) rfl (by rw [hml]; rfl) (Steps.refl _) (argsL := []) (rest := []) (lenOf pd_2 rfl) rfl (by show 2 * 0 + _ ≤ _; exact Nat.le_of_eq rfl) (hb hby at_45) (fun _ _ => ⟨rfl, rfl, (by decide : 1 + 0 ≤ _), (by decide : 3 + 0 ≤ _)⟩)
  dsimp only [Pt.U, Pt.locs, Pt.cells, Pt.slots] at X11 l11 y11 z11 st11 hQ11
  subst l11 y11 z11
  obtain ⟨rfl, Nq11, e11⟩ := hQ11
  have N11 := Fr.app N9 Nq11
  obtain ⟨fs, hr, hrun, hended, hW, hsame⟩ := X11.leave (v := some (.int (1 : Int32))) (fun h => by rw [Bd.returns] at h; cases h)
  refine ⟨_, _, pre0 _ ?_, hrun, hended, _, _, rfl, ?_, ⟨_, rfl⟩, hW, hsame.mono (by decide) (by decide)⟩
  · show Steps p.tables e below (s₁.setTop (mkF m 0 #[.val (.int p1), .unset, .unset, .unset] [])) _
    refine XS.iloadN X0.here hx rfl (hb hby at_0) rfl ?_
    show Steps p.tables e below (s₁.setTop (mkF m 1 #[.val (.int p1), .unset, .unset, .unset] [(.int p1)])) _
    refine X0.ldcInt hx hown (mvT hZ (hw _ (List.mem_of_getElem? (i := 0) rfl))) (g := (mkF m 1 #[.val (.int p1), .unset, .unset, .unset] [(.int p1)])) rfl (hb hby at_1) _ ?_
    show Steps p.tables e below (s₁.setTop (mkF m 3 #[.val (.int p1), .unset, .unset, .unset] [(.int (2147483647 : Int32)), (.int p1)])) _
    refine XS.iand X0.here hx rfl (hb hby at_3) rfl ?_
    show Steps p.tables e below (s₁.setTop (mkF m 4 #[.val (.int p1), .unset, .unset, .unset] [(.int (p1 &&& (2147483647 : Int32)))])) _
    refine XS.iconst X0.here hx rfl (hb hby at_4) ?_
    show Steps p.tables e below (s₁.setTop (mkF m 5 #[.val (.int p1), .unset, .unset, .unset] [(.int (3 : Int32)), (.int (p1 &&& (2147483647 : Int32)))])) _
    refine iremM X0 hx rfl (hb hby at_5) rfl (by decide : ¬ ((3 : Int32) = (0 : Int32))) ?_
    show Steps p.tables e below (s₁.setTop (mkF m 6 #[.val (.int p1), .unset, .unset, .unset] [(.int ((p1 &&& (2147483647 : Int32)) % (3 : Int32)))])) _
    refine XS.istoreN X0.here hx rfl (hb hby at_6) rfl (l' := #[.val (.int p1), .val (.int ((p1 &&& (2147483647 : Int32)) % (3 : Int32))), .unset, .unset]) rfl ?_
    show Steps p.tables e below (s₁.setTop (mkF m 7 #[.val (.int p1), .val (.int ((p1 &&& (2147483647 : Int32)) % (3 : Int32))), .unset, .unset] [])) _
    refine XS.iloadN X0.here hx rfl (hb hby at_7) rfl ?_
    show Steps p.tables e below (s₁.setTop (mkF m 8 #[.val (.int p1), .val (.int ((p1 &&& (2147483647 : Int32)) % (3 : Int32))), .unset, .unset] [(.int ((p1 &&& (2147483647 : Int32)) % (3 : Int32)))])) _
    refine XS.ifNo X0.here hx rfl (hb hby at_8) rfl ((if0 _ _).trans (teq P2).2) ?_
    show Steps p.tables e below (s₁.setTop (mkF m 11 #[.val (.int p1), .val (.int ((p1 &&& (2147483647 : Int32)) % (3 : Int32))), .unset, .unset] [])) _
    refine st4 _ ?_
    show Steps p.tables e below (T4.setTop (mkF m 14 #[.val (.int p1), .val (.int ((p1 &&& (2147483647 : Int32)) % (3 : Int32))), .unset, .unset] [(.ref w3)])) _
    refine XS.astoreN X4.here hx rfl (hb hby at_14) rfl rfl (l' := #[.val (.int p1), .val (.int ((p1 &&& (2147483647 : Int32)) % (3 : Int32))), .val (.ref w3), .unset]) rfl ?_
    show Steps p.tables e below (T4.setTop (mkF m 15 #[.val (.int p1), .val (.int ((p1 &&& (2147483647 : Int32)) % (3 : Int32))), .val (.ref w3), .unset] [])) _
    refine XS.goto X4.here hx rfl (pc0 := 15) (pc' := 34) rfl (hb hby at_15) (by decide) (by decide) ?_
    show Steps p.tables e below (T4.setTop (mkF m 34 #[.val (.int p1), .val (.int ((p1 &&& (2147483647 : Int32)) % (3 : Int32))), .val (.ref w3), .unset] [])) _
    refine XS.iloadN X4.here hx rfl (hb hby at_34) rfl ?_
    show Steps p.tables e below (T4.setTop (mkF m 35 #[.val (.int p1), .val (.int ((p1 &&& (2147483647 : Int32)) % (3 : Int32))), .val (.ref w3), .unset] [(.int ((p1 &&& (2147483647 : Int32)) % (3 : Int32)))])) _
    refine st9 _ ?_
    show Steps p.tables e below (T9.setTop (mkF m 38 #[.val (.int p1), .val (.int ((p1 &&& (2147483647 : Int32)) % (3 : Int32))), .val (.ref w3), .unset] [(.ref w3)])) _
    refine XS.astoreN X9.here hx rfl (hb hby at_38) rfl rfl (l' := #[.val (.int p1), .val (.int ((p1 &&& (2147483647 : Int32)) % (3 : Int32))), .val (.ref w3), .val (.ref w3)]) rfl ?_
    show Steps p.tables e below (T9.setTop (mkF m 39 #[.val (.int p1), .val (.int ((p1 &&& (2147483647 : Int32)) % (3 : Int32))), .val (.ref w3), .val (.ref w3)] [])) _
    refine XS.aloadN X9.here hx rfl (hb hby at_39) rfl rfl ?_
    show Steps p.tables e below (T9.setTop (mkF m 40 #[.val (.int p1), .val (.int ((p1 &&& (2147483647 : Int32)) % (3 : Int32))), .val (.ref w3), .val (.ref w3)] [(.ref w3)])) _
    refine XS.aloadN X9.here hx rfl (hb hby at_40) rfl rfl ?_
    show Steps p.tables e below (T9.setTop (mkF m 41 #[.val (.int p1), .val (.int ((p1 &&& (2147483647 : Int32)) % (3 : Int32))), .val (.ref w3), .val (.ref w3)] [(.ref w3), (.ref w3)])) _
    refine Jvm.RoadKit.acmp (g := (mkF m 41 #[.val (.int p1), .val (.int ((p1 &&& (2147483647 : Int32)) % (3 : Int32))), .val (.ref w3), .val (.ref w3)] [(.ref w3), (.ref w3)])) X9 hx rfl rfl rfl (pc0 := 41) (pc' := 44) (same := true) rfl (hb hby at_41) rfl (decide_eq_true rfl) (by decide) (by decide) ?_
    show Steps p.tables e below (T9.setTop (mkF m 44 #[.val (.int p1), .val (.int ((p1 &&& (2147483647 : Int32)) % (3 : Int32))), .val (.ref w3), .val (.ref w3)] [])) _
    refine XS.aloadN X9.here hx rfl (hb hby at_44) rfl rfl ?_
    show Steps p.tables e below (T9.setTop (mkF m 45 #[.val (.int p1), .val (.int ((p1 &&& (2147483647 : Int32)) % (3 : Int32))), .val (.ref w3), .val (.ref w3)] [(.ref w3)])) _
    refine st11.trans ?_
    show Steps p.tables e below (T11.setTop (mkF m 48 #[.val (.int p1), .val (.int ((p1 &&& (2147483647 : Int32)) % (3 : Int32))), .val (.ref w3), .val (.ref w3)] [(.int (0 : Int32))])) _
    refine XS.iloadN X11.here hx rfl (hb hby at_48) rfl ?_
    show Steps p.tables e below (T11.setTop (mkF m 49 #[.val (.int p1), .val (.int ((p1 &&& (2147483647 : Int32)) % (3 : Int32))), .val (.ref w3), .val (.ref w3)] [(.int ((p1 &&& (2147483647 : Int32)) % (3 : Int32))), (.int (0 : Int32))])) _
    refine XS.icmpNo X11.here hx rfl (hb hby at_49) rfl (teq P8).2 ?_
    show Steps p.tables e below (T11.setTop (mkF m 52 #[.val (.int p1), .val (.int ((p1 &&& (2147483647 : Int32)) % (3 : Int32))), .val (.ref w3), .val (.ref w3)] [])) _
    refine XS.iconst X11.here hx rfl (hb hby at_52) ?_
    show Steps p.tables e below (T11.setTop (mkF m 53 #[.val (.int p1), .val (.int ((p1 &&& (2147483647 : Int32)) % (3 : Int32))), .val (.ref w3), .val (.ref w3)] [(.int (1 : Int32))])) _
    refine XS.goto X11.here hx rfl (pc0 := 53) (pc' := 57) rfl (hb hby at_53) (by decide) (by decide) ?_
    show Steps p.tables e below (T11.setTop (mkF m 57 #[.val (.int p1), .val (.int ((p1 &&& (2147483647 : Int32)) % (3 : Int32))), .val (.ref w3), .val (.ref w3)] [(.int (1 : Int32))])) _
    exact retN X11 hx (t := .boolean) Bd.returns (by simp) (hb hby at_57) hr
  · exact ⟨rfl, N11⟩
theorem d1_31 : decode prog_30_method_5_code 31 = .ok (.iinc 3 1, 3) := by decide +kernel
theorem d1_34 : decode prog_30_method_5_code 34 = .ok (.goto (-25), 3) := by decide +kernel
def Q1_2 (Z : State) (p1 : Int32) (w2 : Addr) (k_w2 : ClassId) (w3 : Addr) (w4 : Addr) (w5 : Addr) (h0 : Heap) (n0 : Nat) (v : Option Value) (h : Heap) (L : List Loc) : Prop := v = some (.ref w4) ∧ Fr n0 L ∧ Keep h0 h []
set_option maxRecDepth 65536 in
set_option maxHeartbeats 40000000 in
theorem rm1_2 (l : Launch) (Z : State) (a0 : Array Value) (hw : ∀ d ∈ tables_1, d.before a0 Z = true) (ws : List Jvm.Cond) (p1 : Int32) (w2 : Addr) (k_w2 : ClassId) (w3 : Addr) (w4 : Addr) (w5 : Addr) (h0 : Heap) (n0 : Nat) (Z0 : n0 ≤ h0.size) (V_w2 : Arv Z h0 w2 k_w2 (.object "com/example/eneo/eneo/model/AccountType") (3 : Int32) [(.ref w3), (.ref w4), (.ref w5)] .null) (S__VALUES : Sta Z h0 "com/example/eneo/eneo/model/AccountType" "$VALUES" "[Lcom/example/eneo/eneo/model/AccountType;" (.ref w2)) (E_w2 : Exa Z h0 w2 "[Lcom/example/eneo/eneo/model/AccountType;") (F_code_w3 : Fld Z h0 w3 "com/example/eneo/eneo/model/AccountType" "code" "I" (.int (0 : Int32))) (P11 : ¬ ((0 : Int32) = p1)) (F_code_w4 : Fld Z h0 w4 "com/example/eneo/eneo/model/AccountType" "code" "I" (.int (1 : Int32))) (P15 : (1 : Int32) = p1) :
    MetFree l (⟨"com/example/eneo/eneo/model/AccountType", "ofCode", "(I)Lcom/example/eneo/eneo/model/AccountType;"⟩ : MethodName) (head1 (Jvm.Cond.code (⟨"com/example/eneo/eneo/model/AccountType", "ofCode", "(I)Lcom/example/eneo/eneo/model/AccountType;"⟩ : MethodName) prog_30_method_5_code 5 (some (.object "com/example/eneo/eneo/model/AccountType")) :: ws) ({ frames := 2, cells := 1, slots := 3, locals := 25 } : Room)) (fun a U => a = #[(.int p1)] ∧ Z.Warmed39 U.vm ∧ U.heap = h0) (fun _ _ _ _ _ => True) (fun _ U o U' => ∃ v L, o = .returned v ∧ Q1_2 Z p1 w2 k_w2 w3 w4 w5 h0 n0 v U'.heap L ∧ FrameEnd U o U' L ({ frames := 2, cells := 1, slots := 3, locals := 25 } : Room).cells ({ frames := 2, cells := 1, slots := 3, locals := 25 } : Room).slots) := by
  refine MetFree.of_bodySF (plainFor_of_name pn_1) hisR ?_
  intro p e s m args below meth c s₁ Bd hml0 hP hK
  obtain ⟨rfl, hZ, hh⟩ := hP
  have hx := Bd.exec
  have hby := Bd.bytes
  have hml : c.maxLocals = 5 := hml0
  have hown : s.vm.findClass "com/example/eneo/eneo/model/AccountType" = some m.cls := findClass_of_methodNamed Bd.named
  have hnm := (name_of_methodNamed Bd.named Bd.method).1
  have X0 : Stand p l e ({ frames := 2, cells := 1, slots := 3, locals := 25 } : Room) s m #[(.int p1)] below meth c s₁ [] 0 0 := Stand.of_body Bd
  have e0 : s₁.heap = h0 := by rw [← hh, Bd.state]; rfl
  have N0 := Fr.nil n0
  have pre0 : ∀ t, Steps p.tables e below (s₁.setTop (mkF m 0 #[.val (.int p1), .unset, .unset, .unset, .unset] [])) t → Steps p.tables e below (s₁.setTop (entryFrame m #[(.int p1)] 5)) t := fun t k => castTop (ef_1_I m p1) k
  obtain ⟨_, _, ⟨T6, L6, k6, n6⟩, -, X6, ⟨Lc6, hQ6, l6, y6, z6⟩, st6⟩ := Jvm.LawKit.callS X0 hx (y := (⟨"com/example/eneo/eneo/model/AccountType", "values", "()[Lcom/example/eneo/eneo/model/AccountType;"⟩ : MethodName)) hown (mvT hZ (hw _ (List.mem_of_getElem? (i := 7) rfl))) (mvT hZ (hw _ (List.mem_of_getElem? (i := 8) rfl))) (mvT hZ (hw _ (List.mem_of_getElem? (i := 2) rfl))) (mvT hZ (hw _ (List.mem_of_getElem? (i := 9) rfl))) (by decide) (backOf (W := 0) (rm2_1 l Z a0 hw [] w2 k_w2 w3 w4 w5 h0 n0 Z0 S__VALUES V_w2 E_w2) hZ (hw _ (List.mem_of_getElem? (i := 9) rfl)) (hw _ (List.mem_of_getElem? (i := 2) rfl)) (by decide) (by decide)) (g := (mkF m 0 #[.val (.int p1), .unset, .unset, .unset, .unset] [])) rfl (by rw [hml]; rfl) (argsL := []) (rest := []) (lenOf pd_0 rfl) rfl (by show 2 * 0 + _ ≤ _; exact Nat.le_of_eq rfl) (hb hby d1_0) (fun _ _ => ⟨rfl, e0, (by decide : 0 + 1 ≤ _), (by decide : 0 + 3 ≤ _)⟩)
  dsimp only [Pt.U, Pt.locs, Pt.cells, Pt.slots] at X6 l6 y6 z6 st6 hQ6
  subst l6 y6 z6
  obtain ⟨b6_6, rfl, Nq6, K6, x6_0, x6_1, x6_2⟩ := hQ6
  have N6 := Fr.app N0 Nq6
  have sz_b6_6 : h0.size ≤ b6_6 := Nat.le_trans (Keep.refl h0 []).1 x6_0
  have g_b6_6 : n0 ≤ b6_6 := Nat.le_trans Z0 sz_b6_6
  have K0_6 : Keep h0 T6.heap [] := (Keep.refl h0 []).trans K6 all0
  have Z6 : n0 ≤ T6.heap.size := Nat.le_trans Z0 K6.1
  obtain ⟨cl7, Ar7, -, S7, N_7, -, -⟩ := id x6_1
  obtain ⟨cl8, Ar8, q8, S8, N_8, H8, G8⟩ := id x6_1
  have hin8 : ¬ ((0 : Int32) < 0 ∨ cl8.slots.size ≤ ((0 : Int32)).toNatClampNeg) := inb_of S8 ⟨by decide, (by decide : (0 : Int32) < (3 : Int32))⟩
  have hat8 : cl8.slots[((0 : Int32)).toNatClampNeg]? = some (.ref w3) := Has.at H8 hin8 rfl
  have f9 := (F_code_w3.keep K6 nin0)
  obtain ⟨T10, X10, e10, st10⟩ := getF X6 hx hZ hown (host := "") (Or.inl (hw _ (List.mem_of_getElem? (i := 24) rfl))) Via.refl rfl f9 (g := (mkF m 21 #[.val (.int p1), .val (.ref b6_6), .val (.int (3 : Int32)), .val (.int (0 : Int32)), .val (.ref w3)] [(.ref w3)])) rfl rfl (hb hby d1_21)
  obtain ⟨cl12, Ar12, q12, S12, N_12, H12, G12⟩ := id x6_1
  have hin12 : ¬ ((1 : Int32) < 0 ∨ cl12.slots.size ≤ ((1 : Int32)).toNatClampNeg) := inb_of S12 ⟨by decide, (by decide : (1 : Int32) < (3 : Int32))⟩
  have hat12 : cl12.slots[((1 : Int32)).toNatClampNeg]? = some (.ref w4) := Has.at H12 hin12 rfl
  have f13 := (F_code_w4.keep K6 nin0)
  obtain ⟨T14, X14, e14, st14⟩ := getF X10 hx hZ hown (host := "") (Or.inl (hw _ (List.mem_of_getElem? (i := 24) rfl))) Via.refl e10 f13 (g := (mkF m 21 #[.val (.int p1), .val (.ref b6_6), .val (.int (3 : Int32)), .val (.int (1 : Int32)), .val (.ref w4)] [(.ref w4)])) rfl rfl (hb hby d1_21)
  obtain ⟨fs, hr, hrun, hended, hW, hsame⟩ := X14.leave (v := some (.ref w4)) (fun h => by rw [Bd.returns] at h; cases h)
  refine ⟨_, _, pre0 _ ?_, hrun, hended, _, _, rfl, ?_, ⟨_, rfl⟩, hW, hsame.mono (by decide) (by decide)⟩
  · show Steps p.tables e below (s₁.setTop (mkF m 0 #[.val (.int p1), .unset, .unset, .unset, .unset] [])) _
    refine st6 _ ?_
    show Steps p.tables e below (T6.setTop (mkF m 3 #[.val (.int p1), .unset, .unset, .unset, .unset] [(.ref b6_6)])) _
    refine XS.astoreN X6.here hx rfl (hb hby d1_3) rfl rfl (l' := #[.val (.int p1), .val (.ref b6_6), .unset, .unset, .unset]) rfl ?_
    show Steps p.tables e below (T6.setTop (mkF m 4 #[.val (.int p1), .val (.ref b6_6), .unset, .unset, .unset] [])) _
    refine XS.aloadN X6.here hx rfl (hb hby d1_4) rfl rfl ?_
    show Steps p.tables e below (T6.setTop (mkF m 5 #[.val (.int p1), .val (.ref b6_6), .unset, .unset, .unset] [(.ref b6_6)])) _
    refine X6.arraylength hx (Ar7.1) (State.isArrayOf_alike hZ.alike Ar7.2.1) (g := (mkF m 5 #[.val (.int p1), .val (.ref b6_6), .unset, .unset, .unset] [(.ref b6_6)])) rfl rfl (hb hby d1_5) _ ?_
    rw [len_of S7 N_7]
    show Steps p.tables e below (T6.setTop (mkF m 6 #[.val (.int p1), .val (.ref b6_6), .unset, .unset, .unset] [(.int (3 : Int32))])) _
    refine XS.istoreN X6.here hx rfl (hb hby d1_6) rfl (l' := #[.val (.int p1), .val (.ref b6_6), .val (.int (3 : Int32)), .unset, .unset]) rfl ?_
    show Steps p.tables e below (T6.setTop (mkF m 7 #[.val (.int p1), .val (.ref b6_6), .val (.int (3 : Int32)), .unset, .unset] [])) _
    refine XS.iconst X6.here hx rfl (hb hby d1_7) ?_
    show Steps p.tables e below (T6.setTop (mkF m 8 #[.val (.int p1), .val (.ref b6_6), .val (.int (3 : Int32)), .unset, .unset] [(.int (0 : Int32))])) _
    refine XS.istoreN X6.here hx rfl (hb hby d1_8) rfl (l' := #[.val (.int p1), .val (.ref b6_6), .val (.int (3 : Int32)), .val (.int (0 : Int32)), .unset]) rfl ?_
    show Steps p.tables e below (T6.setTop (mkF m 9 #[.val (.int p1), .val (.ref b6_6), .val (.int (3 : Int32)), .val (.int (0 : Int32)), .unset] [])) _
    refine XS.iloadN X6.here hx rfl (hb hby d1_9) rfl ?_
    show Steps p.tables e below (T6.setTop (mkF m 10 #[.val (.int p1), .val (.ref b6_6), .val (.int (3 : Int32)), .val (.int (0 : Int32)), .unset] [(.int (0 : Int32))])) _
    refine XS.iloadN X6.here hx rfl (hb hby d1_10) rfl ?_
    show Steps p.tables e below (T6.setTop (mkF m 11 #[.val (.int p1), .val (.ref b6_6), .val (.int (3 : Int32)), .val (.int (0 : Int32)), .unset] [(.int (3 : Int32)), (.int (0 : Int32))])) _
    refine XS.icmpNo X6.here hx rfl (hb hby d1_11) rfl (tlt (by decide : (0 : Int32) < (3 : Int32))).2.1 ?_
    show Steps p.tables e below (T6.setTop (mkF m 14 #[.val (.int p1), .val (.ref b6_6), .val (.int (3 : Int32)), .val (.int (0 : Int32)), .unset] [])) _
    refine XS.aloadN X6.here hx rfl (hb hby d1_14) rfl rfl ?_
    show Steps p.tables e below (T6.setTop (mkF m 15 #[.val (.int p1), .val (.ref b6_6), .val (.int (3 : Int32)), .val (.int (0 : Int32)), .unset] [(.ref b6_6)])) _
    refine XS.iloadN X6.here hx rfl (hb hby d1_15) rfl ?_
    show Steps p.tables e below (T6.setTop (mkF m 16 #[.val (.int p1), .val (.ref b6_6), .val (.int (3 : Int32)), .val (.int (0 : Int32)), .unset] [(.int (0 : Int32)), (.ref b6_6)])) _
    refine X6.aaload hx (j := (0 : Int32)) (v := (.ref w3)) (Ar8.1) (State.isArrayOf_alike hZ.alike Ar8.2.1) rfl Ar8.2.2 hin8 hat8 (g := (mkF m 16 #[.val (.int p1), .val (.ref b6_6), .val (.int (3 : Int32)), .val (.int (0 : Int32)), .unset] [(.int (0 : Int32)), (.ref b6_6)])) rfl rfl (hb hby d1_16) _ ?_
    show Steps p.tables e below (T6.setTop (mkF m 17 #[.val (.int p1), .val (.ref b6_6), .val (.int (3 : Int32)), .val (.int (0 : Int32)), .unset] [(.ref w3)])) _
    refine XS.astore X6.here hx rfl (hb hby d1_17) rfl rfl (l' := #[.val (.int p1), .val (.ref b6_6), .val (.int (3 : Int32)), .val (.int (0 : Int32)), .val (.ref w3)]) rfl ?_
    show Steps p.tables e below (T6.setTop (mkF m 19 #[.val (.int p1), .val (.ref b6_6), .val (.int (3 : Int32)), .val (.int (0 : Int32)), .val (.ref w3)] [])) _
    refine XS.aload X6.here hx rfl (hb hby d1_19) rfl rfl ?_
    show Steps p.tables e below (T6.setTop (mkF m 21 #[.val (.int p1), .val (.ref b6_6), .val (.int (3 : Int32)), .val (.int (0 : Int32)), .val (.ref w3)] [(.ref w3)])) _
    refine st10 _ ?_
    show Steps p.tables e below (T10.setTop (mkF m 24 #[.val (.int p1), .val (.ref b6_6), .val (.int (3 : Int32)), .val (.int (0 : Int32)), .val (.ref w3)] [(.int (0 : Int32))])) _
    refine XS.iloadN X10.here hx rfl (hb hby d1_24) rfl ?_
    show Steps p.tables e below (T10.setTop (mkF m 25 #[.val (.int p1), .val (.ref b6_6), .val (.int (3 : Int32)), .val (.int (0 : Int32)), .val (.ref w3)] [(.int p1), (.int (0 : Int32))])) _
    refine XS.icmpYes X10.here hx rfl (pc0 := 25) (pc' := 31) rfl (hb hby d1_25) rfl (feq P11).2 (by decide) (by decide) ?_
    show Steps p.tables e below (T10.setTop (mkF m 31 #[.val (.int p1), .val (.ref b6_6), .val (.int (3 : Int32)), .val (.int (0 : Int32)), .val (.ref w3)] [])) _
    refine XS.iinc X10.here hx rfl (hb hby d1_31) rfl (l' := #[.val (.int p1), .val (.ref b6_6), .val (.int (3 : Int32)), .val (.int (1 : Int32)), .val (.ref w3)]) rfl ?_
    show Steps p.tables e below (T10.setTop (mkF m 34 #[.val (.int p1), .val (.ref b6_6), .val (.int (3 : Int32)), .val (.int (1 : Int32)), .val (.ref w3)] [])) _
    refine XS.goto X10.here hx rfl (pc0 := 34) (pc' := 9) rfl (hb hby d1_34) (by decide) (by decide) ?_
    show Steps p.tables e below (T10.setTop (mkF m 9 #[.val (.int p1), .val (.ref b6_6), .val (.int (3 : Int32)), .val (.int (1 : Int32)), .val (.ref w3)] [])) _
    refine XS.iloadN X10.here hx rfl (hb hby d1_9) rfl ?_
    show Steps p.tables e below (T10.setTop (mkF m 10 #[.val (.int p1), .val (.ref b6_6), .val (.int (3 : Int32)), .val (.int (1 : Int32)), .val (.ref w3)] [(.int (1 : Int32))])) _
    refine XS.iloadN X10.here hx rfl (hb hby d1_10) rfl ?_
    show Steps p.tables e below (T10.setTop (mkF m 11 #[.val (.int p1), .val (.ref b6_6), .val (.int (3 : Int32)), .val (.int (1 : Int32)), .val (.ref w3)] [(.int (3 : Int32)), (.int (1 : Int32))])) _
    refine XS.icmpNo X10.here hx rfl (hb hby d1_11) rfl (tlt (by decide : (1 : Int32) < (3 : Int32))).2.1 ?_
    show Steps p.tables e below (T10.setTop (mkF m 14 #[.val (.int p1), .val (.ref b6_6), .val (.int (3 : Int32)), .val (.int (1 : Int32)), .val (.ref w3)] [])) _
    refine XS.aloadN X10.here hx rfl (hb hby d1_14) rfl rfl ?_
    show Steps p.tables e below (T10.setTop (mkF m 15 #[.val (.int p1), .val (.ref b6_6), .val (.int (3 : Int32)), .val (.int (1 : Int32)), .val (.ref w3)] [(.ref b6_6)])) _
    refine XS.iloadN X10.here hx rfl (hb hby d1_15) rfl ?_
    show Steps p.tables e below (T10.setTop (mkF m 16 #[.val (.int p1), .val (.ref b6_6), .val (.int (3 : Int32)), .val (.int (1 : Int32)), .val (.ref w3)] [(.int (1 : Int32)), (.ref b6_6)])) _
    refine X10.aaload hx (j := (1 : Int32)) (v := (.ref w4)) (by rw [e10]; exact Ar12.1) (State.isArrayOf_alike hZ.alike Ar12.2.1) rfl Ar12.2.2 hin12 hat12 (g := (mkF m 16 #[.val (.int p1), .val (.ref b6_6), .val (.int (3 : Int32)), .val (.int (1 : Int32)), .val (.ref w3)] [(.int (1 : Int32)), (.ref b6_6)])) rfl rfl (hb hby d1_16) _ ?_
    show Steps p.tables e below (T10.setTop (mkF m 17 #[.val (.int p1), .val (.ref b6_6), .val (.int (3 : Int32)), .val (.int (1 : Int32)), .val (.ref w3)] [(.ref w4)])) _
    refine XS.astore X10.here hx rfl (hb hby d1_17) rfl rfl (l' := #[.val (.int p1), .val (.ref b6_6), .val (.int (3 : Int32)), .val (.int (1 : Int32)), .val (.ref w4)]) rfl ?_
    show Steps p.tables e below (T10.setTop (mkF m 19 #[.val (.int p1), .val (.ref b6_6), .val (.int (3 : Int32)), .val (.int (1 : Int32)), .val (.ref w4)] [])) _
    refine XS.aload X10.here hx rfl (hb hby d1_19) rfl rfl ?_
    show Steps p.tables e below (T10.setTop (mkF m 21 #[.val (.int p1), .val (.ref b6_6), .val (.int (3 : Int32)), .val (.int (1 : Int32)), .val (.ref w4)] [(.ref w4)])) _
    refine st14 _ ?_
    show Steps p.tables e below (T14.setTop (mkF m 24 #[.val (.int p1), .val (.ref b6_6), .val (.int (3 : Int32)), .val (.int (1 : Int32)), .val (.ref w4)] [(.int (1 : Int32))])) _
    refine XS.iloadN X14.here hx rfl (hb hby d1_24) rfl ?_
    show Steps p.tables e below (T14.setTop (mkF m 25 #[.val (.int p1), .val (.ref b6_6), .val (.int (3 : Int32)), .val (.int (1 : Int32)), .val (.ref w4)] [(.int p1), (.int (1 : Int32))])) _
    refine XS.icmpNo X14.here hx rfl (hb hby d1_25) rfl (teq P15).2 ?_
    show Steps p.tables e below (T14.setTop (mkF m 28 #[.val (.int p1), .val (.ref b6_6), .val (.int (3 : Int32)), .val (.int (1 : Int32)), .val (.ref w4)] [])) _
    refine XS.aload X14.here hx rfl (hb hby d1_28) rfl rfl ?_
    show Steps p.tables e below (T14.setTop (mkF m 30 #[.val (.int p1), .val (.ref b6_6), .val (.int (3 : Int32)), .val (.int (1 : Int32)), .val (.ref w4)] [(.ref w4)])) _
    jvm_step X14.here [X14.here.top, hx, (hb hby d1_30), X14.method', Bd.returns, Value.isRef, FieldType.isReference]
    first | (intro acts; rw [hr _ acts rfl rfl rfl]) | rw [hr _ _ rfl rfl rfl]
    exact Steps.refl _
  · show Q1_2 Z p1 w2 k_w2 w3 w4 w5 h0 n0 _ T14.heap _
    rw [e14]
    exact ⟨rfl, N6, K0_6⟩
def Q3_2 (Z : State) (a1 : Addr) (h0 : Heap) (n0 : Nat) (v : Option Value) (h : Heap) (L : List Loc) : Prop := v = some (.int (1 : Int32)) ∧ Fr n0 L ∧ h = h0
set_option maxRecDepth 65536 in
set_option maxHeartbeats 40000000 in
theorem rm3_2 (l : Launch) (Z : State) (a0 : Array Value) (hw : ∀ d ∈ tables_1, d.before a0 Z = true) (ws : List Jvm.Cond) (a1 : Addr) (h0 : Heap) (n0 : Nat) (Z0 : n0 ≤ h0.size) (F_code_a1 : Fld Z h0 a1 "com/example/eneo/eneo/model/AccountType" "code" "I" (.int (1 : Int32))) :
    MetFree l (⟨"com/example/eneo/eneo/model/AccountType", "code", "()I"⟩ : MethodName) (head1 (Jvm.Cond.code (⟨"com/example/eneo/eneo/model/AccountType", "code", "()I"⟩ : MethodName) prog_30_method_4_code 1 (some .int) :: ws) ({ frames := 0, cells := 0, slots := 0, locals := 0 } : Room)) (fun a U => a = #[(.ref a1)] ∧ Z.Warmed39 U.vm ∧ U.heap = h0) (fun _ _ _ _ _ => True) (fun _ U o U' => ∃ v L, o = .returned v ∧ Q3_2 Z a1 h0 n0 v U'.heap L ∧ FrameEnd U o U' L ({ frames := 0, cells := 0, slots := 0, locals := 0 } : Room).cells ({ frames := 0, cells := 0, slots := 0, locals := 0 } : Room).slots) := by
  refine MetFree.of_bodySF (plainFor_of_name pn_3) hisR ?_
  intro p e s m args below meth c s₁ Bd hml0 hP hK
  obtain ⟨rfl, hZ, hh⟩ := hP
  have hx := Bd.exec
  have hby := Bd.bytes
  have hml : c.maxLocals = 1 := hml0
  have hown : s.vm.findClass "com/example/eneo/eneo/model/AccountType" = some m.cls := findClass_of_methodNamed Bd.named
  have hnm := (name_of_methodNamed Bd.named Bd.method).1
  have X0 : Stand p l e ({ frames := 0, cells := 0, slots := 0, locals := 0 } : Room) s m #[(.ref a1)] below meth c s₁ [] 0 0 := Stand.of_body Bd
  have e0 : s₁.heap = h0 := by rw [← hh, Bd.state]; rfl
  have N0 := Fr.nil n0
  have pre0 : ∀ t, Steps p.tables e below (s₁.setTop (mkF m 0 #[.val (.ref a1)] [])) t → Steps p.tables e below (s₁.setTop (entryFrame m #[(.ref a1)] 1)) t := fun t k => castTop (ef_3_R m a1) k
  obtain ⟨T2, X2, e2, st2⟩ := getF X0 hx hZ hown (host := "") (Or.inl (hw _ (List.mem_of_getElem? (i := 24) rfl))) Via.refl e0 F_code_a1 (g := (mkF m 1 #[.val (.ref a1)] [(.ref a1)])) rfl rfl (hb hby d3_1)
  obtain ⟨fs, hr, hrun, hended, hW, hsame⟩ := X2.leave (v := some (.int (1 : Int32))) (fun h => by rw [Bd.returns] at h; cases h)
  refine ⟨_, _, pre0 _ ?_, hrun, hended, _, _, rfl, ?_, ⟨_, rfl⟩, hW, hsame.mono (by decide) (by decide)⟩
  · show Steps p.tables e below (s₁.setTop (mkF m 0 #[.val (.ref a1)] [])) _
    refine XS.aloadN X0.here hx rfl (hb hby d3_0) rfl rfl ?_
    show Steps p.tables e below (s₁.setTop (mkF m 1 #[.val (.ref a1)] [(.ref a1)])) _
    refine st2 _ ?_
    show Steps p.tables e below (T2.setTop (mkF m 4 #[.val (.ref a1)] [(.int (1 : Int32))])) _
    exact retI X2 hx Bd.returns (hb hby d3_4) hr
  · show Q3_2 Z a1 h0 n0 _ T2.heap _
    rw [e2]
    exact ⟨rfl, N0, rfl⟩
set_option maxRecDepth 65536 in
set_option maxHeartbeats 40000000 in
theorem rm0_2 (l : Launch) (Z : State) (a0 : Array Value) (hw : ∀ d ∈ tables_1, d.before a0 Z = true) (ws : List Jvm.Cond) (p1 : Int32) (w4 : Addr) (w6 : Addr) (w7 : Addr) (k_w7 : ClassId) (w8 : Addr) (h0 : Heap) (n0 : Nat) (Z0 : n0 ≤ h0.size) (P2 : ¬ (((p1 &&& (2147483647 : Int32)) % (3 : Int32)) = (0 : Int32))) (P3 : ((p1 &&& (2147483647 : Int32)) % (3 : Int32)) = (1 : Int32)) (S_ROOT_ADMIN : Sta Z h0 "com/example/eneo/eneo/model/AccountType" "ROOT_ADMIN" "Lcom/example/eneo/eneo/model/AccountType;" (.ref w4)) (F_code_w6 : Fld Z h0 w6 "com/example/eneo/eneo/model/AccountType" "code" "I" (.int (0 : Int32))) (F_code_w4 : Fld Z h0 w4 "com/example/eneo/eneo/model/AccountType" "code" "I" (.int (1 : Int32))) (V_w7 : Arv Z h0 w7 k_w7 (.object "com/example/eneo/eneo/model/AccountType") (3 : Int32) [(.ref w6), (.ref w4), (.ref w8)] .null) (S__VALUES : Sta Z h0 "com/example/eneo/eneo/model/AccountType" "$VALUES" "[Lcom/example/eneo/eneo/model/AccountType;" (.ref w7)) (E_w7 : Exa Z h0 w7 "[Lcom/example/eneo/eneo/model/AccountType;") (P9 : ¬ ((0 : Int32) = ((p1 &&& (2147483647 : Int32)) % (3 : Int32)))) (P10 : (1 : Int32) = ((p1 &&& (2147483647 : Int32)) % (3 : Int32))) (E_w4 : Exa Z h0 w4 "com/example/eneo/eneo/model/AccountType") :
    MetFree l x (head1 (Jvm.Cond.code x code maxLocals ret :: ws) room_1) (fun a U => a = #[(.int p1)] ∧ Z.Warmed39 U.vm ∧ U.heap = h0) (fun _ _ _ _ _ => True) (fun _ U o U' => ∃ v L, o = .returned v ∧ own_QT n0 v L ∧ FrameEnd U o U' L room_1.cells room_1.slots) := by
  refine MetFree.of_bodySF (plainFor_of_name pn_0) hisR ?_
  intro p e s m args below meth c s₁ Bd hml0 hP hK
  obtain ⟨rfl, hZ, hh⟩ := hP
  have hx := Bd.exec
  have hby := Bd.bytes
  have hml : c.maxLocals = 4 := hml0
  have hown : s.vm.findClass "com/example/eneo/eneo/model/AccountTypeOfCodePinLaw" = some m.cls := findClass_of_methodNamed Bd.named
  have hnm := (name_of_methodNamed Bd.named Bd.method).1
  have X0 : Stand p l e room_1 s m #[(.int p1)] below meth c s₁ [] 0 0 := Stand.of_body Bd
  have e0 : s₁.heap = h0 := by rw [← hh, Bd.state]; rfl
  have N0 := Fr.nil n0
  have pre0 : ∀ t, Steps p.tables e below (s₁.setTop (mkF m 0 #[.val (.int p1), .unset, .unset, .unset] [])) t → Steps p.tables e below (s₁.setTop (entryFrame m #[(.int p1)] maxLocals)) t := fun t k => castTop (ef_0_I m p1) k
  obtain ⟨T5, X5, e5, st5⟩ := getS2 X0 hx hZ hown (host := "") (Or.inl (hw _ (List.mem_of_getElem? (i := 32) rfl))) Via.refl e0 S_ROOT_ADMIN (g := (mkF m 23 #[.val (.int p1), .val (.int ((p1 &&& (2147483647 : Int32)) % (3 : Int32))), .unset, .unset] [])) rfl (hb hby at_23)
  obtain ⟨_, _, ⟨T11, L11, k11, n11⟩, -, X11, ⟨Lc11, hQ11, l11, y11, z11⟩, st11⟩ := Jvm.LawKit.callS X5 hx (y := (⟨"com/example/eneo/eneo/model/AccountType", "ofCode", "(I)Lcom/example/eneo/eneo/model/AccountType;"⟩ : MethodName)) hown (mvT hZ (hw _ (List.mem_of_getElem? (i := 4) rfl))) (mvT hZ (hw _ (List.mem_of_getElem? (i := 5) rfl))) (mvT hZ (hw _ (List.mem_of_getElem? (i := 2) rfl))) (mvT hZ (hw _ (List.mem_of_getElem? (i := 6) rfl))) (by decide) (backOf (W := 0) (rm1_2 l Z a0 hw [] ((p1 &&& (2147483647 : Int32)) % (3 : Int32)) w7 k_w7 w6 w4 w8 h0 n0 Z0 V_w7 S__VALUES E_w7 F_code_w6 P9 F_code_w4 P10) hZ (hw _ (List.mem_of_getElem? (i := 6) rfl)) (hw _ (List.mem_of_getElem? (i := 2) rfl)) (by decide) (by decide)) (g := (mkF m 35 #[.val (.int p1), .val (.int ((p1 &&& (2147483647 : Int32)) % (3 : Int32))), .val (.ref w4), .unset] [(.int ((p1 &&& (2147483647 : Int32)) % (3 : Int32)))])) rfl (by rw [hml]; rfl) (argsL := [(.int ((p1 &&& (2147483647 : Int32)) % (3 : Int32)))]) (rest := []) (lenOf pd_1 rfl) rfl (by show 2 * 0 + _ ≤ _; exact Nat.le_of_eq rfl) (hb hby at_35) (fun _ _ => ⟨rfl, e5, (by decide : 0 + 1 ≤ _), (by decide : 0 + 3 ≤ _)⟩)
  dsimp only [Pt.U, Pt.locs, Pt.cells, Pt.slots] at X11 l11 y11 z11 st11 hQ11
  subst l11 y11 z11
  obtain ⟨rfl, Nq11, K11⟩ := hQ11
  have N11 := Fr.app N0 Nq11
  have K0_11 : Keep h0 T11.heap [] := (Keep.refl h0 []).trans K11 all0
  have Z11 : n0 ≤ T11.heap.size := Nat.le_trans Z0 K11.1
  have f12 := (F_code_w4.keep K11 nin0)
  have f14 := (E_w4.keep K11)
  obtain ⟨cq13, kq13, q13a, q13b, q13c⟩ := isOf hZ rfl f14
  obtain ⟨_, _, ⟨T13, L13, k13, n13⟩, -, X13, ⟨Lc13, hQ13, l13, y13, z13⟩, st13⟩ := X11.virtualBack hx (y := (⟨"com/example/eneo/eneo/model/AccountType", "code", "()I"⟩ : MethodName)) (z := (⟨"com/example/eneo/eneo/model/AccountType", "code", "()I"⟩ : MethodName)) hown (mvT hZ (hw _ (List.mem_of_getElem? (i := 26) rfl))) (mvT hZ (hw _ (List.mem_of_getElem? (i := 27) rfl))) (notFace_of_selects (args := #[]) (mvT hZ (hw _ (List.mem_of_getElem? (i := 29) rfl)))) (mvT hZ (hw _ (List.mem_of_getElem? (i := 29) rfl))) (mvT hZ (hw _ (List.mem_of_getElem? (i := 28) rfl))) (by decide) (backOf (W := 0) (rm3_2 l Z a0 hw [] w4 T11.heap n0 Z11 f12) hZ (hw _ (List.mem_of_getElem? (i := 30) rfl)) (hw _ (List.mem_of_getElem? (i := 2) rfl)) (by decide) (by decide)) q13a q13c (g := (mkF m 45 #[.val (.int p1), .val (.int ((p1 &&& (2147483647 : Int32)) % (3 : Int32))), .val (.ref w4), .val (.ref w4)] [(.ref w4)])) rfl (by rw [hml]; rfl) (Steps.refl _) (argsL := []) (rest := []) (lenOf pd_2 rfl) rfl (by show 2 * 0 + _ ≤ _; exact Nat.le_of_eq rfl) (hb hby at_45) (fun _ _ => ⟨rfl, rfl, (by decide : 1 + 0 ≤ _), (by decide : 3 + 0 ≤ _)⟩)
  dsimp only [Pt.U, Pt.locs, Pt.cells, Pt.slots] at X13 l13 y13 z13 st13 hQ13
  subst l13 y13 z13
  obtain ⟨rfl, Nq13, e13⟩ := hQ13
  have N13 := Fr.app N11 Nq13
  obtain ⟨fs, hr, hrun, hended, hW, hsame⟩ := X13.leave (v := some (.int (1 : Int32))) (fun h => by rw [Bd.returns] at h; cases h)
  refine ⟨_, _, pre0 _ ?_, hrun, hended, _, _, rfl, ?_, ⟨_, rfl⟩, hW, hsame.mono (by decide) (by decide)⟩
  · show Steps p.tables e below (s₁.setTop (mkF m 0 #[.val (.int p1), .unset, .unset, .unset] [])) _
    refine XS.iloadN X0.here hx rfl (hb hby at_0) rfl ?_
    show Steps p.tables e below (s₁.setTop (mkF m 1 #[.val (.int p1), .unset, .unset, .unset] [(.int p1)])) _
    refine X0.ldcInt hx hown (mvT hZ (hw _ (List.mem_of_getElem? (i := 0) rfl))) (g := (mkF m 1 #[.val (.int p1), .unset, .unset, .unset] [(.int p1)])) rfl (hb hby at_1) _ ?_
    show Steps p.tables e below (s₁.setTop (mkF m 3 #[.val (.int p1), .unset, .unset, .unset] [(.int (2147483647 : Int32)), (.int p1)])) _
    refine XS.iand X0.here hx rfl (hb hby at_3) rfl ?_
    show Steps p.tables e below (s₁.setTop (mkF m 4 #[.val (.int p1), .unset, .unset, .unset] [(.int (p1 &&& (2147483647 : Int32)))])) _
    refine XS.iconst X0.here hx rfl (hb hby at_4) ?_
    show Steps p.tables e below (s₁.setTop (mkF m 5 #[.val (.int p1), .unset, .unset, .unset] [(.int (3 : Int32)), (.int (p1 &&& (2147483647 : Int32)))])) _
    refine iremM X0 hx rfl (hb hby at_5) rfl (by decide : ¬ ((3 : Int32) = (0 : Int32))) ?_
    show Steps p.tables e below (s₁.setTop (mkF m 6 #[.val (.int p1), .unset, .unset, .unset] [(.int ((p1 &&& (2147483647 : Int32)) % (3 : Int32)))])) _
    refine XS.istoreN X0.here hx rfl (hb hby at_6) rfl (l' := #[.val (.int p1), .val (.int ((p1 &&& (2147483647 : Int32)) % (3 : Int32))), .unset, .unset]) rfl ?_
    show Steps p.tables e below (s₁.setTop (mkF m 7 #[.val (.int p1), .val (.int ((p1 &&& (2147483647 : Int32)) % (3 : Int32))), .unset, .unset] [])) _
    refine XS.iloadN X0.here hx rfl (hb hby at_7) rfl ?_
    show Steps p.tables e below (s₁.setTop (mkF m 8 #[.val (.int p1), .val (.int ((p1 &&& (2147483647 : Int32)) % (3 : Int32))), .unset, .unset] [(.int ((p1 &&& (2147483647 : Int32)) % (3 : Int32)))])) _
    refine XS.ifYes X0.here hx rfl (pc0 := 8) (pc' := 18) rfl (hb hby at_8) rfl ((if0 _ _).trans (feq P2).2) (by decide) (by decide) ?_
    show Steps p.tables e below (s₁.setTop (mkF m 18 #[.val (.int p1), .val (.int ((p1 &&& (2147483647 : Int32)) % (3 : Int32))), .unset, .unset] [])) _
    refine XS.iloadN X0.here hx rfl (hb hby at_18) rfl ?_
    show Steps p.tables e below (s₁.setTop (mkF m 19 #[.val (.int p1), .val (.int ((p1 &&& (2147483647 : Int32)) % (3 : Int32))), .unset, .unset] [(.int ((p1 &&& (2147483647 : Int32)) % (3 : Int32)))])) _
    refine XS.iconst X0.here hx rfl (hb hby at_19) ?_
    show Steps p.tables e below (s₁.setTop (mkF m 20 #[.val (.int p1), .val (.int ((p1 &&& (2147483647 : Int32)) % (3 : Int32))), .unset, .unset] [(.int (1 : Int32)), (.int ((p1 &&& (2147483647 : Int32)) % (3 : Int32)))])) _
    refine XS.icmpNo X0.here hx rfl (hb hby at_20) rfl (teq P3).2 ?_
    show Steps p.tables e below (s₁.setTop (mkF m 23 #[.val (.int p1), .val (.int ((p1 &&& (2147483647 : Int32)) % (3 : Int32))), .unset, .unset] [])) _
    refine st5 _ ?_
    show Steps p.tables e below (T5.setTop (mkF m 26 #[.val (.int p1), .val (.int ((p1 &&& (2147483647 : Int32)) % (3 : Int32))), .unset, .unset] [(.ref w4)])) _
    refine XS.astoreN X5.here hx rfl (hb hby at_26) rfl rfl (l' := #[.val (.int p1), .val (.int ((p1 &&& (2147483647 : Int32)) % (3 : Int32))), .val (.ref w4), .unset]) rfl ?_
    show Steps p.tables e below (T5.setTop (mkF m 27 #[.val (.int p1), .val (.int ((p1 &&& (2147483647 : Int32)) % (3 : Int32))), .val (.ref w4), .unset] [])) _
    refine XS.goto X5.here hx rfl (pc0 := 27) (pc' := 34) rfl (hb hby at_27) (by decide) (by decide) ?_
    show Steps p.tables e below (T5.setTop (mkF m 34 #[.val (.int p1), .val (.int ((p1 &&& (2147483647 : Int32)) % (3 : Int32))), .val (.ref w4), .unset] [])) _
    refine XS.iloadN X5.here hx rfl (hb hby at_34) rfl ?_
    show Steps p.tables e below (T5.setTop (mkF m 35 #[.val (.int p1), .val (.int ((p1 &&& (2147483647 : Int32)) % (3 : Int32))), .val (.ref w4), .unset] [(.int ((p1 &&& (2147483647 : Int32)) % (3 : Int32)))])) _
    refine st11 _ ?_
    show Steps p.tables e below (T11.setTop (mkF m 38 #[.val (.int p1), .val (.int ((p1 &&& (2147483647 : Int32)) % (3 : Int32))), .val (.ref w4), .unset] [(.ref w4)])) _
    refine XS.astoreN X11.here hx rfl (hb hby at_38) rfl rfl (l' := #[.val (.int p1), .val (.int ((p1 &&& (2147483647 : Int32)) % (3 : Int32))), .val (.ref w4), .val (.ref w4)]) rfl ?_
    show Steps p.tables e below (T11.setTop (mkF m 39 #[.val (.int p1), .val (.int ((p1 &&& (2147483647 : Int32)) % (3 : Int32))), .val (.ref w4), .val (.ref w4)] [])) _
    refine XS.aloadN X11.here hx rfl (hb hby at_39) rfl rfl ?_
    show Steps p.tables e below (T11.setTop (mkF m 40 #[.val (.int p1), .val (.int ((p1 &&& (2147483647 : Int32)) % (3 : Int32))), .val (.ref w4), .val (.ref w4)] [(.ref w4)])) _
    refine XS.aloadN X11.here hx rfl (hb hby at_40) rfl rfl ?_
    show Steps p.tables e below (T11.setTop (mkF m 41 #[.val (.int p1), .val (.int ((p1 &&& (2147483647 : Int32)) % (3 : Int32))), .val (.ref w4), .val (.ref w4)] [(.ref w4), (.ref w4)])) _
    refine Jvm.RoadKit.acmp (g := (mkF m 41 #[.val (.int p1), .val (.int ((p1 &&& (2147483647 : Int32)) % (3 : Int32))), .val (.ref w4), .val (.ref w4)] [(.ref w4), (.ref w4)])) X11 hx rfl rfl rfl (pc0 := 41) (pc' := 44) (same := true) rfl (hb hby at_41) rfl (decide_eq_true rfl) (by decide) (by decide) ?_
    show Steps p.tables e below (T11.setTop (mkF m 44 #[.val (.int p1), .val (.int ((p1 &&& (2147483647 : Int32)) % (3 : Int32))), .val (.ref w4), .val (.ref w4)] [])) _
    refine XS.aloadN X11.here hx rfl (hb hby at_44) rfl rfl ?_
    show Steps p.tables e below (T11.setTop (mkF m 45 #[.val (.int p1), .val (.int ((p1 &&& (2147483647 : Int32)) % (3 : Int32))), .val (.ref w4), .val (.ref w4)] [(.ref w4)])) _
    refine st13.trans ?_
    show Steps p.tables e below (T13.setTop (mkF m 48 #[.val (.int p1), .val (.int ((p1 &&& (2147483647 : Int32)) % (3 : Int32))), .val (.ref w4), .val (.ref w4)] [(.int (1 : Int32))])) _
    refine XS.iloadN X13.here hx rfl (hb hby at_48) rfl ?_
    show Steps p.tables e below (T13.setTop (mkF m 49 #[.val (.int p1), .val (.int ((p1 &&& (2147483647 : Int32)) % (3 : Int32))), .val (.ref w4), .val (.ref w4)] [(.int ((p1 &&& (2147483647 : Int32)) % (3 : Int32))), (.int (1 : Int32))])) _
    refine XS.icmpNo X13.here hx rfl (hb hby at_49) rfl (teq P10).2 ?_
    show Steps p.tables e below (T13.setTop (mkF m 52 #[.val (.int p1), .val (.int ((p1 &&& (2147483647 : Int32)) % (3 : Int32))), .val (.ref w4), .val (.ref w4)] [])) _
    refine XS.iconst X13.here hx rfl (hb hby at_52) ?_
    show Steps p.tables e below (T13.setTop (mkF m 53 #[.val (.int p1), .val (.int ((p1 &&& (2147483647 : Int32)) % (3 : Int32))), .val (.ref w4), .val (.ref w4)] [(.int (1 : Int32))])) _
    refine XS.goto X13.here hx rfl (pc0 := 53) (pc' := 57) rfl (hb hby at_53) (by decide) (by decide) ?_
    show Steps p.tables e below (T13.setTop (mkF m 57 #[.val (.int p1), .val (.int ((p1 &&& (2147483647 : Int32)) % (3 : Int32))), .val (.ref w4), .val (.ref w4)] [(.int (1 : Int32))])) _
    exact retN X13 hx (t := .boolean) Bd.returns (by simp) (hb hby at_57) hr
  · exact ⟨rfl, N13⟩
def Q1_3 (Z : State) (p1 : Int32) (w2 : Addr) (k_w2 : ClassId) (w3 : Addr) (w4 : Addr) (w5 : Addr) (h0 : Heap) (n0 : Nat) (v : Option Value) (h : Heap) (L : List Loc) : Prop := v = some (.ref w5) ∧ Fr n0 L ∧ Keep h0 h []
set_option maxRecDepth 65536 in
set_option maxHeartbeats 40000000 in
theorem rm1_3 (l : Launch) (Z : State) (a0 : Array Value) (hw : ∀ d ∈ tables_1, d.before a0 Z = true) (ws : List Jvm.Cond) (p1 : Int32) (w2 : Addr) (k_w2 : ClassId) (w3 : Addr) (w4 : Addr) (w5 : Addr) (h0 : Heap) (n0 : Nat) (Z0 : n0 ≤ h0.size) (V_w2 : Arv Z h0 w2 k_w2 (.object "com/example/eneo/eneo/model/AccountType") (3 : Int32) [(.ref w3), (.ref w4), (.ref w5)] .null) (S__VALUES : Sta Z h0 "com/example/eneo/eneo/model/AccountType" "$VALUES" "[Lcom/example/eneo/eneo/model/AccountType;" (.ref w2)) (E_w2 : Exa Z h0 w2 "[Lcom/example/eneo/eneo/model/AccountType;") (F_code_w3 : Fld Z h0 w3 "com/example/eneo/eneo/model/AccountType" "code" "I" (.int (0 : Int32))) (P11 : ¬ ((0 : Int32) = p1)) (F_code_w4 : Fld Z h0 w4 "com/example/eneo/eneo/model/AccountType" "code" "I" (.int (1 : Int32))) (P15 : ¬ ((1 : Int32) = p1)) (F_code_w5 : Fld Z h0 w5 "com/example/eneo/eneo/model/AccountType" "code" "I" (.int (2 : Int32))) (P19 : (2 : Int32) = p1) :
    MetFree l (⟨"com/example/eneo/eneo/model/AccountType", "ofCode", "(I)Lcom/example/eneo/eneo/model/AccountType;"⟩ : MethodName) (head1 (Jvm.Cond.code (⟨"com/example/eneo/eneo/model/AccountType", "ofCode", "(I)Lcom/example/eneo/eneo/model/AccountType;"⟩ : MethodName) prog_30_method_5_code 5 (some (.object "com/example/eneo/eneo/model/AccountType")) :: ws) ({ frames := 2, cells := 1, slots := 3, locals := 25 } : Room)) (fun a U => a = #[(.int p1)] ∧ Z.Warmed39 U.vm ∧ U.heap = h0) (fun _ _ _ _ _ => True) (fun _ U o U' => ∃ v L, o = .returned v ∧ Q1_3 Z p1 w2 k_w2 w3 w4 w5 h0 n0 v U'.heap L ∧ FrameEnd U o U' L ({ frames := 2, cells := 1, slots := 3, locals := 25 } : Room).cells ({ frames := 2, cells := 1, slots := 3, locals := 25 } : Room).slots) := by
  refine MetFree.of_bodySF (plainFor_of_name pn_1) hisR ?_
  intro p e s m args below meth c s₁ Bd hml0 hP hK
  obtain ⟨rfl, hZ, hh⟩ := hP
  have hx := Bd.exec
  have hby := Bd.bytes
  have hml : c.maxLocals = 5 := hml0
  have hown : s.vm.findClass "com/example/eneo/eneo/model/AccountType" = some m.cls := findClass_of_methodNamed Bd.named
  have hnm := (name_of_methodNamed Bd.named Bd.method).1
  have X0 : Stand p l e ({ frames := 2, cells := 1, slots := 3, locals := 25 } : Room) s m #[(.int p1)] below meth c s₁ [] 0 0 := Stand.of_body Bd
  have e0 : s₁.heap = h0 := by rw [← hh, Bd.state]; rfl
  have N0 := Fr.nil n0
  have pre0 : ∀ t, Steps p.tables e below (s₁.setTop (mkF m 0 #[.val (.int p1), .unset, .unset, .unset, .unset] [])) t → Steps p.tables e below (s₁.setTop (entryFrame m #[(.int p1)] 5)) t := fun t k => castTop (ef_1_I m p1) k
  obtain ⟨_, _, ⟨T6, L6, k6, n6⟩, -, X6, ⟨Lc6, hQ6, l6, y6, z6⟩, st6⟩ := Jvm.LawKit.callS X0 hx (y := (⟨"com/example/eneo/eneo/model/AccountType", "values", "()[Lcom/example/eneo/eneo/model/AccountType;"⟩ : MethodName)) hown (mvT hZ (hw _ (List.mem_of_getElem? (i := 7) rfl))) (mvT hZ (hw _ (List.mem_of_getElem? (i := 8) rfl))) (mvT hZ (hw _ (List.mem_of_getElem? (i := 2) rfl))) (mvT hZ (hw _ (List.mem_of_getElem? (i := 9) rfl))) (by decide) (backOf (W := 0) (rm2_1 l Z a0 hw [] w2 k_w2 w3 w4 w5 h0 n0 Z0 S__VALUES V_w2 E_w2) hZ (hw _ (List.mem_of_getElem? (i := 9) rfl)) (hw _ (List.mem_of_getElem? (i := 2) rfl)) (by decide) (by decide)) (g := (mkF m 0 #[.val (.int p1), .unset, .unset, .unset, .unset] [])) rfl (by rw [hml]; rfl) (argsL := []) (rest := []) (lenOf pd_0 rfl) rfl (by show 2 * 0 + _ ≤ _; exact Nat.le_of_eq rfl) (hb hby d1_0) (fun _ _ => ⟨rfl, e0, (by decide : 0 + 1 ≤ _), (by decide : 0 + 3 ≤ _)⟩)
  dsimp only [Pt.U, Pt.locs, Pt.cells, Pt.slots] at X6 l6 y6 z6 st6 hQ6
  subst l6 y6 z6
  obtain ⟨b6_6, rfl, Nq6, K6, x6_0, x6_1, x6_2⟩ := hQ6
  have N6 := Fr.app N0 Nq6
  have sz_b6_6 : h0.size ≤ b6_6 := Nat.le_trans (Keep.refl h0 []).1 x6_0
  have g_b6_6 : n0 ≤ b6_6 := Nat.le_trans Z0 sz_b6_6
  have K0_6 : Keep h0 T6.heap [] := (Keep.refl h0 []).trans K6 all0
  have Z6 : n0 ≤ T6.heap.size := Nat.le_trans Z0 K6.1
  obtain ⟨cl7, Ar7, -, S7, N_7, -, -⟩ := id x6_1
  obtain ⟨cl8, Ar8, q8, S8, N_8, H8, G8⟩ := id x6_1
  have hin8 : ¬ ((0 : Int32) < 0 ∨ cl8.slots.size ≤ ((0 : Int32)).toNatClampNeg) := inb_of S8 ⟨by decide, (by decide : (0 : Int32) < (3 : Int32))⟩
  have hat8 : cl8.slots[((0 : Int32)).toNatClampNeg]? = some (.ref w3) := Has.at H8 hin8 rfl
  have f9 := (F_code_w3.keep K6 nin0)
  obtain ⟨T10, X10, e10, st10⟩ := getF X6 hx hZ hown (host := "") (Or.inl (hw _ (List.mem_of_getElem? (i := 24) rfl))) Via.refl rfl f9 (g := (mkF m 21 #[.val (.int p1), .val (.ref b6_6), .val (.int (3 : Int32)), .val (.int (0 : Int32)), .val (.ref w3)] [(.ref w3)])) rfl rfl (hb hby d1_21)
  obtain ⟨cl12, Ar12, q12, S12, N_12, H12, G12⟩ := id x6_1
  have hin12 : ¬ ((1 : Int32) < 0 ∨ cl12.slots.size ≤ ((1 : Int32)).toNatClampNeg) := inb_of S12 ⟨by decide, (by decide : (1 : Int32) < (3 : Int32))⟩
  have hat12 : cl12.slots[((1 : Int32)).toNatClampNeg]? = some (.ref w4) := Has.at H12 hin12 rfl
  have f13 := (F_code_w4.keep K6 nin0)
  obtain ⟨T14, X14, e14, st14⟩ := getF X10 hx hZ hown (host := "") (Or.inl (hw _ (List.mem_of_getElem? (i := 24) rfl))) Via.refl e10 f13 (g := (mkF m 21 #[.val (.int p1), .val (.ref b6_6), .val (.int (3 : Int32)), .val (.int (1 : Int32)), .val (.ref w4)] [(.ref w4)])) rfl rfl (hb hby d1_21)
  obtain ⟨cl16, Ar16, q16, S16, N_16, H16, G16⟩ := id x6_1
  have hin16 : ¬ ((2 : Int32) < 0 ∨ cl16.slots.size ≤ ((2 : Int32)).toNatClampNeg) := inb_of S16 ⟨by decide, (by decide : (2 : Int32) < (3 : Int32))⟩
  have hat16 : cl16.slots[((2 : Int32)).toNatClampNeg]? = some (.ref w5) := Has.at H16 hin16 rfl
  have f17 := (F_code_w5.keep K6 nin0)
  obtain ⟨T18, X18, e18, st18⟩ := getF X14 hx hZ hown (host := "") (Or.inl (hw _ (List.mem_of_getElem? (i := 24) rfl))) Via.refl e14 f17 (g := (mkF m 21 #[.val (.int p1), .val (.ref b6_6), .val (.int (3 : Int32)), .val (.int (2 : Int32)), .val (.ref w5)] [(.ref w5)])) rfl rfl (hb hby d1_21)
  obtain ⟨fs, hr, hrun, hended, hW, hsame⟩ := X18.leave (v := some (.ref w5)) (fun h => by rw [Bd.returns] at h; cases h)
  refine ⟨_, _, pre0 _ ?_, hrun, hended, _, _, rfl, ?_, ⟨_, rfl⟩, hW, hsame.mono (by decide) (by decide)⟩
  · show Steps p.tables e below (s₁.setTop (mkF m 0 #[.val (.int p1), .unset, .unset, .unset, .unset] [])) _
    refine st6 _ ?_
    show Steps p.tables e below (T6.setTop (mkF m 3 #[.val (.int p1), .unset, .unset, .unset, .unset] [(.ref b6_6)])) _
    refine XS.astoreN X6.here hx rfl (hb hby d1_3) rfl rfl (l' := #[.val (.int p1), .val (.ref b6_6), .unset, .unset, .unset]) rfl ?_
    show Steps p.tables e below (T6.setTop (mkF m 4 #[.val (.int p1), .val (.ref b6_6), .unset, .unset, .unset] [])) _
    refine XS.aloadN X6.here hx rfl (hb hby d1_4) rfl rfl ?_
    show Steps p.tables e below (T6.setTop (mkF m 5 #[.val (.int p1), .val (.ref b6_6), .unset, .unset, .unset] [(.ref b6_6)])) _
    refine X6.arraylength hx (Ar7.1) (State.isArrayOf_alike hZ.alike Ar7.2.1) (g := (mkF m 5 #[.val (.int p1), .val (.ref b6_6), .unset, .unset, .unset] [(.ref b6_6)])) rfl rfl (hb hby d1_5) _ ?_
    rw [len_of S7 N_7]
    show Steps p.tables e below (T6.setTop (mkF m 6 #[.val (.int p1), .val (.ref b6_6), .unset, .unset, .unset] [(.int (3 : Int32))])) _
    refine XS.istoreN X6.here hx rfl (hb hby d1_6) rfl (l' := #[.val (.int p1), .val (.ref b6_6), .val (.int (3 : Int32)), .unset, .unset]) rfl ?_
    show Steps p.tables e below (T6.setTop (mkF m 7 #[.val (.int p1), .val (.ref b6_6), .val (.int (3 : Int32)), .unset, .unset] [])) _
    refine XS.iconst X6.here hx rfl (hb hby d1_7) ?_
    show Steps p.tables e below (T6.setTop (mkF m 8 #[.val (.int p1), .val (.ref b6_6), .val (.int (3 : Int32)), .unset, .unset] [(.int (0 : Int32))])) _
    refine XS.istoreN X6.here hx rfl (hb hby d1_8) rfl (l' := #[.val (.int p1), .val (.ref b6_6), .val (.int (3 : Int32)), .val (.int (0 : Int32)), .unset]) rfl ?_
    show Steps p.tables e below (T6.setTop (mkF m 9 #[.val (.int p1), .val (.ref b6_6), .val (.int (3 : Int32)), .val (.int (0 : Int32)), .unset] [])) _
    refine XS.iloadN X6.here hx rfl (hb hby d1_9) rfl ?_
    show Steps p.tables e below (T6.setTop (mkF m 10 #[.val (.int p1), .val (.ref b6_6), .val (.int (3 : Int32)), .val (.int (0 : Int32)), .unset] [(.int (0 : Int32))])) _
    refine XS.iloadN X6.here hx rfl (hb hby d1_10) rfl ?_
    show Steps p.tables e below (T6.setTop (mkF m 11 #[.val (.int p1), .val (.ref b6_6), .val (.int (3 : Int32)), .val (.int (0 : Int32)), .unset] [(.int (3 : Int32)), (.int (0 : Int32))])) _
    refine XS.icmpNo X6.here hx rfl (hb hby d1_11) rfl (tlt (by decide : (0 : Int32) < (3 : Int32))).2.1 ?_
    show Steps p.tables e below (T6.setTop (mkF m 14 #[.val (.int p1), .val (.ref b6_6), .val (.int (3 : Int32)), .val (.int (0 : Int32)), .unset] [])) _
    refine XS.aloadN X6.here hx rfl (hb hby d1_14) rfl rfl ?_
    show Steps p.tables e below (T6.setTop (mkF m 15 #[.val (.int p1), .val (.ref b6_6), .val (.int (3 : Int32)), .val (.int (0 : Int32)), .unset] [(.ref b6_6)])) _
    refine XS.iloadN X6.here hx rfl (hb hby d1_15) rfl ?_
    show Steps p.tables e below (T6.setTop (mkF m 16 #[.val (.int p1), .val (.ref b6_6), .val (.int (3 : Int32)), .val (.int (0 : Int32)), .unset] [(.int (0 : Int32)), (.ref b6_6)])) _
    refine X6.aaload hx (j := (0 : Int32)) (v := (.ref w3)) (Ar8.1) (State.isArrayOf_alike hZ.alike Ar8.2.1) rfl Ar8.2.2 hin8 hat8 (g := (mkF m 16 #[.val (.int p1), .val (.ref b6_6), .val (.int (3 : Int32)), .val (.int (0 : Int32)), .unset] [(.int (0 : Int32)), (.ref b6_6)])) rfl rfl (hb hby d1_16) _ ?_
    show Steps p.tables e below (T6.setTop (mkF m 17 #[.val (.int p1), .val (.ref b6_6), .val (.int (3 : Int32)), .val (.int (0 : Int32)), .unset] [(.ref w3)])) _
    refine XS.astore X6.here hx rfl (hb hby d1_17) rfl rfl (l' := #[.val (.int p1), .val (.ref b6_6), .val (.int (3 : Int32)), .val (.int (0 : Int32)), .val (.ref w3)]) rfl ?_
    show Steps p.tables e below (T6.setTop (mkF m 19 #[.val (.int p1), .val (.ref b6_6), .val (.int (3 : Int32)), .val (.int (0 : Int32)), .val (.ref w3)] [])) _
    refine XS.aload X6.here hx rfl (hb hby d1_19) rfl rfl ?_
    show Steps p.tables e below (T6.setTop (mkF m 21 #[.val (.int p1), .val (.ref b6_6), .val (.int (3 : Int32)), .val (.int (0 : Int32)), .val (.ref w3)] [(.ref w3)])) _
    refine st10 _ ?_
    show Steps p.tables e below (T10.setTop (mkF m 24 #[.val (.int p1), .val (.ref b6_6), .val (.int (3 : Int32)), .val (.int (0 : Int32)), .val (.ref w3)] [(.int (0 : Int32))])) _
    refine XS.iloadN X10.here hx rfl (hb hby d1_24) rfl ?_
    show Steps p.tables e below (T10.setTop (mkF m 25 #[.val (.int p1), .val (.ref b6_6), .val (.int (3 : Int32)), .val (.int (0 : Int32)), .val (.ref w3)] [(.int p1), (.int (0 : Int32))])) _
    refine XS.icmpYes X10.here hx rfl (pc0 := 25) (pc' := 31) rfl (hb hby d1_25) rfl (feq P11).2 (by decide) (by decide) ?_
    show Steps p.tables e below (T10.setTop (mkF m 31 #[.val (.int p1), .val (.ref b6_6), .val (.int (3 : Int32)), .val (.int (0 : Int32)), .val (.ref w3)] [])) _
    refine XS.iinc X10.here hx rfl (hb hby d1_31) rfl (l' := #[.val (.int p1), .val (.ref b6_6), .val (.int (3 : Int32)), .val (.int (1 : Int32)), .val (.ref w3)]) rfl ?_
    show Steps p.tables e below (T10.setTop (mkF m 34 #[.val (.int p1), .val (.ref b6_6), .val (.int (3 : Int32)), .val (.int (1 : Int32)), .val (.ref w3)] [])) _
    refine XS.goto X10.here hx rfl (pc0 := 34) (pc' := 9) rfl (hb hby d1_34) (by decide) (by decide) ?_
    show Steps p.tables e below (T10.setTop (mkF m 9 #[.val (.int p1), .val (.ref b6_6), .val (.int (3 : Int32)), .val (.int (1 : Int32)), .val (.ref w3)] [])) _
    refine XS.iloadN X10.here hx rfl (hb hby d1_9) rfl ?_
    show Steps p.tables e below (T10.setTop (mkF m 10 #[.val (.int p1), .val (.ref b6_6), .val (.int (3 : Int32)), .val (.int (1 : Int32)), .val (.ref w3)] [(.int (1 : Int32))])) _
    refine XS.iloadN X10.here hx rfl (hb hby d1_10) rfl ?_
    show Steps p.tables e below (T10.setTop (mkF m 11 #[.val (.int p1), .val (.ref b6_6), .val (.int (3 : Int32)), .val (.int (1 : Int32)), .val (.ref w3)] [(.int (3 : Int32)), (.int (1 : Int32))])) _
    refine XS.icmpNo X10.here hx rfl (hb hby d1_11) rfl (tlt (by decide : (1 : Int32) < (3 : Int32))).2.1 ?_
    show Steps p.tables e below (T10.setTop (mkF m 14 #[.val (.int p1), .val (.ref b6_6), .val (.int (3 : Int32)), .val (.int (1 : Int32)), .val (.ref w3)] [])) _
    refine XS.aloadN X10.here hx rfl (hb hby d1_14) rfl rfl ?_
    show Steps p.tables e below (T10.setTop (mkF m 15 #[.val (.int p1), .val (.ref b6_6), .val (.int (3 : Int32)), .val (.int (1 : Int32)), .val (.ref w3)] [(.ref b6_6)])) _
    refine XS.iloadN X10.here hx rfl (hb hby d1_15) rfl ?_
    show Steps p.tables e below (T10.setTop (mkF m 16 #[.val (.int p1), .val (.ref b6_6), .val (.int (3 : Int32)), .val (.int (1 : Int32)), .val (.ref w3)] [(.int (1 : Int32)), (.ref b6_6)])) _
    refine X10.aaload hx (j := (1 : Int32)) (v := (.ref w4)) (by rw [e10]; exact Ar12.1) (State.isArrayOf_alike hZ.alike Ar12.2.1) rfl Ar12.2.2 hin12 hat12 (g := (mkF m 16 #[.val (.int p1), .val (.ref b6_6), .val (.int (3 : Int32)), .val (.int (1 : Int32)), .val (.ref w3)] [(.int (1 : Int32)), (.ref b6_6)])) rfl rfl (hb hby d1_16) _ ?_
    show Steps p.tables e below (T10.setTop (mkF m 17 #[.val (.int p1), .val (.ref b6_6), .val (.int (3 : Int32)), .val (.int (1 : Int32)), .val (.ref w3)] [(.ref w4)])) _
    refine XS.astore X10.here hx rfl (hb hby d1_17) rfl rfl (l' := #[.val (.int p1), .val (.ref b6_6), .val (.int (3 : Int32)), .val (.int (1 : Int32)), .val (.ref w4)]) rfl ?_
    show Steps p.tables e below (T10.setTop (mkF m 19 #[.val (.int p1), .val (.ref b6_6), .val (.int (3 : Int32)), .val (.int (1 : Int32)), .val (.ref w4)] [])) _
    refine XS.aload X10.here hx rfl (hb hby d1_19) rfl rfl ?_
    show Steps p.tables e below (T10.setTop (mkF m 21 #[.val (.int p1), .val (.ref b6_6), .val (.int (3 : Int32)), .val (.int (1 : Int32)), .val (.ref w4)] [(.ref w4)])) _
    refine st14 _ ?_
    show Steps p.tables e below (T14.setTop (mkF m 24 #[.val (.int p1), .val (.ref b6_6), .val (.int (3 : Int32)), .val (.int (1 : Int32)), .val (.ref w4)] [(.int (1 : Int32))])) _
    refine XS.iloadN X14.here hx rfl (hb hby d1_24) rfl ?_
    show Steps p.tables e below (T14.setTop (mkF m 25 #[.val (.int p1), .val (.ref b6_6), .val (.int (3 : Int32)), .val (.int (1 : Int32)), .val (.ref w4)] [(.int p1), (.int (1 : Int32))])) _
    refine XS.icmpYes X14.here hx rfl (pc0 := 25) (pc' := 31) rfl (hb hby d1_25) rfl (feq P15).2 (by decide) (by decide) ?_
    show Steps p.tables e below (T14.setTop (mkF m 31 #[.val (.int p1), .val (.ref b6_6), .val (.int (3 : Int32)), .val (.int (1 : Int32)), .val (.ref w4)] [])) _
    refine XS.iinc X14.here hx rfl (hb hby d1_31) rfl (l' := #[.val (.int p1), .val (.ref b6_6), .val (.int (3 : Int32)), .val (.int (2 : Int32)), .val (.ref w4)]) rfl ?_
    show Steps p.tables e below (T14.setTop (mkF m 34 #[.val (.int p1), .val (.ref b6_6), .val (.int (3 : Int32)), .val (.int (2 : Int32)), .val (.ref w4)] [])) _
    refine XS.goto X14.here hx rfl (pc0 := 34) (pc' := 9) rfl (hb hby d1_34) (by decide) (by decide) ?_
    show Steps p.tables e below (T14.setTop (mkF m 9 #[.val (.int p1), .val (.ref b6_6), .val (.int (3 : Int32)), .val (.int (2 : Int32)), .val (.ref w4)] [])) _
    refine XS.iloadN X14.here hx rfl (hb hby d1_9) rfl ?_
    show Steps p.tables e below (T14.setTop (mkF m 10 #[.val (.int p1), .val (.ref b6_6), .val (.int (3 : Int32)), .val (.int (2 : Int32)), .val (.ref w4)] [(.int (2 : Int32))])) _
    refine XS.iloadN X14.here hx rfl (hb hby d1_10) rfl ?_
    show Steps p.tables e below (T14.setTop (mkF m 11 #[.val (.int p1), .val (.ref b6_6), .val (.int (3 : Int32)), .val (.int (2 : Int32)), .val (.ref w4)] [(.int (3 : Int32)), (.int (2 : Int32))])) _
    refine XS.icmpNo X14.here hx rfl (hb hby d1_11) rfl (tlt (by decide : (2 : Int32) < (3 : Int32))).2.1 ?_
    show Steps p.tables e below (T14.setTop (mkF m 14 #[.val (.int p1), .val (.ref b6_6), .val (.int (3 : Int32)), .val (.int (2 : Int32)), .val (.ref w4)] [])) _
    refine XS.aloadN X14.here hx rfl (hb hby d1_14) rfl rfl ?_
    show Steps p.tables e below (T14.setTop (mkF m 15 #[.val (.int p1), .val (.ref b6_6), .val (.int (3 : Int32)), .val (.int (2 : Int32)), .val (.ref w4)] [(.ref b6_6)])) _
    refine XS.iloadN X14.here hx rfl (hb hby d1_15) rfl ?_
    show Steps p.tables e below (T14.setTop (mkF m 16 #[.val (.int p1), .val (.ref b6_6), .val (.int (3 : Int32)), .val (.int (2 : Int32)), .val (.ref w4)] [(.int (2 : Int32)), (.ref b6_6)])) _
    refine X14.aaload hx (j := (2 : Int32)) (v := (.ref w5)) (by rw [e14]; exact Ar16.1) (State.isArrayOf_alike hZ.alike Ar16.2.1) rfl Ar16.2.2 hin16 hat16 (g := (mkF m 16 #[.val (.int p1), .val (.ref b6_6), .val (.int (3 : Int32)), .val (.int (2 : Int32)), .val (.ref w4)] [(.int (2 : Int32)), (.ref b6_6)])) rfl rfl (hb hby d1_16) _ ?_
    show Steps p.tables e below (T14.setTop (mkF m 17 #[.val (.int p1), .val (.ref b6_6), .val (.int (3 : Int32)), .val (.int (2 : Int32)), .val (.ref w4)] [(.ref w5)])) _
    refine XS.astore X14.here hx rfl (hb hby d1_17) rfl rfl (l' := #[.val (.int p1), .val (.ref b6_6), .val (.int (3 : Int32)), .val (.int (2 : Int32)), .val (.ref w5)]) rfl ?_
    show Steps p.tables e below (T14.setTop (mkF m 19 #[.val (.int p1), .val (.ref b6_6), .val (.int (3 : Int32)), .val (.int (2 : Int32)), .val (.ref w5)] [])) _
    refine XS.aload X14.here hx rfl (hb hby d1_19) rfl rfl ?_
    show Steps p.tables e below (T14.setTop (mkF m 21 #[.val (.int p1), .val (.ref b6_6), .val (.int (3 : Int32)), .val (.int (2 : Int32)), .val (.ref w5)] [(.ref w5)])) _
    refine st18 _ ?_
    show Steps p.tables e below (T18.setTop (mkF m 24 #[.val (.int p1), .val (.ref b6_6), .val (.int (3 : Int32)), .val (.int (2 : Int32)), .val (.ref w5)] [(.int (2 : Int32))])) _
    refine XS.iloadN X18.here hx rfl (hb hby d1_24) rfl ?_
    show Steps p.tables e below (T18.setTop (mkF m 25 #[.val (.int p1), .val (.ref b6_6), .val (.int (3 : Int32)), .val (.int (2 : Int32)), .val (.ref w5)] [(.int p1), (.int (2 : Int32))])) _
    refine XS.icmpNo X18.here hx rfl (hb hby d1_25) rfl (teq P19).2 ?_
    show Steps p.tables e below (T18.setTop (mkF m 28 #[.val (.int p1), .val (.ref b6_6), .val (.int (3 : Int32)), .val (.int (2 : Int32)), .val (.ref w5)] [])) _
    refine XS.aload X18.here hx rfl (hb hby d1_28) rfl rfl ?_
    show Steps p.tables e below (T18.setTop (mkF m 30 #[.val (.int p1), .val (.ref b6_6), .val (.int (3 : Int32)), .val (.int (2 : Int32)), .val (.ref w5)] [(.ref w5)])) _
    jvm_step X18.here [X18.here.top, hx, (hb hby d1_30), X18.method', Bd.returns, Value.isRef, FieldType.isReference]
    first | (intro acts; rw [hr _ acts rfl rfl rfl]) | rw [hr _ _ rfl rfl rfl]
    exact Steps.refl _
  · show Q1_3 Z p1 w2 k_w2 w3 w4 w5 h0 n0 _ T18.heap _
    rw [e18]
    exact ⟨rfl, N6, K0_6⟩
def Q3_3 (Z : State) (a1 : Addr) (h0 : Heap) (n0 : Nat) (v : Option Value) (h : Heap) (L : List Loc) : Prop := v = some (.int (2 : Int32)) ∧ Fr n0 L ∧ h = h0
set_option maxRecDepth 65536 in
set_option maxHeartbeats 40000000 in
theorem rm3_3 (l : Launch) (Z : State) (a0 : Array Value) (hw : ∀ d ∈ tables_1, d.before a0 Z = true) (ws : List Jvm.Cond) (a1 : Addr) (h0 : Heap) (n0 : Nat) (Z0 : n0 ≤ h0.size) (F_code_a1 : Fld Z h0 a1 "com/example/eneo/eneo/model/AccountType" "code" "I" (.int (2 : Int32))) :
    MetFree l (⟨"com/example/eneo/eneo/model/AccountType", "code", "()I"⟩ : MethodName) (head1 (Jvm.Cond.code (⟨"com/example/eneo/eneo/model/AccountType", "code", "()I"⟩ : MethodName) prog_30_method_4_code 1 (some .int) :: ws) ({ frames := 0, cells := 0, slots := 0, locals := 0 } : Room)) (fun a U => a = #[(.ref a1)] ∧ Z.Warmed39 U.vm ∧ U.heap = h0) (fun _ _ _ _ _ => True) (fun _ U o U' => ∃ v L, o = .returned v ∧ Q3_3 Z a1 h0 n0 v U'.heap L ∧ FrameEnd U o U' L ({ frames := 0, cells := 0, slots := 0, locals := 0 } : Room).cells ({ frames := 0, cells := 0, slots := 0, locals := 0 } : Room).slots) := by
  refine MetFree.of_bodySF (plainFor_of_name pn_3) hisR ?_
  intro p e s m args below meth c s₁ Bd hml0 hP hK
  obtain ⟨rfl, hZ, hh⟩ := hP
  have hx := Bd.exec
  have hby := Bd.bytes
  have hml : c.maxLocals = 1 := hml0
  have hown : s.vm.findClass "com/example/eneo/eneo/model/AccountType" = some m.cls := findClass_of_methodNamed Bd.named
  have hnm := (name_of_methodNamed Bd.named Bd.method).1
  have X0 : Stand p l e ({ frames := 0, cells := 0, slots := 0, locals := 0 } : Room) s m #[(.ref a1)] below meth c s₁ [] 0 0 := Stand.of_body Bd
  have e0 : s₁.heap = h0 := by rw [← hh, Bd.state]; rfl
  have N0 := Fr.nil n0
  have pre0 : ∀ t, Steps p.tables e below (s₁.setTop (mkF m 0 #[.val (.ref a1)] [])) t → Steps p.tables e below (s₁.setTop (entryFrame m #[(.ref a1)] 1)) t := fun t k => castTop (ef_3_R m a1) k
  obtain ⟨T2, X2, e2, st2⟩ := getF X0 hx hZ hown (host := "") (Or.inl (hw _ (List.mem_of_getElem? (i := 24) rfl))) Via.refl e0 F_code_a1 (g := (mkF m 1 #[.val (.ref a1)] [(.ref a1)])) rfl rfl (hb hby d3_1)
  obtain ⟨fs, hr, hrun, hended, hW, hsame⟩ := X2.leave (v := some (.int (2 : Int32))) (fun h => by rw [Bd.returns] at h; cases h)
  refine ⟨_, _, pre0 _ ?_, hrun, hended, _, _, rfl, ?_, ⟨_, rfl⟩, hW, hsame.mono (by decide) (by decide)⟩
  · show Steps p.tables e below (s₁.setTop (mkF m 0 #[.val (.ref a1)] [])) _
    refine XS.aloadN X0.here hx rfl (hb hby d3_0) rfl rfl ?_
    show Steps p.tables e below (s₁.setTop (mkF m 1 #[.val (.ref a1)] [(.ref a1)])) _
    refine st2 _ ?_
    show Steps p.tables e below (T2.setTop (mkF m 4 #[.val (.ref a1)] [(.int (2 : Int32))])) _
    exact retI X2 hx Bd.returns (hb hby d3_4) hr
  · show Q3_3 Z a1 h0 n0 _ T2.heap _
    rw [e2]
    exact ⟨rfl, N0, rfl⟩
set_option maxRecDepth 65536 in
set_option maxHeartbeats 40000000 in
theorem rm0_3 (l : Launch) (Z : State) (a0 : Array Value) (hw : ∀ d ∈ tables_1, d.before a0 Z = true) (ws : List Jvm.Cond) (p1 : Int32) (w4 : Addr) (w6 : Addr) (w7 : Addr) (w8 : Addr) (k_w8 : ClassId) (h0 : Heap) (n0 : Nat) (Z0 : n0 ≤ h0.size) (P2 : ¬ (((p1 &&& (2147483647 : Int32)) % (3 : Int32)) = (0 : Int32))) (P3 : ¬ (((p1 &&& (2147483647 : Int32)) % (3 : Int32)) = (1 : Int32))) (S_DOMAIN_ADMIN : Sta Z h0 "com/example/eneo/eneo/model/AccountType" "DOMAIN_ADMIN" "Lcom/example/eneo/eneo/model/AccountType;" (.ref w4)) (F_code_w6 : Fld Z h0 w6 "com/example/eneo/eneo/model/AccountType" "code" "I" (.int (0 : Int32))) (F_code_w7 : Fld Z h0 w7 "com/example/eneo/eneo/model/AccountType" "code" "I" (.int (1 : Int32))) (F_code_w4 : Fld Z h0 w4 "com/example/eneo/eneo/model/AccountType" "code" "I" (.int (2 : Int32))) (V_w8 : Arv Z h0 w8 k_w8 (.object "com/example/eneo/eneo/model/AccountType") (3 : Int32) [(.ref w6), (.ref w7), (.ref w4)] .null) (S__VALUES : Sta Z h0 "com/example/eneo/eneo/model/AccountType" "$VALUES" "[Lcom/example/eneo/eneo/model/AccountType;" (.ref w8)) (E_w8 : Exa Z h0 w8 "[Lcom/example/eneo/eneo/model/AccountType;") (P9 : ¬ ((0 : Int32) = ((p1 &&& (2147483647 : Int32)) % (3 : Int32)))) (P10 : ¬ ((1 : Int32) = ((p1 &&& (2147483647 : Int32)) % (3 : Int32)))) (P11 : (2 : Int32) = ((p1 &&& (2147483647 : Int32)) % (3 : Int32))) (E_w4 : Exa Z h0 w4 "com/example/eneo/eneo/model/AccountType") :
    MetFree l x (head1 (Jvm.Cond.code x code maxLocals ret :: ws) room_1) (fun a U => a = #[(.int p1)] ∧ Z.Warmed39 U.vm ∧ U.heap = h0) (fun _ _ _ _ _ => True) (fun _ U o U' => ∃ v L, o = .returned v ∧ own_QT n0 v L ∧ FrameEnd U o U' L room_1.cells room_1.slots) := by
  refine MetFree.of_bodySF (plainFor_of_name pn_0) hisR ?_
  intro p e s m args below meth c s₁ Bd hml0 hP hK
  obtain ⟨rfl, hZ, hh⟩ := hP
  have hx := Bd.exec
  have hby := Bd.bytes
  have hml : c.maxLocals = 4 := hml0
  have hown : s.vm.findClass "com/example/eneo/eneo/model/AccountTypeOfCodePinLaw" = some m.cls := findClass_of_methodNamed Bd.named
  have hnm := (name_of_methodNamed Bd.named Bd.method).1
  have X0 : Stand p l e room_1 s m #[(.int p1)] below meth c s₁ [] 0 0 := Stand.of_body Bd
  have e0 : s₁.heap = h0 := by rw [← hh, Bd.state]; rfl
  have N0 := Fr.nil n0
  have pre0 : ∀ t, Steps p.tables e below (s₁.setTop (mkF m 0 #[.val (.int p1), .unset, .unset, .unset] [])) t → Steps p.tables e below (s₁.setTop (entryFrame m #[(.int p1)] maxLocals)) t := fun t k => castTop (ef_0_I m p1) k
  obtain ⟨T5, X5, e5, st5⟩ := getS2 X0 hx hZ hown (host := "") (Or.inl (hw _ (List.mem_of_getElem? (i := 31) rfl))) Via.refl e0 S_DOMAIN_ADMIN (g := (mkF m 30 #[.val (.int p1), .val (.int ((p1 &&& (2147483647 : Int32)) % (3 : Int32))), .unset, .unset] [])) rfl (hb hby at_30)
  obtain ⟨_, _, ⟨T12, L12, k12, n12⟩, -, X12, ⟨Lc12, hQ12, l12, y12, z12⟩, st12⟩ := Jvm.LawKit.callS X5 hx (y := (⟨"com/example/eneo/eneo/model/AccountType", "ofCode", "(I)Lcom/example/eneo/eneo/model/AccountType;"⟩ : MethodName)) hown (mvT hZ (hw _ (List.mem_of_getElem? (i := 4) rfl))) (mvT hZ (hw _ (List.mem_of_getElem? (i := 5) rfl))) (mvT hZ (hw _ (List.mem_of_getElem? (i := 2) rfl))) (mvT hZ (hw _ (List.mem_of_getElem? (i := 6) rfl))) (by decide) (backOf (W := 0) (rm1_3 l Z a0 hw [] ((p1 &&& (2147483647 : Int32)) % (3 : Int32)) w8 k_w8 w6 w7 w4 h0 n0 Z0 V_w8 S__VALUES E_w8 F_code_w6 P9 F_code_w7 P10 F_code_w4 P11) hZ (hw _ (List.mem_of_getElem? (i := 6) rfl)) (hw _ (List.mem_of_getElem? (i := 2) rfl)) (by decide) (by decide)) (g := (mkF m 35 #[.val (.int p1), .val (.int ((p1 &&& (2147483647 : Int32)) % (3 : Int32))), .val (.ref w4), .unset] [(.int ((p1 &&& (2147483647 : Int32)) % (3 : Int32)))])) rfl (by rw [hml]; rfl) (argsL := [(.int ((p1 &&& (2147483647 : Int32)) % (3 : Int32)))]) (rest := []) (lenOf pd_1 rfl) rfl (by show 2 * 0 + _ ≤ _; exact Nat.le_of_eq rfl) (hb hby at_35) (fun _ _ => ⟨rfl, e5, (by decide : 0 + 1 ≤ _), (by decide : 0 + 3 ≤ _)⟩)
  dsimp only [Pt.U, Pt.locs, Pt.cells, Pt.slots] at X12 l12 y12 z12 st12 hQ12
  subst l12 y12 z12
  obtain ⟨rfl, Nq12, K12⟩ := hQ12
  have N12 := Fr.app N0 Nq12
  have K0_12 : Keep h0 T12.heap [] := (Keep.refl h0 []).trans K12 all0
  have Z12 : n0 ≤ T12.heap.size := Nat.le_trans Z0 K12.1
  have f13 := (F_code_w4.keep K12 nin0)
  have f15 := (E_w4.keep K12)
  obtain ⟨cq14, kq14, q14a, q14b, q14c⟩ := isOf hZ rfl f15
  obtain ⟨_, _, ⟨T14, L14, k14, n14⟩, -, X14, ⟨Lc14, hQ14, l14, y14, z14⟩, st14⟩ := X12.virtualBack hx (y := (⟨"com/example/eneo/eneo/model/AccountType", "code", "()I"⟩ : MethodName)) (z := (⟨"com/example/eneo/eneo/model/AccountType", "code", "()I"⟩ : MethodName)) hown (mvT hZ (hw _ (List.mem_of_getElem? (i := 26) rfl))) (mvT hZ (hw _ (List.mem_of_getElem? (i := 27) rfl))) (notFace_of_selects (args := #[]) (mvT hZ (hw _ (List.mem_of_getElem? (i := 29) rfl)))) (mvT hZ (hw _ (List.mem_of_getElem? (i := 29) rfl))) (mvT hZ (hw _ (List.mem_of_getElem? (i := 28) rfl))) (by decide) (backOf (W := 0) (rm3_3 l Z a0 hw [] w4 T12.heap n0 Z12 f13) hZ (hw _ (List.mem_of_getElem? (i := 30) rfl)) (hw _ (List.mem_of_getElem? (i := 2) rfl)) (by decide) (by decide)) q14a q14c (g := (mkF m 45 #[.val (.int p1), .val (.int ((p1 &&& (2147483647 : Int32)) % (3 : Int32))), .val (.ref w4), .val (.ref w4)] [(.ref w4)])) rfl (by rw [hml]; rfl) (Steps.refl _) (argsL := []) (rest := []) (lenOf pd_2 rfl) rfl (by show 2 * 0 + _ ≤ _; exact Nat.le_of_eq rfl) (hb hby at_45) (fun _ _ => ⟨rfl, rfl, (by decide : 1 + 0 ≤ _), (by decide : 3 + 0 ≤ _)⟩)
  dsimp only [Pt.U, Pt.locs, Pt.cells, Pt.slots] at X14 l14 y14 z14 st14 hQ14
  subst l14 y14 z14
  obtain ⟨rfl, Nq14, e14⟩ := hQ14
  have N14 := Fr.app N12 Nq14
  obtain ⟨fs, hr, hrun, hended, hW, hsame⟩ := X14.leave (v := some (.int (1 : Int32))) (fun h => by rw [Bd.returns] at h; cases h)
  refine ⟨_, _, pre0 _ ?_, hrun, hended, _, _, rfl, ?_, ⟨_, rfl⟩, hW, hsame.mono (by decide) (by decide)⟩
  · show Steps p.tables e below (s₁.setTop (mkF m 0 #[.val (.int p1), .unset, .unset, .unset] [])) _
    refine XS.iloadN X0.here hx rfl (hb hby at_0) rfl ?_
    show Steps p.tables e below (s₁.setTop (mkF m 1 #[.val (.int p1), .unset, .unset, .unset] [(.int p1)])) _
    refine X0.ldcInt hx hown (mvT hZ (hw _ (List.mem_of_getElem? (i := 0) rfl))) (g := (mkF m 1 #[.val (.int p1), .unset, .unset, .unset] [(.int p1)])) rfl (hb hby at_1) _ ?_
    show Steps p.tables e below (s₁.setTop (mkF m 3 #[.val (.int p1), .unset, .unset, .unset] [(.int (2147483647 : Int32)), (.int p1)])) _
    refine XS.iand X0.here hx rfl (hb hby at_3) rfl ?_
    show Steps p.tables e below (s₁.setTop (mkF m 4 #[.val (.int p1), .unset, .unset, .unset] [(.int (p1 &&& (2147483647 : Int32)))])) _
    refine XS.iconst X0.here hx rfl (hb hby at_4) ?_
    show Steps p.tables e below (s₁.setTop (mkF m 5 #[.val (.int p1), .unset, .unset, .unset] [(.int (3 : Int32)), (.int (p1 &&& (2147483647 : Int32)))])) _
    refine iremM X0 hx rfl (hb hby at_5) rfl (by decide : ¬ ((3 : Int32) = (0 : Int32))) ?_
    show Steps p.tables e below (s₁.setTop (mkF m 6 #[.val (.int p1), .unset, .unset, .unset] [(.int ((p1 &&& (2147483647 : Int32)) % (3 : Int32)))])) _
    refine XS.istoreN X0.here hx rfl (hb hby at_6) rfl (l' := #[.val (.int p1), .val (.int ((p1 &&& (2147483647 : Int32)) % (3 : Int32))), .unset, .unset]) rfl ?_
    show Steps p.tables e below (s₁.setTop (mkF m 7 #[.val (.int p1), .val (.int ((p1 &&& (2147483647 : Int32)) % (3 : Int32))), .unset, .unset] [])) _
    refine XS.iloadN X0.here hx rfl (hb hby at_7) rfl ?_
    show Steps p.tables e below (s₁.setTop (mkF m 8 #[.val (.int p1), .val (.int ((p1 &&& (2147483647 : Int32)) % (3 : Int32))), .unset, .unset] [(.int ((p1 &&& (2147483647 : Int32)) % (3 : Int32)))])) _
    refine XS.ifYes X0.here hx rfl (pc0 := 8) (pc' := 18) rfl (hb hby at_8) rfl ((if0 _ _).trans (feq P2).2) (by decide) (by decide) ?_
    show Steps p.tables e below (s₁.setTop (mkF m 18 #[.val (.int p1), .val (.int ((p1 &&& (2147483647 : Int32)) % (3 : Int32))), .unset, .unset] [])) _
    refine XS.iloadN X0.here hx rfl (hb hby at_18) rfl ?_
    show Steps p.tables e below (s₁.setTop (mkF m 19 #[.val (.int p1), .val (.int ((p1 &&& (2147483647 : Int32)) % (3 : Int32))), .unset, .unset] [(.int ((p1 &&& (2147483647 : Int32)) % (3 : Int32)))])) _
    refine XS.iconst X0.here hx rfl (hb hby at_19) ?_
    show Steps p.tables e below (s₁.setTop (mkF m 20 #[.val (.int p1), .val (.int ((p1 &&& (2147483647 : Int32)) % (3 : Int32))), .unset, .unset] [(.int (1 : Int32)), (.int ((p1 &&& (2147483647 : Int32)) % (3 : Int32)))])) _
    refine XS.icmpYes X0.here hx rfl (pc0 := 20) (pc' := 30) rfl (hb hby at_20) rfl (feq P3).2 (by decide) (by decide) ?_
    show Steps p.tables e below (s₁.setTop (mkF m 30 #[.val (.int p1), .val (.int ((p1 &&& (2147483647 : Int32)) % (3 : Int32))), .unset, .unset] [])) _
    refine st5 _ ?_
    show Steps p.tables e below (T5.setTop (mkF m 33 #[.val (.int p1), .val (.int ((p1 &&& (2147483647 : Int32)) % (3 : Int32))), .unset, .unset] [(.ref w4)])) _
    refine XS.astoreN X5.here hx rfl (hb hby at_33) rfl rfl (l' := #[.val (.int p1), .val (.int ((p1 &&& (2147483647 : Int32)) % (3 : Int32))), .val (.ref w4), .unset]) rfl ?_
    show Steps p.tables e below (T5.setTop (mkF m 34 #[.val (.int p1), .val (.int ((p1 &&& (2147483647 : Int32)) % (3 : Int32))), .val (.ref w4), .unset] [])) _
    refine XS.iloadN X5.here hx rfl (hb hby at_34) rfl ?_
    show Steps p.tables e below (T5.setTop (mkF m 35 #[.val (.int p1), .val (.int ((p1 &&& (2147483647 : Int32)) % (3 : Int32))), .val (.ref w4), .unset] [(.int ((p1 &&& (2147483647 : Int32)) % (3 : Int32)))])) _
    refine st12 _ ?_
    show Steps p.tables e below (T12.setTop (mkF m 38 #[.val (.int p1), .val (.int ((p1 &&& (2147483647 : Int32)) % (3 : Int32))), .val (.ref w4), .unset] [(.ref w4)])) _
    refine XS.astoreN X12.here hx rfl (hb hby at_38) rfl rfl (l' := #[.val (.int p1), .val (.int ((p1 &&& (2147483647 : Int32)) % (3 : Int32))), .val (.ref w4), .val (.ref w4)]) rfl ?_
    show Steps p.tables e below (T12.setTop (mkF m 39 #[.val (.int p1), .val (.int ((p1 &&& (2147483647 : Int32)) % (3 : Int32))), .val (.ref w4), .val (.ref w4)] [])) _
    refine XS.aloadN X12.here hx rfl (hb hby at_39) rfl rfl ?_
    show Steps p.tables e below (T12.setTop (mkF m 40 #[.val (.int p1), .val (.int ((p1 &&& (2147483647 : Int32)) % (3 : Int32))), .val (.ref w4), .val (.ref w4)] [(.ref w4)])) _
    refine XS.aloadN X12.here hx rfl (hb hby at_40) rfl rfl ?_
    show Steps p.tables e below (T12.setTop (mkF m 41 #[.val (.int p1), .val (.int ((p1 &&& (2147483647 : Int32)) % (3 : Int32))), .val (.ref w4), .val (.ref w4)] [(.ref w4), (.ref w4)])) _
    refine Jvm.RoadKit.acmp (g := (mkF m 41 #[.val (.int p1), .val (.int ((p1 &&& (2147483647 : Int32)) % (3 : Int32))), .val (.ref w4), .val (.ref w4)] [(.ref w4), (.ref w4)])) X12 hx rfl rfl rfl (pc0 := 41) (pc' := 44) (same := true) rfl (hb hby at_41) rfl (decide_eq_true rfl) (by decide) (by decide) ?_
    show Steps p.tables e below (T12.setTop (mkF m 44 #[.val (.int p1), .val (.int ((p1 &&& (2147483647 : Int32)) % (3 : Int32))), .val (.ref w4), .val (.ref w4)] [])) _
    refine XS.aloadN X12.here hx rfl (hb hby at_44) rfl rfl ?_
    show Steps p.tables e below (T12.setTop (mkF m 45 #[.val (.int p1), .val (.int ((p1 &&& (2147483647 : Int32)) % (3 : Int32))), .val (.ref w4), .val (.ref w4)] [(.ref w4)])) _
    refine st14.trans ?_
    show Steps p.tables e below (T14.setTop (mkF m 48 #[.val (.int p1), .val (.int ((p1 &&& (2147483647 : Int32)) % (3 : Int32))), .val (.ref w4), .val (.ref w4)] [(.int (2 : Int32))])) _
    refine XS.iloadN X14.here hx rfl (hb hby at_48) rfl ?_
    show Steps p.tables e below (T14.setTop (mkF m 49 #[.val (.int p1), .val (.int ((p1 &&& (2147483647 : Int32)) % (3 : Int32))), .val (.ref w4), .val (.ref w4)] [(.int ((p1 &&& (2147483647 : Int32)) % (3 : Int32))), (.int (2 : Int32))])) _
    refine XS.icmpNo X14.here hx rfl (hb hby at_49) rfl (teq P11).2 ?_
    show Steps p.tables e below (T14.setTop (mkF m 52 #[.val (.int p1), .val (.int ((p1 &&& (2147483647 : Int32)) % (3 : Int32))), .val (.ref w4), .val (.ref w4)] [])) _
    refine XS.iconst X14.here hx rfl (hb hby at_52) ?_
    show Steps p.tables e below (T14.setTop (mkF m 53 #[.val (.int p1), .val (.int ((p1 &&& (2147483647 : Int32)) % (3 : Int32))), .val (.ref w4), .val (.ref w4)] [(.int (1 : Int32))])) _
    refine XS.goto X14.here hx rfl (pc0 := 53) (pc' := 57) rfl (hb hby at_53) (by decide) (by decide) ?_
    show Steps p.tables e below (T14.setTop (mkF m 57 #[.val (.int p1), .val (.int ((p1 &&& (2147483647 : Int32)) % (3 : Int32))), .val (.ref w4), .val (.ref w4)] [(.int (1 : Int32))])) _
    exact retN X14 hx (t := .boolean) Bd.returns (by simp) (hb hby at_57) hr
  · exact ⟨rfl, N14⟩
theorem own_dead_1 (i0 : Int32) (hc1 : ((i0 &&& (2147483647 : Int32)) % (3 : Int32)) = (0 : Int32)) (hc2 : ¬ ((0 : Int32) = ((i0 &&& (2147483647 : Int32)) % (3 : Int32)))) : False := by
  have q1 := rng32 i0
  have q2 : (i0 &&& (2147483647 : Int32)).toInt = i0.toInt % 2147483648 := Jvm.Kit.i32_mask i0 (2147483647 : Int32) (k := 31) (by decide) (by decide)
  have q3 := rng32 (i0 &&& (2147483647 : Int32))
  have q4 : (3 : Int32).toInt = 3 := rfl
  have q5 : ((i0 &&& (2147483647 : Int32)) % (3 : Int32)).toInt = (i0 &&& (2147483647 : Int32)).toInt % 3 := Jvm.Kit.i32_rem_nonneg (y := (3 : Int32)) (by omega)
  have q6 := rng32 ((i0 &&& (2147483647 : Int32)) % (3 : Int32))
  have q7 : (0 : Int32).toInt = 0 := rfl
  have q8 := congrArg Int32.toInt hc1
  have q9 := mt (fun z : ((0 : Int32)).toInt = (((i0 &&& (2147483647 : Int32)) % (3 : Int32))).toInt => Int32.toInt_inj.mp z) hc2
  omega
theorem own_dead_2 (i0 : Int32) (hc1 : ¬ (((i0 &&& (2147483647 : Int32)) % (3 : Int32)) = (0 : Int32))) (hc3 : ((i0 &&& (2147483647 : Int32)) % (3 : Int32)) = (1 : Int32)) (hc4 : (0 : Int32) = ((i0 &&& (2147483647 : Int32)) % (3 : Int32))) : False := by
  have q1 := rng32 i0
  have q2 : (i0 &&& (2147483647 : Int32)).toInt = i0.toInt % 2147483648 := Jvm.Kit.i32_mask i0 (2147483647 : Int32) (k := 31) (by decide) (by decide)
  have q3 := rng32 (i0 &&& (2147483647 : Int32))
  have q4 : (3 : Int32).toInt = 3 := rfl
  have q5 : ((i0 &&& (2147483647 : Int32)) % (3 : Int32)).toInt = (i0 &&& (2147483647 : Int32)).toInt % 3 := Jvm.Kit.i32_rem_nonneg (y := (3 : Int32)) (by omega)
  have q6 := rng32 ((i0 &&& (2147483647 : Int32)) % (3 : Int32))
  have q7 : (0 : Int32).toInt = 0 := rfl
  have q8 := mt (fun z : (((i0 &&& (2147483647 : Int32)) % (3 : Int32))).toInt = ((0 : Int32)).toInt => Int32.toInt_inj.mp z) hc1
  have q9 : (1 : Int32).toInt = 1 := rfl
  have q10 := congrArg Int32.toInt hc3
  have q11 := congrArg Int32.toInt hc4
  omega
theorem own_dead_3 (i0 : Int32) (hc1 : ¬ (((i0 &&& (2147483647 : Int32)) % (3 : Int32)) = (0 : Int32))) (hc3 : ((i0 &&& (2147483647 : Int32)) % (3 : Int32)) = (1 : Int32)) (hc4 : ¬ ((0 : Int32) = ((i0 &&& (2147483647 : Int32)) % (3 : Int32)))) (hc5 : ¬ ((1 : Int32) = ((i0 &&& (2147483647 : Int32)) % (3 : Int32)))) : False := by
  have q1 := rng32 i0
  have q2 : (i0 &&& (2147483647 : Int32)).toInt = i0.toInt % 2147483648 := Jvm.Kit.i32_mask i0 (2147483647 : Int32) (k := 31) (by decide) (by decide)
  have q3 := rng32 (i0 &&& (2147483647 : Int32))
  have q4 : (3 : Int32).toInt = 3 := rfl
  have q5 : ((i0 &&& (2147483647 : Int32)) % (3 : Int32)).toInt = (i0 &&& (2147483647 : Int32)).toInt % 3 := Jvm.Kit.i32_rem_nonneg (y := (3 : Int32)) (by omega)
  have q6 := rng32 ((i0 &&& (2147483647 : Int32)) % (3 : Int32))
  have q7 : (0 : Int32).toInt = 0 := rfl
  have q8 := mt (fun z : (((i0 &&& (2147483647 : Int32)) % (3 : Int32))).toInt = ((0 : Int32)).toInt => Int32.toInt_inj.mp z) hc1
  have q9 : (1 : Int32).toInt = 1 := rfl
  have q10 := congrArg Int32.toInt hc3
  have q11 := mt (fun z : ((0 : Int32)).toInt = (((i0 &&& (2147483647 : Int32)) % (3 : Int32))).toInt => Int32.toInt_inj.mp z) hc4
  have q12 := mt (fun z : ((1 : Int32)).toInt = (((i0 &&& (2147483647 : Int32)) % (3 : Int32))).toInt => Int32.toInt_inj.mp z) hc5
  omega
theorem own_dead_4 (i0 : Int32) (hc1 : ¬ (((i0 &&& (2147483647 : Int32)) % (3 : Int32)) = (0 : Int32))) (hc3 : ¬ (((i0 &&& (2147483647 : Int32)) % (3 : Int32)) = (1 : Int32))) (hc6 : (0 : Int32) = ((i0 &&& (2147483647 : Int32)) % (3 : Int32))) : False := by
  have q1 := rng32 i0
  have q2 : (i0 &&& (2147483647 : Int32)).toInt = i0.toInt % 2147483648 := Jvm.Kit.i32_mask i0 (2147483647 : Int32) (k := 31) (by decide) (by decide)
  have q3 := rng32 (i0 &&& (2147483647 : Int32))
  have q4 : (3 : Int32).toInt = 3 := rfl
  have q5 : ((i0 &&& (2147483647 : Int32)) % (3 : Int32)).toInt = (i0 &&& (2147483647 : Int32)).toInt % 3 := Jvm.Kit.i32_rem_nonneg (y := (3 : Int32)) (by omega)
  have q6 := rng32 ((i0 &&& (2147483647 : Int32)) % (3 : Int32))
  have q7 : (0 : Int32).toInt = 0 := rfl
  have q8 := mt (fun z : (((i0 &&& (2147483647 : Int32)) % (3 : Int32))).toInt = ((0 : Int32)).toInt => Int32.toInt_inj.mp z) hc1
  have q9 : (1 : Int32).toInt = 1 := rfl
  have q10 := mt (fun z : (((i0 &&& (2147483647 : Int32)) % (3 : Int32))).toInt = ((1 : Int32)).toInt => Int32.toInt_inj.mp z) hc3
  have q11 := congrArg Int32.toInt hc6
  omega
theorem own_dead_5 (i0 : Int32) (hc1 : ¬ (((i0 &&& (2147483647 : Int32)) % (3 : Int32)) = (0 : Int32))) (hc3 : ¬ (((i0 &&& (2147483647 : Int32)) % (3 : Int32)) = (1 : Int32))) (hc6 : ¬ ((0 : Int32) = ((i0 &&& (2147483647 : Int32)) % (3 : Int32)))) (hc7 : (1 : Int32) = ((i0 &&& (2147483647 : Int32)) % (3 : Int32))) : False := by
  have q1 := rng32 i0
  have q2 : (i0 &&& (2147483647 : Int32)).toInt = i0.toInt % 2147483648 := Jvm.Kit.i32_mask i0 (2147483647 : Int32) (k := 31) (by decide) (by decide)
  have q3 := rng32 (i0 &&& (2147483647 : Int32))
  have q4 : (3 : Int32).toInt = 3 := rfl
  have q5 : ((i0 &&& (2147483647 : Int32)) % (3 : Int32)).toInt = (i0 &&& (2147483647 : Int32)).toInt % 3 := Jvm.Kit.i32_rem_nonneg (y := (3 : Int32)) (by omega)
  have q6 := rng32 ((i0 &&& (2147483647 : Int32)) % (3 : Int32))
  have q7 : (0 : Int32).toInt = 0 := rfl
  have q8 := mt (fun z : (((i0 &&& (2147483647 : Int32)) % (3 : Int32))).toInt = ((0 : Int32)).toInt => Int32.toInt_inj.mp z) hc1
  have q9 : (1 : Int32).toInt = 1 := rfl
  have q10 := mt (fun z : (((i0 &&& (2147483647 : Int32)) % (3 : Int32))).toInt = ((1 : Int32)).toInt => Int32.toInt_inj.mp z) hc3
  have q11 := mt (fun z : ((0 : Int32)).toInt = (((i0 &&& (2147483647 : Int32)) % (3 : Int32))).toInt => Int32.toInt_inj.mp z) hc6
  have q12 := congrArg Int32.toInt hc7
  omega
theorem own_dead_6 (i0 : Int32) (hc1 : ¬ (((i0 &&& (2147483647 : Int32)) % (3 : Int32)) = (0 : Int32))) (hc3 : ¬ (((i0 &&& (2147483647 : Int32)) % (3 : Int32)) = (1 : Int32))) (hc6 : ¬ ((0 : Int32) = ((i0 &&& (2147483647 : Int32)) % (3 : Int32)))) (hc7 : ¬ ((1 : Int32) = ((i0 &&& (2147483647 : Int32)) % (3 : Int32)))) (hc8 : ¬ ((2 : Int32) = ((i0 &&& (2147483647 : Int32)) % (3 : Int32)))) : False := by
  have q1 := rng32 i0
  have q2 : (i0 &&& (2147483647 : Int32)).toInt = i0.toInt % 2147483648 := Jvm.Kit.i32_mask i0 (2147483647 : Int32) (k := 31) (by decide) (by decide)
  have q3 := rng32 (i0 &&& (2147483647 : Int32))
  have q4 : (3 : Int32).toInt = 3 := rfl
  have q5 : ((i0 &&& (2147483647 : Int32)) % (3 : Int32)).toInt = (i0 &&& (2147483647 : Int32)).toInt % 3 := Jvm.Kit.i32_rem_nonneg (y := (3 : Int32)) (by omega)
  have q6 := rng32 ((i0 &&& (2147483647 : Int32)) % (3 : Int32))
  have q7 : (0 : Int32).toInt = 0 := rfl
  have q8 := mt (fun z : (((i0 &&& (2147483647 : Int32)) % (3 : Int32))).toInt = ((0 : Int32)).toInt => Int32.toInt_inj.mp z) hc1
  have q9 : (1 : Int32).toInt = 1 := rfl
  have q10 := mt (fun z : (((i0 &&& (2147483647 : Int32)) % (3 : Int32))).toInt = ((1 : Int32)).toInt => Int32.toInt_inj.mp z) hc3
  have q11 := mt (fun z : ((0 : Int32)).toInt = (((i0 &&& (2147483647 : Int32)) % (3 : Int32))).toInt => Int32.toInt_inj.mp z) hc6
  have q12 := mt (fun z : ((1 : Int32)).toInt = (((i0 &&& (2147483647 : Int32)) % (3 : Int32))).toInt => Int32.toInt_inj.mp z) hc7
  have q13 : (2 : Int32).toInt = 2 := rfl
  have q14 := mt (fun z : ((2 : Int32)).toInt = (((i0 &&& (2147483647 : Int32)) % (3 : Int32))).toInt => Int32.toInt_inj.mp z) hc8
  omega
set_option maxRecDepth 65536 in
set_option maxHeartbeats 40000000 in
theorem comes_1 {Post : Tables → Env → Array Value → State → Outcome → State → Prop} (hpost : ∀ tb e args s v u, (limb_1_1.after args s (.returned v) u = true ∧ limb_1_2.after args s (.returned v) u = true ∧ True) → FrameEnd s (.returned v) u (Jvm.fieldLocs frame_1_writes args s ++ Jvm.arrayLocs frame_1_arrays args s ++ Jvm.staticLocs frame_1_statics s) 16 128 → Post tb e args s (.returned v) u) :
    ArmFor flags0 classFile x code maxLocals ret World_1 tables_1 room_1 Calls_1 rest_1 Pre_1 Post := by
  intro l hfl _ _ p e ha hc hk s m args below hf hA hF happ hP
  obtain ⟨hcalls, hrest, hpre⟩ := hP
  obtain ⟨-, -, -, hnamed, -, -, -, hat⟩ := (Spec.applies_iff hf).mp happ
  obtain ⟨hg, hn⟩ := and_e (Cond.before_iff.mp (show (Jvm.Cond.and given_1 narrow_1).before args s = true from hpre))
  obtain ⟨g0, gr0⟩ := and_e hg
  obtain ⟨w0, rfl⟩ : ∃ w0 : Value, args = #[w0] := by
    have hs : args.size = 1 := by simpa [Cond.value, given_1] using g0
    obtain ⟨L⟩ := args
    match L, hs with
    | [w0], _ => exact ⟨w0, rfl⟩
  have hw := fun d (hd : d ∈ tables_1) => atoms_spec (ws := Jvm.Cond.code x code maxLocals ret :: tables_1) hat d (List.mem_cons_of_mem _ hd)
  have hfit : Fit s := fun {y c} hc i hi => by
    obtain ⟨ha, rfl⟩ := Array.getElem?_eq_some_iff.mp hc
    have q := List.all_eq_true.mp ((Array.all_eq_true_iff_forall_mem.mp hF) _ (Array.getElem_mem ha)) i (List.mem_range.mpr hi)
    simpa [Array.getElem?_eq_getElem hi] using q
  obtain ⟨i0, ei0⟩ := is_v gr0
  obtain rfl : w0 = (.int i0) := Option.some.inj ei0
  obtain ⟨c0, cr0⟩ := and_e hn
  obtain ⟨c1, cr1⟩ := and_e cr0
  obtain ⟨c2, cr2⟩ := and_e cr1
  obtain ⟨c3, cr3⟩ := and_e cr2
  obtain ⟨c4, cr4⟩ := and_e cr3
  obtain ⟨c5, cr5⟩ := and_e cr4
  obtain ⟨c6, cr6⟩ := and_e cr5
  obtain ⟨c7, cr7⟩ := and_e cr6
  obtain ⟨c8, cr8⟩ := and_e cr7
  obtain ⟨c9, cr9⟩ := and_e cr8
  obtain ⟨c10, cr10⟩ := and_e cr9
  obtain ⟨x_USER_0, ev_USER_0⟩ := exa_v c0
  have S_USER_0 := Sta.start ev_USER_0 (Or.inr ⟨(hw _ (List.mem_of_getElem? (i := 2) rfl)), (hw _ (List.mem_of_getElem? (i := 3) rfl))⟩)
  have E_USER_0 := Exa.start ev_USER_0 c0
  obtain ⟨x__VALUES_1, ev__VALUES_1⟩ := exa_v c2
  have S__VALUES_1 := Sta.start ev__VALUES_1 (Or.inl (hw _ (List.mem_of_getElem? (i := 21) rfl)))
  have E__VALUES_1 := Exa.start ev__VALUES_1 c2
  obtain ⟨x_ROOT_ADMIN_2, ev_ROOT_ADMIN_2⟩ := exa_v c5
  have S_ROOT_ADMIN_2 := Sta.start ev_ROOT_ADMIN_2 (Or.inr ⟨(hw _ (List.mem_of_getElem? (i := 2) rfl)), (hw _ (List.mem_of_getElem? (i := 19) rfl))⟩)
  have E_ROOT_ADMIN_2 := Exa.start ev_ROOT_ADMIN_2 c5
  obtain ⟨x_DOMAIN_ADMIN_3, ev_DOMAIN_ADMIN_3⟩ := exa_v c7
  have S_DOMAIN_ADMIN_3 := Sta.start ev_DOMAIN_ADMIN_3 (Or.inr ⟨(hw _ (List.mem_of_getElem? (i := 2) rfl)), (hw _ (List.mem_of_getElem? (i := 20) rfl))⟩)
  have E_DOMAIN_ADMIN_3 := Exa.start ev_DOMAIN_ADMIN_3 c7
  have F_USER_0_code := own_fld_int ev_USER_0 c9
  have F_ROOT_ADMIN_2_code := own_fld_int ev_ROOT_ADMIN_2 c10
  have F_DOMAIN_ADMIN_3_code := own_fld_int ev_DOMAIN_ADMIN_3 cr10
  obtain ⟨ca__VALUES_1, Aa__VALUES_1⟩ := Arr.start ev__VALUES_1 c1
  obtain ⟨la__VALUES_1, lb__VALUES_1⟩ := own_len Aa__VALUES_1 ev__VALUES_1 c3
  have el__VALUES_1_0 := own_elem_ref Aa__VALUES_1 ev__VALUES_1 ev_USER_0 c4 0 rfl
  have el__VALUES_1_1 := own_elem_ref Aa__VALUES_1 ev__VALUES_1 ev_ROOT_ADMIN_2 c6 1 rfl
  have el__VALUES_1_2 := own_elem_ref Aa__VALUES_1 ev__VALUES_1 ev_DOMAIN_ADMIN_3 c8 2 rfl
  have V__VALUES_1 : Arv s s.heap x__VALUES_1 ca__VALUES_1.cls (.object "com/example/eneo/eneo/model/AccountType") (3 : Int32) [(.ref x_USER_0), (.ref x_ROOT_ADMIN_2), (.ref x_DOMAIN_ADMIN_3)] .null := Arv.start hfit Aa__VALUES_1 la__VALUES_1 lb__VALUES_1 (by decide) rfl ⟨el__VALUES_1_0, el__VALUES_1_1, el__VALUES_1_2, trivial⟩
  have hM : MetFree l x (head1 (Jvm.Cond.code x code maxLocals ret :: tables_1) room_1) (fun a U => a = #[(.int i0)] ∧ s.Warmed39 U.vm ∧ U.heap = s.heap) (fun _ _ _ _ _ => True) (fun _ U o U' => ∃ v L, o = .returned v ∧ own_QT s.heap.size v L ∧ FrameEnd U o U' L room_1.cells room_1.slots) := by
    by_cases hc1 : ((i0 &&& (2147483647 : Int32)) % (3 : Int32)) = (0 : Int32)
    · by_cases hc2 : (0 : Int32) = ((i0 &&& (2147483647 : Int32)) % (3 : Int32))
      · exact rm0_1 l s _ hw tables_1 i0 x_USER_0 x__VALUES_1 ca__VALUES_1.cls x_ROOT_ADMIN_2 x_DOMAIN_ADMIN_3 s.heap s.heap.size (Nat.le_refl _) hc1 S_USER_0 F_USER_0_code V__VALUES_1 S__VALUES_1 E__VALUES_1 hc2 E_USER_0
      · exact (own_dead_1 i0 hc1 hc2).elim
    · by_cases hc3 : ((i0 &&& (2147483647 : Int32)) % (3 : Int32)) = (1 : Int32)
      · by_cases hc4 : (0 : Int32) = ((i0 &&& (2147483647 : Int32)) % (3 : Int32))
        · exact (own_dead_2 i0 hc1 hc3 hc4).elim
        · by_cases hc5 : (1 : Int32) = ((i0 &&& (2147483647 : Int32)) % (3 : Int32))
          · exact rm0_2 l s _ hw tables_1 i0 x_ROOT_ADMIN_2 x_USER_0 x__VALUES_1 ca__VALUES_1.cls x_DOMAIN_ADMIN_3 s.heap s.heap.size (Nat.le_refl _) hc1 hc3 S_ROOT_ADMIN_2 F_USER_0_code F_ROOT_ADMIN_2_code V__VALUES_1 S__VALUES_1 E__VALUES_1 hc4 hc5 E_ROOT_ADMIN_2
          · exact (own_dead_3 i0 hc1 hc3 hc4 hc5).elim
      · by_cases hc6 : (0 : Int32) = ((i0 &&& (2147483647 : Int32)) % (3 : Int32))
        · exact (own_dead_4 i0 hc1 hc3 hc6).elim
        · by_cases hc7 : (1 : Int32) = ((i0 &&& (2147483647 : Int32)) % (3 : Int32))
          · exact (own_dead_5 i0 hc1 hc3 hc6 hc7).elim
          · by_cases hc8 : (2 : Int32) = ((i0 &&& (2147483647 : Int32)) % (3 : Int32))
            · exact rm0_3 l s _ hw tables_1 i0 x_DOMAIN_ADMIN_3 x_USER_0 x_ROOT_ADMIN_2 x__VALUES_1 ca__VALUES_1.cls s.heap s.heap.size (Nat.le_refl _) hc1 hc3 S_DOMAIN_ADMIN_3 F_USER_0_code F_ROOT_ADMIN_2_code F_DOMAIN_ADMIN_3_code V__VALUES_1 S__VALUES_1 E__VALUES_1 hc6 hc7 hc8 E_DOMAIN_ADMIN_3
            · exact (own_dead_6 i0 hc1 hc3 hc6 hc7 hc8).elim
  obtain ⟨n, o, h1, h2, h3, _, L, rfl, ⟨rfl, N⟩, hq⟩ := hM p e ha hc hk s m _ below hf ((Spec.applies_iff_loose hf).mp happ).1 ⟨rfl, State.Warmed39.refl s, rfl⟩ trivial
  refine ⟨n, _, h1, h2, h3, hpost _ _ _ _ _ _ ⟨Cond.after_iff.mpr rfl, Cond.after_iff.mpr (eq_i res_at (Term.int_eval (1)) rfl), trivial⟩ ⟨hq.1, hq.2.1, (hq.2.2.sift fun y hy => Or.inr (N y hy)).mono (by decide) (by decide)⟩⟩
theorem main_1_1 : Claimed_1_1 := comes_1 fun _ _ _ _ _ _ h hF => ⟨h.1, hF⟩
theorem main_1_2 : Claimed_1_2 := comes_1 fun _ _ _ _ _ _ h hF => ⟨h.2.1, hF⟩
end Jvm.Pilot.@@N@@
namespace Jvm.Pilot.@@N@@
open Jvm Jvm.ClassFile Sem Op Lib Jvm.Free Jvm.Stand Jvm.Pilot.@@N@@.Jvm.D
/-! MADE BY PROGRAM (witnessworld.py) out of the Statement's table words and the real class files: 13 classes; the members and pool entries that the words name. The judged class is class 1, her method 1. -/
namespace start1
open Jvm.ClassFile
def u (s : String) : CpInfo := .utf8 (stringToUtf16 s)
/-- a pool by its gaps: so many unusable entries, then the entry; so many at the end -/
def gap : Nat → List CpInfo → List CpInfo
  | 0, r => r
  | n + 1, r => .unusable :: gap n r
def poolList (es : List (Nat × CpInfo)) (last : Nat) : List CpInfo := es.foldr (fun e r => gap e.1 (e.2 :: r)) (gap last [])
def pool (es : List (Nat × CpInfo)) (last : Nat) : Array CpInfo := ⟨poolList es last⟩
def fileOf (pool : Array CpInfo) (this : Nat) (attrs : Array Attribute := #[]) (ms : Array MethodInfo := #[]) (fl : Nat := 33) (sup : Nat := 0) (ifs : Array Nat := #[]) (fds : Array FieldInfo := #[]) : ClassFile where
  minorVersion := 0
  majorVersion := 65
  constantPool := pool
  accessFlags := fl
  thisClass := this
  superClass := sup
  interfaces := ifs
  fields := fds
  methods := ms
  attributes := attrs
def plain (name : String) (sup : Option ClassId) : Class where
  name := name
  kind := .ordinary
  loader := none
  accessFlags := 33
  super := sup
  interfaces := #[]
  cf := none
  fields := #[]
  methods := #[]
  instanceTypes := #[]
  staticTypes := #[]
  resolved := #[]
  callSites := []
  init := .initialized
  statics := none
  mirror := none

def pool0 : Array CpInfo := pool [(5, u "<init>"), (0, u "()V"), (1, .class_ 10), (1, u "java/lang/Object"), (85, u "clone"), (0, u "()Ljava/lang/Object;")] 26

def k0m0 : Method := { name := "<init>", desc := "()V", sig := { parameters := [], returnType := none }, accessFlags := 1, code := none }
def k0m1 : Method := { name := "clone", desc := "()Ljava/lang/Object;", sig := { parameters := [], returnType := some (.object "java/lang/Object") }, accessFlags := 260, code := none }
/-- java/lang/Object -/
def k0 : Class := { plain "java/lang/Object" none with
  accessFlags := 33
  interfaces := #[]
  cf := some (fileOf pool0 8 #[] #[{ accessFlags := 1, nameIndex := 5, descriptorIndex := 6, attributes := #[] }, { accessFlags := 260, nameIndex := 96, descriptorIndex := 97, attributes := #[] }] 33 0 #[] #[])
  fields := #[]
  methods := #[k0m0, k0m1]
  instanceTypes := #[]
  staticTypes := #[]
  resolved := Array.replicate 124 none
  statics := none }

def pool1 : Array CpInfo := pool [(2, .class_ 4), (1, u "java/lang/Object"), (0, u "<init>"), (0, u "()V"), (0, .integer 2147483647), (0, .fieldref 9 10), (0, .class_ 11), (0, .nameAndType 12 13), (0, u "com/example/eneo/eneo/model/AccountType"), (0, u "USER"), (0, u "Lcom/example/eneo/eneo/model/AccountType;"), (0, .fieldref 9 15), (0, .nameAndType 16 13), (0, u "ROOT_ADMIN"), (0, .fieldref 9 18), (0, .nameAndType 19 13), (0, u "DOMAIN_ADMIN"), (0, .methodref 9 21), (0, .nameAndType 22 23), (0, u "ofCode"), (0, u "(I)Lcom/example/eneo/eneo/model/AccountType;"), (0, .methodref 9 25), (0, .nameAndType 26 27), (0, u "code"), (0, u "()I"), (0, .class_ 29), (0, u "com/example/eneo/eneo/model/AccountTypeOfCodePinLaw"), (2, u "law"), (0, u "(I)Z")] 3

def k1m0 : Method := { name := "<init>", desc := "()V", sig := { parameters := [], returnType := none }, accessFlags := 1, code := none }
def k1c1 : Code := { maxStack := 2, maxLocals := 4, code := code, exceptionTable := #[], attributes := #[] }
def k1m1 : Method := { name := "law", desc := "(I)Z", sig := { parameters := [.int], returnType := some .boolean }, accessFlags := 9, code := some k1c1 }
/-- com/example/eneo/eneo/model/AccountTypeOfCodePinLaw -/
def k1 : Class := { plain "com/example/eneo/eneo/model/AccountTypeOfCodePinLaw" (some 0) with
  accessFlags := 49
  interfaces := #[]
  cf := some (fileOf pool1 28 #[] #[{ accessFlags := 1, nameIndex := 5, descriptorIndex := 6, attributes := #[] }, { accessFlags := 9, nameIndex := 32, descriptorIndex := 33, attributes := #[] }] 49 2 #[] #[])
  fields := #[]
  methods := #[k1m0, k1m1]
  instanceTypes := #[]
  staticTypes := #[]
  resolved := Array.replicate 37 none
  statics := none }

def pool2 : Array CpInfo := pool [(1, .class_ 2), (0, u "java/lang/constant/Constable"), (0, .class_ 4), (0, u "java/lang/Object")] 6

/-- java/lang/constant/Constable -/
def k2 : Class := { plain "java/lang/constant/Constable" (some 0) with
  accessFlags := 1537
  interfaces := #[]
  cf := some (fileOf pool2 1 #[] #[] 1537 3 #[] #[])
  fields := #[]
  methods := #[]
  instanceTypes := #[]
  staticTypes := #[]
  resolved := Array.replicate 11 none
  statics := none }

def pool3 : Array CpInfo := pool [(1, .class_ 2), (0, u "java/lang/Comparable"), (0, .class_ 4), (0, u "java/lang/Object")] 7

/-- java/lang/Comparable -/
def k3 : Class := { plain "java/lang/Comparable" (some 0) with
  accessFlags := 1537
  interfaces := #[]
  cf := some (fileOf pool3 1 #[] #[] 1537 3 #[] #[])
  fields := #[]
  methods := #[]
  instanceTypes := #[]
  staticTypes := #[]
  resolved := Array.replicate 12 none
  statics := none }

def pool4 : Array CpInfo := pool [(1, .class_ 2), (0, u "java/io/Serializable"), (0, .class_ 4), (0, u "java/lang/Object")] 2

/-- java/io/Serializable -/
def k4 : Class := { plain "java/io/Serializable" (some 0) with
  accessFlags := 1537
  interfaces := #[]
  cf := some (fileOf pool4 1 #[] #[] 1537 3 #[] #[])
  fields := #[]
  methods := #[]
  instanceTypes := #[]
  staticTypes := #[]
  resolved := Array.replicate 7 none
  statics := none }

def pool5 : Array CpInfo := pool [(2, .class_ 4), (1, u "java/lang/Enum"), (0, u "name"), (0, u "Ljava/lang/String;"), (2, u "ordinal"), (0, u "I"), (1, .class_ 14), (1, u "java/lang/Object"), (4, u "hash"), (86, .class_ 108), (1, u "java/lang/Enum$EnumDesc"), (2, .class_ 112), (0, u "java/lang/constant/Constable"), (0, .class_ 114), (0, u "java/lang/Comparable"), (0, .class_ 116), (0, u "java/io/Serializable")] 87

/-- java/lang/Enum -/
def k5 : Class := { plain "java/lang/Enum" (some 0) with
  accessFlags := 1057
  interfaces := #[2, 3, 4]
  cf := some (fileOf pool5 2 #[.nestMembers #[106]] #[] 1057 12 #[111, 113, 115] #[{ accessFlags := 18, nameIndex := 5, descriptorIndex := 6, attributes := #[] }, { accessFlags := 18, nameIndex := 9, descriptorIndex := 10, attributes := #[] }, { accessFlags := 2, nameIndex := 19, descriptorIndex := 10, attributes := #[] }])
  fields := #[{ name := "name", type := (.object "java/lang/String"), accessFlags := 18, slot := 0, constantValue := 0 }, { name := "ordinal", type := .int, accessFlags := 18, slot := 1, constantValue := 0 }, { name := "hash", type := .int, accessFlags := 2, slot := 2, constantValue := 0 }]
  methods := #[]
  instanceTypes := #[(.object "java/lang/String"), .int, .int]
  staticTypes := #[]
  resolved := Array.replicate 204 none
  statics := none }

def pool6 : Array CpInfo := pool [(1, .class_ 2), (0, u "com/example/eneo/eneo/model/AccountType"), (2, u "USER"), (0, u "Lcom/example/eneo/eneo/model/AccountType;"), (2, u "ROOT_ADMIN"), (2, u "DOMAIN_ADMIN"), (0, .fieldref 1 14), (0, .nameAndType 15 16), (0, u "$VALUES"), (0, u "[Lcom/example/eneo/eneo/model/AccountType;"), (0, .methodref 18 19), (0, .class_ 16), (0, .nameAndType 20 21), (0, u "clone"), (0, u "()Ljava/lang/Object;"), (1, .class_ 25), (1, u "java/lang/Enum"), (6, .fieldref 1 33), (0, .nameAndType 34 35), (0, u "code"), (0, u "I"), (0, .methodref 1 37), (0, .nameAndType 38 39), (0, u "values"), (0, u "()[Lcom/example/eneo/eneo/model/AccountType;"), (24, u "()I"), (0, u "ofCode"), (0, u "(I)Lcom/example/eneo/eneo/model/AccountType;")] 21

def k6c0 : Code := { maxStack := 1, maxLocals := 0, code := prog_30_method_1_code, exceptionTable := #[], attributes := #[] }
def k6m0 : Method := { name := "values", desc := "()[Lcom/example/eneo/eneo/model/AccountType;", sig := { parameters := [], returnType := some (.array (.object "com/example/eneo/eneo/model/AccountType")) }, accessFlags := 9, code := some k6c0 }
def k6c1 : Code := { maxStack := 1, maxLocals := 1, code := prog_30_method_4_code, exceptionTable := #[], attributes := #[] }
def k6m1 : Method := { name := "code", desc := "()I", sig := { parameters := [], returnType := some .int }, accessFlags := 1, code := some k6c1 }
def k6c2 : Code := { maxStack := 3, maxLocals := 5, code := prog_30_method_5_code, exceptionTable := #[], attributes := #[] }
def k6m2 : Method := { name := "ofCode", desc := "(I)Lcom/example/eneo/eneo/model/AccountType;", sig := { parameters := [.int], returnType := some (.object "com/example/eneo/eneo/model/AccountType") }, accessFlags := 9, code := some k6c2 }
/-- com/example/eneo/eneo/model/AccountType -/
def k6 : Class := { plain "com/example/eneo/eneo/model/AccountType" (some 5) with
  accessFlags := 16433
  interfaces := #[]
  cf := some (fileOf pool6 1 #[] #[{ accessFlags := 9, nameIndex := 38, descriptorIndex := 39, attributes := #[] }, { accessFlags := 1, nameIndex := 34, descriptorIndex := 64, attributes := #[] }, { accessFlags := 9, nameIndex := 65, descriptorIndex := 66, attributes := #[] }] 16433 23 #[] #[{ accessFlags := 16409, nameIndex := 5, descriptorIndex := 6, attributes := #[] }, { accessFlags := 16409, nameIndex := 9, descriptorIndex := 6, attributes := #[] }, { accessFlags := 16409, nameIndex := 12, descriptorIndex := 6, attributes := #[] }, { accessFlags := 18, nameIndex := 34, descriptorIndex := 35, attributes := #[] }, { accessFlags := 4122, nameIndex := 15, descriptorIndex := 16, attributes := #[] }])
  fields := #[{ name := "USER", type := (.object "com/example/eneo/eneo/model/AccountType"), accessFlags := 16409, slot := 0, constantValue := 0 }, { name := "ROOT_ADMIN", type := (.object "com/example/eneo/eneo/model/AccountType"), accessFlags := 16409, slot := 1, constantValue := 0 }, { name := "DOMAIN_ADMIN", type := (.object "com/example/eneo/eneo/model/AccountType"), accessFlags := 16409, slot := 2, constantValue := 0 }, { name := "code", type := .int, accessFlags := 18, slot := 3, constantValue := 0 }, { name := "$VALUES", type := (.array (.object "com/example/eneo/eneo/model/AccountType")), accessFlags := 4122, slot := 3, constantValue := 0 }]
  methods := #[k6m0, k6m1, k6m2]
  instanceTypes := #[(.object "java/lang/String"), .int, .int, .int]
  staticTypes := #[(.object "com/example/eneo/eneo/model/AccountType"), (.object "com/example/eneo/eneo/model/AccountType"), (.object "com/example/eneo/eneo/model/AccountType"), (.array (.object "com/example/eneo/eneo/model/AccountType"))]
  resolved := Array.replicate 88 none
  statics := some 0 }

def pool7 : Array CpInfo := pool [(1, .class_ 2), (0, u "java/lang/Cloneable"), (0, .class_ 4), (0, u "java/lang/Object")] 2

/-- java/lang/Cloneable -/
def k7 : Class := { plain "java/lang/Cloneable" (some 0) with
  accessFlags := 1537
  interfaces := #[]
  cf := some (fileOf pool7 1 #[] #[] 1537 3 #[] #[])
  fields := #[]
  methods := #[]
  instanceTypes := #[]
  staticTypes := #[]
  resolved := Array.replicate 7 none
  statics := none }

/-- the primitive byte -/
def k8 : Class := { plain "byte" none with kind := .primitive 'B', accessFlags := 0x411 }
/-- [B -/
def k9 : Class := { plain "[B" (some 0) with kind := .array 8 .byte, interfaces := #[7, 4], accessFlags := 1041 }

/-- the primitive int -/
def k10 : Class := { plain "int" none with kind := .primitive 'I', accessFlags := 0x411 }
/-- [I -/
def k11 : Class := { plain "[I" (some 0) with kind := .array 10 .int, interfaces := #[7, 4], accessFlags := 1041 }

/-- [Lcom/example/eneo/eneo/model/AccountType; -/
def k12 : Class := { plain "[Lcom/example/eneo/eneo/model/AccountType;" (some 0) with kind := .array 6 (.object "com/example/eneo/eneo/model/AccountType"), interfaces := #[7, 4], accessFlags := 1041 }

def heap : Heap := #[{ cls := 6, slots := #[.ref 2, .ref 3, .ref 4, .ref 1], vm := .statics 6 },
  { cls := 12, slots := #[.ref 2, .ref 3, .ref 4], vm := .none },
  { cls := 6, slots := #[.null, .int 0, .int 0, .int 0], vm := .none },
  { cls := 6, slots := #[.null, .int 0, .int 0, .int 1], vm := .none },
  { cls := 6, slots := #[.null, .int 0, .int 0, .int 2], vm := .none }]
def classes : Array Class := #[k0, k1, k2, k3, k4, k5, k6, k7, k8, k9, k10, k11, k12]
def interned : List (Array UInt16 × Addr) := []
def slotsUsed : Nat := 19
def theMethod : MethodId := ⟨1, 1⟩
def args0 : Array Value := #[.int 5]
def aboutOver (below : List Frame) : State where
  vm := { classes := classes, interned := interned.toArray }
  heap := heap
  slotsUsed := slotsUsed
  threads := #[{ frames := .invoking theMethod args0 :: below }]
def below0 : List Frame := [.native { method := ⟨0, 0⟩, args := #[] }]
def about1 : State := aboutOver below0
def p0 : Program := .bare "" "" ""
def e0 : Env := launch0.env 0 0 0
theorem w_frames : about1.frames = Frame.invoking theMethod args0 :: below0 := rfl
set_option maxRecDepth 65536 in
theorem w_args : argsFit about1.vm theMethod args0 = true := by decide +kernel
set_option maxRecDepth 65536 in
theorem w_heap : heapFits about1 = true := by decide +kernel
set_option maxRecDepth 65536 in
theorem w_runnable : about1.curStatus? = some .runnable := by decide +kernel
set_option maxRecDepth 65536 in
theorem w_alone : about1.alone = true := by decide +kernel
set_option maxRecDepth 65536 in
theorem w_named : about1.methodNamed? x = some theMethod := by decide +kernel
set_option maxRecDepth 65536 in
theorem w_hears : about1.hears theMethod below0 = true := by decide +kernel
set_option maxRecDepth 65536 in
theorem w_ripe : about1.ripe theMethod args0 below0 = true := by decide +kernel
theorem w_running : about1.status = .running := rfl
set_option maxRecDepth 65536 in
theorem w_room : about1.hasRoom e0.platform room_1 = true :=
  launch0.hasRoom_least _ room_1 (by decide +kernel) (by decide +kernel) (by decide +kernel) (by decide +kernel) (by decide +kernel) (by decide +kernel)
theorem allAtoms_all (ts : List Jvm.Cond) (a : Array Jvm.Value) (st : Jvm.State) : (allAtoms ts).before a st = ts.all (fun c => c.before a st) := by
  induction ts with
  | nil => rfl
  | cons c t ih =>
    show (Jvm.Cond.and c (allAtoms t)).before a st = _
    rw [Jvm.Cond.before_and, ih, List.all_cons]
def words1 : List Jvm.Cond := Jvm.Cond.code x code maxLocals ret :: tables_1
/-- a 'code' word, met by the world's own term for the bytes: nothing is compared byte by byte -/
theorem code_word {y : MethodName} {bytes : ByteArray} {mx : Nat} {rt : Option FieldType} {a : Array Value} {s : State} {m : MethodId} {meth : Method} {c : Code} (h1 : s.methodNamed? y = some m) (h2 : s.vm.method? m = some meth) (h3 : meth.code = some c) (h4 : c.code = bytes)
    (h5 : (c.maxLocals == mx && c.exceptionTable.isEmpty && decide (c.maxStack ≤ mostOperands) && decide (meth.sig.returnType = rt) && !meth.locks && decide (parseMethodDescriptor y.desc = some meth.sig)) = true) : (Jvm.Cond.code y bytes mx rt).before a s = true := by
  simp only [Bool.and_eq_true, beq_iff_eq, Bool.not_eq_true', decide_eq_true_eq] at h5
  obtain ⟨⟨⟨⟨⟨g1, g2⟩, g3⟩, g4⟩, g5⟩, g6⟩ := h5
  simp [Cond.before, Cond.holds, Cond.value, h1, h2, h3, h4, g1, g2, g3, g4, g5, g6]
def isCode : Jvm.Cond → Bool
  | .code _ _ _ _ => true
  | _ => false
theorem all_split {L : List Jvm.Cond} {P : Jvm.Cond → Bool} (h1 : L.all (fun c => isCode c || P c) = true) (h2 : ∀ c ∈ L.filter isCode, P c = true) : L.all P = true := by
  refine List.all_eq_true.mpr fun c hc => ?_
  have h := List.all_eq_true.mp h1 c hc
  rcases Bool.eq_false_or_eq_true (isCode c) with hi | hi
  · exact h2 c (List.mem_filter.mpr ⟨hc, hi⟩)
  · simpa [hi] using h
set_option maxRecDepth 65536 in
theorem w_c0 : (Jvm.Cond.code x code maxLocals ret).before args0 about1 = true := code_word (m := ⟨1, 1⟩) (meth := k1m1) (c := k1c1) (by decide +kernel) rfl rfl rfl (by decide +kernel)
set_option maxRecDepth 65536 in
theorem w_c1 : (Jvm.Cond.code ({ cls := "com/example/eneo/eneo/model/AccountType", name := "ofCode", desc := "(I)Lcom/example/eneo/eneo/model/AccountType;" } : Jvm.MethodName) prog_30_method_5_code (5 : Nat) (Option.some (Jvm.ClassFile.FieldType.object "com/example/eneo/eneo/model/AccountType"))).before args0 about1 = true := code_word (m := ⟨6, 2⟩) (meth := k6m2) (c := k6c2) (by decide +kernel) rfl rfl rfl (by decide +kernel)
set_option maxRecDepth 65536 in
theorem w_c2 : (Jvm.Cond.code ({ cls := "com/example/eneo/eneo/model/AccountType", name := "values", desc := "()[Lcom/example/eneo/eneo/model/AccountType;" } : Jvm.MethodName) prog_30_method_1_code (0 : Nat) (Option.some (Jvm.ClassFile.FieldType.array (Jvm.ClassFile.FieldType.object "com/example/eneo/eneo/model/AccountType")))).before args0 about1 = true := code_word (m := ⟨6, 0⟩) (meth := k6m0) (c := k6c0) (by decide +kernel) rfl rfl rfl (by decide +kernel)
set_option maxRecDepth 65536 in
theorem w_c3 : (Jvm.Cond.code ({ cls := "com/example/eneo/eneo/model/AccountType", name := "code", desc := "()I" } : Jvm.MethodName) prog_30_method_4_code (1 : Nat) (Option.some Jvm.ClassFile.FieldType.int)).before args0 about1 = true := code_word (m := ⟨6, 1⟩) (meth := k6m1) (c := k6c1) (by decide +kernel) rfl rfl rfl (by decide +kernel)
def codes1 : List Jvm.Cond := [Jvm.Cond.code x code maxLocals ret, Jvm.Cond.code ({ cls := "com/example/eneo/eneo/model/AccountType", name := "ofCode", desc := "(I)Lcom/example/eneo/eneo/model/AccountType;" } : Jvm.MethodName) prog_30_method_5_code (5 : Nat) (Option.some (Jvm.ClassFile.FieldType.object "com/example/eneo/eneo/model/AccountType")), Jvm.Cond.code ({ cls := "com/example/eneo/eneo/model/AccountType", name := "values", desc := "()[Lcom/example/eneo/eneo/model/AccountType;" } : Jvm.MethodName) prog_30_method_1_code (0 : Nat) (Option.some (Jvm.ClassFile.FieldType.array (Jvm.ClassFile.FieldType.object "com/example/eneo/eneo/model/AccountType"))), Jvm.Cond.code ({ cls := "com/example/eneo/eneo/model/AccountType", name := "code", desc := "()I" } : Jvm.MethodName) prog_30_method_4_code (1 : Nat) (Option.some Jvm.ClassFile.FieldType.int)]
set_option maxRecDepth 65536 in
theorem codes_eq : words1.filter isCode = codes1 := rfl
theorem w_codes : ∀ c ∈ words1.filter isCode, c.before args0 about1 = true := by
  rw [codes_eq]
  intro c hc
  simp only [codes1, List.mem_cons, List.not_mem_nil, or_false] at hc
  rcases hc with rfl | rfl | rfl | rfl
  · exact w_c0
  · exact w_c1
  · exact w_c2
  · exact w_c3
set_option maxRecDepth 65536 in
theorem w_t1 : (words1.take 24).all (fun c => isCode c || c.before args0 about1) = true := by decide +kernel
set_option maxRecDepth 65536 in
theorem w_t2 : (words1.drop 24).all (fun c => isCode c || c.before args0 about1) = true := by decide +kernel
theorem w_tables : (allAtoms (Jvm.Cond.code x code maxLocals ret :: tables_1)).before args0 about1 = true := by
  rw [allAtoms_all]
  show words1.all (fun c => c.before args0 about1) = true
  refine all_split ?_ w_codes
  rw [← List.take_append_drop 24 words1, List.all_append, w_t1, w_t2]
  rfl
set_option maxRecDepth 65536 in
theorem w_case : (Jvm.Cond.and given_1 narrow_1).before args0 about1 = true := by decide +kernel
theorem w_applies : (headSpec (Jvm.Cond.code x code maxLocals ret :: tables_1) room_1).applies x e0.platform about1 = true :=
  (Spec.applies_iff w_frames).mpr ⟨w_running, w_runnable, w_alone, w_named, w_hears, w_ripe, w_room, w_tables⟩
theorem atStart : AtStart classFile x code maxLocals ret World_1 tables_1 room_1 Calls_1 rest_1 Pre_1 launch0 p0 e0 about1 theMethod args0 below0 :=
  ⟨lists_1, trivial, launch0.admits_env _ _ _, launch0.least_env, fairChoices_fair.cas, fairChoices_fair.clock, w_frames, w_args, w_heap, w_applies, trivial, trivial, w_case⟩
end start1
theorem witness_1 : WitnessClaimed_1 := ⟨start1.p0, start1.e0, start1.about1, start1.theMethod, start1.args0, start1.below0, start1.atStart⟩
end Jvm.Pilot.@@N@@
