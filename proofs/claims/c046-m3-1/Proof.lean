import JvmDerived
import JvmDerived.Pilot.@@N@@Statement
import JvmDerived.Pilot.@@N@@Code
set_option linter.unusedVariables false
set_option linter.unusedSimpArgs false
@@BLOCK:NumsL.lean.txt@@
namespace Jvm.RoadKit
open Sem ClassFile Op Lib Jvm.Stand Jvm.Free Jvm.LawKit
section New
variable {p : Program} {l : Launch} {e : Env} {R : Room} {s : State} {m : MethodId} {args : Array Value} {below : List Frame} {meth : Method} {c : Code} {T : State} {locs : List Loc} {cells slots : Nat}
theorem retI (X : Stand p l e R s m args below meth c T locs cells slots) (hx : p.tables.exec = Jvm.exec) {pc : Nat} {Ls : Array Slot} {z : Int32} {rest : List Value} (hret : meth.sig.returnType = some .int) (hd : decode c.code pc = .ok (.ireturn, 1)) {fs : List Frame}
    (hl : ∀ (f : JFrame) (acts : List Action), f.method = m → f.locked = none → f.entered = [] → (doReturn e (T.setTop f) acts (some (.int z))).1 = T.setFrames fs) : Steps p.tables e below (T.setTop (mkF m pc Ls (.int z :: rest))) (T.setFrames fs) := by
  have hm' : T.vm.method? m = some meth := X.method'
  have hn : narrow .int (.int z) = .int z := rfl
  show Steps p.tables e below (T.setTop { method := m, pc := pc, locals := Ls, stack := _ :: rest, locked := none }) _
  jvm_step X.here [X.here.top, hx, hd, hm', hret, hn]
  first | (intro acts; rw [hl _ acts rfl rfl rfl]) | rw [hl _ _ rfl rfl rfl]
  exact Steps.refl _
end New
end Jvm.RoadKit
namespace Jvm.Pilot.@@N@@
open Jvm Jvm.ClassFile Sem Op Lib Jvm.Free Jvm.Stand Jvm.LawKit Jvm.RoadKit Bundle Jvm.Pilot.@@N@@.Jvm.D
def own_QT (n0 : Nat) (v : Option Value) (L : List Loc) : Prop := v = some (.int (1 : Int32)) ∧ Fr n0 L
theorem own_b8 (x : Int32) : nar .byte (x.toInt8.toInt32) = x.toInt8.toInt32 := by simp [nar]
theorem own_nost {Z : State} {h : Heap} {a : Addr} {C : String} (F : Exa Z h a C) : ∃ cell : Cell, h[a]? = some cell ∧ cell.vm.isStatics = false := by
  obtain ⟨cell, k, h1, -, -, h4, -⟩ := F; exact ⟨cell, h1, h4⟩
theorem own_nostV {Z : State} {h : Heap} {a : Addr} {k : ClassId} {ty : FieldType} {z : Int32} {vs : List Value} {dv : Value} (F : Arv Z h a k ty z vs dv) : ∃ cell : Cell, h[a]? = some cell ∧ cell.vm.isStatics = false := by
  obtain ⟨cell, A, -⟩ := F; exact ⟨cell, A.1, A.plain⟩
theorem own_arr_keep {Z : State} {h h' : Heap} {ws : List Addr} {a : Addr} {c : Cell} {ty : FieldType} (F : Arr Z h a c ty) (K : Keep h h' ws) (q : a ∉ ws) : Arr Z h' a c ty := ⟨K.2.1 a c F.1 q, F.2⟩
theorem own_sta_keep {Z : State} {h h' : Heap} {ws : List Addr} {C n d : String} {v : Value} (F : Sta Z h C n d v) (K : Keep h h' ws) (q : ∀ x ∈ ws, ∃ cell : Cell, h[x]? = some cell ∧ cell.vm.isStatics = false) : Sta Z h' C n d v := by
  obtain ⟨cf, i, k, f, st, cell, h1, h2, h3, h4, h5, h6, h7⟩ := F
  refine ⟨cf, i, k, f, st, cell, h1, h2, h3, h4, K.2.1 _ _ h5 fun hm => ?_, h6, h7⟩
  obtain ⟨c2, g1, g2⟩ := q _ hm
  cases h5.symm.trans g1
  rw [h6] at g2; cases g2
theorem own_fld_int {Z : State} {args : Array Value} {ts : Term} {C n d : String} {k : Int32} {x : Addr} (ev : ts.eval args Z none [] Z = some (.ref x)) (h : (Jvm.Cond.eq (.field ts C n d) (.int k)).value args Z none Z [] = some true) : Fld Z Z.heap x C n d (.int k) := by
  apply Fld.start
  obtain ⟨u, w, e1, e2, k1, k2⟩ := cmp_v (Or.inl h)
  rw [fld_at ev] at e1
  have e3 : w = .int k := (Option.some.inj (e2.symm.trans (Term.int_eval k)))
  subst e3
  obtain ⟨z, rfl⟩ : ∃ z, u = .int z := k2
  have e4 : (Term.field ts C n d).eval args Z none [] Z = some (.int z) := (fld_at ev).trans e1
  have : z = k := by simpa [Cond.value, e4, e2] using h
  rw [e1, this]
theorem own_fld_long {Z : State} {args : Array Value} {ts : Term} {C n d : String} {k : Int64} {x : Addr} (ev : ts.eval args Z none [] Z = some (.ref x)) (h : (Jvm.Cond.eq (.field ts C n d) (.long k)).value args Z none Z [] = some true) : Fld Z Z.heap x C n d (.long k) := by
  apply Fld.start
  obtain ⟨u, w, e1, e2, k1, k2⟩ := cmp_v (Or.inl h)
  rw [fld_at ev] at e1
  have e3 : w = .long k := (Option.some.inj (e2.symm.trans (long_at k)))
  subst e3
  obtain ⟨z, rfl⟩ : ∃ z, u = .long z := k2
  have e4 : (Term.field ts C n d).eval args Z none [] Z = some (.long z) := (fld_at ev).trans e1
  have : z = k := by simpa [Cond.value, e4, e2] using h
  rw [e1, this]
theorem own_fld_ref {Z : State} {args : Array Value} {ts us : Term} {C n d : String} {x y : Addr} (ev : ts.eval args Z none [] Z = some (.ref x)) (eu : us.eval args Z none [] Z = some (.ref y)) (h : (Jvm.Cond.eq (.field ts C n d) us).value args Z none Z [] = some true) : Fld Z Z.heap x C n d (.ref y) := by
  apply Fld.start
  obtain ⟨u, w, e1, e2, k1, k2⟩ := cmp_v (Or.inl h)
  rw [fld_at ev] at e1
  cases e2.symm.trans eu
  have e4 : (Term.field ts C n d).eval args Z none [] Z = some u := (fld_at ev).trans e1
  have hu : u.isRef = true := k2.2
  have : u = .ref y := gotT (eq_R e4 e2 hu rfl) h
  rw [e1, this]
theorem own_fld_null {Z : State} {args : Array Value} {ts : Term} {C n d : String} {x : Addr} (ev : ts.eval args Z none [] Z = some (.ref x)) (h : (Jvm.Cond.eq (.field ts C n d) .null).value args Z none Z [] = some true) : Fld Z Z.heap x C n d .null :=
  Fld.start ((fld_at ev).symm.trans (null_v h))
theorem own_len {Z : State} {args : Array Value} {ts : Term} {k : Int32} {x : Addr} {c : Cell} {ty : FieldType} (A : Arr Z Z.heap x c ty) (ev : ts.eval args Z none [] Z = some (.ref x)) (h : (Jvm.Cond.eq (.length ts) (.int k)).value args Z none Z [] = some true) : c.slots.size < 2 ^ 31 ∧ c.slots.size.toInt32 = k := by
  obtain ⟨u, w, e1, e2, k1, k2⟩ := cmp_v (Or.inl h)
  have hA := Arr.fin (Vm.Alike.refl _) A
  have hl : c.slots.size < 2 ^ 31 := by
    apply Decidable.byContradiction
    intro hn
    have hn' : ¬ c.slots.size < 2147483648 := hn
    simp [Term.eval, ev, hA, hn'] at e1
  have e4 := len_f ev hA hl
  have e3 : w = .int k := (Option.some.inj (e2.symm.trans (Term.int_eval k)))
  subst e3
  exact ⟨hl, by simpa [Cond.value, e4, e2] using h⟩
theorem own_elem_ref {Z : State} {args : Array Value} {ts us : Term} {j : Int32} {x y : Addr} {c : Cell} {ty : FieldType} (A : Arr Z Z.heap x c ty) (ev : ts.eval args Z none [] Z = some (.ref x)) (eu : us.eval args Z none [] Z = some (.ref y)) (h : (Jvm.Cond.eq (.elem ts (.int j)) us).value args Z none Z [] = some true) (i : Nat) (hi : j.toNatClampNeg = i) : c.slots[i]? = some (.ref y) := by
  obtain ⟨u, w, e1, e2, k1, k2⟩ := cmp_v (Or.inl h)
  cases e2.symm.trans eu
  have hu : u.isRef = true := k2.2
  have e5 : u = .ref y := gotT (eq_R e1 e2 hu rfl) h
  rw [← hi, (elem_in e1 ev (Term.int_eval j) A.1).2, e5]
theorem own_elem_int {Z : State} {args : Array Value} {ts : Term} {j k : Int32} {x : Addr} {c : Cell} {ty : FieldType} (A : Arr Z Z.heap x c ty) (ev : ts.eval args Z none [] Z = some (.ref x)) (h : (Jvm.Cond.eq (.elem ts (.int j)) (.int k)).value args Z none Z [] = some true) (i : Nat) (hi : j.toNatClampNeg = i) : c.slots[i]? = some (.int k) := by
  obtain ⟨u, w, e1, e2, k1, k2⟩ := cmp_v (Or.inl h)
  have e3 : w = .int k := (Option.some.inj (e2.symm.trans (Term.int_eval k)))
  subst e3
  obtain ⟨z, rfl⟩ : ∃ z, u = .int z := k2
  have e5 : z = k := by simpa [Cond.value, e1, e2] using h
  rw [← hi, (elem_in e1 ev (Term.int_eval j) A.1).2, e5]
theorem own_sub {Z : State} {args : Array Value} {j k : Int32} (nn : ¬ j < 0) : (Term.sub (Term.index 0) (Term.int k)).eval args Z none [j.toNatClampNeg] Z = some (.int (j - k)) := by
  have e1 : (Term.index 0).eval args Z none [j.toNatClampNeg] Z = some (.int j) := idx_at nn
  have e2 : (Term.int k).eval args Z none [j.toNatClampNeg] Z = some (.int k) := Term.int_eval k
  simp [Term.eval] at e1 e2 ⊢
  simp [e1]
theorem own_ne_int {a b : Int32} (h : a ≠ b) : Value.int a ≠ Value.int b := fun q => h (Value.int.inj q)

theorem d1_0 : decode prog_194_method_11_code 0 = .ok (.invokestatic 92, 3) := by decide +kernel
theorem d2_0 : decode prog_194_method_1_code 0 = .ok (.getstatic 25, 3) := by decide +kernel
theorem d2_3 : decode prog_194_method_1_code 3 = .ok (.invokevirtual 29, 3) := by decide +kernel
theorem d2_6 : decode prog_194_method_1_code 6 = .ok (.checkcast 30, 3) := by decide +kernel
theorem d2_9 : decode prog_194_method_1_code 9 = .ok (.areturn, 1) := by decide +kernel
theorem ef_2 (m : MethodId)  : entryFrame m #[] 0 = mkF m 0 #[] [] := by first | (simp [entryFrame, mkF, argsToLocals, Value.category]; done) | rfl
theorem pn_2 : plainName "com/example/tipple_ledger/tippleledger/terms/WeightedAverage" = true := by first | (simp [plainName, overriddenIn]; done) | decide +kernel
def Q2_1 (Z : State) (w1 : Addr) (k_w1 : ClassId) (w3 : Addr) (w4 : Addr) (w5 : Addr) (w6 : Addr) (w7 : Addr) (w8 : Addr) (w9 : Addr) (h0 : Heap) (n0 : Nat) (v : Option Value) (h : Heap) (L : List Loc) : Prop := ∃ (b10 : Addr), v = some (.ref b10) ∧ Fr n0 L ∧ Keep h0 h [] ∧ h0.size ≤ b10 ∧ Arv Z h b10 k_w1 (.object "com/example/tipple_ledger/tippleledger/terms/WeightedAverage") (7 : Int32) [(.ref w3), (.ref w4), (.ref w5), (.ref w6), (.ref w7), (.ref w8), (.ref w9)] .null ∧ Exa Z h b10 "[Lcom/example/tipple_ledger/tippleledger/terms/WeightedAverage;"
set_option maxRecDepth 65536 in
set_option maxHeartbeats 40000000 in
theorem rm2_1 (l : Launch) (Z : State) (a0 : Array Value) (hw : ∀ d ∈ tables_1, d.before a0 Z = true) (ws : List Jvm.Cond) (w1 : Addr) (k_w1 : ClassId) (w3 : Addr) (w4 : Addr) (w5 : Addr) (w6 : Addr) (w7 : Addr) (w8 : Addr) (w9 : Addr) (h0 : Heap) (n0 : Nat) (Z0 : n0 ≤ h0.size) (S__VALUES : Sta Z h0 "com/example/tipple_ledger/tippleledger/terms/WeightedAverage" "$VALUES" "[Lcom/example/tipple_ledger/tippleledger/terms/WeightedAverage;" (.ref w1)) (V_w1 : Arv Z h0 w1 k_w1 (.object "com/example/tipple_ledger/tippleledger/terms/WeightedAverage") (7 : Int32) [(.ref w3), (.ref w4), (.ref w5), (.ref w6), (.ref w7), (.ref w8), (.ref w9)] .null) (E_w1 : Exa Z h0 w1 "[Lcom/example/tipple_ledger/tippleledger/terms/WeightedAverage;") :
    MetFree l (⟨"com/example/tipple_ledger/tippleledger/terms/WeightedAverage", "values", "()[Lcom/example/tipple_ledger/tippleledger/terms/WeightedAverage;"⟩ : MethodName) (head1 (Jvm.Cond.code (⟨"com/example/tipple_ledger/tippleledger/terms/WeightedAverage", "values", "()[Lcom/example/tipple_ledger/tippleledger/terms/WeightedAverage;"⟩ : MethodName) prog_194_method_1_code 0 (some (.array (.object "com/example/tipple_ledger/tippleledger/terms/WeightedAverage"))) :: ws) ({ frames := 1, cells := 1, slots := 7, locals := 14 } : Room)) (fun a U => a = #[] ∧ Z.Warmed39 U.vm ∧ U.heap = h0) (fun _ _ _ _ _ => True) (fun _ U o U' => ∃ v L, o = .returned v ∧ Q2_1 Z w1 k_w1 w3 w4 w5 w6 w7 w8 w9 h0 n0 v U'.heap L ∧ FrameEnd U o U' L ({ frames := 1, cells := 1, slots := 7, locals := 14 } : Room).cells ({ frames := 1, cells := 1, slots := 7, locals := 14 } : Room).slots) := by
  refine MetFree.of_bodySF (plainFor_of_name pn_2) hisR ?_
  intro p e s m args below meth c s₁ Bd hml0 hP hK
  obtain ⟨rfl, hZ, hh⟩ := hP
  have hx := Bd.exec
  have hby := Bd.bytes
  have hml : c.maxLocals = 0 := hml0
  have hown : s.vm.findClass "com/example/tipple_ledger/tippleledger/terms/WeightedAverage" = some m.cls := findClass_of_methodNamed Bd.named
  have hnm := (name_of_methodNamed Bd.named Bd.method).1
  have X0 : Stand p l e ({ frames := 1, cells := 1, slots := 7, locals := 14 } : Room) s m #[] below meth c s₁ [] 0 0 := Stand.of_body Bd
  have e0 : s₁.heap = h0 := by rw [← hh, Bd.state]; rfl
  have N0 := Fr.nil n0
  have pre0 : ∀ t, Steps p.tables e below (s₁.setTop (mkF m 0 #[] [])) t → Steps p.tables e below (s₁.setTop (entryFrame m #[] 0)) t := fun t k => castTop (ef_2 m ) k
  obtain ⟨T2, X2, e2, st2⟩ := getS2 X0 hx hZ hown (host := "") (Or.inl (hw _ (List.mem_of_getElem? (i := 13) rfl))) Via.refl e0 S__VALUES (g := (mkF m 0 #[] [])) rfl (hb hby d2_0)
  obtain ⟨T10, h10, X10, e10, E10, A10, Q10, st10⟩ := cloneH X2 hx hZ hown (hw _ (List.mem_of_getElem? (i := 15) rfl)) (hw _ (List.mem_of_getElem? (i := 16) rfl)) (hw _ (List.mem_of_getElem? (i := 20) rfl)) (hw _ (List.mem_of_getElem? (i := 18) rfl)) (hw _ (List.mem_of_getElem? (i := 19) rfl)) (hw _ (List.mem_of_getElem? (i := 21) rfl)) e2 (Arv.arh V_w1) E_w1 (g := (mkF m 3 #[] [(.ref w1)])) rfl (by rw [hml]; rfl) rfl (hb hby d2_3) (by decide) (W := 0) (by show 2 * 0 + _ ≤ _; exact Nat.le_of_eq rfl) (by decide) (cap := 7) (by decide) (by decide) (by decide)
  obtain ⟨b10, g10⟩ : ∃ z, z = h0.size := ⟨_, rfl⟩
  rw [← g10] at A10 Q10 st10
  have sz_b10 : h0.size ≤ b10 := Nat.le_trans (Keep.refl h0 []).1 (Nat.le_of_eq g10.symm)
  have g_b10 : n0 ≤ b10 := Nat.le_trans Z0 sz_b10
  have K0_10 : Keep h0 h10 [] := (Keep.refl h0 []).ext E10
  have Z10 : n0 ≤ h10.size := Nat.le_trans Z0 E10.1
  have V_b10 : Arv Z h10 b10 k_w1 (.object "com/example/tipple_ledger/tippleledger/terms/WeightedAverage") (7 : Int32) [(.ref w3), (.ref w4), (.ref w5), (.ref w6), (.ref w7), (.ref w8), (.ref w9)] .null := A10
  obtain ⟨T11, X11, e11, st11⟩ := castY X10 hx hZ hown (hw _ (List.mem_of_getElem? (i := 29) rfl)) e10 (Ins.self Q10) (g := (mkF m 6 #[] [(.ref b10)])) rfl rfl (hb hby d2_6)
  obtain ⟨fs, hr, hrun, hended, hW, hsame⟩ := X11.leave (v := some (.ref b10)) (fun h => by rw [Bd.returns] at h; cases h)
  refine ⟨_, _, pre0 _ ?_, hrun, hended, _, _, rfl, ?_, ⟨_, rfl⟩, hW, hsame.mono (by decide) (by decide)⟩
  · show Steps p.tables e below (s₁.setTop (mkF m 0 #[] [])) _
    refine st2 _ ?_
    show Steps p.tables e below (T2.setTop (mkF m 3 #[] [(.ref w1)])) _
    refine st10 _ ?_
    show Steps p.tables e below (T10.setTop (mkF m 6 #[] [(.ref b10)])) _
    refine st11 _ ?_
    show Steps p.tables e below (T11.setTop (mkF m 9 #[] [(.ref b10)])) _
    jvm_step X11.here [X11.here.top, hx, (hb hby d2_9), X11.method', Bd.returns, Value.isRef, FieldType.isReference]
    first | (intro acts; rw [hr _ acts rfl rfl rfl]) | rw [hr _ _ rfl rfl rfl]
    exact Steps.refl _
  · show Q2_1 Z w1 k_w1 w3 w4 w5 w6 w7 w8 w9 h0 n0 _ T11.heap _
    rw [e11]
    exact ⟨b10, rfl, N0, K0_10, sz_b10, V_b10, Q10⟩
theorem pd_0 : parseMethodDescriptor "()[Lcom/example/tipple_ledger/tippleledger/terms/WeightedAverage;" = some ⟨[], some (.array (.object "com/example/tipple_ledger/tippleledger/terms/WeightedAverage"))⟩ := by decide +kernel
theorem d1_3 : decode prog_194_method_11_code 3 = .ok (.astore_n 1, 1) := by decide +kernel
theorem d1_4 : decode prog_194_method_11_code 4 = .ok (.aload_n 1, 1) := by decide +kernel
theorem d1_5 : decode prog_194_method_11_code 5 = .ok (.arraylength, 1) := by decide +kernel
theorem d1_6 : decode prog_194_method_11_code 6 = .ok (.istore_n 2, 1) := by decide +kernel
theorem d1_7 : decode prog_194_method_11_code 7 = .ok (.iconst 0, 1) := by decide +kernel
theorem d1_8 : decode prog_194_method_11_code 8 = .ok (.istore_n 3, 1) := by decide +kernel
theorem d1_9 : decode prog_194_method_11_code 9 = .ok (.iload_n 3, 1) := by decide +kernel
theorem d1_10 : decode prog_194_method_11_code 10 = .ok (.iload_n 2, 1) := by decide +kernel
theorem d1_11 : decode prog_194_method_11_code 11 = .ok (.if_icmp .ge 37, 3) := by decide +kernel
theorem d1_14 : decode prog_194_method_11_code 14 = .ok (.aload_n 1, 1) := by decide +kernel
theorem d1_15 : decode prog_194_method_11_code 15 = .ok (.iload_n 3, 1) := by decide +kernel
theorem d1_16 : decode prog_194_method_11_code 16 = .ok (.aaload, 1) := by decide +kernel
theorem d1_17 : decode prog_194_method_11_code 17 = .ok (.astore 4, 2) := by decide +kernel
theorem d1_19 : decode prog_194_method_11_code 19 = .ok (.aload 4, 2) := by decide +kernel
theorem d1_21 : decode prog_194_method_11_code 21 = .ok (.getfield 44, 3) := by decide +kernel
theorem d1_24 : decode prog_194_method_11_code 24 = .ok (.aload_n 0, 1) := by decide +kernel
theorem d1_25 : decode prog_194_method_11_code 25 = .ok (.if_acmp .ne 17, 3) := by decide +kernel
theorem d1_28 : decode prog_194_method_11_code 28 = .ok (.aload 4, 2) := by decide +kernel
theorem d1_30 : decode prog_194_method_11_code 30 = .ok (.getfield 55, 3) := by decide +kernel
theorem d1_33 : decode prog_194_method_11_code 33 = .ok (.ifCond .ne 9, 3) := by decide +kernel
theorem d1_36 : decode prog_194_method_11_code 36 = .ok (.aload 4, 2) := by decide +kernel
theorem d1_38 : decode prog_194_method_11_code 38 = .ok (.invokestatic 96, 3) := by decide +kernel
theorem d3_0 : decode jdk_32_method_3_code 0 = .ok (.new 2, 3) := by decide +kernel
theorem d3_3 : decode jdk_32_method_3_code 3 = .ok (.dup, 1) := by decide +kernel
theorem d3_4 : decode jdk_32_method_3_code 4 = .ok (.aload_n 0, 1) := by decide +kernel
theorem d3_5 : decode jdk_32_method_3_code 5 = .ok (.invokestatic 17, 3) := by decide +kernel
theorem d4_0 : decode jdk_31_method_10_code 0 = .ok (.aload_n 0, 1) := by decide +kernel
theorem d4_1 : decode jdk_31_method_10_code 1 = .ok (.ifnonnull 11, 3) := by decide +kernel
theorem d4_12 : decode jdk_31_method_10_code 12 = .ok (.aload_n 0, 1) := by decide +kernel
theorem d4_13 : decode jdk_31_method_10_code 13 = .ok (.areturn, 1) := by decide +kernel
theorem ef_4_R (m : MethodId) (x0 : Addr) : entryFrame m #[(.ref x0)] 1 = mkF m 0 #[.val (.ref x0)] [] := by first | (simp [entryFrame, mkF, argsToLocals, Value.category]; done) | rfl
theorem pn_4 : plainName "java/util/Objects" = true := by first | (simp [plainName, overriddenIn]; done) | decide +kernel
def Q4_1 (Z : State) (a1 : Addr) (h0 : Heap) (n0 : Nat) (v : Option Value) (h : Heap) (L : List Loc) : Prop := v = some (.ref a1) ∧ Fr n0 L ∧ h = h0
set_option maxRecDepth 65536 in
set_option maxHeartbeats 40000000 in
theorem rm4_1 (l : Launch) (Z : State) (a0 : Array Value) (hw : ∀ d ∈ tables_1, d.before a0 Z = true) (ws : List Jvm.Cond) (a1 : Addr) (h0 : Heap) (n0 : Nat) (Z0 : n0 ≤ h0.size) :
    MetFree l (⟨"java/util/Objects", "requireNonNull", "(Ljava/lang/Object;)Ljava/lang/Object;"⟩ : MethodName) (head1 (Jvm.Cond.code (⟨"java/util/Objects", "requireNonNull", "(Ljava/lang/Object;)Ljava/lang/Object;"⟩ : MethodName) jdk_31_method_10_code 1 (some (.object "java/lang/Object")) :: ws) ({ frames := 0, cells := 0, slots := 0, locals := 0 } : Room)) (fun a U => a = #[(.ref a1)] ∧ Z.Warmed39 U.vm ∧ U.heap = h0) (fun _ _ _ _ _ => True) (fun _ U o U' => ∃ v L, o = .returned v ∧ Q4_1 Z a1 h0 n0 v U'.heap L ∧ FrameEnd U o U' L ({ frames := 0, cells := 0, slots := 0, locals := 0 } : Room).cells ({ frames := 0, cells := 0, slots := 0, locals := 0 } : Room).slots) := by
  refine MetFree.of_bodySF (plainFor_of_name pn_4) hisR ?_
  intro p e s m args below meth c s₁ Bd hml0 hP hK
  obtain ⟨rfl, hZ, hh⟩ := hP
  have hx := Bd.exec
  have hby := Bd.bytes
  have hml : c.maxLocals = 1 := hml0
  have hown : s.vm.findClass "java/util/Objects" = some m.cls := findClass_of_methodNamed Bd.named
  have hnm := (name_of_methodNamed Bd.named Bd.method).1
  have X0 : Stand p l e ({ frames := 0, cells := 0, slots := 0, locals := 0 } : Room) s m #[(.ref a1)] below meth c s₁ [] 0 0 := Stand.of_body Bd
  have e0 : s₁.heap = h0 := by rw [← hh, Bd.state]; rfl
  have N0 := Fr.nil n0
  have pre0 : ∀ t, Steps p.tables e below (s₁.setTop (mkF m 0 #[.val (.ref a1)] [])) t → Steps p.tables e below (s₁.setTop (entryFrame m #[(.ref a1)] 1)) t := fun t k => castTop (ef_4_R m a1) k
  obtain ⟨fs, hr, hrun, hended, hW, hsame⟩ := X0.leave (v := some (.ref a1)) (fun h => by rw [Bd.returns] at h; cases h)
  refine ⟨_, _, pre0 _ ?_, hrun, hended, _, _, rfl, ?_, ⟨_, rfl⟩, hW, hsame.mono (by decide) (by decide)⟩
  · show Steps p.tables e below (s₁.setTop (mkF m 0 #[.val (.ref a1)] [])) _
    refine XS.aloadN X0.here hx rfl (hb hby d4_0) rfl rfl ?_
    show Steps p.tables e below (s₁.setTop (mkF m 1 #[.val (.ref a1)] [(.ref a1)])) _
    refine XS.ifnonnullYes X0.here hx rfl (pc0 := 1) (pc' := 12) rfl (hb hby d4_1) rfl (by decide) (by decide) ?_
    show Steps p.tables e below (s₁.setTop (mkF m 12 #[.val (.ref a1)] [])) _
    refine XS.aloadN X0.here hx rfl (hb hby d4_12) rfl rfl ?_
    show Steps p.tables e below (s₁.setTop (mkF m 13 #[.val (.ref a1)] [(.ref a1)])) _
    jvm_step X0.here [X0.here.top, hx, (hb hby d4_13), X0.method', Bd.returns, Value.isRef, FieldType.isReference]
    first | (intro acts; rw [hr _ acts rfl rfl rfl]) | rw [hr _ _ rfl rfl rfl]
    exact Steps.refl _
  · show Q4_1 Z a1 h0 n0 _ s₁.heap _
    rw [e0]
    exact ⟨rfl, N0, rfl⟩
theorem pd_1 : parseMethodDescriptor "(Ljava/lang/Object;)Ljava/lang/Object;" = some ⟨[(.object "java/lang/Object")], some (.object "java/lang/Object")⟩ := by decide +kernel
theorem d3_8 : decode jdk_32_method_3_code 8 = .ok (.invokespecial 23, 3) := by decide +kernel
theorem d5_0 : decode jdk_32_method_2_code 0 = .ok (.aload_n 0, 1) := by decide +kernel
theorem d5_1 : decode jdk_32_method_2_code 1 = .ok (.invokespecial 7, 3) := by decide +kernel
theorem d5_4 : decode jdk_32_method_2_code 4 = .ok (.aload_n 0, 1) := by decide +kernel
theorem d5_5 : decode jdk_32_method_2_code 5 = .ok (.aload_n 1, 1) := by decide +kernel
theorem d5_6 : decode jdk_32_method_2_code 6 = .ok (.putfield 13, 3) := by decide +kernel
theorem d5_9 : decode jdk_32_method_2_code 9 = .ok (.return_, 1) := by decide +kernel
theorem ef_5_RR (m : MethodId) (x0 : Addr) (x1 : Addr) : entryFrame m #[(.ref x0), (.ref x1)] 2 = mkF m 0 #[.val (.ref x0), .val (.ref x1)] [] := by first | (simp [entryFrame, mkF, argsToLocals, Value.category]; done) | rfl
theorem pn_5 : plainName "java/util/Optional" = true := by first | (simp [plainName, overriddenIn]; done) | decide +kernel
def Q5_1 (Z : State) (a1 : Addr) (a2 : Addr) (h0 : Heap) (n0 : Nat) (v : Option Value) (h : Heap) (L : List Loc) : Prop := v = none ∧ Fr n0 L ∧ Keep h0 h [a1] ∧ Exa Z h a1 "java/util/Optional" ∧ Fld Z h a1 "java/util/Optional" "value" "Ljava/lang/Object;" (.ref a2)
set_option maxRecDepth 65536 in
set_option maxHeartbeats 40000000 in
theorem rm5_1 (l : Launch) (Z : State) (a0 : Array Value) (hw : ∀ d ∈ tables_1, d.before a0 Z = true) (ws : List Jvm.Cond) (a1 : Addr) (a2 : Addr) (h0 : Heap) (n0 : Nat) (Z0 : n0 ≤ h0.size) (E_a1 : Exa Z h0 a1 "java/util/Optional") (F_value_a1 : Fld Z h0 a1 "java/util/Optional" "value" "Ljava/lang/Object;" .null) (g_a1 : n0 ≤ a1) :
    MetFree l (⟨"java/util/Optional", "<init>", "(Ljava/lang/Object;)V"⟩ : MethodName) (head1 (Jvm.Cond.code (⟨"java/util/Optional", "<init>", "(Ljava/lang/Object;)V"⟩ : MethodName) jdk_32_method_2_code 2 none :: ws) ({ frames := 1, cells := 0, slots := 0, locals := 12 } : Room)) (fun a U => a = #[(.ref a1), (.ref a2)] ∧ Z.Warmed39 U.vm ∧ U.heap = h0) (fun _ _ _ _ _ => True) (fun _ U o U' => ∃ v L, o = .returned v ∧ Q5_1 Z a1 a2 h0 n0 v U'.heap L ∧ FrameEnd U o U' L ({ frames := 1, cells := 0, slots := 0, locals := 12 } : Room).cells ({ frames := 1, cells := 0, slots := 0, locals := 12 } : Room).slots) := by
  refine MetFree.of_bodySF (plainFor_of_name pn_5) hisR ?_
  intro p e s m args below meth c s₁ Bd hml0 hP hK
  obtain ⟨rfl, hZ, hh⟩ := hP
  have hx := Bd.exec
  have hby := Bd.bytes
  have hml : c.maxLocals = 2 := hml0
  have hown : s.vm.findClass "java/util/Optional" = some m.cls := findClass_of_methodNamed Bd.named
  have hnm := (name_of_methodNamed Bd.named Bd.method).1
  have X0 : Stand p l e ({ frames := 1, cells := 0, slots := 0, locals := 12 } : Room) s m #[(.ref a1), (.ref a2)] below meth c s₁ [] 0 0 := Stand.of_body Bd
  have e0 : s₁.heap = h0 := by rw [← hh, Bd.state]; rfl
  have N0 := Fr.nil n0
  have pre0 : ∀ t, Steps p.tables e below (s₁.setTop (mkF m 0 #[.val (.ref a1), .val (.ref a2)] [])) t → Steps p.tables e below (s₁.setTop (entryFrame m #[(.ref a1), (.ref a2)] 2)) t := fun t k => castTop (ef_5_RR m a1 a2) k
  obtain ⟨T3, X3, e3, st3⟩ := initO X0 hx hZ hown (hw _ (List.mem_of_getElem? (i := 49) rfl)) (hw _ (List.mem_of_getElem? (i := 50) rfl)) (hw _ (List.mem_of_getElem? (i := 51) rfl)) e0 (g := (mkF m 1 #[.val (.ref a1), .val (.ref a2)] [(.ref a1)])) rfl (by rw [hml]; rfl) rfl (hb hby d5_1) (by decide) (W := 0) (by show 2 * 0 + _ ≤ _; exact Nat.le_of_eq rfl) (by decide)
  obtain ⟨T4, h4, X4, e4, W4, st4⟩ := putF X3 hx hZ hown (host := "") (Or.inl (hw _ (List.mem_of_getElem? (i := 52) rfl))) Via.refl e3 F_value_a1 E_a1 (Or.inr ⟨(hw _ (List.mem_of_getElem? (i := 53) rfl)), rfl, hnm⟩) (hw _ (List.mem_of_getElem? (i := 40) rfl)) (ty := (.object "java/lang/Object")) (by decide) rfl rfl (g := (mkF m 6 #[.val (.ref a1), .val (.ref a2)] [(.ref a2), (.ref a1)])) rfl rfl (hb hby d5_6)
  have K0_4 : Keep h0 h4 [a1] := (Keep.refl h0 [a1]).wr W4 (Or.inl (List.mem_of_getElem? (i := 0) rfl))
  have N4 := Fr.snoc X4 N0 g_a1
  have Z4 : n0 ≤ h4.size := Nat.le_trans Z0 (Keep.of_wr W4).1
  have Fw4 := F_value_a1.same W4
  have f5 := (E_a1.wr W4)
  obtain ⟨fs, hr, hrun, hended, hW, hsame⟩ := X4.leave (v := none) (fun _ => rfl)
  refine ⟨_, _, pre0 _ ?_, hrun, hended, _, _, rfl, ?_, ⟨_, rfl⟩, hW, hsame.mono (by decide) (by decide)⟩
  · show Steps p.tables e below (s₁.setTop (mkF m 0 #[.val (.ref a1), .val (.ref a2)] [])) _
    refine XS.aloadN X0.here hx rfl (hb hby d5_0) rfl rfl ?_
    show Steps p.tables e below (s₁.setTop (mkF m 1 #[.val (.ref a1), .val (.ref a2)] [(.ref a1)])) _
    refine st3 _ ?_
    show Steps p.tables e below (T3.setTop (mkF m 4 #[.val (.ref a1), .val (.ref a2)] [])) _
    refine XS.aloadN X3.here hx rfl (hb hby d5_4) rfl rfl ?_
    show Steps p.tables e below (T3.setTop (mkF m 5 #[.val (.ref a1), .val (.ref a2)] [(.ref a1)])) _
    refine XS.aloadN X3.here hx rfl (hb hby d5_5) rfl rfl ?_
    show Steps p.tables e below (T3.setTop (mkF m 6 #[.val (.ref a1), .val (.ref a2)] [(.ref a2), (.ref a1)])) _
    refine st4 _ ?_
    show Steps p.tables e below (T4.setTop (mkF m 9 #[.val (.ref a1), .val (.ref a2)] [])) _
    exact X4.returnOut hx Bd.returns (hb hby d5_9) hr
  · show Q5_1 Z a1 a2 h0 n0 _ T4.heap _
    rw [e4]
    exact ⟨rfl, N4, K0_4, f5, Fw4⟩
theorem pd_2 : parseMethodDescriptor "(Ljava/lang/Object;)V" = some ⟨[(.object "java/lang/Object")], none⟩ := by decide +kernel
theorem d3_11 : decode jdk_32_method_3_code 11 = .ok (.areturn, 1) := by decide +kernel
theorem ef_3_R (m : MethodId) (x0 : Addr) : entryFrame m #[(.ref x0)] 1 = mkF m 0 #[.val (.ref x0)] [] := by first | (simp [entryFrame, mkF, argsToLocals, Value.category]; done) | rfl
theorem pn_3 : plainName "java/util/Optional" = true := by first | (simp [plainName, overriddenIn]; done) | decide +kernel
def Q3_1 (Z : State) (a1 : Addr) (h0 : Heap) (n0 : Nat) (v : Option Value) (h : Heap) (L : List Loc) : Prop := ∃ (b2 : Addr), v = some (.ref b2) ∧ Fr n0 L ∧ Keep h0 h [] ∧ h0.size ≤ b2 ∧ Exa Z h b2 "java/util/Optional" ∧ Fld Z h b2 "java/util/Optional" "value" "Ljava/lang/Object;" (.ref a1)
set_option maxRecDepth 65536 in
set_option maxHeartbeats 40000000 in
theorem rm3_1 (l : Launch) (Z : State) (a0 : Array Value) (hw : ∀ d ∈ tables_1, d.before a0 Z = true) (ws : List Jvm.Cond) (a1 : Addr) (h0 : Heap) (n0 : Nat) (Z0 : n0 ≤ h0.size) :
    MetFree l (⟨"java/util/Optional", "of", "(Ljava/lang/Object;)Ljava/util/Optional;"⟩ : MethodName) (head1 (Jvm.Cond.code (⟨"java/util/Optional", "of", "(Ljava/lang/Object;)Ljava/util/Optional;"⟩ : MethodName) jdk_32_method_3_code 1 (some (.object "java/util/Optional")) :: ws) ({ frames := 2, cells := 1, slots := 1, locals := 26 } : Room)) (fun a U => a = #[(.ref a1)] ∧ Z.Warmed39 U.vm ∧ U.heap = h0) (fun _ _ _ _ _ => True) (fun _ U o U' => ∃ v L, o = .returned v ∧ Q3_1 Z a1 h0 n0 v U'.heap L ∧ FrameEnd U o U' L ({ frames := 2, cells := 1, slots := 1, locals := 26 } : Room).cells ({ frames := 2, cells := 1, slots := 1, locals := 26 } : Room).slots) := by
  refine MetFree.of_bodySF (plainFor_of_name pn_3) hisR ?_
  intro p e s m args below meth c s₁ Bd hml0 hP hK
  obtain ⟨rfl, hZ, hh⟩ := hP
  have hx := Bd.exec
  have hby := Bd.bytes
  have hml : c.maxLocals = 1 := hml0
  have hown : s.vm.findClass "java/util/Optional" = some m.cls := findClass_of_methodNamed Bd.named
  have hnm := (name_of_methodNamed Bd.named Bd.method).1
  have X0 : Stand p l e ({ frames := 2, cells := 1, slots := 1, locals := 26 } : Room) s m #[(.ref a1)] below meth c s₁ [] 0 0 := Stand.of_body Bd
  have e0 : s₁.heap = h0 := by rw [← hh, Bd.state]; rfl
  have N0 := Fr.nil n0
  have pre0 : ∀ t, Steps p.tables e below (s₁.setTop (mkF m 0 #[.val (.ref a1)] [])) t → Steps p.tables e below (s₁.setTop (entryFrame m #[(.ref a1)] 1)) t := fun t k => castTop (ef_3_R m a1) k
  obtain ⟨T2, h2, X2, e2, E2, A2, D2, -, st2⟩ := newO X0 hx hZ hown (hw _ (List.mem_of_getElem? (i := 39) rfl)) (hw _ (List.mem_of_getElem? (i := 40) rfl)) (hw _ (List.mem_of_getElem? (i := 37) rfl)) e0 (g := (mkF m 0 #[.val (.ref a1)] [])) rfl (hb hby d3_0) (by decide) (by decide)
  obtain ⟨b2, g2⟩ : ∃ z, z = h0.size := ⟨_, rfl⟩
  rw [← g2] at A2 D2 st2
  have sz_b2 : h0.size ≤ b2 := Nat.le_trans (Keep.refl h0 []).1 (Nat.le_of_eq g2.symm)
  have g_b2 : n0 ≤ b2 := Nat.le_trans Z0 sz_b2
  have K0_2 : Keep h0 h2 [] := (Keep.refl h0 []).ext E2
  have Z2 : n0 ≤ h2.size := Nat.le_trans Z0 E2.1
  have F_value_b2 : Fld Z h2 b2 "java/util/Optional" "value" "Ljava/lang/Object;" .null := D2 (Or.inr (hw _ (List.mem_of_getElem? (i := 53) rfl))) (ty := (.object "java/lang/Object")) (by decide)
  obtain ⟨_, _, ⟨T3, L3, k3, n3⟩, -, X3, ⟨Lc3, hQ3, l3, y3, z3⟩, st3⟩ := Jvm.LawKit.callS X2 hx (y := (⟨"java/util/Objects", "requireNonNull", "(Ljava/lang/Object;)Ljava/lang/Object;"⟩ : MethodName)) hown (mvT hZ (hw _ (List.mem_of_getElem? (i := 41) rfl))) (mvT hZ (hw _ (List.mem_of_getElem? (i := 42) rfl))) (mvT hZ (hw _ (List.mem_of_getElem? (i := 43) rfl))) (mvT hZ (hw _ (List.mem_of_getElem? (i := 44) rfl))) (by decide) (backOf (W := 2) (rm4_1 l Z a0 hw [] a1 h2 n0 Z2) hZ (hw _ (List.mem_of_getElem? (i := 44) rfl)) (hw _ (List.mem_of_getElem? (i := 43) rfl)) (by decide) (by decide)) (g := (mkF m 5 #[.val (.ref a1)] [(.ref a1), (.ref b2), (.ref b2)])) rfl (by rw [hml]; rfl) (argsL := [(.ref a1)]) (rest := [(.ref b2), (.ref b2)]) (lenOf pd_1 rfl) rfl (by show 2 * 0 + _ ≤ _; exact Nat.le_of_eq rfl) (hb hby d3_5) (fun _ _ => ⟨rfl, e2, (by decide : 1 + 0 ≤ _), (by decide : 1 + 0 ≤ _)⟩)
  dsimp only [Pt.U, Pt.locs, Pt.cells, Pt.slots] at X3 l3 y3 z3 st3 hQ3
  subst l3 y3 z3
  obtain ⟨rfl, Nq3, e3⟩ := hQ3
  have N3 := Fr.app N0 Nq3
  obtain ⟨_, _, ⟨T4, L4, k4, n4⟩, -, X4, ⟨Lc4, hQ4, l4, y4, z4⟩, st4⟩ := X3.specialBack hx (y := (⟨"java/util/Optional", "<init>", "(Ljava/lang/Object;)V"⟩ : MethodName)) rfl hown (mvT hZ (hw _ (List.mem_of_getElem? (i := 45) rfl))) (mvT hZ (hw _ (List.mem_of_getElem? (i := 46) rfl))) (mvT hZ (hw _ (List.mem_of_getElem? (i := 48) rfl))) (by decide) (backOf (W := 1) (rm5_1 l Z a0 hw [] b2 a1 h2 n0 Z2 A2 F_value_b2 g_b2) hZ (hw _ (List.mem_of_getElem? (i := 48) rfl)) (hw _ (List.mem_of_getElem? (i := 37) rfl)) (by decide) (by decide)) (g := (mkF m 8 #[.val (.ref a1)] [(.ref a1), (.ref b2), (.ref b2)])) rfl (by rw [hml]; rfl) (Steps.refl _) (a := b2) (argsL := [(.ref a1)]) (rest := [(.ref b2)]) (lenOf pd_2 rfl) rfl (by show 2 * 0 + _ ≤ _; exact Nat.le_of_eq rfl) (hb hby d3_8) (fun _ _ => ⟨rfl, e3, (by decide : 1 + 0 ≤ _), (by decide : 1 + 0 ≤ _)⟩)
  dsimp only [Pt.U, Pt.locs, Pt.cells, Pt.slots] at X4 l4 y4 z4 st4 hQ4
  subst l4 y4 z4
  obtain ⟨rfl, Nq4, K4, x4_0, x4_1⟩ := hQ4
  have N4 := Fr.app N3 Nq4
  have K0_4 : Keep h0 T4.heap [] := K0_2.trans K4 (allS (Or.inr sz_b2) all0)
  have Z4 : n0 ≤ T4.heap.size := Nat.le_trans Z2 K4.1
  obtain ⟨fs, hr, hrun, hended, hW, hsame⟩ := X4.leave (v := some (.ref b2)) (fun h => by rw [Bd.returns] at h; cases h)
  refine ⟨_, _, pre0 _ ?_, hrun, hended, _, _, rfl, ?_, ⟨_, rfl⟩, hW, hsame.mono (by decide) (by decide)⟩
  · show Steps p.tables e below (s₁.setTop (mkF m 0 #[.val (.ref a1)] [])) _
    refine st2 _ ?_
    show Steps p.tables e below (T2.setTop (mkF m 3 #[.val (.ref a1)] [(.ref b2)])) _
    refine XS.dup X2.here hx rfl (hb hby d3_3) rfl rfl ?_
    show Steps p.tables e below (T2.setTop (mkF m 4 #[.val (.ref a1)] [(.ref b2), (.ref b2)])) _
    refine XS.aloadN X2.here hx rfl (hb hby d3_4) rfl rfl ?_
    show Steps p.tables e below (T2.setTop (mkF m 5 #[.val (.ref a1)] [(.ref a1), (.ref b2), (.ref b2)])) _
    refine st3 _ ?_
    show Steps p.tables e below (T3.setTop (mkF m 8 #[.val (.ref a1)] [(.ref a1), (.ref b2), (.ref b2)])) _
    refine st4.trans ?_
    show Steps p.tables e below (T4.setTop (mkF m 11 #[.val (.ref a1)] [(.ref b2)])) _
    jvm_step X4.here [X4.here.top, hx, (hb hby d3_11), X4.method', Bd.returns, Value.isRef, FieldType.isReference]
    first | (intro acts; rw [hr _ acts rfl rfl rfl]) | rw [hr _ _ rfl rfl rfl]
    exact Steps.refl _
  · show Q3_1 Z a1 h0 n0 _ T4.heap _
    exact ⟨b2, rfl, N4, K0_4, sz_b2, x4_0, x4_1⟩
theorem pd_3 : parseMethodDescriptor "(Ljava/lang/Object;)Ljava/util/Optional;" = some ⟨[(.object "java/lang/Object")], some (.object "java/util/Optional")⟩ := by decide +kernel
theorem d1_41 : decode prog_194_method_11_code 41 = .ok (.areturn, 1) := by decide +kernel
theorem ef_1_R (m : MethodId) (x0 : Addr) : entryFrame m #[(.ref x0)] 5 = mkF m 0 #[.val (.ref x0), .unset, .unset, .unset, .unset] [] := by first | (simp [entryFrame, mkF, argsToLocals, Value.category]; done) | rfl
theorem pn_1 : plainName "com/example/tipple_ledger/tippleledger/terms/WeightedAverage" = true := by first | (simp [plainName, overriddenIn]; done) | decide +kernel
def Q1_1 (Z : State) (a1 : Addr) (w2 : Addr) (k_w2 : ClassId) (w3 : Addr) (w4 : Addr) (w5 : Addr) (w6 : Addr) (w7 : Addr) (w8 : Addr) (w9 : Addr) (h0 : Heap) (n0 : Nat) (v : Option Value) (h : Heap) (L : List Loc) : Prop := ∃ (b2_17 : Addr), v = some (.ref b2_17) ∧ Fr n0 L ∧ Keep h0 h [] ∧ h0.size ≤ b2_17 ∧ Exa Z h b2_17 "java/util/Optional" ∧ Fld Z h b2_17 "java/util/Optional" "value" "Ljava/lang/Object;" (.ref w3)
set_option maxRecDepth 65536 in
set_option maxHeartbeats 40000000 in
theorem rm1_1 (l : Launch) (Z : State) (a0 : Array Value) (hw : ∀ d ∈ tables_1, d.before a0 Z = true) (ws : List Jvm.Cond) (a1 : Addr) (w2 : Addr) (k_w2 : ClassId) (w3 : Addr) (w4 : Addr) (w5 : Addr) (w6 : Addr) (w7 : Addr) (w8 : Addr) (w9 : Addr) (h0 : Heap) (n0 : Nat) (Z0 : n0 ≤ h0.size) (V_w2 : Arv Z h0 w2 k_w2 (.object "com/example/tipple_ledger/tippleledger/terms/WeightedAverage") (7 : Int32) [(.ref w3), (.ref w4), (.ref w5), (.ref w6), (.ref w7), (.ref w8), (.ref w9)] .null) (S__VALUES : Sta Z h0 "com/example/tipple_ledger/tippleledger/terms/WeightedAverage" "$VALUES" "[Lcom/example/tipple_ledger/tippleledger/terms/WeightedAverage;" (.ref w2)) (E_w2 : Exa Z h0 w2 "[Lcom/example/tipple_ledger/tippleledger/terms/WeightedAverage;") (F_characteristic_w3 : Fld Z h0 w3 "com/example/tipple_ledger/tippleledger/terms/WeightedAverage" "characteristic" "Lcom/example/tipple_ledger/tippleledger/terms/Characteristic;" (.ref a1)) (F_perMmbtu_w3 : Fld Z h0 w3 "com/example/tipple_ledger/tippleledger/terms/WeightedAverage" "perMmbtu" "Z" (.int (0 : Int32))) :
    MetFree l (⟨"com/example/tipple_ledger/tippleledger/terms/WeightedAverage", "byTons", "(Lcom/example/tipple_ledger/tippleledger/terms/Characteristic;)Ljava/util/Optional;"⟩ : MethodName) (head1 (Jvm.Cond.code (⟨"com/example/tipple_ledger/tippleledger/terms/WeightedAverage", "byTons", "(Lcom/example/tipple_ledger/tippleledger/terms/Characteristic;)Ljava/util/Optional;"⟩ : MethodName) prog_194_method_11_code 5 (some (.object "java/util/Optional")) :: ws) ({ frames := 3, cells := 2, slots := 8, locals := 38 } : Room)) (fun a U => a = #[(.ref a1)] ∧ Z.Warmed39 U.vm ∧ U.heap = h0) (fun _ _ _ _ _ => True) (fun _ U o U' => ∃ v L, o = .returned v ∧ Q1_1 Z a1 w2 k_w2 w3 w4 w5 w6 w7 w8 w9 h0 n0 v U'.heap L ∧ FrameEnd U o U' L ({ frames := 3, cells := 2, slots := 8, locals := 38 } : Room).cells ({ frames := 3, cells := 2, slots := 8, locals := 38 } : Room).slots) := by
  refine MetFree.of_bodySF (plainFor_of_name pn_1) hisR ?_
  intro p e s m args below meth c s₁ Bd hml0 hP hK
  obtain ⟨rfl, hZ, hh⟩ := hP
  have hx := Bd.exec
  have hby := Bd.bytes
  have hml : c.maxLocals = 5 := hml0
  have hown : s.vm.findClass "com/example/tipple_ledger/tippleledger/terms/WeightedAverage" = some m.cls := findClass_of_methodNamed Bd.named
  have hnm := (name_of_methodNamed Bd.named Bd.method).1
  have X0 : Stand p l e ({ frames := 3, cells := 2, slots := 8, locals := 38 } : Room) s m #[(.ref a1)] below meth c s₁ [] 0 0 := Stand.of_body Bd
  have e0 : s₁.heap = h0 := by rw [← hh, Bd.state]; rfl
  have N0 := Fr.nil n0
  have pre0 : ∀ t, Steps p.tables e below (s₁.setTop (mkF m 0 #[.val (.ref a1), .unset, .unset, .unset, .unset] [])) t → Steps p.tables e below (s₁.setTop (entryFrame m #[(.ref a1)] 5)) t := fun t k => castTop (ef_1_R m a1) k
  obtain ⟨_, _, ⟨T10, L10, k10, n10⟩, -, X10, ⟨Lc10, hQ10, l10, y10, z10⟩, st10⟩ := Jvm.LawKit.callS X0 hx (y := (⟨"com/example/tipple_ledger/tippleledger/terms/WeightedAverage", "values", "()[Lcom/example/tipple_ledger/tippleledger/terms/WeightedAverage;"⟩ : MethodName)) hown (mvT hZ (hw _ (List.mem_of_getElem? (i := 10) rfl))) (mvT hZ (hw _ (List.mem_of_getElem? (i := 11) rfl))) (mvT hZ (hw _ (List.mem_of_getElem? (i := 5) rfl))) (mvT hZ (hw _ (List.mem_of_getElem? (i := 12) rfl))) (by decide) (backOf (W := 0) (rm2_1 l Z a0 hw [] w2 k_w2 w3 w4 w5 w6 w7 w8 w9 h0 n0 Z0 S__VALUES V_w2 E_w2) hZ (hw _ (List.mem_of_getElem? (i := 12) rfl)) (hw _ (List.mem_of_getElem? (i := 5) rfl)) (by decide) (by decide)) (g := (mkF m 0 #[.val (.ref a1), .unset, .unset, .unset, .unset] [])) rfl (by rw [hml]; rfl) (argsL := []) (rest := []) (lenOf pd_0 rfl) rfl (by show 2 * 0 + _ ≤ _; exact Nat.le_of_eq rfl) (hb hby d1_0) (fun _ _ => ⟨rfl, e0, (by decide : 0 + 1 ≤ _), (by decide : 0 + 7 ≤ _)⟩)
  dsimp only [Pt.U, Pt.locs, Pt.cells, Pt.slots] at X10 l10 y10 z10 st10 hQ10
  subst l10 y10 z10
  obtain ⟨b10_10, rfl, Nq10, K10, x10_0, x10_1, x10_2⟩ := hQ10
  have N10 := Fr.app N0 Nq10
  have sz_b10_10 : h0.size ≤ b10_10 := Nat.le_trans (Keep.refl h0 []).1 x10_0
  have g_b10_10 : n0 ≤ b10_10 := Nat.le_trans Z0 sz_b10_10
  have K0_10 : Keep h0 T10.heap [] := (Keep.refl h0 []).trans K10 all0
  have Z10 : n0 ≤ T10.heap.size := Nat.le_trans Z0 K10.1
  obtain ⟨cl11, Ar11, -, S11, N_11, -, -⟩ := id x10_1
  obtain ⟨cl12, Ar12, q12, S12, N_12, H12, G12⟩ := id x10_1
  have hin12 : ¬ ((0 : Int32) < 0 ∨ cl12.slots.size ≤ ((0 : Int32)).toNatClampNeg) := inb_of S12 ⟨by decide, (by decide : (0 : Int32) < (7 : Int32))⟩
  have hat12 : cl12.slots[((0 : Int32)).toNatClampNeg]? = some (.ref w3) := Has.at H12 hin12 rfl
  have f13 := (F_characteristic_w3.keep K10 nin0)
  obtain ⟨T14, X14, e14, st14⟩ := getF X10 hx hZ hown (host := "") (Or.inl (hw _ (List.mem_of_getElem? (i := 31) rfl))) Via.refl rfl f13 (g := (mkF m 21 #[.val (.ref a1), .val (.ref b10_10), .val (.int (7 : Int32)), .val (.int (0 : Int32)), .val (.ref w3)] [(.ref w3)])) rfl rfl (hb hby d1_21)
  have f15 := (F_perMmbtu_w3.keep K10 nin0)
  obtain ⟨T16, X16, e16, st16⟩ := getF X14 hx hZ hown (host := "") (Or.inl (hw _ (List.mem_of_getElem? (i := 33) rfl))) Via.refl e14 f15 (g := (mkF m 30 #[.val (.ref a1), .val (.ref b10_10), .val (.int (7 : Int32)), .val (.int (0 : Int32)), .val (.ref w3)] [(.ref w3)])) rfl rfl (hb hby d1_30)
  obtain ⟨_, _, ⟨T17, L17, k17, n17⟩, -, X17, ⟨Lc17, hQ17, l17, y17, z17⟩, st17⟩ := Jvm.LawKit.callS X16 hx (y := (⟨"java/util/Optional", "of", "(Ljava/lang/Object;)Ljava/util/Optional;"⟩ : MethodName)) hown (mvT hZ (hw _ (List.mem_of_getElem? (i := 35) rfl))) (mvT hZ (hw _ (List.mem_of_getElem? (i := 36) rfl))) (mvT hZ (hw _ (List.mem_of_getElem? (i := 37) rfl))) (mvT hZ (hw _ (List.mem_of_getElem? (i := 38) rfl))) (by decide) (backOf (W := 0) (rm3_1 l Z a0 hw [] w3 T10.heap n0 Z10) hZ (hw _ (List.mem_of_getElem? (i := 38) rfl)) (hw _ (List.mem_of_getElem? (i := 37) rfl)) (by decide) (by decide)) (g := (mkF m 38 #[.val (.ref a1), .val (.ref b10_10), .val (.int (7 : Int32)), .val (.int (0 : Int32)), .val (.ref w3)] [(.ref w3)])) rfl (by rw [hml]; rfl) (argsL := [(.ref w3)]) (rest := []) (lenOf pd_3 rfl) rfl (by show 2 * 0 + _ ≤ _; exact Nat.le_of_eq rfl) (hb hby d1_38) (fun _ _ => ⟨rfl, e16, (by decide : 1 + 1 ≤ _), (by decide : 7 + 1 ≤ _)⟩)
  dsimp only [Pt.U, Pt.locs, Pt.cells, Pt.slots] at X17 l17 y17 z17 st17 hQ17
  subst l17 y17 z17
  obtain ⟨b2_17, rfl, Nq17, K17, x17_0, x17_1, x17_2⟩ := hQ17
  have N17 := Fr.app N10 Nq17
  have sz_b2_17 : h0.size ≤ b2_17 := Nat.le_trans K0_10.1 x17_0
  have g_b2_17 : n0 ≤ b2_17 := Nat.le_trans Z0 sz_b2_17
  have K0_17 : Keep h0 T17.heap [] := K0_10.trans K17 all0
  have Z17 : n0 ≤ T17.heap.size := Nat.le_trans Z10 K17.1
  obtain ⟨fs, hr, hrun, hended, hW, hsame⟩ := X17.leave (v := some (.ref b2_17)) (fun h => by rw [Bd.returns] at h; cases h)
  refine ⟨_, _, pre0 _ ?_, hrun, hended, _, _, rfl, ?_, ⟨_, rfl⟩, hW, hsame.mono (by decide) (by decide)⟩
  · show Steps p.tables e below (s₁.setTop (mkF m 0 #[.val (.ref a1), .unset, .unset, .unset, .unset] [])) _
    refine st10 _ ?_
    show Steps p.tables e below (T10.setTop (mkF m 3 #[.val (.ref a1), .unset, .unset, .unset, .unset] [(.ref b10_10)])) _
    refine XS.astoreN X10.here hx rfl (hb hby d1_3) rfl rfl (l' := #[.val (.ref a1), .val (.ref b10_10), .unset, .unset, .unset]) rfl ?_
    show Steps p.tables e below (T10.setTop (mkF m 4 #[.val (.ref a1), .val (.ref b10_10), .unset, .unset, .unset] [])) _
    refine XS.aloadN X10.here hx rfl (hb hby d1_4) rfl rfl ?_
    show Steps p.tables e below (T10.setTop (mkF m 5 #[.val (.ref a1), .val (.ref b10_10), .unset, .unset, .unset] [(.ref b10_10)])) _
    refine X10.arraylength hx (Ar11.1) (State.isArrayOf_alike hZ.alike Ar11.2.1) (g := (mkF m 5 #[.val (.ref a1), .val (.ref b10_10), .unset, .unset, .unset] [(.ref b10_10)])) rfl rfl (hb hby d1_5) _ ?_
    rw [len_of S11 N_11]
    show Steps p.tables e below (T10.setTop (mkF m 6 #[.val (.ref a1), .val (.ref b10_10), .unset, .unset, .unset] [(.int (7 : Int32))])) _
    refine XS.istoreN X10.here hx rfl (hb hby d1_6) rfl (l' := #[.val (.ref a1), .val (.ref b10_10), .val (.int (7 : Int32)), .unset, .unset]) rfl ?_
    show Steps p.tables e below (T10.setTop (mkF m 7 #[.val (.ref a1), .val (.ref b10_10), .val (.int (7 : Int32)), .unset, .unset] [])) _
    refine XS.iconst X10.here hx rfl (hb hby d1_7) ?_
    show Steps p.tables e below (T10.setTop (mkF m 8 #[.val (.ref a1), .val (.ref b10_10), .val (.int (7 : Int32)), .unset, .unset] [(.int (0 : Int32))])) _
    refine XS.istoreN X10.here hx rfl (hb hby d1_8) rfl (l' := #[.val (.ref a1), .val (.ref b10_10), .val (.int (7 : Int32)), .val (.int (0 : Int32)), .unset]) rfl ?_
    show Steps p.tables e below (T10.setTop (mkF m 9 #[.val (.ref a1), .val (.ref b10_10), .val (.int (7 : Int32)), .val (.int (0 : Int32)), .unset] [])) _
    refine XS.iloadN X10.here hx rfl (hb hby d1_9) rfl ?_
    show Steps p.tables e below (T10.setTop (mkF m 10 #[.val (.ref a1), .val (.ref b10_10), .val (.int (7 : Int32)), .val (.int (0 : Int32)), .unset] [(.int (0 : Int32))])) _
    refine XS.iloadN X10.here hx rfl (hb hby d1_10) rfl ?_
    show Steps p.tables e below (T10.setTop (mkF m 11 #[.val (.ref a1), .val (.ref b10_10), .val (.int (7 : Int32)), .val (.int (0 : Int32)), .unset] [(.int (7 : Int32)), (.int (0 : Int32))])) _
    refine XS.icmpNo X10.here hx rfl (hb hby d1_11) rfl (tlt (by decide : (0 : Int32) < (7 : Int32))).2.1 ?_
    show Steps p.tables e below (T10.setTop (mkF m 14 #[.val (.ref a1), .val (.ref b10_10), .val (.int (7 : Int32)), .val (.int (0 : Int32)), .unset] [])) _
    refine XS.aloadN X10.here hx rfl (hb hby d1_14) rfl rfl ?_
    show Steps p.tables e below (T10.setTop (mkF m 15 #[.val (.ref a1), .val (.ref b10_10), .val (.int (7 : Int32)), .val (.int (0 : Int32)), .unset] [(.ref b10_10)])) _
    refine XS.iloadN X10.here hx rfl (hb hby d1_15) rfl ?_
    show Steps p.tables e below (T10.setTop (mkF m 16 #[.val (.ref a1), .val (.ref b10_10), .val (.int (7 : Int32)), .val (.int (0 : Int32)), .unset] [(.int (0 : Int32)), (.ref b10_10)])) _
    refine X10.aaload hx (j := (0 : Int32)) (v := (.ref w3)) (Ar12.1) (State.isArrayOf_alike hZ.alike Ar12.2.1) rfl Ar12.2.2 hin12 hat12 (g := (mkF m 16 #[.val (.ref a1), .val (.ref b10_10), .val (.int (7 : Int32)), .val (.int (0 : Int32)), .unset] [(.int (0 : Int32)), (.ref b10_10)])) rfl rfl (hb hby d1_16) _ ?_
    show Steps p.tables e below (T10.setTop (mkF m 17 #[.val (.ref a1), .val (.ref b10_10), .val (.int (7 : Int32)), .val (.int (0 : Int32)), .unset] [(.ref w3)])) _
    refine XS.astore X10.here hx rfl (hb hby d1_17) rfl rfl (l' := #[.val (.ref a1), .val (.ref b10_10), .val (.int (7 : Int32)), .val (.int (0 : Int32)), .val (.ref w3)]) rfl ?_
    show Steps p.tables e below (T10.setTop (mkF m 19 #[.val (.ref a1), .val (.ref b10_10), .val (.int (7 : Int32)), .val (.int (0 : Int32)), .val (.ref w3)] [])) _
    refine XS.aload X10.here hx rfl (hb hby d1_19) rfl rfl ?_
    show Steps p.tables e below (T10.setTop (mkF m 21 #[.val (.ref a1), .val (.ref b10_10), .val (.int (7 : Int32)), .val (.int (0 : Int32)), .val (.ref w3)] [(.ref w3)])) _
    refine st14 _ ?_
    show Steps p.tables e below (T14.setTop (mkF m 24 #[.val (.ref a1), .val (.ref b10_10), .val (.int (7 : Int32)), .val (.int (0 : Int32)), .val (.ref w3)] [(.ref a1)])) _
    refine XS.aloadN X14.here hx rfl (hb hby d1_24) rfl rfl ?_
    show Steps p.tables e below (T14.setTop (mkF m 25 #[.val (.ref a1), .val (.ref b10_10), .val (.int (7 : Int32)), .val (.int (0 : Int32)), .val (.ref w3)] [(.ref a1), (.ref a1)])) _
    refine Jvm.RoadKit.acmp (g := (mkF m 25 #[.val (.ref a1), .val (.ref b10_10), .val (.int (7 : Int32)), .val (.int (0 : Int32)), .val (.ref w3)] [(.ref a1), (.ref a1)])) X14 hx rfl rfl rfl (pc0 := 25) (pc' := 28) (same := true) rfl (hb hby d1_25) rfl (decide_eq_true rfl) (by decide) (by decide) ?_
    show Steps p.tables e below (T14.setTop (mkF m 28 #[.val (.ref a1), .val (.ref b10_10), .val (.int (7 : Int32)), .val (.int (0 : Int32)), .val (.ref w3)] [])) _
    refine XS.aload X14.here hx rfl (hb hby d1_28) rfl rfl ?_
    show Steps p.tables e below (T14.setTop (mkF m 30 #[.val (.ref a1), .val (.ref b10_10), .val (.int (7 : Int32)), .val (.int (0 : Int32)), .val (.ref w3)] [(.ref w3)])) _
    refine st16 _ ?_
    show Steps p.tables e below (T16.setTop (mkF m 33 #[.val (.ref a1), .val (.ref b10_10), .val (.int (7 : Int32)), .val (.int (0 : Int32)), .val (.ref w3)] [(.int (0 : Int32))])) _
    refine XS.ifNo X16.here hx rfl (hb hby d1_33) rfl ((if0 _ _).trans (teq (rfl : (0 : Int32) = (0 : Int32))).2) ?_
    show Steps p.tables e below (T16.setTop (mkF m 36 #[.val (.ref a1), .val (.ref b10_10), .val (.int (7 : Int32)), .val (.int (0 : Int32)), .val (.ref w3)] [])) _
    refine XS.aload X16.here hx rfl (hb hby d1_36) rfl rfl ?_
    show Steps p.tables e below (T16.setTop (mkF m 38 #[.val (.ref a1), .val (.ref b10_10), .val (.int (7 : Int32)), .val (.int (0 : Int32)), .val (.ref w3)] [(.ref w3)])) _
    refine st17 _ ?_
    show Steps p.tables e below (T17.setTop (mkF m 41 #[.val (.ref a1), .val (.ref b10_10), .val (.int (7 : Int32)), .val (.int (0 : Int32)), .val (.ref w3)] [(.ref b2_17)])) _
    jvm_step X17.here [X17.here.top, hx, (hb hby d1_41), X17.method', Bd.returns, Value.isRef, FieldType.isReference]
    first | (intro acts; rw [hr _ acts rfl rfl rfl]) | rw [hr _ _ rfl rfl rfl]
    exact Steps.refl _
  · show Q1_1 Z a1 w2 k_w2 w3 w4 w5 w6 w7 w8 w9 h0 n0 _ T17.heap _
    exact ⟨b2_17, rfl, N17, K0_17, sz_b2_17, x17_1, x17_2⟩
theorem pd_4 : parseMethodDescriptor "(Lcom/example/tipple_ledger/tippleledger/terms/Characteristic;)Ljava/util/Optional;" = some ⟨[(.object "com/example/tipple_ledger/tippleledger/terms/Characteristic")], some (.object "java/util/Optional")⟩ := by decide +kernel
theorem d7_0 : decode jdk_32_method_15_code 0 = .ok (.aload_n 0, 1) := by decide +kernel
theorem d7_1 : decode jdk_32_method_15_code 1 = .ok (.getfield 13, 3) := by decide +kernel
theorem d7_4 : decode jdk_32_method_15_code 4 = .ok (.ifnull 10, 3) := by decide +kernel
theorem d7_7 : decode jdk_32_method_15_code 7 = .ok (.aload_n 0, 1) := by decide +kernel
theorem d7_8 : decode jdk_32_method_15_code 8 = .ok (.getfield 13, 3) := by decide +kernel
theorem d7_11 : decode jdk_32_method_15_code 11 = .ok (.goto 4, 3) := by decide +kernel
theorem d7_15 : decode jdk_32_method_15_code 15 = .ok (.areturn, 1) := by decide +kernel
theorem ef_7_RN (m : MethodId) (x0 : Addr) : entryFrame m #[(.ref x0), .null] 2 = mkF m 0 #[.val (.ref x0), .val .null] [] := by first | (simp [entryFrame, mkF, argsToLocals, Value.category]; done) | rfl
theorem pn_7 : plainName "java/util/Optional" = true := by first | (simp [plainName, overriddenIn]; done) | decide +kernel
def Q7_1 (Z : State) (a1 : Addr) (w2 : Addr) (h0 : Heap) (n0 : Nat) (v : Option Value) (h : Heap) (L : List Loc) : Prop := v = some (.ref w2) ∧ Fr n0 L ∧ h = h0
set_option maxRecDepth 65536 in
set_option maxHeartbeats 40000000 in
theorem rm7_1 (l : Launch) (Z : State) (a0 : Array Value) (hw : ∀ d ∈ tables_1, d.before a0 Z = true) (ws : List Jvm.Cond) (a1 : Addr) (w2 : Addr) (h0 : Heap) (n0 : Nat) (Z0 : n0 ≤ h0.size) (F_value_a1 : Fld Z h0 a1 "java/util/Optional" "value" "Ljava/lang/Object;" (.ref w2)) :
    MetFree l (⟨"java/util/Optional", "orElse", "(Ljava/lang/Object;)Ljava/lang/Object;"⟩ : MethodName) (head1 (Jvm.Cond.code (⟨"java/util/Optional", "orElse", "(Ljava/lang/Object;)Ljava/lang/Object;"⟩ : MethodName) jdk_32_method_15_code 2 (some (.object "java/lang/Object")) :: ws) ({ frames := 0, cells := 0, slots := 0, locals := 0 } : Room)) (fun a U => a = #[(.ref a1), .null] ∧ Z.Warmed39 U.vm ∧ U.heap = h0) (fun _ _ _ _ _ => True) (fun _ U o U' => ∃ v L, o = .returned v ∧ Q7_1 Z a1 w2 h0 n0 v U'.heap L ∧ FrameEnd U o U' L ({ frames := 0, cells := 0, slots := 0, locals := 0 } : Room).cells ({ frames := 0, cells := 0, slots := 0, locals := 0 } : Room).slots) := by
  refine MetFree.of_bodySF (plainFor_of_name pn_7) hisR ?_
  intro p e s m args below meth c s₁ Bd hml0 hP hK
  obtain ⟨rfl, hZ, hh⟩ := hP
  have hx := Bd.exec
  have hby := Bd.bytes
  have hml : c.maxLocals = 2 := hml0
  have hown : s.vm.findClass "java/util/Optional" = some m.cls := findClass_of_methodNamed Bd.named
  have hnm := (name_of_methodNamed Bd.named Bd.method).1
  have X0 : Stand p l e ({ frames := 0, cells := 0, slots := 0, locals := 0 } : Room) s m #[(.ref a1), .null] below meth c s₁ [] 0 0 := Stand.of_body Bd
  have e0 : s₁.heap = h0 := by rw [← hh, Bd.state]; rfl
  have N0 := Fr.nil n0
  have pre0 : ∀ t, Steps p.tables e below (s₁.setTop (mkF m 0 #[.val (.ref a1), .val .null] [])) t → Steps p.tables e below (s₁.setTop (entryFrame m #[(.ref a1), .null] 2)) t := fun t k => castTop (ef_7_RN m a1) k
  obtain ⟨T3, X3, e3, st3⟩ := getF X0 hx hZ hown (host := "") (Or.inl (hw _ (List.mem_of_getElem? (i := 52) rfl))) Via.refl e0 F_value_a1 (g := (mkF m 1 #[.val (.ref a1), .val .null] [(.ref a1)])) rfl rfl (hb hby d7_1)
  obtain ⟨T4, X4, e4, st4⟩ := getF X3 hx hZ hown (host := "") (Or.inl (hw _ (List.mem_of_getElem? (i := 52) rfl))) Via.refl e3 F_value_a1 (g := (mkF m 8 #[.val (.ref a1), .val .null] [(.ref a1)])) rfl rfl (hb hby d7_8)
  obtain ⟨fs, hr, hrun, hended, hW, hsame⟩ := X4.leave (v := some (.ref w2)) (fun h => by rw [Bd.returns] at h; cases h)
  refine ⟨_, _, pre0 _ ?_, hrun, hended, _, _, rfl, ?_, ⟨_, rfl⟩, hW, hsame.mono (by decide) (by decide)⟩
  · show Steps p.tables e below (s₁.setTop (mkF m 0 #[.val (.ref a1), .val .null] [])) _
    refine XS.aloadN X0.here hx rfl (hb hby d7_0) rfl rfl ?_
    show Steps p.tables e below (s₁.setTop (mkF m 1 #[.val (.ref a1), .val .null] [(.ref a1)])) _
    refine st3 _ ?_
    show Steps p.tables e below (T3.setTop (mkF m 4 #[.val (.ref a1), .val .null] [(.ref w2)])) _
    refine XS.ifnullNo X3.here hx rfl (hb hby d7_4) rfl ?_
    show Steps p.tables e below (T3.setTop (mkF m 7 #[.val (.ref a1), .val .null] [])) _
    refine XS.aloadN X3.here hx rfl (hb hby d7_7) rfl rfl ?_
    show Steps p.tables e below (T3.setTop (mkF m 8 #[.val (.ref a1), .val .null] [(.ref a1)])) _
    refine st4 _ ?_
    show Steps p.tables e below (T4.setTop (mkF m 11 #[.val (.ref a1), .val .null] [(.ref w2)])) _
    refine XS.goto X4.here hx rfl (pc0 := 11) (pc' := 15) rfl (hb hby d7_11) (by decide) (by decide) ?_
    show Steps p.tables e below (T4.setTop (mkF m 15 #[.val (.ref a1), .val .null] [(.ref w2)])) _
    jvm_step X4.here [X4.here.top, hx, (hb hby d7_15), X4.method', Bd.returns, Value.isRef, FieldType.isReference]
    first | (intro acts; rw [hr _ acts rfl rfl rfl]) | rw [hr _ _ rfl rfl rfl]
    exact Steps.refl _
  · show Q7_1 Z a1 w2 h0 n0 _ T4.heap _
    rw [e4]
    exact ⟨rfl, N0, rfl⟩
theorem d8_0 : decode prog_194_method_4_code 0 = .ok (.aload_n 0, 1) := by decide +kernel
theorem d8_1 : decode prog_194_method_4_code 1 = .ok (.getfield 44, 3) := by decide +kernel
theorem d8_4 : decode prog_194_method_4_code 4 = .ok (.areturn, 1) := by decide +kernel
theorem ef_8_R (m : MethodId) (x0 : Addr) : entryFrame m #[(.ref x0)] 1 = mkF m 0 #[.val (.ref x0)] [] := by first | (simp [entryFrame, mkF, argsToLocals, Value.category]; done) | rfl
theorem pn_8 : plainName "com/example/tipple_ledger/tippleledger/terms/WeightedAverage" = true := by first | (simp [plainName, overriddenIn]; done) | decide +kernel
def Q8_1 (Z : State) (a1 : Addr) (w2 : Addr) (h0 : Heap) (n0 : Nat) (v : Option Value) (h : Heap) (L : List Loc) : Prop := v = some (.ref w2) ∧ Fr n0 L ∧ h = h0
set_option maxRecDepth 65536 in
set_option maxHeartbeats 40000000 in
theorem rm8_1 (l : Launch) (Z : State) (a0 : Array Value) (hw : ∀ d ∈ tables_1, d.before a0 Z = true) (ws : List Jvm.Cond) (a1 : Addr) (w2 : Addr) (h0 : Heap) (n0 : Nat) (Z0 : n0 ≤ h0.size) (F_characteristic_a1 : Fld Z h0 a1 "com/example/tipple_ledger/tippleledger/terms/WeightedAverage" "characteristic" "Lcom/example/tipple_ledger/tippleledger/terms/Characteristic;" (.ref w2)) :
    MetFree l (⟨"com/example/tipple_ledger/tippleledger/terms/WeightedAverage", "characteristic", "()Lcom/example/tipple_ledger/tippleledger/terms/Characteristic;"⟩ : MethodName) (head1 (Jvm.Cond.code (⟨"com/example/tipple_ledger/tippleledger/terms/WeightedAverage", "characteristic", "()Lcom/example/tipple_ledger/tippleledger/terms/Characteristic;"⟩ : MethodName) prog_194_method_4_code 1 (some (.object "com/example/tipple_ledger/tippleledger/terms/Characteristic")) :: ws) ({ frames := 0, cells := 0, slots := 0, locals := 0 } : Room)) (fun a U => a = #[(.ref a1)] ∧ Z.Warmed39 U.vm ∧ U.heap = h0) (fun _ _ _ _ _ => True) (fun _ U o U' => ∃ v L, o = .returned v ∧ Q8_1 Z a1 w2 h0 n0 v U'.heap L ∧ FrameEnd U o U' L ({ frames := 0, cells := 0, slots := 0, locals := 0 } : Room).cells ({ frames := 0, cells := 0, slots := 0, locals := 0 } : Room).slots) := by
  refine MetFree.of_bodySF (plainFor_of_name pn_8) hisR ?_
  intro p e s m args below meth c s₁ Bd hml0 hP hK
  obtain ⟨rfl, hZ, hh⟩ := hP
  have hx := Bd.exec
  have hby := Bd.bytes
  have hml : c.maxLocals = 1 := hml0
  have hown : s.vm.findClass "com/example/tipple_ledger/tippleledger/terms/WeightedAverage" = some m.cls := findClass_of_methodNamed Bd.named
  have hnm := (name_of_methodNamed Bd.named Bd.method).1
  have X0 : Stand p l e ({ frames := 0, cells := 0, slots := 0, locals := 0 } : Room) s m #[(.ref a1)] below meth c s₁ [] 0 0 := Stand.of_body Bd
  have e0 : s₁.heap = h0 := by rw [← hh, Bd.state]; rfl
  have N0 := Fr.nil n0
  have pre0 : ∀ t, Steps p.tables e below (s₁.setTop (mkF m 0 #[.val (.ref a1)] [])) t → Steps p.tables e below (s₁.setTop (entryFrame m #[(.ref a1)] 1)) t := fun t k => castTop (ef_8_R m a1) k
  obtain ⟨T3, X3, e3, st3⟩ := getF X0 hx hZ hown (host := "") (Or.inl (hw _ (List.mem_of_getElem? (i := 31) rfl))) Via.refl e0 F_characteristic_a1 (g := (mkF m 1 #[.val (.ref a1)] [(.ref a1)])) rfl rfl (hb hby d8_1)
  obtain ⟨fs, hr, hrun, hended, hW, hsame⟩ := X3.leave (v := some (.ref w2)) (fun h => by rw [Bd.returns] at h; cases h)
  refine ⟨_, _, pre0 _ ?_, hrun, hended, _, _, rfl, ?_, ⟨_, rfl⟩, hW, hsame.mono (by decide) (by decide)⟩
  · show Steps p.tables e below (s₁.setTop (mkF m 0 #[.val (.ref a1)] [])) _
    refine XS.aloadN X0.here hx rfl (hb hby d8_0) rfl rfl ?_
    show Steps p.tables e below (s₁.setTop (mkF m 1 #[.val (.ref a1)] [(.ref a1)])) _
    refine st3 _ ?_
    show Steps p.tables e below (T3.setTop (mkF m 4 #[.val (.ref a1)] [(.ref w2)])) _
    jvm_step X3.here [X3.here.top, hx, (hb hby d8_4), X3.method', Bd.returns, Value.isRef, FieldType.isReference]
    first | (intro acts; rw [hr _ acts rfl rfl rfl]) | rw [hr _ _ rfl rfl rfl]
    exact Steps.refl _
  · show Q8_1 Z a1 w2 h0 n0 _ T3.heap _
    rw [e3]
    exact ⟨rfl, N0, rfl⟩
theorem pd_5 : parseMethodDescriptor "()Lcom/example/tipple_ledger/tippleledger/terms/Characteristic;" = some ⟨[], some (.object "com/example/tipple_ledger/tippleledger/terms/Characteristic")⟩ := by decide +kernel
theorem d9_0 : decode prog_194_method_7_code 0 = .ok (.aload_n 0, 1) := by decide +kernel
theorem d9_1 : decode prog_194_method_7_code 1 = .ok (.getfield 55, 3) := by decide +kernel
theorem d9_4 : decode prog_194_method_7_code 4 = .ok (.ireturn, 1) := by decide +kernel
theorem ef_9_R (m : MethodId) (x0 : Addr) : entryFrame m #[(.ref x0)] 1 = mkF m 0 #[.val (.ref x0)] [] := by first | (simp [entryFrame, mkF, argsToLocals, Value.category]; done) | rfl
theorem pn_9 : plainName "com/example/tipple_ledger/tippleledger/terms/WeightedAverage" = true := by first | (simp [plainName, overriddenIn]; done) | decide +kernel
def Q9_1 (Z : State) (a1 : Addr) (h0 : Heap) (n0 : Nat) (v : Option Value) (h : Heap) (L : List Loc) : Prop := v = some (.int (0 : Int32)) ∧ Fr n0 L ∧ h = h0
set_option maxRecDepth 65536 in
set_option maxHeartbeats 40000000 in
theorem rm9_1 (l : Launch) (Z : State) (a0 : Array Value) (hw : ∀ d ∈ tables_1, d.before a0 Z = true) (ws : List Jvm.Cond) (a1 : Addr) (h0 : Heap) (n0 : Nat) (Z0 : n0 ≤ h0.size) (F_perMmbtu_a1 : Fld Z h0 a1 "com/example/tipple_ledger/tippleledger/terms/WeightedAverage" "perMmbtu" "Z" (.int (0 : Int32))) :
    MetFree l (⟨"com/example/tipple_ledger/tippleledger/terms/WeightedAverage", "perMmbtu", "()Z"⟩ : MethodName) (head1 (Jvm.Cond.code (⟨"com/example/tipple_ledger/tippleledger/terms/WeightedAverage", "perMmbtu", "()Z"⟩ : MethodName) prog_194_method_7_code 1 (some .boolean) :: ws) ({ frames := 0, cells := 0, slots := 0, locals := 0 } : Room)) (fun a U => a = #[(.ref a1)] ∧ Z.Warmed39 U.vm ∧ U.heap = h0) (fun _ _ _ _ _ => True) (fun _ U o U' => ∃ v L, o = .returned v ∧ Q9_1 Z a1 h0 n0 v U'.heap L ∧ FrameEnd U o U' L ({ frames := 0, cells := 0, slots := 0, locals := 0 } : Room).cells ({ frames := 0, cells := 0, slots := 0, locals := 0 } : Room).slots) := by
  refine MetFree.of_bodySF (plainFor_of_name pn_9) hisR ?_
  intro p e s m args below meth c s₁ Bd hml0 hP hK
  obtain ⟨rfl, hZ, hh⟩ := hP
  have hx := Bd.exec
  have hby := Bd.bytes
  have hml : c.maxLocals = 1 := hml0
  have hown : s.vm.findClass "com/example/tipple_ledger/tippleledger/terms/WeightedAverage" = some m.cls := findClass_of_methodNamed Bd.named
  have hnm := (name_of_methodNamed Bd.named Bd.method).1
  have X0 : Stand p l e ({ frames := 0, cells := 0, slots := 0, locals := 0 } : Room) s m #[(.ref a1)] below meth c s₁ [] 0 0 := Stand.of_body Bd
  have e0 : s₁.heap = h0 := by rw [← hh, Bd.state]; rfl
  have N0 := Fr.nil n0
  have pre0 : ∀ t, Steps p.tables e below (s₁.setTop (mkF m 0 #[.val (.ref a1)] [])) t → Steps p.tables e below (s₁.setTop (entryFrame m #[(.ref a1)] 1)) t := fun t k => castTop (ef_9_R m a1) k
  obtain ⟨T2, X2, e2, st2⟩ := getF X0 hx hZ hown (host := "") (Or.inl (hw _ (List.mem_of_getElem? (i := 33) rfl))) Via.refl e0 F_perMmbtu_a1 (g := (mkF m 1 #[.val (.ref a1)] [(.ref a1)])) rfl rfl (hb hby d9_1)
  obtain ⟨fs, hr, hrun, hended, hW, hsame⟩ := X2.leave (v := some (.int (0 : Int32))) (fun h => by rw [Bd.returns] at h; cases h)
  refine ⟨_, _, pre0 _ ?_, hrun, hended, _, _, rfl, ?_, ⟨_, rfl⟩, hW, hsame.mono (by decide) (by decide)⟩
  · show Steps p.tables e below (s₁.setTop (mkF m 0 #[.val (.ref a1)] [])) _
    refine XS.aloadN X0.here hx rfl (hb hby d9_0) rfl rfl ?_
    show Steps p.tables e below (s₁.setTop (mkF m 1 #[.val (.ref a1)] [(.ref a1)])) _
    refine st2 _ ?_
    show Steps p.tables e below (T2.setTop (mkF m 4 #[.val (.ref a1)] [(.int (0 : Int32))])) _
    exact retN X2 hx (t := .boolean) Bd.returns (by simp) (hb hby d9_4) hr
  · show Q9_1 Z a1 h0 n0 _ T2.heap _
    rw [e2]
    exact ⟨rfl, N0, rfl⟩
theorem pd_6 : parseMethodDescriptor "()Z" = some ⟨[], some .boolean⟩ := by decide +kernel
theorem ef_0_I (m : MethodId) (x0 : Int32) : entryFrame m #[(.int x0)] maxLocals = mkF m 0 #[.val (.int x0), .unset, .unset, .unset, .unset] [] := by first | (simp [entryFrame, mkF, argsToLocals, Value.category, maxLocals]; done) | rfl
theorem pn_0 : plainName "com/example/tipple_ledger/tippleledger/terms/WeightedAverageByTonsPinLaw" = true := by first | (simp [plainName, overriddenIn]; done) | decide +kernel
set_option maxRecDepth 65536 in
set_option maxHeartbeats 40000000 in
theorem rm0_1 (l : Launch) (Z : State) (a0 : Array Value) (hw : ∀ d ∈ tables_1, d.before a0 Z = true) (ws : List Jvm.Cond) (p1 : Int32) (w3 : Addr) (w5 : Addr) (w7 : Addr) (k_w7 : ClassId) (w8 : Addr) (w9 : Addr) (w10 : Addr) (w11 : Addr) (w12 : Addr) (w13 : Addr) (h0 : Heap) (n0 : Nat) (Z0 : n0 ≤ h0.size) (P2 : ((p1 &&& (2147483647 : Int32)) % (7 : Int32)) = (0 : Int32)) (S_HEATING_VALUE : Sta Z h0 "com/example/tipple_ledger/tippleledger/terms/Characteristic" "HEATING_VALUE" "Lcom/example/tipple_ledger/tippleledger/terms/Characteristic;" (.ref w3)) (S_HEATING_VALUE' : Sta Z h0 "com/example/tipple_ledger/tippleledger/terms/WeightedAverage" "HEATING_VALUE" "Lcom/example/tipple_ledger/tippleledger/terms/WeightedAverage;" (.ref w5)) (F_perMmbtu_w5 : Fld Z h0 w5 "com/example/tipple_ledger/tippleledger/terms/WeightedAverage" "perMmbtu" "Z" (.int (0 : Int32))) (V_w7 : Arv Z h0 w7 k_w7 (.object "com/example/tipple_ledger/tippleledger/terms/WeightedAverage") (7 : Int32) [(.ref w5), (.ref w8), (.ref w9), (.ref w10), (.ref w11), (.ref w12), (.ref w13)] .null) (S__VALUES : Sta Z h0 "com/example/tipple_ledger/tippleledger/terms/WeightedAverage" "$VALUES" "[Lcom/example/tipple_ledger/tippleledger/terms/WeightedAverage;" (.ref w7)) (E_w7 : Exa Z h0 w7 "[Lcom/example/tipple_ledger/tippleledger/terms/WeightedAverage;") (F_characteristic_w5 : Fld Z h0 w5 "com/example/tipple_ledger/tippleledger/terms/WeightedAverage" "characteristic" "Lcom/example/tipple_ledger/tippleledger/terms/Characteristic;" (.ref w3)) (E_w5 : Exa Z h0 w5 "com/example/tipple_ledger/tippleledger/terms/WeightedAverage") :
    MetFree l x (head1 (Jvm.Cond.code x code maxLocals ret :: ws) room_1) (fun a U => a = #[(.int p1)] ∧ Z.Warmed39 U.vm ∧ U.heap = h0) (fun _ _ _ _ _ => True) (fun _ U o U' => ∃ v L, o = .returned v ∧ own_QT n0 v L ∧ FrameEnd U o U' L room_1.cells room_1.slots) := by
  refine MetFree.of_bodySF (plainFor_of_name pn_0) hisR ?_
  intro p e s m args below meth c s₁ Bd hml0 hP hK
  obtain ⟨rfl, hZ, hh⟩ := hP
  have hx := Bd.exec
  have hby := Bd.bytes
  have hml : c.maxLocals = 5 := hml0
  have hown : s.vm.findClass "com/example/tipple_ledger/tippleledger/terms/WeightedAverageByTonsPinLaw" = some m.cls := findClass_of_methodNamed Bd.named
  have hnm := (name_of_methodNamed Bd.named Bd.method).1
  have X0 : Stand p l e room_1 s m #[(.int p1)] below meth c s₁ [] 0 0 := Stand.of_body Bd
  have e0 : s₁.heap = h0 := by rw [← hh, Bd.state]; rfl
  have N0 := Fr.nil n0
  have pre0 : ∀ t, Steps p.tables e below (s₁.setTop (mkF m 0 #[.val (.int p1), .unset, .unset, .unset, .unset] [])) t → Steps p.tables e below (s₁.setTop (entryFrame m #[(.int p1)] maxLocals)) t := fun t k => castTop (ef_0_I m p1) k
  obtain ⟨T4, X4, e4, st4⟩ := getS2 X0 hx hZ hown (host := "") (Or.inl (hw _ (List.mem_of_getElem? (i := 1) rfl))) Via.refl e0 S_HEATING_VALUE (g := (mkF m 12 #[.val (.int p1), .val (.int ((p1 &&& (2147483647 : Int32)) % (7 : Int32))), .unset, .unset, .unset] [])) rfl (hb hby at_12)
  obtain ⟨T6, X6, e6, st6⟩ := getS2 X4 hx hZ hown (host := "") (Or.inl (hw _ (List.mem_of_getElem? (i := 4) rfl))) Via.refl e4 S_HEATING_VALUE' (g := (mkF m 16 #[.val (.int p1), .val (.int ((p1 &&& (2147483647 : Int32)) % (7 : Int32))), .val (.ref w3), .unset, .unset] [])) rfl (hb hby at_16)
  obtain ⟨_, _, ⟨T14, L14, k14, n14⟩, -, X14, ⟨Lc14, hQ14, l14, y14, z14⟩, st14⟩ := Jvm.LawKit.callS X6 hx (y := (⟨"com/example/tipple_ledger/tippleledger/terms/WeightedAverage", "byTons", "(Lcom/example/tipple_ledger/tippleledger/terms/Characteristic;)Ljava/util/Optional;"⟩ : MethodName)) hown (mvT hZ (hw _ (List.mem_of_getElem? (i := 7) rfl))) (mvT hZ (hw _ (List.mem_of_getElem? (i := 8) rfl))) (mvT hZ (hw _ (List.mem_of_getElem? (i := 5) rfl))) (mvT hZ (hw _ (List.mem_of_getElem? (i := 9) rfl))) (by decide) (backOf (W := 0) (rm1_1 l Z a0 hw [] w3 w7 k_w7 w5 w8 w9 w10 w11 w12 w13 h0 n0 Z0 V_w7 S__VALUES E_w7 F_characteristic_w5 F_perMmbtu_w5) hZ (hw _ (List.mem_of_getElem? (i := 9) rfl)) (hw _ (List.mem_of_getElem? (i := 5) rfl)) (by decide) (by decide)) (g := (mkF m 106 #[.val (.int p1), .val (.int ((p1 &&& (2147483647 : Int32)) % (7 : Int32))), .val (.ref w3), .val (.ref w5), .unset] [(.ref w3)])) rfl (by rw [hml]; rfl) (argsL := [(.ref w3)]) (rest := []) (lenOf pd_4 rfl) rfl (by show 2 * 0 + _ ≤ _; exact Nat.le_of_eq rfl) (hb hby at_106) (fun _ _ => ⟨rfl, e6, (by decide : 0 + 2 ≤ _), (by decide : 0 + 8 ≤ _)⟩)
  dsimp only [Pt.U, Pt.locs, Pt.cells, Pt.slots] at X14 l14 y14 z14 st14 hQ14
  subst l14 y14 z14
  obtain ⟨b2_17_14, rfl, Nq14, K14, x14_0, x14_1, x14_2⟩ := hQ14
  have N14 := Fr.app N0 Nq14
  have sz_b2_17_14 : h0.size ≤ b2_17_14 := Nat.le_trans (Keep.refl h0 []).1 x14_0
  have g_b2_17_14 : n0 ≤ b2_17_14 := Nat.le_trans Z0 sz_b2_17_14
  have K0_14 : Keep h0 T14.heap [] := (Keep.refl h0 []).trans K14 all0
  have Z14 : n0 ≤ T14.heap.size := Nat.le_trans Z0 K14.1
  obtain ⟨cq15, kq15, q15a, q15b, q15c⟩ := isOf hZ rfl x14_1
  obtain ⟨_, _, ⟨T15, L15, k15, n15⟩, -, X15, ⟨Lc15, hQ15, l15, y15, z15⟩, st15⟩ := X14.virtualBack hx (y := (⟨"java/util/Optional", "orElse", "(Ljava/lang/Object;)Ljava/lang/Object;"⟩ : MethodName)) (z := (⟨"java/util/Optional", "orElse", "(Ljava/lang/Object;)Ljava/lang/Object;"⟩ : MethodName)) hown (mvT hZ (hw _ (List.mem_of_getElem? (i := 54) rfl))) (mvT hZ (hw _ (List.mem_of_getElem? (i := 55) rfl))) (notFace_of_selects (args := #[]) (mvT hZ (hw _ (List.mem_of_getElem? (i := 57) rfl)))) (mvT hZ (hw _ (List.mem_of_getElem? (i := 57) rfl))) (mvT hZ (hw _ (List.mem_of_getElem? (i := 56) rfl))) (by decide) (backOf (W := 0) (rm7_1 l Z a0 hw [] b2_17_14 w5 T14.heap n0 Z14 x14_2) hZ (hw _ (List.mem_of_getElem? (i := 58) rfl)) (hw _ (List.mem_of_getElem? (i := 37) rfl)) (by decide) (by decide)) q15a q15c (g := (mkF m 110 #[.val (.int p1), .val (.int ((p1 &&& (2147483647 : Int32)) % (7 : Int32))), .val (.ref w3), .val (.ref w5), .unset] [.null, (.ref b2_17_14)])) rfl (by rw [hml]; rfl) (Steps.refl _) (argsL := [.null]) (rest := []) (lenOf pd_1 rfl) rfl (by show 2 * 0 + _ ≤ _; exact Nat.le_of_eq rfl) (hb hby at_110) (fun _ _ => ⟨rfl, rfl, (by decide : 2 + 0 ≤ _), (by decide : 8 + 0 ≤ _)⟩)
  dsimp only [Pt.U, Pt.locs, Pt.cells, Pt.slots] at X15 l15 y15 z15 st15 hQ15
  subst l15 y15 z15
  obtain ⟨rfl, Nq15, e15⟩ := hQ15
  have N15 := Fr.app N14 Nq15
  have f16 := (E_w5.keep K14)
  obtain ⟨T17, X17, e17, st17⟩ := castY X15 hx hZ hown (hw _ (List.mem_of_getElem? (i := 59) rfl)) e15 (Ins.self f16) (g := (mkF m 113 #[.val (.int p1), .val (.int ((p1 &&& (2147483647 : Int32)) % (7 : Int32))), .val (.ref w3), .val (.ref w5), .unset] [(.ref w5)])) rfl rfl (hb hby at_113)
  have f18 := (F_characteristic_w5.keep K14 nin0)
  obtain ⟨cq19, kq19, q19a, q19b, q19c⟩ := isOf hZ e17 f16
  obtain ⟨_, _, ⟨T19, L19, k19, n19⟩, -, X19, ⟨Lc19, hQ19, l19, y19, z19⟩, st19⟩ := X17.virtualBack hx (y := (⟨"com/example/tipple_ledger/tippleledger/terms/WeightedAverage", "characteristic", "()Lcom/example/tipple_ledger/tippleledger/terms/Characteristic;"⟩ : MethodName)) (z := (⟨"com/example/tipple_ledger/tippleledger/terms/WeightedAverage", "characteristic", "()Lcom/example/tipple_ledger/tippleledger/terms/Characteristic;"⟩ : MethodName)) hown (mvT hZ (hw _ (List.mem_of_getElem? (i := 61) rfl))) (mvT hZ (hw _ (List.mem_of_getElem? (i := 62) rfl))) (notFace_of_selects (args := #[]) (mvT hZ (hw _ (List.mem_of_getElem? (i := 64) rfl)))) (mvT hZ (hw _ (List.mem_of_getElem? (i := 64) rfl))) (mvT hZ (hw _ (List.mem_of_getElem? (i := 63) rfl))) (by decide) (backOf (W := 0) (rm8_1 l Z a0 hw [] w5 w3 T14.heap n0 Z14 f18) hZ (hw _ (List.mem_of_getElem? (i := 65) rfl)) (hw _ (List.mem_of_getElem? (i := 5) rfl)) (by decide) (by decide)) q19a q19c (g := (mkF m 135 #[.val (.int p1), .val (.int ((p1 &&& (2147483647 : Int32)) % (7 : Int32))), .val (.ref w3), .val (.ref w5), .val (.ref w5)] [(.ref w5)])) rfl (by rw [hml]; rfl) (Steps.refl _) (argsL := []) (rest := []) (lenOf pd_5 rfl) rfl (by show 2 * 0 + _ ≤ _; exact Nat.le_of_eq rfl) (hb hby at_135) (fun _ _ => ⟨rfl, e17, (by decide : 2 + 0 ≤ _), (by decide : 8 + 0 ≤ _)⟩)
  dsimp only [Pt.U, Pt.locs, Pt.cells, Pt.slots] at X19 l19 y19 z19 st19 hQ19
  subst l19 y19 z19
  obtain ⟨rfl, Nq19, e19⟩ := hQ19
  have N19 := Fr.app N15 Nq19
  have f20 := (F_perMmbtu_w5.keep K14 nin0)
  obtain ⟨cq21, kq21, q21a, q21b, q21c⟩ := isOf hZ e19 f16
  obtain ⟨_, _, ⟨T21, L21, k21, n21⟩, -, X21, ⟨Lc21, hQ21, l21, y21, z21⟩, st21⟩ := X19.virtualBack hx (y := (⟨"com/example/tipple_ledger/tippleledger/terms/WeightedAverage", "perMmbtu", "()Z"⟩ : MethodName)) (z := (⟨"com/example/tipple_ledger/tippleledger/terms/WeightedAverage", "perMmbtu", "()Z"⟩ : MethodName)) hown (mvT hZ (hw _ (List.mem_of_getElem? (i := 66) rfl))) (mvT hZ (hw _ (List.mem_of_getElem? (i := 67) rfl))) (notFace_of_selects (args := #[]) (mvT hZ (hw _ (List.mem_of_getElem? (i := 69) rfl)))) (mvT hZ (hw _ (List.mem_of_getElem? (i := 69) rfl))) (mvT hZ (hw _ (List.mem_of_getElem? (i := 68) rfl))) (by decide) (backOf (W := 0) (rm9_1 l Z a0 hw [] w5 T14.heap n0 Z14 f20) hZ (hw _ (List.mem_of_getElem? (i := 70) rfl)) (hw _ (List.mem_of_getElem? (i := 5) rfl)) (by decide) (by decide)) q21a q21c (g := (mkF m 144 #[.val (.int p1), .val (.int ((p1 &&& (2147483647 : Int32)) % (7 : Int32))), .val (.ref w3), .val (.ref w5), .val (.ref w5)] [(.ref w5)])) rfl (by rw [hml]; rfl) (Steps.refl _) (argsL := []) (rest := []) (lenOf pd_6 rfl) rfl (by show 2 * 0 + _ ≤ _; exact Nat.le_of_eq rfl) (hb hby at_144) (fun _ _ => ⟨rfl, e19, (by decide : 2 + 0 ≤ _), (by decide : 8 + 0 ≤ _)⟩)
  dsimp only [Pt.U, Pt.locs, Pt.cells, Pt.slots] at X21 l21 y21 z21 st21 hQ21
  subst l21 y21 z21
  obtain ⟨rfl, Nq21, e21⟩ := hQ21
  have N21 := Fr.app N19 Nq21
  obtain ⟨fs, hr, hrun, hended, hW, hsame⟩ := X21.leave (v := some (.int (1 : Int32))) (fun h => by rw [Bd.returns] at h; cases h)
  refine ⟨_, _, pre0 _ ?_, hrun, hended, _, _, rfl, ?_, ⟨_, rfl⟩, hW, hsame.mono (by decide) (by decide)⟩
  · show Steps p.tables e below (s₁.setTop (mkF m 0 #[.val (.int p1), .unset, .unset, .unset, .unset] [])) _
    refine XS.iloadN X0.here hx rfl (hb hby at_0) rfl ?_
    show Steps p.tables e below (s₁.setTop (mkF m 1 #[.val (.int p1), .unset, .unset, .unset, .unset] [(.int p1)])) _
    refine X0.ldcInt hx hown (mvT hZ (hw _ (List.mem_of_getElem? (i := 0) rfl))) (g := (mkF m 1 #[.val (.int p1), .unset, .unset, .unset, .unset] [(.int p1)])) rfl (hb hby at_1) _ ?_
    show Steps p.tables e below (s₁.setTop (mkF m 3 #[.val (.int p1), .unset, .unset, .unset, .unset] [(.int (2147483647 : Int32)), (.int p1)])) _
    refine XS.iand X0.here hx rfl (hb hby at_3) rfl ?_
    show Steps p.tables e below (s₁.setTop (mkF m 4 #[.val (.int p1), .unset, .unset, .unset, .unset] [(.int (p1 &&& (2147483647 : Int32)))])) _
    refine XS.bipush X0.here hx rfl (hb hby at_4) ?_
    show Steps p.tables e below (s₁.setTop (mkF m 6 #[.val (.int p1), .unset, .unset, .unset, .unset] [(.int (7 : Int32)), (.int (p1 &&& (2147483647 : Int32)))])) _
    refine iremM X0 hx rfl (hb hby at_6) rfl (by decide : ¬ ((7 : Int32) = (0 : Int32))) ?_
    show Steps p.tables e below (s₁.setTop (mkF m 7 #[.val (.int p1), .unset, .unset, .unset, .unset] [(.int ((p1 &&& (2147483647 : Int32)) % (7 : Int32)))])) _
    refine XS.istoreN X0.here hx rfl (hb hby at_7) rfl (l' := #[.val (.int p1), .val (.int ((p1 &&& (2147483647 : Int32)) % (7 : Int32))), .unset, .unset, .unset]) rfl ?_
    show Steps p.tables e below (s₁.setTop (mkF m 8 #[.val (.int p1), .val (.int ((p1 &&& (2147483647 : Int32)) % (7 : Int32))), .unset, .unset, .unset] [])) _
    refine XS.iloadN X0.here hx rfl (hb hby at_8) rfl ?_
    show Steps p.tables e below (s₁.setTop (mkF m 9 #[.val (.int p1), .val (.int ((p1 &&& (2147483647 : Int32)) % (7 : Int32))), .unset, .unset, .unset] [(.int ((p1 &&& (2147483647 : Int32)) % (7 : Int32)))])) _
    refine XS.ifNo X0.here hx rfl (hb hby at_9) rfl ((if0 _ _).trans (teq P2).2) ?_
    show Steps p.tables e below (s₁.setTop (mkF m 12 #[.val (.int p1), .val (.int ((p1 &&& (2147483647 : Int32)) % (7 : Int32))), .unset, .unset, .unset] [])) _
    refine st4 _ ?_
    show Steps p.tables e below (T4.setTop (mkF m 15 #[.val (.int p1), .val (.int ((p1 &&& (2147483647 : Int32)) % (7 : Int32))), .unset, .unset, .unset] [(.ref w3)])) _
    refine XS.astoreN X4.here hx rfl (hb hby at_15) rfl rfl (l' := #[.val (.int p1), .val (.int ((p1 &&& (2147483647 : Int32)) % (7 : Int32))), .val (.ref w3), .unset, .unset]) rfl ?_
    show Steps p.tables e below (T4.setTop (mkF m 16 #[.val (.int p1), .val (.int ((p1 &&& (2147483647 : Int32)) % (7 : Int32))), .val (.ref w3), .unset, .unset] [])) _
    refine st6 _ ?_
    show Steps p.tables e below (T6.setTop (mkF m 19 #[.val (.int p1), .val (.int ((p1 &&& (2147483647 : Int32)) % (7 : Int32))), .val (.ref w3), .unset, .unset] [(.ref w5)])) _
    refine XS.astoreN X6.here hx rfl (hb hby at_19) rfl rfl (l' := #[.val (.int p1), .val (.int ((p1 &&& (2147483647 : Int32)) % (7 : Int32))), .val (.ref w3), .val (.ref w5), .unset]) rfl ?_
    show Steps p.tables e below (T6.setTop (mkF m 20 #[.val (.int p1), .val (.int ((p1 &&& (2147483647 : Int32)) % (7 : Int32))), .val (.ref w3), .val (.ref w5), .unset] [])) _
    refine XS.goto X6.here hx rfl (pc0 := 20) (pc' := 105) rfl (hb hby at_20) (by decide) (by decide) ?_
    show Steps p.tables e below (T6.setTop (mkF m 105 #[.val (.int p1), .val (.int ((p1 &&& (2147483647 : Int32)) % (7 : Int32))), .val (.ref w3), .val (.ref w5), .unset] [])) _
    refine XS.aloadN X6.here hx rfl (hb hby at_105) rfl rfl ?_
    show Steps p.tables e below (T6.setTop (mkF m 106 #[.val (.int p1), .val (.int ((p1 &&& (2147483647 : Int32)) % (7 : Int32))), .val (.ref w3), .val (.ref w5), .unset] [(.ref w3)])) _
    refine st14 _ ?_
    show Steps p.tables e below (T14.setTop (mkF m 109 #[.val (.int p1), .val (.int ((p1 &&& (2147483647 : Int32)) % (7 : Int32))), .val (.ref w3), .val (.ref w5), .unset] [(.ref b2_17_14)])) _
    refine XS.aconstNull X14.here hx rfl (hb hby at_109) ?_
    show Steps p.tables e below (T14.setTop (mkF m 110 #[.val (.int p1), .val (.int ((p1 &&& (2147483647 : Int32)) % (7 : Int32))), .val (.ref w3), .val (.ref w5), .unset] [.null, (.ref b2_17_14)])) _
    refine st15.trans ?_
    show Steps p.tables e below (T15.setTop (mkF m 113 #[.val (.int p1), .val (.int ((p1 &&& (2147483647 : Int32)) % (7 : Int32))), .val (.ref w3), .val (.ref w5), .unset] [(.ref w5)])) _
    refine st17 _ ?_
    show Steps p.tables e below (T17.setTop (mkF m 116 #[.val (.int p1), .val (.int ((p1 &&& (2147483647 : Int32)) % (7 : Int32))), .val (.ref w3), .val (.ref w5), .unset] [(.ref w5)])) _
    refine XS.astore X17.here hx rfl (hb hby at_116) rfl rfl (l' := #[.val (.int p1), .val (.int ((p1 &&& (2147483647 : Int32)) % (7 : Int32))), .val (.ref w3), .val (.ref w5), .val (.ref w5)]) rfl ?_
    show Steps p.tables e below (T17.setTop (mkF m 118 #[.val (.int p1), .val (.int ((p1 &&& (2147483647 : Int32)) % (7 : Int32))), .val (.ref w3), .val (.ref w5), .val (.ref w5)] [])) _
    refine XS.aload X17.here hx rfl (hb hby at_118) rfl rfl ?_
    show Steps p.tables e below (T17.setTop (mkF m 120 #[.val (.int p1), .val (.int ((p1 &&& (2147483647 : Int32)) % (7 : Int32))), .val (.ref w3), .val (.ref w5), .val (.ref w5)] [(.ref w5)])) _
    refine XS.aloadN X17.here hx rfl (hb hby at_120) rfl rfl ?_
    show Steps p.tables e below (T17.setTop (mkF m 121 #[.val (.int p1), .val (.int ((p1 &&& (2147483647 : Int32)) % (7 : Int32))), .val (.ref w3), .val (.ref w5), .val (.ref w5)] [(.ref w5), (.ref w5)])) _
    refine Jvm.RoadKit.acmp (g := (mkF m 121 #[.val (.int p1), .val (.int ((p1 &&& (2147483647 : Int32)) % (7 : Int32))), .val (.ref w3), .val (.ref w5), .val (.ref w5)] [(.ref w5), (.ref w5)])) X17 hx rfl rfl rfl (pc0 := 121) (pc' := 126) (same := true) rfl (hb hby at_121) rfl (decide_eq_true rfl) (by decide) (by decide) ?_
    show Steps p.tables e below (T17.setTop (mkF m 126 #[.val (.int p1), .val (.int ((p1 &&& (2147483647 : Int32)) % (7 : Int32))), .val (.ref w3), .val (.ref w5), .val (.ref w5)] [])) _
    refine XS.aload X17.here hx rfl (hb hby at_126) rfl rfl ?_
    show Steps p.tables e below (T17.setTop (mkF m 128 #[.val (.int p1), .val (.int ((p1 &&& (2147483647 : Int32)) % (7 : Int32))), .val (.ref w3), .val (.ref w5), .val (.ref w5)] [(.ref w5)])) _
    refine XS.ifnonnullYes X17.here hx rfl (pc0 := 128) (pc' := 133) rfl (hb hby at_128) rfl (by decide) (by decide) ?_
    show Steps p.tables e below (T17.setTop (mkF m 133 #[.val (.int p1), .val (.int ((p1 &&& (2147483647 : Int32)) % (7 : Int32))), .val (.ref w3), .val (.ref w5), .val (.ref w5)] [])) _
    refine XS.aload X17.here hx rfl (hb hby at_133) rfl rfl ?_
    show Steps p.tables e below (T17.setTop (mkF m 135 #[.val (.int p1), .val (.int ((p1 &&& (2147483647 : Int32)) % (7 : Int32))), .val (.ref w3), .val (.ref w5), .val (.ref w5)] [(.ref w5)])) _
    refine st19.trans ?_
    show Steps p.tables e below (T19.setTop (mkF m 138 #[.val (.int p1), .val (.int ((p1 &&& (2147483647 : Int32)) % (7 : Int32))), .val (.ref w3), .val (.ref w5), .val (.ref w5)] [(.ref w3)])) _
    refine XS.aloadN X19.here hx rfl (hb hby at_138) rfl rfl ?_
    show Steps p.tables e below (T19.setTop (mkF m 139 #[.val (.int p1), .val (.int ((p1 &&& (2147483647 : Int32)) % (7 : Int32))), .val (.ref w3), .val (.ref w5), .val (.ref w5)] [(.ref w3), (.ref w3)])) _
    refine Jvm.RoadKit.acmp (g := (mkF m 139 #[.val (.int p1), .val (.int ((p1 &&& (2147483647 : Int32)) % (7 : Int32))), .val (.ref w3), .val (.ref w5), .val (.ref w5)] [(.ref w3), (.ref w3)])) X19 hx rfl rfl rfl (pc0 := 139) (pc' := 142) (same := true) rfl (hb hby at_139) rfl (decide_eq_true rfl) (by decide) (by decide) ?_
    show Steps p.tables e below (T19.setTop (mkF m 142 #[.val (.int p1), .val (.int ((p1 &&& (2147483647 : Int32)) % (7 : Int32))), .val (.ref w3), .val (.ref w5), .val (.ref w5)] [])) _
    refine XS.aload X19.here hx rfl (hb hby at_142) rfl rfl ?_
    show Steps p.tables e below (T19.setTop (mkF m 144 #[.val (.int p1), .val (.int ((p1 &&& (2147483647 : Int32)) % (7 : Int32))), .val (.ref w3), .val (.ref w5), .val (.ref w5)] [(.ref w5)])) _
    refine st21.trans ?_
    show Steps p.tables e below (T21.setTop (mkF m 147 #[.val (.int p1), .val (.int ((p1 &&& (2147483647 : Int32)) % (7 : Int32))), .val (.ref w3), .val (.ref w5), .val (.ref w5)] [(.int (0 : Int32))])) _
    refine XS.ifNo X21.here hx rfl (hb hby at_147) rfl ((if0 _ _).trans (teq (rfl : (0 : Int32) = (0 : Int32))).2) ?_
    show Steps p.tables e below (T21.setTop (mkF m 150 #[.val (.int p1), .val (.int ((p1 &&& (2147483647 : Int32)) % (7 : Int32))), .val (.ref w3), .val (.ref w5), .val (.ref w5)] [])) _
    refine XS.iconst X21.here hx rfl (hb hby at_150) ?_
    show Steps p.tables e below (T21.setTop (mkF m 151 #[.val (.int p1), .val (.int ((p1 &&& (2147483647 : Int32)) % (7 : Int32))), .val (.ref w3), .val (.ref w5), .val (.ref w5)] [(.int (1 : Int32))])) _
    refine XS.goto X21.here hx rfl (pc0 := 151) (pc' := 155) rfl (hb hby at_151) (by decide) (by decide) ?_
    show Steps p.tables e below (T21.setTop (mkF m 155 #[.val (.int p1), .val (.int ((p1 &&& (2147483647 : Int32)) % (7 : Int32))), .val (.ref w3), .val (.ref w5), .val (.ref w5)] [(.int (1 : Int32))])) _
    exact retN X21 hx (t := .boolean) Bd.returns (by simp) (hb hby at_155) hr
  · exact ⟨rfl, N21⟩
theorem d1_42 : decode prog_194_method_11_code 42 = .ok (.iinc 3 1, 3) := by decide +kernel
theorem d1_45 : decode prog_194_method_11_code 45 = .ok (.goto (-36), 3) := by decide +kernel
def Q1_2 (Z : State) (a1 : Addr) (w2 : Addr) (k_w2 : ClassId) (w3 : Addr) (w4 : Addr) (w5 : Addr) (w6 : Addr) (w7 : Addr) (w8 : Addr) (w9 : Addr) (w13 : Addr) (h0 : Heap) (n0 : Nat) (v : Option Value) (h : Heap) (L : List Loc) : Prop := ∃ (b2_22 : Addr), v = some (.ref b2_22) ∧ Fr n0 L ∧ Keep h0 h [] ∧ h0.size ≤ b2_22 ∧ Exa Z h b2_22 "java/util/Optional" ∧ Fld Z h b2_22 "java/util/Optional" "value" "Ljava/lang/Object;" (.ref w4)
set_option maxRecDepth 65536 in
set_option maxHeartbeats 40000000 in
theorem rm1_2 (l : Launch) (Z : State) (a0 : Array Value) (hw : ∀ d ∈ tables_1, d.before a0 Z = true) (ws : List Jvm.Cond) (a1 : Addr) (w2 : Addr) (k_w2 : ClassId) (w3 : Addr) (w4 : Addr) (w5 : Addr) (w6 : Addr) (w7 : Addr) (w8 : Addr) (w9 : Addr) (w13 : Addr) (h0 : Heap) (n0 : Nat) (Z0 : n0 ≤ h0.size) (V_w2 : Arv Z h0 w2 k_w2 (.object "com/example/tipple_ledger/tippleledger/terms/WeightedAverage") (7 : Int32) [(.ref w3), (.ref w4), (.ref w5), (.ref w6), (.ref w7), (.ref w8), (.ref w9)] .null) (S__VALUES : Sta Z h0 "com/example/tipple_ledger/tippleledger/terms/WeightedAverage" "$VALUES" "[Lcom/example/tipple_ledger/tippleledger/terms/WeightedAverage;" (.ref w2)) (E_w2 : Exa Z h0 w2 "[Lcom/example/tipple_ledger/tippleledger/terms/WeightedAverage;") (F_characteristic_w3 : Fld Z h0 w3 "com/example/tipple_ledger/tippleledger/terms/WeightedAverage" "characteristic" "Lcom/example/tipple_ledger/tippleledger/terms/Characteristic;" (.ref w13)) (P16 : ¬ (w13 = a1)) (F_characteristic_w4 : Fld Z h0 w4 "com/example/tipple_ledger/tippleledger/terms/WeightedAverage" "characteristic" "Lcom/example/tipple_ledger/tippleledger/terms/Characteristic;" (.ref a1)) (F_perMmbtu_w4 : Fld Z h0 w4 "com/example/tipple_ledger/tippleledger/terms/WeightedAverage" "perMmbtu" "Z" (.int (0 : Int32))) :
    MetFree l (⟨"com/example/tipple_ledger/tippleledger/terms/WeightedAverage", "byTons", "(Lcom/example/tipple_ledger/tippleledger/terms/Characteristic;)Ljava/util/Optional;"⟩ : MethodName) (head1 (Jvm.Cond.code (⟨"com/example/tipple_ledger/tippleledger/terms/WeightedAverage", "byTons", "(Lcom/example/tipple_ledger/tippleledger/terms/Characteristic;)Ljava/util/Optional;"⟩ : MethodName) prog_194_method_11_code 5 (some (.object "java/util/Optional")) :: ws) ({ frames := 3, cells := 2, slots := 8, locals := 38 } : Room)) (fun a U => a = #[(.ref a1)] ∧ Z.Warmed39 U.vm ∧ U.heap = h0) (fun _ _ _ _ _ => True) (fun _ U o U' => ∃ v L, o = .returned v ∧ Q1_2 Z a1 w2 k_w2 w3 w4 w5 w6 w7 w8 w9 w13 h0 n0 v U'.heap L ∧ FrameEnd U o U' L ({ frames := 3, cells := 2, slots := 8, locals := 38 } : Room).cells ({ frames := 3, cells := 2, slots := 8, locals := 38 } : Room).slots) := by
  refine MetFree.of_bodySF (plainFor_of_name pn_1) hisR ?_
  intro p e s m args below meth c s₁ Bd hml0 hP hK
  obtain ⟨rfl, hZ, hh⟩ := hP
  have hx := Bd.exec
  have hby := Bd.bytes
  have hml : c.maxLocals = 5 := hml0
  have hown : s.vm.findClass "com/example/tipple_ledger/tippleledger/terms/WeightedAverage" = some m.cls := findClass_of_methodNamed Bd.named
  have hnm := (name_of_methodNamed Bd.named Bd.method).1
  have X0 : Stand p l e ({ frames := 3, cells := 2, slots := 8, locals := 38 } : Room) s m #[(.ref a1)] below meth c s₁ [] 0 0 := Stand.of_body Bd
  have e0 : s₁.heap = h0 := by rw [← hh, Bd.state]; rfl
  have N0 := Fr.nil n0
  have pre0 : ∀ t, Steps p.tables e below (s₁.setTop (mkF m 0 #[.val (.ref a1), .unset, .unset, .unset, .unset] [])) t → Steps p.tables e below (s₁.setTop (entryFrame m #[(.ref a1)] 5)) t := fun t k => castTop (ef_1_R m a1) k
  obtain ⟨_, _, ⟨T10, L10, k10, n10⟩, -, X10, ⟨Lc10, hQ10, l10, y10, z10⟩, st10⟩ := Jvm.LawKit.callS X0 hx (y := (⟨"com/example/tipple_ledger/tippleledger/terms/WeightedAverage", "values", "()[Lcom/example/tipple_ledger/tippleledger/terms/WeightedAverage;"⟩ : MethodName)) hown (mvT hZ (hw _ (List.mem_of_getElem? (i := 10) rfl))) (mvT hZ (hw _ (List.mem_of_getElem? (i := 11) rfl))) (mvT hZ (hw _ (List.mem_of_getElem? (i := 5) rfl))) (mvT hZ (hw _ (List.mem_of_getElem? (i := 12) rfl))) (by decide) (backOf (W := 0) (rm2_1 l Z a0 hw [] w2 k_w2 w3 w4 w5 w6 w7 w8 w9 h0 n0 Z0 S__VALUES V_w2 E_w2) hZ (hw _ (List.mem_of_getElem? (i := 12) rfl)) (hw _ (List.mem_of_getElem? (i := 5) rfl)) (by decide) (by decide)) (g := (mkF m 0 #[.val (.ref a1), .unset, .unset, .unset, .unset] [])) rfl (by rw [hml]; rfl) (argsL := []) (rest := []) (lenOf pd_0 rfl) rfl (by show 2 * 0 + _ ≤ _; exact Nat.le_of_eq rfl) (hb hby d1_0) (fun _ _ => ⟨rfl, e0, (by decide : 0 + 1 ≤ _), (by decide : 0 + 7 ≤ _)⟩)
  dsimp only [Pt.U, Pt.locs, Pt.cells, Pt.slots] at X10 l10 y10 z10 st10 hQ10
  subst l10 y10 z10
  obtain ⟨b10_10, rfl, Nq10, K10, x10_0, x10_1, x10_2⟩ := hQ10
  have N10 := Fr.app N0 Nq10
  have sz_b10_10 : h0.size ≤ b10_10 := Nat.le_trans (Keep.refl h0 []).1 x10_0
  have g_b10_10 : n0 ≤ b10_10 := Nat.le_trans Z0 sz_b10_10
  have K0_10 : Keep h0 T10.heap [] := (Keep.refl h0 []).trans K10 all0
  have Z10 : n0 ≤ T10.heap.size := Nat.le_trans Z0 K10.1
  obtain ⟨cl11, Ar11, -, S11, N_11, -, -⟩ := id x10_1
  obtain ⟨cl12, Ar12, q12, S12, N_12, H12, G12⟩ := id x10_1
  have hin12 : ¬ ((0 : Int32) < 0 ∨ cl12.slots.size ≤ ((0 : Int32)).toNatClampNeg) := inb_of S12 ⟨by decide, (by decide : (0 : Int32) < (7 : Int32))⟩
  have hat12 : cl12.slots[((0 : Int32)).toNatClampNeg]? = some (.ref w3) := Has.at H12 hin12 rfl
  have f14 := (F_characteristic_w3.keep K10 nin0)
  obtain ⟨T15, X15, e15, st15⟩ := getF X10 hx hZ hown (host := "") (Or.inl (hw _ (List.mem_of_getElem? (i := 31) rfl))) Via.refl rfl f14 (g := (mkF m 21 #[.val (.ref a1), .val (.ref b10_10), .val (.int (7 : Int32)), .val (.int (0 : Int32)), .val (.ref w3)] [(.ref w3)])) rfl rfl (hb hby d1_21)
  obtain ⟨cl17, Ar17, q17, S17, N_17, H17, G17⟩ := id x10_1
  have hin17 : ¬ ((1 : Int32) < 0 ∨ cl17.slots.size ≤ ((1 : Int32)).toNatClampNeg) := inb_of S17 ⟨by decide, (by decide : (1 : Int32) < (7 : Int32))⟩
  have hat17 : cl17.slots[((1 : Int32)).toNatClampNeg]? = some (.ref w4) := Has.at H17 hin17 rfl
  have f18 := (F_characteristic_w4.keep K10 nin0)
  obtain ⟨T19, X19, e19, st19⟩ := getF X15 hx hZ hown (host := "") (Or.inl (hw _ (List.mem_of_getElem? (i := 31) rfl))) Via.refl e15 f18 (g := (mkF m 21 #[.val (.ref a1), .val (.ref b10_10), .val (.int (7 : Int32)), .val (.int (1 : Int32)), .val (.ref w4)] [(.ref w4)])) rfl rfl (hb hby d1_21)
  have f20 := (F_perMmbtu_w4.keep K10 nin0)
  obtain ⟨T21, X21, e21, st21⟩ := getF X19 hx hZ hown (host := "") (Or.inl (hw _ (List.mem_of_getElem? (i := 33) rfl))) Via.refl e19 f20 (g := (mkF m 30 #[.val (.ref a1), .val (.ref b10_10), .val (.int (7 : Int32)), .val (.int (1 : Int32)), .val (.ref w4)] [(.ref w4)])) rfl rfl (hb hby d1_30)
  obtain ⟨_, _, ⟨T22, L22, k22, n22⟩, -, X22, ⟨Lc22, hQ22, l22, y22, z22⟩, st22⟩ := Jvm.LawKit.callS X21 hx (y := (⟨"java/util/Optional", "of", "(Ljava/lang/Object;)Ljava/util/Optional;"⟩ : MethodName)) hown (mvT hZ (hw _ (List.mem_of_getElem? (i := 35) rfl))) (mvT hZ (hw _ (List.mem_of_getElem? (i := 36) rfl))) (mvT hZ (hw _ (List.mem_of_getElem? (i := 37) rfl))) (mvT hZ (hw _ (List.mem_of_getElem? (i := 38) rfl))) (by decide) (backOf (W := 0) (rm3_1 l Z a0 hw [] w4 T10.heap n0 Z10) hZ (hw _ (List.mem_of_getElem? (i := 38) rfl)) (hw _ (List.mem_of_getElem? (i := 37) rfl)) (by decide) (by decide)) (g := (mkF m 38 #[.val (.ref a1), .val (.ref b10_10), .val (.int (7 : Int32)), .val (.int (1 : Int32)), .val (.ref w4)] [(.ref w4)])) rfl (by rw [hml]; rfl) (argsL := [(.ref w4)]) (rest := []) (lenOf pd_3 rfl) rfl (by show 2 * 0 + _ ≤ _; exact Nat.le_of_eq rfl) (hb hby d1_38) (fun _ _ => ⟨rfl, e21, (by decide : 1 + 1 ≤ _), (by decide : 7 + 1 ≤ _)⟩)
  dsimp only [Pt.U, Pt.locs, Pt.cells, Pt.slots] at X22 l22 y22 z22 st22 hQ22
  subst l22 y22 z22
  obtain ⟨b2_22, rfl, Nq22, K22, x22_0, x22_1, x22_2⟩ := hQ22
  have N22 := Fr.app N10 Nq22
  have sz_b2_22 : h0.size ≤ b2_22 := Nat.le_trans K0_10.1 x22_0
  have g_b2_22 : n0 ≤ b2_22 := Nat.le_trans Z0 sz_b2_22
  have K0_22 : Keep h0 T22.heap [] := K0_10.trans K22 all0
  have Z22 : n0 ≤ T22.heap.size := Nat.le_trans Z10 K22.1
  obtain ⟨fs, hr, hrun, hended, hW, hsame⟩ := X22.leave (v := some (.ref b2_22)) (fun h => by rw [Bd.returns] at h; cases h)
  refine ⟨_, _, pre0 _ ?_, hrun, hended, _, _, rfl, ?_, ⟨_, rfl⟩, hW, hsame.mono (by decide) (by decide)⟩
  · show Steps p.tables e below (s₁.setTop (mkF m 0 #[.val (.ref a1), .unset, .unset, .unset, .unset] [])) _
    refine st10 _ ?_
    show Steps p.tables e below (T10.setTop (mkF m 3 #[.val (.ref a1), .unset, .unset, .unset, .unset] [(.ref b10_10)])) _
    refine XS.astoreN X10.here hx rfl (hb hby d1_3) rfl rfl (l' := #[.val (.ref a1), .val (.ref b10_10), .unset, .unset, .unset]) rfl ?_
    show Steps p.tables e below (T10.setTop (mkF m 4 #[.val (.ref a1), .val (.ref b10_10), .unset, .unset, .unset] [])) _
    refine XS.aloadN X10.here hx rfl (hb hby d1_4) rfl rfl ?_
    show Steps p.tables e below (T10.setTop (mkF m 5 #[.val (.ref a1), .val (.ref b10_10), .unset, .unset, .unset] [(.ref b10_10)])) _
    refine X10.arraylength hx (Ar11.1) (State.isArrayOf_alike hZ.alike Ar11.2.1) (g := (mkF m 5 #[.val (.ref a1), .val (.ref b10_10), .unset, .unset, .unset] [(.ref b10_10)])) rfl rfl (hb hby d1_5) _ ?_
    rw [len_of S11 N_11]
    show Steps p.tables e below (T10.setTop (mkF m 6 #[.val (.ref a1), .val (.ref b10_10), .unset, .unset, .unset] [(.int (7 : Int32))])) _
    refine XS.istoreN X10.here hx rfl (hb hby d1_6) rfl (l' := #[.val (.ref a1), .val (.ref b10_10), .val (.int (7 : Int32)), .unset, .unset]) rfl ?_
    show Steps p.tables e below (T10.setTop (mkF m 7 #[.val (.ref a1), .val (.ref b10_10), .val (.int (7 : Int32)), .unset, .unset] [])) _
    refine XS.iconst X10.here hx rfl (hb hby d1_7) ?_
    show Steps p.tables e below (T10.setTop (mkF m 8 #[.val (.ref a1), .val (.ref b10_10), .val (.int (7 : Int32)), .unset, .unset] [(.int (0 : Int32))])) _
    refine XS.istoreN X10.here hx rfl (hb hby d1_8) rfl (l' := #[.val (.ref a1), .val (.ref b10_10), .val (.int (7 : Int32)), .val (.int (0 : Int32)), .unset]) rfl ?_
    show Steps p.tables e below (T10.setTop (mkF m 9 #[.val (.ref a1), .val (.ref b10_10), .val (.int (7 : Int32)), .val (.int (0 : Int32)), .unset] [])) _
    refine XS.iloadN X10.here hx rfl (hb hby d1_9) rfl ?_
    show Steps p.tables e below (T10.setTop (mkF m 10 #[.val (.ref a1), .val (.ref b10_10), .val (.int (7 : Int32)), .val (.int (0 : Int32)), .unset] [(.int (0 : Int32))])) _
    refine XS.iloadN X10.here hx rfl (hb hby d1_10) rfl ?_
    show Steps p.tables e below (T10.setTop (mkF m 11 #[.val (.ref a1), .val (.ref b10_10), .val (.int (7 : Int32)), .val (.int (0 : Int32)), .unset] [(.int (7 : Int32)), (.int (0 : Int32))])) _
    refine XS.icmpNo X10.here hx rfl (hb hby d1_11) rfl (tlt (by decide : (0 : Int32) < (7 : Int32))).2.1 ?_
    show Steps p.tables e below (T10.setTop (mkF m 14 #[.val (.ref a1), .val (.ref b10_10), .val (.int (7 : Int32)), .val (.int (0 : Int32)), .unset] [])) _
    refine XS.aloadN X10.here hx rfl (hb hby d1_14) rfl rfl ?_
    show Steps p.tables e below (T10.setTop (mkF m 15 #[.val (.ref a1), .val (.ref b10_10), .val (.int (7 : Int32)), .val (.int (0 : Int32)), .unset] [(.ref b10_10)])) _
    refine XS.iloadN X10.here hx rfl (hb hby d1_15) rfl ?_
    show Steps p.tables e below (T10.setTop (mkF m 16 #[.val (.ref a1), .val (.ref b10_10), .val (.int (7 : Int32)), .val (.int (0 : Int32)), .unset] [(.int (0 : Int32)), (.ref b10_10)])) _
    refine X10.aaload hx (j := (0 : Int32)) (v := (.ref w3)) (Ar12.1) (State.isArrayOf_alike hZ.alike Ar12.2.1) rfl Ar12.2.2 hin12 hat12 (g := (mkF m 16 #[.val (.ref a1), .val (.ref b10_10), .val (.int (7 : Int32)), .val (.int (0 : Int32)), .unset] [(.int (0 : Int32)), (.ref b10_10)])) rfl rfl (hb hby d1_16) _ ?_
    show Steps p.tables e below (T10.setTop (mkF m 17 #[.val (.ref a1), .val (.ref b10_10), .val (.int (7 : Int32)), .val (.int (0 : Int32)), .unset] [(.ref w3)])) _
    refine XS.astore X10.here hx rfl (hb hby d1_17) rfl rfl (l' := #[.val (.ref a1), .val (.ref b10_10), .val (.int (7 : Int32)), .val (.int (0 : Int32)), .val (.ref w3)]) rfl ?_
    show Steps p.tables e below (T10.setTop (mkF m 19 #[.val (.ref a1), .val (.ref b10_10), .val (.int (7 : Int32)), .val (.int (0 : Int32)), .val (.ref w3)] [])) _
    refine XS.aload X10.here hx rfl (hb hby d1_19) rfl rfl ?_
    show Steps p.tables e below (T10.setTop (mkF m 21 #[.val (.ref a1), .val (.ref b10_10), .val (.int (7 : Int32)), .val (.int (0 : Int32)), .val (.ref w3)] [(.ref w3)])) _
    refine st15 _ ?_
    show Steps p.tables e below (T15.setTop (mkF m 24 #[.val (.ref a1), .val (.ref b10_10), .val (.int (7 : Int32)), .val (.int (0 : Int32)), .val (.ref w3)] [(.ref w13)])) _
    refine XS.aloadN X15.here hx rfl (hb hby d1_24) rfl rfl ?_
    show Steps p.tables e below (T15.setTop (mkF m 25 #[.val (.ref a1), .val (.ref b10_10), .val (.int (7 : Int32)), .val (.int (0 : Int32)), .val (.ref w3)] [(.ref a1), (.ref w13)])) _
    refine Jvm.RoadKit.acmp (g := (mkF m 25 #[.val (.ref a1), .val (.ref b10_10), .val (.int (7 : Int32)), .val (.int (0 : Int32)), .val (.ref w3)] [(.ref a1), (.ref w13)])) X15 hx rfl rfl rfl (pc0 := 25) (pc' := 42) (same := false) rfl (hb hby d1_25) rfl (decide_eq_false fun q => P16 (Value.ref.inj q)) (by decide) (by decide) ?_
    show Steps p.tables e below (T15.setTop (mkF m 42 #[.val (.ref a1), .val (.ref b10_10), .val (.int (7 : Int32)), .val (.int (0 : Int32)), .val (.ref w3)] [])) _
    refine XS.iinc X15.here hx rfl (hb hby d1_42) rfl (l' := #[.val (.ref a1), .val (.ref b10_10), .val (.int (7 : Int32)), .val (.int (1 : Int32)), .val (.ref w3)]) rfl ?_
    show Steps p.tables e below (T15.setTop (mkF m 45 #[.val (.ref a1), .val (.ref b10_10), .val (.int (7 : Int32)), .val (.int (1 : Int32)), .val (.ref w3)] [])) _
    refine XS.goto X15.here hx rfl (pc0 := 45) (pc' := 9) rfl (hb hby d1_45) (by decide) (by decide) ?_
    show Steps p.tables e below (T15.setTop (mkF m 9 #[.val (.ref a1), .val (.ref b10_10), .val (.int (7 : Int32)), .val (.int (1 : Int32)), .val (.ref w3)] [])) _
    refine XS.iloadN X15.here hx rfl (hb hby d1_9) rfl ?_
    show Steps p.tables e below (T15.setTop (mkF m 10 #[.val (.ref a1), .val (.ref b10_10), .val (.int (7 : Int32)), .val (.int (1 : Int32)), .val (.ref w3)] [(.int (1 : Int32))])) _
    refine XS.iloadN X15.here hx rfl (hb hby d1_10) rfl ?_
    show Steps p.tables e below (T15.setTop (mkF m 11 #[.val (.ref a1), .val (.ref b10_10), .val (.int (7 : Int32)), .val (.int (1 : Int32)), .val (.ref w3)] [(.int (7 : Int32)), (.int (1 : Int32))])) _
    refine XS.icmpNo X15.here hx rfl (hb hby d1_11) rfl (tlt (by decide : (1 : Int32) < (7 : Int32))).2.1 ?_
    show Steps p.tables e below (T15.setTop (mkF m 14 #[.val (.ref a1), .val (.ref b10_10), .val (.int (7 : Int32)), .val (.int (1 : Int32)), .val (.ref w3)] [])) _
    refine XS.aloadN X15.here hx rfl (hb hby d1_14) rfl rfl ?_
    show Steps p.tables e below (T15.setTop (mkF m 15 #[.val (.ref a1), .val (.ref b10_10), .val (.int (7 : Int32)), .val (.int (1 : Int32)), .val (.ref w3)] [(.ref b10_10)])) _
    refine XS.iloadN X15.here hx rfl (hb hby d1_15) rfl ?_
    show Steps p.tables e below (T15.setTop (mkF m 16 #[.val (.ref a1), .val (.ref b10_10), .val (.int (7 : Int32)), .val (.int (1 : Int32)), .val (.ref w3)] [(.int (1 : Int32)), (.ref b10_10)])) _
    refine X15.aaload hx (j := (1 : Int32)) (v := (.ref w4)) (by rw [e15]; exact Ar17.1) (State.isArrayOf_alike hZ.alike Ar17.2.1) rfl Ar17.2.2 hin17 hat17 (g := (mkF m 16 #[.val (.ref a1), .val (.ref b10_10), .val (.int (7 : Int32)), .val (.int (1 : Int32)), .val (.ref w3)] [(.int (1 : Int32)), (.ref b10_10)])) rfl rfl (hb hby d1_16) _ ?_
    show Steps p.tables e below (T15.setTop (mkF m 17 #[.val (.ref a1), .val (.ref b10_10), .val (.int (7 : Int32)), .val (.int (1 : Int32)), .val (.ref w3)] [(.ref w4)])) _
    refine XS.astore X15.here hx rfl (hb hby d1_17) rfl rfl (l' := #[.val (.ref a1), .val (.ref b10_10), .val (.int (7 : Int32)), .val (.int (1 : Int32)), .val (.ref w4)]) rfl ?_
    show Steps p.tables e below (T15.setTop (mkF m 19 #[.val (.ref a1), .val (.ref b10_10), .val (.int (7 : Int32)), .val (.int (1 : Int32)), .val (.ref w4)] [])) _
    refine XS.aload X15.here hx rfl (hb hby d1_19) rfl rfl ?_
    show Steps p.tables e below (T15.setTop (mkF m 21 #[.val (.ref a1), .val (.ref b10_10), .val (.int (7 : Int32)), .val (.int (1 : Int32)), .val (.ref w4)] [(.ref w4)])) _
    refine st19 _ ?_
    show Steps p.tables e below (T19.setTop (mkF m 24 #[.val (.ref a1), .val (.ref b10_10), .val (.int (7 : Int32)), .val (.int (1 : Int32)), .val (.ref w4)] [(.ref a1)])) _
    refine XS.aloadN X19.here hx rfl (hb hby d1_24) rfl rfl ?_
    show Steps p.tables e below (T19.setTop (mkF m 25 #[.val (.ref a1), .val (.ref b10_10), .val (.int (7 : Int32)), .val (.int (1 : Int32)), .val (.ref w4)] [(.ref a1), (.ref a1)])) _
    refine Jvm.RoadKit.acmp (g := (mkF m 25 #[.val (.ref a1), .val (.ref b10_10), .val (.int (7 : Int32)), .val (.int (1 : Int32)), .val (.ref w4)] [(.ref a1), (.ref a1)])) X19 hx rfl rfl rfl (pc0 := 25) (pc' := 28) (same := true) rfl (hb hby d1_25) rfl (decide_eq_true rfl) (by decide) (by decide) ?_
    show Steps p.tables e below (T19.setTop (mkF m 28 #[.val (.ref a1), .val (.ref b10_10), .val (.int (7 : Int32)), .val (.int (1 : Int32)), .val (.ref w4)] [])) _
    refine XS.aload X19.here hx rfl (hb hby d1_28) rfl rfl ?_
    show Steps p.tables e below (T19.setTop (mkF m 30 #[.val (.ref a1), .val (.ref b10_10), .val (.int (7 : Int32)), .val (.int (1 : Int32)), .val (.ref w4)] [(.ref w4)])) _
    refine st21 _ ?_
    show Steps p.tables e below (T21.setTop (mkF m 33 #[.val (.ref a1), .val (.ref b10_10), .val (.int (7 : Int32)), .val (.int (1 : Int32)), .val (.ref w4)] [(.int (0 : Int32))])) _
    refine XS.ifNo X21.here hx rfl (hb hby d1_33) rfl ((if0 _ _).trans (teq (rfl : (0 : Int32) = (0 : Int32))).2) ?_
    show Steps p.tables e below (T21.setTop (mkF m 36 #[.val (.ref a1), .val (.ref b10_10), .val (.int (7 : Int32)), .val (.int (1 : Int32)), .val (.ref w4)] [])) _
    refine XS.aload X21.here hx rfl (hb hby d1_36) rfl rfl ?_
    show Steps p.tables e below (T21.setTop (mkF m 38 #[.val (.ref a1), .val (.ref b10_10), .val (.int (7 : Int32)), .val (.int (1 : Int32)), .val (.ref w4)] [(.ref w4)])) _
    refine st22 _ ?_
    show Steps p.tables e below (T22.setTop (mkF m 41 #[.val (.ref a1), .val (.ref b10_10), .val (.int (7 : Int32)), .val (.int (1 : Int32)), .val (.ref w4)] [(.ref b2_22)])) _
    jvm_step X22.here [X22.here.top, hx, (hb hby d1_41), X22.method', Bd.returns, Value.isRef, FieldType.isReference]
    first | (intro acts; rw [hr _ acts rfl rfl rfl]) | rw [hr _ _ rfl rfl rfl]
    exact Steps.refl _
  · show Q1_2 Z a1 w2 k_w2 w3 w4 w5 w6 w7 w8 w9 w13 h0 n0 _ T22.heap _
    exact ⟨b2_22, rfl, N22, K0_22, sz_b2_22, x22_1, x22_2⟩
set_option maxRecDepth 65536 in
set_option maxHeartbeats 40000000 in
theorem rm0_2 (l : Launch) (Z : State) (a0 : Array Value) (hw : ∀ d ∈ tables_1, d.before a0 Z = true) (ws : List Jvm.Cond) (p1 : Int32) (w4 : Addr) (w6 : Addr) (w8 : Addr) (k_w8 : ClassId) (w9 : Addr) (w10 : Addr) (w11 : Addr) (w12 : Addr) (w13 : Addr) (w14 : Addr) (w15 : Addr) (h0 : Heap) (n0 : Nat) (Z0 : n0 ≤ h0.size) (P2 : ¬ (((p1 &&& (2147483647 : Int32)) % (7 : Int32)) = (0 : Int32))) (P3 : ((p1 &&& (2147483647 : Int32)) % (7 : Int32)) = (1 : Int32)) (S_MOISTURE : Sta Z h0 "com/example/tipple_ledger/tippleledger/terms/Characteristic" "MOISTURE" "Lcom/example/tipple_ledger/tippleledger/terms/Characteristic;" (.ref w4)) (S_MOISTURE_PERCENT : Sta Z h0 "com/example/tipple_ledger/tippleledger/terms/WeightedAverage" "MOISTURE_PERCENT" "Lcom/example/tipple_ledger/tippleledger/terms/WeightedAverage;" (.ref w6)) (F_perMmbtu_w6 : Fld Z h0 w6 "com/example/tipple_ledger/tippleledger/terms/WeightedAverage" "perMmbtu" "Z" (.int (0 : Int32))) (V_w8 : Arv Z h0 w8 k_w8 (.object "com/example/tipple_ledger/tippleledger/terms/WeightedAverage") (7 : Int32) [(.ref w9), (.ref w6), (.ref w10), (.ref w11), (.ref w12), (.ref w13), (.ref w14)] .null) (S__VALUES : Sta Z h0 "com/example/tipple_ledger/tippleledger/terms/WeightedAverage" "$VALUES" "[Lcom/example/tipple_ledger/tippleledger/terms/WeightedAverage;" (.ref w8)) (E_w8 : Exa Z h0 w8 "[Lcom/example/tipple_ledger/tippleledger/terms/WeightedAverage;") (F_characteristic_w9 : Fld Z h0 w9 "com/example/tipple_ledger/tippleledger/terms/WeightedAverage" "characteristic" "Lcom/example/tipple_ledger/tippleledger/terms/Characteristic;" (.ref w15)) (P16 : ¬ (w15 = w4)) (F_characteristic_w6 : Fld Z h0 w6 "com/example/tipple_ledger/tippleledger/terms/WeightedAverage" "characteristic" "Lcom/example/tipple_ledger/tippleledger/terms/Characteristic;" (.ref w4)) (E_w6 : Exa Z h0 w6 "com/example/tipple_ledger/tippleledger/terms/WeightedAverage") :
    MetFree l x (head1 (Jvm.Cond.code x code maxLocals ret :: ws) room_1) (fun a U => a = #[(.int p1)] ∧ Z.Warmed39 U.vm ∧ U.heap = h0) (fun _ _ _ _ _ => True) (fun _ U o U' => ∃ v L, o = .returned v ∧ own_QT n0 v L ∧ FrameEnd U o U' L room_1.cells room_1.slots) := by
  refine MetFree.of_bodySF (plainFor_of_name pn_0) hisR ?_
  intro p e s m args below meth c s₁ Bd hml0 hP hK
  obtain ⟨rfl, hZ, hh⟩ := hP
  have hx := Bd.exec
  have hby := Bd.bytes
  have hml : c.maxLocals = 5 := hml0
  have hown : s.vm.findClass "com/example/tipple_ledger/tippleledger/terms/WeightedAverageByTonsPinLaw" = some m.cls := findClass_of_methodNamed Bd.named
  have hnm := (name_of_methodNamed Bd.named Bd.method).1
  have X0 : Stand p l e room_1 s m #[(.int p1)] below meth c s₁ [] 0 0 := Stand.of_body Bd
  have e0 : s₁.heap = h0 := by rw [← hh, Bd.state]; rfl
  have N0 := Fr.nil n0
  have pre0 : ∀ t, Steps p.tables e below (s₁.setTop (mkF m 0 #[.val (.int p1), .unset, .unset, .unset, .unset] [])) t → Steps p.tables e below (s₁.setTop (entryFrame m #[(.int p1)] maxLocals)) t := fun t k => castTop (ef_0_I m p1) k
  obtain ⟨T5, X5, e5, st5⟩ := getS2 X0 hx hZ hown (host := "") (Or.inl (hw _ (List.mem_of_getElem? (i := 88) rfl))) Via.refl e0 S_MOISTURE (g := (mkF m 28 #[.val (.int p1), .val (.int ((p1 &&& (2147483647 : Int32)) % (7 : Int32))), .unset, .unset, .unset] [])) rfl (hb hby at_28)
  obtain ⟨T7, X7, e7, st7⟩ := getS2 X5 hx hZ hown (host := "") (Or.inl (hw _ (List.mem_of_getElem? (i := 89) rfl))) Via.refl e5 S_MOISTURE_PERCENT (g := (mkF m 32 #[.val (.int p1), .val (.int ((p1 &&& (2147483647 : Int32)) % (7 : Int32))), .val (.ref w4), .unset, .unset] [])) rfl (hb hby at_32)
  obtain ⟨_, _, ⟨T17, L17, k17, n17⟩, -, X17, ⟨Lc17, hQ17, l17, y17, z17⟩, st17⟩ := Jvm.LawKit.callS X7 hx (y := (⟨"com/example/tipple_ledger/tippleledger/terms/WeightedAverage", "byTons", "(Lcom/example/tipple_ledger/tippleledger/terms/Characteristic;)Ljava/util/Optional;"⟩ : MethodName)) hown (mvT hZ (hw _ (List.mem_of_getElem? (i := 7) rfl))) (mvT hZ (hw _ (List.mem_of_getElem? (i := 8) rfl))) (mvT hZ (hw _ (List.mem_of_getElem? (i := 5) rfl))) (mvT hZ (hw _ (List.mem_of_getElem? (i := 9) rfl))) (by decide) (backOf (W := 0) (rm1_2 l Z a0 hw [] w4 w8 k_w8 w9 w6 w10 w11 w12 w13 w14 w15 h0 n0 Z0 V_w8 S__VALUES E_w8 F_characteristic_w9 P16 F_characteristic_w6 F_perMmbtu_w6) hZ (hw _ (List.mem_of_getElem? (i := 9) rfl)) (hw _ (List.mem_of_getElem? (i := 5) rfl)) (by decide) (by decide)) (g := (mkF m 106 #[.val (.int p1), .val (.int ((p1 &&& (2147483647 : Int32)) % (7 : Int32))), .val (.ref w4), .val (.ref w6), .unset] [(.ref w4)])) rfl (by rw [hml]; rfl) (argsL := [(.ref w4)]) (rest := []) (lenOf pd_4 rfl) rfl (by show 2 * 0 + _ ≤ _; exact Nat.le_of_eq rfl) (hb hby at_106) (fun _ _ => ⟨rfl, e7, (by decide : 0 + 2 ≤ _), (by decide : 0 + 8 ≤ _)⟩)
  dsimp only [Pt.U, Pt.locs, Pt.cells, Pt.slots] at X17 l17 y17 z17 st17 hQ17
  subst l17 y17 z17
  obtain ⟨b2_22_17, rfl, Nq17, K17, x17_0, x17_1, x17_2⟩ := hQ17
  have N17 := Fr.app N0 Nq17
  have sz_b2_22_17 : h0.size ≤ b2_22_17 := Nat.le_trans (Keep.refl h0 []).1 x17_0
  have g_b2_22_17 : n0 ≤ b2_22_17 := Nat.le_trans Z0 sz_b2_22_17
  have K0_17 : Keep h0 T17.heap [] := (Keep.refl h0 []).trans K17 all0
  have Z17 : n0 ≤ T17.heap.size := Nat.le_trans Z0 K17.1
  obtain ⟨cq18, kq18, q18a, q18b, q18c⟩ := isOf hZ rfl x17_1
  obtain ⟨_, _, ⟨T18, L18, k18, n18⟩, -, X18, ⟨Lc18, hQ18, l18, y18, z18⟩, st18⟩ := X17.virtualBack hx (y := (⟨"java/util/Optional", "orElse", "(Ljava/lang/Object;)Ljava/lang/Object;"⟩ : MethodName)) (z := (⟨"java/util/Optional", "orElse", "(Ljava/lang/Object;)Ljava/lang/Object;"⟩ : MethodName)) hown (mvT hZ (hw _ (List.mem_of_getElem? (i := 54) rfl))) (mvT hZ (hw _ (List.mem_of_getElem? (i := 55) rfl))) (notFace_of_selects (args := #[]) (mvT hZ (hw _ (List.mem_of_getElem? (i := 57) rfl)))) (mvT hZ (hw _ (List.mem_of_getElem? (i := 57) rfl))) (mvT hZ (hw _ (List.mem_of_getElem? (i := 56) rfl))) (by decide) (backOf (W := 0) (rm7_1 l Z a0 hw [] b2_22_17 w6 T17.heap n0 Z17 x17_2) hZ (hw _ (List.mem_of_getElem? (i := 58) rfl)) (hw _ (List.mem_of_getElem? (i := 37) rfl)) (by decide) (by decide)) q18a q18c (g := (mkF m 110 #[.val (.int p1), .val (.int ((p1 &&& (2147483647 : Int32)) % (7 : Int32))), .val (.ref w4), .val (.ref w6), .unset] [.null, (.ref b2_22_17)])) rfl (by rw [hml]; rfl) (Steps.refl _) (argsL := [.null]) (rest := []) (lenOf pd_1 rfl) rfl (by show 2 * 0 + _ ≤ _; exact Nat.le_of_eq rfl) (hb hby at_110) (fun _ _ => ⟨rfl, rfl, (by decide : 2 + 0 ≤ _), (by decide : 8 + 0 ≤ _)⟩)
  dsimp only [Pt.U, Pt.locs, Pt.cells, Pt.slots] at X18 l18 y18 z18 st18 hQ18
  subst l18 y18 z18
  obtain ⟨rfl, Nq18, e18⟩ := hQ18
  have N18 := Fr.app N17 Nq18
  have f19 := (E_w6.keep K17)
  obtain ⟨T20, X20, e20, st20⟩ := castY X18 hx hZ hown (hw _ (List.mem_of_getElem? (i := 59) rfl)) e18 (Ins.self f19) (g := (mkF m 113 #[.val (.int p1), .val (.int ((p1 &&& (2147483647 : Int32)) % (7 : Int32))), .val (.ref w4), .val (.ref w6), .unset] [(.ref w6)])) rfl rfl (hb hby at_113)
  have f21 := (F_characteristic_w6.keep K17 nin0)
  obtain ⟨cq22, kq22, q22a, q22b, q22c⟩ := isOf hZ e20 f19
  obtain ⟨_, _, ⟨T22, L22, k22, n22⟩, -, X22, ⟨Lc22, hQ22, l22, y22, z22⟩, st22⟩ := X20.virtualBack hx (y := (⟨"com/example/tipple_ledger/tippleledger/terms/WeightedAverage", "characteristic", "()Lcom/example/tipple_ledger/tippleledger/terms/Characteristic;"⟩ : MethodName)) (z := (⟨"com/example/tipple_ledger/tippleledger/terms/WeightedAverage", "characteristic", "()Lcom/example/tipple_ledger/tippleledger/terms/Characteristic;"⟩ : MethodName)) hown (mvT hZ (hw _ (List.mem_of_getElem? (i := 61) rfl))) (mvT hZ (hw _ (List.mem_of_getElem? (i := 62) rfl))) (notFace_of_selects (args := #[]) (mvT hZ (hw _ (List.mem_of_getElem? (i := 64) rfl)))) (mvT hZ (hw _ (List.mem_of_getElem? (i := 64) rfl))) (mvT hZ (hw _ (List.mem_of_getElem? (i := 63) rfl))) (by decide) (backOf (W := 0) (rm8_1 l Z a0 hw [] w6 w4 T17.heap n0 Z17 f21) hZ (hw _ (List.mem_of_getElem? (i := 65) rfl)) (hw _ (List.mem_of_getElem? (i := 5) rfl)) (by decide) (by decide)) q22a q22c (g := (mkF m 135 #[.val (.int p1), .val (.int ((p1 &&& (2147483647 : Int32)) % (7 : Int32))), .val (.ref w4), .val (.ref w6), .val (.ref w6)] [(.ref w6)])) rfl (by rw [hml]; rfl) (Steps.refl _) (argsL := []) (rest := []) (lenOf pd_5 rfl) rfl (by show 2 * 0 + _ ≤ _; exact Nat.le_of_eq rfl) (hb hby at_135) (fun _ _ => ⟨rfl, e20, (by decide : 2 + 0 ≤ _), (by decide : 8 + 0 ≤ _)⟩)
  dsimp only [Pt.U, Pt.locs, Pt.cells, Pt.slots] at X22 l22 y22 z22 st22 hQ22
  subst l22 y22 z22
  obtain ⟨rfl, Nq22, e22⟩ := hQ22
  have N22 := Fr.app N18 Nq22
  have f23 := (F_perMmbtu_w6.keep K17 nin0)
  obtain ⟨cq24, kq24, q24a, q24b, q24c⟩ := isOf hZ e22 f19
  obtain ⟨_, _, ⟨T24, L24, k24, n24⟩, -, X24, ⟨Lc24, hQ24, l24, y24, z24⟩, st24⟩ := X22.virtualBack hx (y := (⟨"com/example/tipple_ledger/tippleledger/terms/WeightedAverage", "perMmbtu", "()Z"⟩ : MethodName)) (z := (⟨"com/example/tipple_ledger/tippleledger/terms/WeightedAverage", "perMmbtu", "()Z"⟩ : MethodName)) hown (mvT hZ (hw _ (List.mem_of_getElem? (i := 66) rfl))) (mvT hZ (hw _ (List.mem_of_getElem? (i := 67) rfl))) (notFace_of_selects (args := #[]) (mvT hZ (hw _ (List.mem_of_getElem? (i := 69) rfl)))) (mvT hZ (hw _ (List.mem_of_getElem? (i := 69) rfl))) (mvT hZ (hw _ (List.mem_of_getElem? (i := 68) rfl))) (by decide) (backOf (W := 0) (rm9_1 l Z a0 hw [] w6 T17.heap n0 Z17 f23) hZ (hw _ (List.mem_of_getElem? (i := 70) rfl)) (hw _ (List.mem_of_getElem? (i := 5) rfl)) (by decide) (by decide)) q24a q24c (g := (mkF m 144 #[.val (.int p1), .val (.int ((p1 &&& (2147483647 : Int32)) % (7 : Int32))), .val (.ref w4), .val (.ref w6), .val (.ref w6)] [(.ref w6)])) rfl (by rw [hml]; rfl) (Steps.refl _) (argsL := []) (rest := []) (lenOf pd_6 rfl) rfl (by show 2 * 0 + _ ≤ _; exact Nat.le_of_eq rfl) (hb hby at_144) (fun _ _ => ⟨rfl, e22, (by decide : 2 + 0 ≤ _), (by decide : 8 + 0 ≤ _)⟩)
  dsimp only [Pt.U, Pt.locs, Pt.cells, Pt.slots] at X24 l24 y24 z24 st24 hQ24
  subst l24 y24 z24
  obtain ⟨rfl, Nq24, e24⟩ := hQ24
  have N24 := Fr.app N22 Nq24
  obtain ⟨fs, hr, hrun, hended, hW, hsame⟩ := X24.leave (v := some (.int (1 : Int32))) (fun h => by rw [Bd.returns] at h; cases h)
  refine ⟨_, _, pre0 _ ?_, hrun, hended, _, _, rfl, ?_, ⟨_, rfl⟩, hW, hsame.mono (by decide) (by decide)⟩
  · show Steps p.tables e below (s₁.setTop (mkF m 0 #[.val (.int p1), .unset, .unset, .unset, .unset] [])) _
    refine XS.iloadN X0.here hx rfl (hb hby at_0) rfl ?_
    show Steps p.tables e below (s₁.setTop (mkF m 1 #[.val (.int p1), .unset, .unset, .unset, .unset] [(.int p1)])) _
    refine X0.ldcInt hx hown (mvT hZ (hw _ (List.mem_of_getElem? (i := 0) rfl))) (g := (mkF m 1 #[.val (.int p1), .unset, .unset, .unset, .unset] [(.int p1)])) rfl (hb hby at_1) _ ?_
    show Steps p.tables e below (s₁.setTop (mkF m 3 #[.val (.int p1), .unset, .unset, .unset, .unset] [(.int (2147483647 : Int32)), (.int p1)])) _
    refine XS.iand X0.here hx rfl (hb hby at_3) rfl ?_
    show Steps p.tables e below (s₁.setTop (mkF m 4 #[.val (.int p1), .unset, .unset, .unset, .unset] [(.int (p1 &&& (2147483647 : Int32)))])) _
    refine XS.bipush X0.here hx rfl (hb hby at_4) ?_
    show Steps p.tables e below (s₁.setTop (mkF m 6 #[.val (.int p1), .unset, .unset, .unset, .unset] [(.int (7 : Int32)), (.int (p1 &&& (2147483647 : Int32)))])) _
    refine iremM X0 hx rfl (hb hby at_6) rfl (by decide : ¬ ((7 : Int32) = (0 : Int32))) ?_
    show Steps p.tables e below (s₁.setTop (mkF m 7 #[.val (.int p1), .unset, .unset, .unset, .unset] [(.int ((p1 &&& (2147483647 : Int32)) % (7 : Int32)))])) _
    refine XS.istoreN X0.here hx rfl (hb hby at_7) rfl (l' := #[.val (.int p1), .val (.int ((p1 &&& (2147483647 : Int32)) % (7 : Int32))), .unset, .unset, .unset]) rfl ?_
    show Steps p.tables e below (s₁.setTop (mkF m 8 #[.val (.int p1), .val (.int ((p1 &&& (2147483647 : Int32)) % (7 : Int32))), .unset, .unset, .unset] [])) _
    refine XS.iloadN X0.here hx rfl (hb hby at_8) rfl ?_
    show Steps p.tables e below (s₁.setTop (mkF m 9 #[.val (.int p1), .val (.int ((p1 &&& (2147483647 : Int32)) % (7 : Int32))), .unset, .unset, .unset] [(.int ((p1 &&& (2147483647 : Int32)) % (7 : Int32)))])) _
    refine XS.ifYes X0.here hx rfl (pc0 := 9) (pc' := 23) rfl (hb hby at_9) rfl ((if0 _ _).trans (feq P2).2) (by decide) (by decide) ?_
    show Steps p.tables e below (s₁.setTop (mkF m 23 #[.val (.int p1), .val (.int ((p1 &&& (2147483647 : Int32)) % (7 : Int32))), .unset, .unset, .unset] [])) _
    refine XS.iloadN X0.here hx rfl (hb hby at_23) rfl ?_
    show Steps p.tables e below (s₁.setTop (mkF m 24 #[.val (.int p1), .val (.int ((p1 &&& (2147483647 : Int32)) % (7 : Int32))), .unset, .unset, .unset] [(.int ((p1 &&& (2147483647 : Int32)) % (7 : Int32)))])) _
    refine XS.iconst X0.here hx rfl (hb hby at_24) ?_
    show Steps p.tables e below (s₁.setTop (mkF m 25 #[.val (.int p1), .val (.int ((p1 &&& (2147483647 : Int32)) % (7 : Int32))), .unset, .unset, .unset] [(.int (1 : Int32)), (.int ((p1 &&& (2147483647 : Int32)) % (7 : Int32)))])) _
    refine XS.icmpNo X0.here hx rfl (hb hby at_25) rfl (teq P3).2 ?_
    show Steps p.tables e below (s₁.setTop (mkF m 28 #[.val (.int p1), .val (.int ((p1 &&& (2147483647 : Int32)) % (7 : Int32))), .unset, .unset, .unset] [])) _
    refine st5 _ ?_
    show Steps p.tables e below (T5.setTop (mkF m 31 #[.val (.int p1), .val (.int ((p1 &&& (2147483647 : Int32)) % (7 : Int32))), .unset, .unset, .unset] [(.ref w4)])) _
    refine XS.astoreN X5.here hx rfl (hb hby at_31) rfl rfl (l' := #[.val (.int p1), .val (.int ((p1 &&& (2147483647 : Int32)) % (7 : Int32))), .val (.ref w4), .unset, .unset]) rfl ?_
    show Steps p.tables e below (T5.setTop (mkF m 32 #[.val (.int p1), .val (.int ((p1 &&& (2147483647 : Int32)) % (7 : Int32))), .val (.ref w4), .unset, .unset] [])) _
    refine st7 _ ?_
    show Steps p.tables e below (T7.setTop (mkF m 35 #[.val (.int p1), .val (.int ((p1 &&& (2147483647 : Int32)) % (7 : Int32))), .val (.ref w4), .unset, .unset] [(.ref w6)])) _
    refine XS.astoreN X7.here hx rfl (hb hby at_35) rfl rfl (l' := #[.val (.int p1), .val (.int ((p1 &&& (2147483647 : Int32)) % (7 : Int32))), .val (.ref w4), .val (.ref w6), .unset]) rfl ?_
    show Steps p.tables e below (T7.setTop (mkF m 36 #[.val (.int p1), .val (.int ((p1 &&& (2147483647 : Int32)) % (7 : Int32))), .val (.ref w4), .val (.ref w6), .unset] [])) _
    refine XS.goto X7.here hx rfl (pc0 := 36) (pc' := 105) rfl (hb hby at_36) (by decide) (by decide) ?_
    show Steps p.tables e below (T7.setTop (mkF m 105 #[.val (.int p1), .val (.int ((p1 &&& (2147483647 : Int32)) % (7 : Int32))), .val (.ref w4), .val (.ref w6), .unset] [])) _
    refine XS.aloadN X7.here hx rfl (hb hby at_105) rfl rfl ?_
    show Steps p.tables e below (T7.setTop (mkF m 106 #[.val (.int p1), .val (.int ((p1 &&& (2147483647 : Int32)) % (7 : Int32))), .val (.ref w4), .val (.ref w6), .unset] [(.ref w4)])) _
    refine st17 _ ?_
    show Steps p.tables e below (T17.setTop (mkF m 109 #[.val (.int p1), .val (.int ((p1 &&& (2147483647 : Int32)) % (7 : Int32))), .val (.ref w4), .val (.ref w6), .unset] [(.ref b2_22_17)])) _
    refine XS.aconstNull X17.here hx rfl (hb hby at_109) ?_
    show Steps p.tables e below (T17.setTop (mkF m 110 #[.val (.int p1), .val (.int ((p1 &&& (2147483647 : Int32)) % (7 : Int32))), .val (.ref w4), .val (.ref w6), .unset] [.null, (.ref b2_22_17)])) _
    refine st18.trans ?_
    show Steps p.tables e below (T18.setTop (mkF m 113 #[.val (.int p1), .val (.int ((p1 &&& (2147483647 : Int32)) % (7 : Int32))), .val (.ref w4), .val (.ref w6), .unset] [(.ref w6)])) _
    refine st20 _ ?_
    show Steps p.tables e below (T20.setTop (mkF m 116 #[.val (.int p1), .val (.int ((p1 &&& (2147483647 : Int32)) % (7 : Int32))), .val (.ref w4), .val (.ref w6), .unset] [(.ref w6)])) _
    refine XS.astore X20.here hx rfl (hb hby at_116) rfl rfl (l' := #[.val (.int p1), .val (.int ((p1 &&& (2147483647 : Int32)) % (7 : Int32))), .val (.ref w4), .val (.ref w6), .val (.ref w6)]) rfl ?_
    show Steps p.tables e below (T20.setTop (mkF m 118 #[.val (.int p1), .val (.int ((p1 &&& (2147483647 : Int32)) % (7 : Int32))), .val (.ref w4), .val (.ref w6), .val (.ref w6)] [])) _
    refine XS.aload X20.here hx rfl (hb hby at_118) rfl rfl ?_
    show Steps p.tables e below (T20.setTop (mkF m 120 #[.val (.int p1), .val (.int ((p1 &&& (2147483647 : Int32)) % (7 : Int32))), .val (.ref w4), .val (.ref w6), .val (.ref w6)] [(.ref w6)])) _
    refine XS.aloadN X20.here hx rfl (hb hby at_120) rfl rfl ?_
    show Steps p.tables e below (T20.setTop (mkF m 121 #[.val (.int p1), .val (.int ((p1 &&& (2147483647 : Int32)) % (7 : Int32))), .val (.ref w4), .val (.ref w6), .val (.ref w6)] [(.ref w6), (.ref w6)])) _
    refine Jvm.RoadKit.acmp (g := (mkF m 121 #[.val (.int p1), .val (.int ((p1 &&& (2147483647 : Int32)) % (7 : Int32))), .val (.ref w4), .val (.ref w6), .val (.ref w6)] [(.ref w6), (.ref w6)])) X20 hx rfl rfl rfl (pc0 := 121) (pc' := 126) (same := true) rfl (hb hby at_121) rfl (decide_eq_true rfl) (by decide) (by decide) ?_
    show Steps p.tables e below (T20.setTop (mkF m 126 #[.val (.int p1), .val (.int ((p1 &&& (2147483647 : Int32)) % (7 : Int32))), .val (.ref w4), .val (.ref w6), .val (.ref w6)] [])) _
    refine XS.aload X20.here hx rfl (hb hby at_126) rfl rfl ?_
    show Steps p.tables e below (T20.setTop (mkF m 128 #[.val (.int p1), .val (.int ((p1 &&& (2147483647 : Int32)) % (7 : Int32))), .val (.ref w4), .val (.ref w6), .val (.ref w6)] [(.ref w6)])) _
    refine XS.ifnonnullYes X20.here hx rfl (pc0 := 128) (pc' := 133) rfl (hb hby at_128) rfl (by decide) (by decide) ?_
    show Steps p.tables e below (T20.setTop (mkF m 133 #[.val (.int p1), .val (.int ((p1 &&& (2147483647 : Int32)) % (7 : Int32))), .val (.ref w4), .val (.ref w6), .val (.ref w6)] [])) _
    refine XS.aload X20.here hx rfl (hb hby at_133) rfl rfl ?_
    show Steps p.tables e below (T20.setTop (mkF m 135 #[.val (.int p1), .val (.int ((p1 &&& (2147483647 : Int32)) % (7 : Int32))), .val (.ref w4), .val (.ref w6), .val (.ref w6)] [(.ref w6)])) _
    refine st22.trans ?_
    show Steps p.tables e below (T22.setTop (mkF m 138 #[.val (.int p1), .val (.int ((p1 &&& (2147483647 : Int32)) % (7 : Int32))), .val (.ref w4), .val (.ref w6), .val (.ref w6)] [(.ref w4)])) _
    refine XS.aloadN X22.here hx rfl (hb hby at_138) rfl rfl ?_
    show Steps p.tables e below (T22.setTop (mkF m 139 #[.val (.int p1), .val (.int ((p1 &&& (2147483647 : Int32)) % (7 : Int32))), .val (.ref w4), .val (.ref w6), .val (.ref w6)] [(.ref w4), (.ref w4)])) _
    refine Jvm.RoadKit.acmp (g := (mkF m 139 #[.val (.int p1), .val (.int ((p1 &&& (2147483647 : Int32)) % (7 : Int32))), .val (.ref w4), .val (.ref w6), .val (.ref w6)] [(.ref w4), (.ref w4)])) X22 hx rfl rfl rfl (pc0 := 139) (pc' := 142) (same := true) rfl (hb hby at_139) rfl (decide_eq_true rfl) (by decide) (by decide) ?_
    show Steps p.tables e below (T22.setTop (mkF m 142 #[.val (.int p1), .val (.int ((p1 &&& (2147483647 : Int32)) % (7 : Int32))), .val (.ref w4), .val (.ref w6), .val (.ref w6)] [])) _
    refine XS.aload X22.here hx rfl (hb hby at_142) rfl rfl ?_
    show Steps p.tables e below (T22.setTop (mkF m 144 #[.val (.int p1), .val (.int ((p1 &&& (2147483647 : Int32)) % (7 : Int32))), .val (.ref w4), .val (.ref w6), .val (.ref w6)] [(.ref w6)])) _
    refine st24.trans ?_
    show Steps p.tables e below (T24.setTop (mkF m 147 #[.val (.int p1), .val (.int ((p1 &&& (2147483647 : Int32)) % (7 : Int32))), .val (.ref w4), .val (.ref w6), .val (.ref w6)] [(.int (0 : Int32))])) _
    refine XS.ifNo X24.here hx rfl (hb hby at_147) rfl ((if0 _ _).trans (teq (rfl : (0 : Int32) = (0 : Int32))).2) ?_
    show Steps p.tables e below (T24.setTop (mkF m 150 #[.val (.int p1), .val (.int ((p1 &&& (2147483647 : Int32)) % (7 : Int32))), .val (.ref w4), .val (.ref w6), .val (.ref w6)] [])) _
    refine XS.iconst X24.here hx rfl (hb hby at_150) ?_
    show Steps p.tables e below (T24.setTop (mkF m 151 #[.val (.int p1), .val (.int ((p1 &&& (2147483647 : Int32)) % (7 : Int32))), .val (.ref w4), .val (.ref w6), .val (.ref w6)] [(.int (1 : Int32))])) _
    refine XS.goto X24.here hx rfl (pc0 := 151) (pc' := 155) rfl (hb hby at_151) (by decide) (by decide) ?_
    show Steps p.tables e below (T24.setTop (mkF m 155 #[.val (.int p1), .val (.int ((p1 &&& (2147483647 : Int32)) % (7 : Int32))), .val (.ref w4), .val (.ref w6), .val (.ref w6)] [(.int (1 : Int32))])) _
    exact retN X24 hx (t := .boolean) Bd.returns (by simp) (hb hby at_155) hr
  · exact ⟨rfl, N24⟩
def Q1_3 (Z : State) (a1 : Addr) (w2 : Addr) (k_w2 : ClassId) (w3 : Addr) (w4 : Addr) (w5 : Addr) (w6 : Addr) (w7 : Addr) (w8 : Addr) (w9 : Addr) (w13 : Addr) (w18 : Addr) (h0 : Heap) (n0 : Nat) (v : Option Value) (h : Heap) (L : List Loc) : Prop := ∃ (b2_27 : Addr), v = some (.ref b2_27) ∧ Fr n0 L ∧ Keep h0 h [] ∧ h0.size ≤ b2_27 ∧ Exa Z h b2_27 "java/util/Optional" ∧ Fld Z h b2_27 "java/util/Optional" "value" "Ljava/lang/Object;" (.ref w5)
set_option maxRecDepth 65536 in
set_option maxHeartbeats 40000000 in
theorem rm1_3 (l : Launch) (Z : State) (a0 : Array Value) (hw : ∀ d ∈ tables_1, d.before a0 Z = true) (ws : List Jvm.Cond) (a1 : Addr) (w2 : Addr) (k_w2 : ClassId) (w3 : Addr) (w4 : Addr) (w5 : Addr) (w6 : Addr) (w7 : Addr) (w8 : Addr) (w9 : Addr) (w13 : Addr) (w18 : Addr) (h0 : Heap) (n0 : Nat) (Z0 : n0 ≤ h0.size) (V_w2 : Arv Z h0 w2 k_w2 (.object "com/example/tipple_ledger/tippleledger/terms/WeightedAverage") (7 : Int32) [(.ref w3), (.ref w4), (.ref w5), (.ref w6), (.ref w7), (.ref w8), (.ref w9)] .null) (S__VALUES : Sta Z h0 "com/example/tipple_ledger/tippleledger/terms/WeightedAverage" "$VALUES" "[Lcom/example/tipple_ledger/tippleledger/terms/WeightedAverage;" (.ref w2)) (E_w2 : Exa Z h0 w2 "[Lcom/example/tipple_ledger/tippleledger/terms/WeightedAverage;") (F_characteristic_w3 : Fld Z h0 w3 "com/example/tipple_ledger/tippleledger/terms/WeightedAverage" "characteristic" "Lcom/example/tipple_ledger/tippleledger/terms/Characteristic;" (.ref w13)) (P16 : ¬ (w13 = a1)) (F_characteristic_w4 : Fld Z h0 w4 "com/example/tipple_ledger/tippleledger/terms/WeightedAverage" "characteristic" "Lcom/example/tipple_ledger/tippleledger/terms/Characteristic;" (.ref w18)) (P21 : ¬ (w18 = a1)) (F_characteristic_w5 : Fld Z h0 w5 "com/example/tipple_ledger/tippleledger/terms/WeightedAverage" "characteristic" "Lcom/example/tipple_ledger/tippleledger/terms/Characteristic;" (.ref a1)) (F_perMmbtu_w5 : Fld Z h0 w5 "com/example/tipple_ledger/tippleledger/terms/WeightedAverage" "perMmbtu" "Z" (.int (0 : Int32))) :
    MetFree l (⟨"com/example/tipple_ledger/tippleledger/terms/WeightedAverage", "byTons", "(Lcom/example/tipple_ledger/tippleledger/terms/Characteristic;)Ljava/util/Optional;"⟩ : MethodName) (head1 (Jvm.Cond.code (⟨"com/example/tipple_ledger/tippleledger/terms/WeightedAverage", "byTons", "(Lcom/example/tipple_ledger/tippleledger/terms/Characteristic;)Ljava/util/Optional;"⟩ : MethodName) prog_194_method_11_code 5 (some (.object "java/util/Optional")) :: ws) ({ frames := 3, cells := 2, slots := 8, locals := 38 } : Room)) (fun a U => a = #[(.ref a1)] ∧ Z.Warmed39 U.vm ∧ U.heap = h0) (fun _ _ _ _ _ => True) (fun _ U o U' => ∃ v L, o = .returned v ∧ Q1_3 Z a1 w2 k_w2 w3 w4 w5 w6 w7 w8 w9 w13 w18 h0 n0 v U'.heap L ∧ FrameEnd U o U' L ({ frames := 3, cells := 2, slots := 8, locals := 38 } : Room).cells ({ frames := 3, cells := 2, slots := 8, locals := 38 } : Room).slots) := by
  refine MetFree.of_bodySF (plainFor_of_name pn_1) hisR ?_
  intro p e s m args below meth c s₁ Bd hml0 hP hK
  obtain ⟨rfl, hZ, hh⟩ := hP
  have hx := Bd.exec
  have hby := Bd.bytes
  have hml : c.maxLocals = 5 := hml0
  have hown : s.vm.findClass "com/example/tipple_ledger/tippleledger/terms/WeightedAverage" = some m.cls := findClass_of_methodNamed Bd.named
  have hnm := (name_of_methodNamed Bd.named Bd.method).1
  have X0 : Stand p l e ({ frames := 3, cells := 2, slots := 8, locals := 38 } : Room) s m #[(.ref a1)] below meth c s₁ [] 0 0 := Stand.of_body Bd
  have e0 : s₁.heap = h0 := by rw [← hh, Bd.state]; rfl
  have N0 := Fr.nil n0
  have pre0 : ∀ t, Steps p.tables e below (s₁.setTop (mkF m 0 #[.val (.ref a1), .unset, .unset, .unset, .unset] [])) t → Steps p.tables e below (s₁.setTop (entryFrame m #[(.ref a1)] 5)) t := fun t k => castTop (ef_1_R m a1) k
  obtain ⟨_, _, ⟨T10, L10, k10, n10⟩, -, X10, ⟨Lc10, hQ10, l10, y10, z10⟩, st10⟩ := Jvm.LawKit.callS X0 hx (y := (⟨"com/example/tipple_ledger/tippleledger/terms/WeightedAverage", "values", "()[Lcom/example/tipple_ledger/tippleledger/terms/WeightedAverage;"⟩ : MethodName)) hown (mvT hZ (hw _ (List.mem_of_getElem? (i := 10) rfl))) (mvT hZ (hw _ (List.mem_of_getElem? (i := 11) rfl))) (mvT hZ (hw _ (List.mem_of_getElem? (i := 5) rfl))) (mvT hZ (hw _ (List.mem_of_getElem? (i := 12) rfl))) (by decide) (backOf (W := 0) (rm2_1 l Z a0 hw [] w2 k_w2 w3 w4 w5 w6 w7 w8 w9 h0 n0 Z0 S__VALUES V_w2 E_w2) hZ (hw _ (List.mem_of_getElem? (i := 12) rfl)) (hw _ (List.mem_of_getElem? (i := 5) rfl)) (by decide) (by decide)) (g := (mkF m 0 #[.val (.ref a1), .unset, .unset, .unset, .unset] [])) rfl (by rw [hml]; rfl) (argsL := []) (rest := []) (lenOf pd_0 rfl) rfl (by show 2 * 0 + _ ≤ _; exact Nat.le_of_eq rfl) (hb hby d1_0) (fun _ _ => ⟨rfl, e0, (by decide : 0 + 1 ≤ _), (by decide : 0 + 7 ≤ _)⟩)
  dsimp only [Pt.U, Pt.locs, Pt.cells, Pt.slots] at X10 l10 y10 z10 st10 hQ10
  subst l10 y10 z10
  obtain ⟨b10_10, rfl, Nq10, K10, x10_0, x10_1, x10_2⟩ := hQ10
  have N10 := Fr.app N0 Nq10
  have sz_b10_10 : h0.size ≤ b10_10 := Nat.le_trans (Keep.refl h0 []).1 x10_0
  have g_b10_10 : n0 ≤ b10_10 := Nat.le_trans Z0 sz_b10_10
  have K0_10 : Keep h0 T10.heap [] := (Keep.refl h0 []).trans K10 all0
  have Z10 : n0 ≤ T10.heap.size := Nat.le_trans Z0 K10.1
  obtain ⟨cl11, Ar11, -, S11, N_11, -, -⟩ := id x10_1
  obtain ⟨cl12, Ar12, q12, S12, N_12, H12, G12⟩ := id x10_1
  have hin12 : ¬ ((0 : Int32) < 0 ∨ cl12.slots.size ≤ ((0 : Int32)).toNatClampNeg) := inb_of S12 ⟨by decide, (by decide : (0 : Int32) < (7 : Int32))⟩
  have hat12 : cl12.slots[((0 : Int32)).toNatClampNeg]? = some (.ref w3) := Has.at H12 hin12 rfl
  have f14 := (F_characteristic_w3.keep K10 nin0)
  obtain ⟨T15, X15, e15, st15⟩ := getF X10 hx hZ hown (host := "") (Or.inl (hw _ (List.mem_of_getElem? (i := 31) rfl))) Via.refl rfl f14 (g := (mkF m 21 #[.val (.ref a1), .val (.ref b10_10), .val (.int (7 : Int32)), .val (.int (0 : Int32)), .val (.ref w3)] [(.ref w3)])) rfl rfl (hb hby d1_21)
  obtain ⟨cl17, Ar17, q17, S17, N_17, H17, G17⟩ := id x10_1
  have hin17 : ¬ ((1 : Int32) < 0 ∨ cl17.slots.size ≤ ((1 : Int32)).toNatClampNeg) := inb_of S17 ⟨by decide, (by decide : (1 : Int32) < (7 : Int32))⟩
  have hat17 : cl17.slots[((1 : Int32)).toNatClampNeg]? = some (.ref w4) := Has.at H17 hin17 rfl
  have f19 := (F_characteristic_w4.keep K10 nin0)
  obtain ⟨T20, X20, e20, st20⟩ := getF X15 hx hZ hown (host := "") (Or.inl (hw _ (List.mem_of_getElem? (i := 31) rfl))) Via.refl e15 f19 (g := (mkF m 21 #[.val (.ref a1), .val (.ref b10_10), .val (.int (7 : Int32)), .val (.int (1 : Int32)), .val (.ref w4)] [(.ref w4)])) rfl rfl (hb hby d1_21)
  obtain ⟨cl22, Ar22, q22, S22, N_22, H22, G22⟩ := id x10_1
  have hin22 : ¬ ((2 : Int32) < 0 ∨ cl22.slots.size ≤ ((2 : Int32)).toNatClampNeg) := inb_of S22 ⟨by decide, (by decide : (2 : Int32) < (7 : Int32))⟩
  have hat22 : cl22.slots[((2 : Int32)).toNatClampNeg]? = some (.ref w5) := Has.at H22 hin22 rfl
  have f23 := (F_characteristic_w5.keep K10 nin0)
  obtain ⟨T24, X24, e24, st24⟩ := getF X20 hx hZ hown (host := "") (Or.inl (hw _ (List.mem_of_getElem? (i := 31) rfl))) Via.refl e20 f23 (g := (mkF m 21 #[.val (.ref a1), .val (.ref b10_10), .val (.int (7 : Int32)), .val (.int (2 : Int32)), .val (.ref w5)] [(.ref w5)])) rfl rfl (hb hby d1_21)
  have f25 := (F_perMmbtu_w5.keep K10 nin0)
  obtain ⟨T26, X26, e26, st26⟩ := getF X24 hx hZ hown (host := "") (Or.inl (hw _ (List.mem_of_getElem? (i := 33) rfl))) Via.refl e24 f25 (g := (mkF m 30 #[.val (.ref a1), .val (.ref b10_10), .val (.int (7 : Int32)), .val (.int (2 : Int32)), .val (.ref w5)] [(.ref w5)])) rfl rfl (hb hby d1_30)
  obtain ⟨_, _, ⟨T27, L27, k27, n27⟩, -, X27, ⟨Lc27, hQ27, l27, y27, z27⟩, st27⟩ := Jvm.LawKit.callS X26 hx (y := (⟨"java/util/Optional", "of", "(Ljava/lang/Object;)Ljava/util/Optional;"⟩ : MethodName)) hown (mvT hZ (hw _ (List.mem_of_getElem? (i := 35) rfl))) (mvT hZ (hw _ (List.mem_of_getElem? (i := 36) rfl))) (mvT hZ (hw _ (List.mem_of_getElem? (i := 37) rfl))) (mvT hZ (hw _ (List.mem_of_getElem? (i := 38) rfl))) (by decide) (backOf (W := 0) (rm3_1 l Z a0 hw [] w5 T10.heap n0 Z10) hZ (hw _ (List.mem_of_getElem? (i := 38) rfl)) (hw _ (List.mem_of_getElem? (i := 37) rfl)) (by decide) (by decide)) (g := (mkF m 38 #[.val (.ref a1), .val (.ref b10_10), .val (.int (7 : Int32)), .val (.int (2 : Int32)), .val (.ref w5)] [(.ref w5)])) rfl (by rw [hml]; rfl) (argsL := [(.ref w5)]) (rest := []) (lenOf pd_3 rfl) rfl (by show 2 * 0 + _ ≤ _; exact Nat.le_of_eq rfl) (hb hby d1_38) (fun _ _ => ⟨rfl, e26, (by decide : 1 + 1 ≤ _), (by decide : 7 + 1 ≤ _)⟩)
  dsimp only [Pt.U, Pt.locs, Pt.cells, Pt.slots] at X27 l27 y27 z27 st27 hQ27
  subst l27 y27 z27
  obtain ⟨b2_27, rfl, Nq27, K27, x27_0, x27_1, x27_2⟩ := hQ27
  have N27 := Fr.app N10 Nq27
  have sz_b2_27 : h0.size ≤ b2_27 := Nat.le_trans K0_10.1 x27_0
  have g_b2_27 : n0 ≤ b2_27 := Nat.le_trans Z0 sz_b2_27
  have K0_27 : Keep h0 T27.heap [] := K0_10.trans K27 all0
  have Z27 : n0 ≤ T27.heap.size := Nat.le_trans Z10 K27.1
  obtain ⟨fs, hr, hrun, hended, hW, hsame⟩ := X27.leave (v := some (.ref b2_27)) (fun h => by rw [Bd.returns] at h; cases h)
  refine ⟨_, _, pre0 _ ?_, hrun, hended, _, _, rfl, ?_, ⟨_, rfl⟩, hW, hsame.mono (by decide) (by decide)⟩
  · show Steps p.tables e below (s₁.setTop (mkF m 0 #[.val (.ref a1), .unset, .unset, .unset, .unset] [])) _
    refine st10 _ ?_
    show Steps p.tables e below (T10.setTop (mkF m 3 #[.val (.ref a1), .unset, .unset, .unset, .unset] [(.ref b10_10)])) _
    refine XS.astoreN X10.here hx rfl (hb hby d1_3) rfl rfl (l' := #[.val (.ref a1), .val (.ref b10_10), .unset, .unset, .unset]) rfl ?_
    show Steps p.tables e below (T10.setTop (mkF m 4 #[.val (.ref a1), .val (.ref b10_10), .unset, .unset, .unset] [])) _
    refine XS.aloadN X10.here hx rfl (hb hby d1_4) rfl rfl ?_
    show Steps p.tables e below (T10.setTop (mkF m 5 #[.val (.ref a1), .val (.ref b10_10), .unset, .unset, .unset] [(.ref b10_10)])) _
    refine X10.arraylength hx (Ar11.1) (State.isArrayOf_alike hZ.alike Ar11.2.1) (g := (mkF m 5 #[.val (.ref a1), .val (.ref b10_10), .unset, .unset, .unset] [(.ref b10_10)])) rfl rfl (hb hby d1_5) _ ?_
    rw [len_of S11 N_11]
    show Steps p.tables e below (T10.setTop (mkF m 6 #[.val (.ref a1), .val (.ref b10_10), .unset, .unset, .unset] [(.int (7 : Int32))])) _
    refine XS.istoreN X10.here hx rfl (hb hby d1_6) rfl (l' := #[.val (.ref a1), .val (.ref b10_10), .val (.int (7 : Int32)), .unset, .unset]) rfl ?_
    show Steps p.tables e below (T10.setTop (mkF m 7 #[.val (.ref a1), .val (.ref b10_10), .val (.int (7 : Int32)), .unset, .unset] [])) _
    refine XS.iconst X10.here hx rfl (hb hby d1_7) ?_
    show Steps p.tables e below (T10.setTop (mkF m 8 #[.val (.ref a1), .val (.ref b10_10), .val (.int (7 : Int32)), .unset, .unset] [(.int (0 : Int32))])) _
    refine XS.istoreN X10.here hx rfl (hb hby d1_8) rfl (l' := #[.val (.ref a1), .val (.ref b10_10), .val (.int (7 : Int32)), .val (.int (0 : Int32)), .unset]) rfl ?_
    show Steps p.tables e below (T10.setTop (mkF m 9 #[.val (.ref a1), .val (.ref b10_10), .val (.int (7 : Int32)), .val (.int (0 : Int32)), .unset] [])) _
    refine XS.iloadN X10.here hx rfl (hb hby d1_9) rfl ?_
    show Steps p.tables e below (T10.setTop (mkF m 10 #[.val (.ref a1), .val (.ref b10_10), .val (.int (7 : Int32)), .val (.int (0 : Int32)), .unset] [(.int (0 : Int32))])) _
    refine XS.iloadN X10.here hx rfl (hb hby d1_10) rfl ?_
    show Steps p.tables e below (T10.setTop (mkF m 11 #[.val (.ref a1), .val (.ref b10_10), .val (.int (7 : Int32)), .val (.int (0 : Int32)), .unset] [(.int (7 : Int32)), (.int (0 : Int32))])) _
    refine XS.icmpNo X10.here hx rfl (hb hby d1_11) rfl (tlt (by decide : (0 : Int32) < (7 : Int32))).2.1 ?_
    show Steps p.tables e below (T10.setTop (mkF m 14 #[.val (.ref a1), .val (.ref b10_10), .val (.int (7 : Int32)), .val (.int (0 : Int32)), .unset] [])) _
    refine XS.aloadN X10.here hx rfl (hb hby d1_14) rfl rfl ?_
    show Steps p.tables e below (T10.setTop (mkF m 15 #[.val (.ref a1), .val (.ref b10_10), .val (.int (7 : Int32)), .val (.int (0 : Int32)), .unset] [(.ref b10_10)])) _
    refine XS.iloadN X10.here hx rfl (hb hby d1_15) rfl ?_
    show Steps p.tables e below (T10.setTop (mkF m 16 #[.val (.ref a1), .val (.ref b10_10), .val (.int (7 : Int32)), .val (.int (0 : Int32)), .unset] [(.int (0 : Int32)), (.ref b10_10)])) _
    refine X10.aaload hx (j := (0 : Int32)) (v := (.ref w3)) (Ar12.1) (State.isArrayOf_alike hZ.alike Ar12.2.1) rfl Ar12.2.2 hin12 hat12 (g := (mkF m 16 #[.val (.ref a1), .val (.ref b10_10), .val (.int (7 : Int32)), .val (.int (0 : Int32)), .unset] [(.int (0 : Int32)), (.ref b10_10)])) rfl rfl (hb hby d1_16) _ ?_
    show Steps p.tables e below (T10.setTop (mkF m 17 #[.val (.ref a1), .val (.ref b10_10), .val (.int (7 : Int32)), .val (.int (0 : Int32)), .unset] [(.ref w3)])) _
    refine XS.astore X10.here hx rfl (hb hby d1_17) rfl rfl (l' := #[.val (.ref a1), .val (.ref b10_10), .val (.int (7 : Int32)), .val (.int (0 : Int32)), .val (.ref w3)]) rfl ?_
    show Steps p.tables e below (T10.setTop (mkF m 19 #[.val (.ref a1), .val (.ref b10_10), .val (.int (7 : Int32)), .val (.int (0 : Int32)), .val (.ref w3)] [])) _
    refine XS.aload X10.here hx rfl (hb hby d1_19) rfl rfl ?_
    show Steps p.tables e below (T10.setTop (mkF m 21 #[.val (.ref a1), .val (.ref b10_10), .val (.int (7 : Int32)), .val (.int (0 : Int32)), .val (.ref w3)] [(.ref w3)])) _
    refine st15 _ ?_
    show Steps p.tables e below (T15.setTop (mkF m 24 #[.val (.ref a1), .val (.ref b10_10), .val (.int (7 : Int32)), .val (.int (0 : Int32)), .val (.ref w3)] [(.ref w13)])) _
    refine XS.aloadN X15.here hx rfl (hb hby d1_24) rfl rfl ?_
    show Steps p.tables e below (T15.setTop (mkF m 25 #[.val (.ref a1), .val (.ref b10_10), .val (.int (7 : Int32)), .val (.int (0 : Int32)), .val (.ref w3)] [(.ref a1), (.ref w13)])) _
    refine Jvm.RoadKit.acmp (g := (mkF m 25 #[.val (.ref a1), .val (.ref b10_10), .val (.int (7 : Int32)), .val (.int (0 : Int32)), .val (.ref w3)] [(.ref a1), (.ref w13)])) X15 hx rfl rfl rfl (pc0 := 25) (pc' := 42) (same := false) rfl (hb hby d1_25) rfl (decide_eq_false fun q => P16 (Value.ref.inj q)) (by decide) (by decide) ?_
    show Steps p.tables e below (T15.setTop (mkF m 42 #[.val (.ref a1), .val (.ref b10_10), .val (.int (7 : Int32)), .val (.int (0 : Int32)), .val (.ref w3)] [])) _
    refine XS.iinc X15.here hx rfl (hb hby d1_42) rfl (l' := #[.val (.ref a1), .val (.ref b10_10), .val (.int (7 : Int32)), .val (.int (1 : Int32)), .val (.ref w3)]) rfl ?_
    show Steps p.tables e below (T15.setTop (mkF m 45 #[.val (.ref a1), .val (.ref b10_10), .val (.int (7 : Int32)), .val (.int (1 : Int32)), .val (.ref w3)] [])) _
    refine XS.goto X15.here hx rfl (pc0 := 45) (pc' := 9) rfl (hb hby d1_45) (by decide) (by decide) ?_
    show Steps p.tables e below (T15.setTop (mkF m 9 #[.val (.ref a1), .val (.ref b10_10), .val (.int (7 : Int32)), .val (.int (1 : Int32)), .val (.ref w3)] [])) _
    refine XS.iloadN X15.here hx rfl (hb hby d1_9) rfl ?_
    show Steps p.tables e below (T15.setTop (mkF m 10 #[.val (.ref a1), .val (.ref b10_10), .val (.int (7 : Int32)), .val (.int (1 : Int32)), .val (.ref w3)] [(.int (1 : Int32))])) _
    refine XS.iloadN X15.here hx rfl (hb hby d1_10) rfl ?_
    show Steps p.tables e below (T15.setTop (mkF m 11 #[.val (.ref a1), .val (.ref b10_10), .val (.int (7 : Int32)), .val (.int (1 : Int32)), .val (.ref w3)] [(.int (7 : Int32)), (.int (1 : Int32))])) _
    refine XS.icmpNo X15.here hx rfl (hb hby d1_11) rfl (tlt (by decide : (1 : Int32) < (7 : Int32))).2.1 ?_
    show Steps p.tables e below (T15.setTop (mkF m 14 #[.val (.ref a1), .val (.ref b10_10), .val (.int (7 : Int32)), .val (.int (1 : Int32)), .val (.ref w3)] [])) _
    refine XS.aloadN X15.here hx rfl (hb hby d1_14) rfl rfl ?_
    show Steps p.tables e below (T15.setTop (mkF m 15 #[.val (.ref a1), .val (.ref b10_10), .val (.int (7 : Int32)), .val (.int (1 : Int32)), .val (.ref w3)] [(.ref b10_10)])) _
    refine XS.iloadN X15.here hx rfl (hb hby d1_15) rfl ?_
    show Steps p.tables e below (T15.setTop (mkF m 16 #[.val (.ref a1), .val (.ref b10_10), .val (.int (7 : Int32)), .val (.int (1 : Int32)), .val (.ref w3)] [(.int (1 : Int32)), (.ref b10_10)])) _
    refine X15.aaload hx (j := (1 : Int32)) (v := (.ref w4)) (by rw [e15]; exact Ar17.1) (State.isArrayOf_alike hZ.alike Ar17.2.1) rfl Ar17.2.2 hin17 hat17 (g := (mkF m 16 #[.val (.ref a1), .val (.ref b10_10), .val (.int (7 : Int32)), .val (.int (1 : Int32)), .val (.ref w3)] [(.int (1 : Int32)), (.ref b10_10)])) rfl rfl (hb hby d1_16) _ ?_
    show Steps p.tables e below (T15.setTop (mkF m 17 #[.val (.ref a1), .val (.ref b10_10), .val (.int (7 : Int32)), .val (.int (1 : Int32)), .val (.ref w3)] [(.ref w4)])) _
    refine XS.astore X15.here hx rfl (hb hby d1_17) rfl rfl (l' := #[.val (.ref a1), .val (.ref b10_10), .val (.int (7 : Int32)), .val (.int (1 : Int32)), .val (.ref w4)]) rfl ?_
    show Steps p.tables e below (T15.setTop (mkF m 19 #[.val (.ref a1), .val (.ref b10_10), .val (.int (7 : Int32)), .val (.int (1 : Int32)), .val (.ref w4)] [])) _
    refine XS.aload X15.here hx rfl (hb hby d1_19) rfl rfl ?_
    show Steps p.tables e below (T15.setTop (mkF m 21 #[.val (.ref a1), .val (.ref b10_10), .val (.int (7 : Int32)), .val (.int (1 : Int32)), .val (.ref w4)] [(.ref w4)])) _
    refine st20 _ ?_
    show Steps p.tables e below (T20.setTop (mkF m 24 #[.val (.ref a1), .val (.ref b10_10), .val (.int (7 : Int32)), .val (.int (1 : Int32)), .val (.ref w4)] [(.ref w18)])) _
    refine XS.aloadN X20.here hx rfl (hb hby d1_24) rfl rfl ?_
    show Steps p.tables e below (T20.setTop (mkF m 25 #[.val (.ref a1), .val (.ref b10_10), .val (.int (7 : Int32)), .val (.int (1 : Int32)), .val (.ref w4)] [(.ref a1), (.ref w18)])) _
    refine Jvm.RoadKit.acmp (g := (mkF m 25 #[.val (.ref a1), .val (.ref b10_10), .val (.int (7 : Int32)), .val (.int (1 : Int32)), .val (.ref w4)] [(.ref a1), (.ref w18)])) X20 hx rfl rfl rfl (pc0 := 25) (pc' := 42) (same := false) rfl (hb hby d1_25) rfl (decide_eq_false fun q => P21 (Value.ref.inj q)) (by decide) (by decide) ?_
    show Steps p.tables e below (T20.setTop (mkF m 42 #[.val (.ref a1), .val (.ref b10_10), .val (.int (7 : Int32)), .val (.int (1 : Int32)), .val (.ref w4)] [])) _
    refine XS.iinc X20.here hx rfl (hb hby d1_42) rfl (l' := #[.val (.ref a1), .val (.ref b10_10), .val (.int (7 : Int32)), .val (.int (2 : Int32)), .val (.ref w4)]) rfl ?_
    show Steps p.tables e below (T20.setTop (mkF m 45 #[.val (.ref a1), .val (.ref b10_10), .val (.int (7 : Int32)), .val (.int (2 : Int32)), .val (.ref w4)] [])) _
    refine XS.goto X20.here hx rfl (pc0 := 45) (pc' := 9) rfl (hb hby d1_45) (by decide) (by decide) ?_
    show Steps p.tables e below (T20.setTop (mkF m 9 #[.val (.ref a1), .val (.ref b10_10), .val (.int (7 : Int32)), .val (.int (2 : Int32)), .val (.ref w4)] [])) _
    refine XS.iloadN X20.here hx rfl (hb hby d1_9) rfl ?_
    show Steps p.tables e below (T20.setTop (mkF m 10 #[.val (.ref a1), .val (.ref b10_10), .val (.int (7 : Int32)), .val (.int (2 : Int32)), .val (.ref w4)] [(.int (2 : Int32))])) _
    refine XS.iloadN X20.here hx rfl (hb hby d1_10) rfl ?_
    show Steps p.tables e below (T20.setTop (mkF m 11 #[.val (.ref a1), .val (.ref b10_10), .val (.int (7 : Int32)), .val (.int (2 : Int32)), .val (.ref w4)] [(.int (7 : Int32)), (.int (2 : Int32))])) _
    refine XS.icmpNo X20.here hx rfl (hb hby d1_11) rfl (tlt (by decide : (2 : Int32) < (7 : Int32))).2.1 ?_
    show Steps p.tables e below (T20.setTop (mkF m 14 #[.val (.ref a1), .val (.ref b10_10), .val (.int (7 : Int32)), .val (.int (2 : Int32)), .val (.ref w4)] [])) _
    refine XS.aloadN X20.here hx rfl (hb hby d1_14) rfl rfl ?_
    show Steps p.tables e below (T20.setTop (mkF m 15 #[.val (.ref a1), .val (.ref b10_10), .val (.int (7 : Int32)), .val (.int (2 : Int32)), .val (.ref w4)] [(.ref b10_10)])) _
    refine XS.iloadN X20.here hx rfl (hb hby d1_15) rfl ?_
    show Steps p.tables e below (T20.setTop (mkF m 16 #[.val (.ref a1), .val (.ref b10_10), .val (.int (7 : Int32)), .val (.int (2 : Int32)), .val (.ref w4)] [(.int (2 : Int32)), (.ref b10_10)])) _
    refine X20.aaload hx (j := (2 : Int32)) (v := (.ref w5)) (by rw [e20]; exact Ar22.1) (State.isArrayOf_alike hZ.alike Ar22.2.1) rfl Ar22.2.2 hin22 hat22 (g := (mkF m 16 #[.val (.ref a1), .val (.ref b10_10), .val (.int (7 : Int32)), .val (.int (2 : Int32)), .val (.ref w4)] [(.int (2 : Int32)), (.ref b10_10)])) rfl rfl (hb hby d1_16) _ ?_
    show Steps p.tables e below (T20.setTop (mkF m 17 #[.val (.ref a1), .val (.ref b10_10), .val (.int (7 : Int32)), .val (.int (2 : Int32)), .val (.ref w4)] [(.ref w5)])) _
    refine XS.astore X20.here hx rfl (hb hby d1_17) rfl rfl (l' := #[.val (.ref a1), .val (.ref b10_10), .val (.int (7 : Int32)), .val (.int (2 : Int32)), .val (.ref w5)]) rfl ?_
    show Steps p.tables e below (T20.setTop (mkF m 19 #[.val (.ref a1), .val (.ref b10_10), .val (.int (7 : Int32)), .val (.int (2 : Int32)), .val (.ref w5)] [])) _
    refine XS.aload X20.here hx rfl (hb hby d1_19) rfl rfl ?_
    show Steps p.tables e below (T20.setTop (mkF m 21 #[.val (.ref a1), .val (.ref b10_10), .val (.int (7 : Int32)), .val (.int (2 : Int32)), .val (.ref w5)] [(.ref w5)])) _
    refine st24 _ ?_
    show Steps p.tables e below (T24.setTop (mkF m 24 #[.val (.ref a1), .val (.ref b10_10), .val (.int (7 : Int32)), .val (.int (2 : Int32)), .val (.ref w5)] [(.ref a1)])) _
    refine XS.aloadN X24.here hx rfl (hb hby d1_24) rfl rfl ?_
    show Steps p.tables e below (T24.setTop (mkF m 25 #[.val (.ref a1), .val (.ref b10_10), .val (.int (7 : Int32)), .val (.int (2 : Int32)), .val (.ref w5)] [(.ref a1), (.ref a1)])) _
    refine Jvm.RoadKit.acmp (g := (mkF m 25 #[.val (.ref a1), .val (.ref b10_10), .val (.int (7 : Int32)), .val (.int (2 : Int32)), .val (.ref w5)] [(.ref a1), (.ref a1)])) X24 hx rfl rfl rfl (pc0 := 25) (pc' := 28) (same := true) rfl (hb hby d1_25) rfl (decide_eq_true rfl) (by decide) (by decide) ?_
    show Steps p.tables e below (T24.setTop (mkF m 28 #[.val (.ref a1), .val (.ref b10_10), .val (.int (7 : Int32)), .val (.int (2 : Int32)), .val (.ref w5)] [])) _
    refine XS.aload X24.here hx rfl (hb hby d1_28) rfl rfl ?_
    show Steps p.tables e below (T24.setTop (mkF m 30 #[.val (.ref a1), .val (.ref b10_10), .val (.int (7 : Int32)), .val (.int (2 : Int32)), .val (.ref w5)] [(.ref w5)])) _
    refine st26 _ ?_
    show Steps p.tables e below (T26.setTop (mkF m 33 #[.val (.ref a1), .val (.ref b10_10), .val (.int (7 : Int32)), .val (.int (2 : Int32)), .val (.ref w5)] [(.int (0 : Int32))])) _
    refine XS.ifNo X26.here hx rfl (hb hby d1_33) rfl ((if0 _ _).trans (teq (rfl : (0 : Int32) = (0 : Int32))).2) ?_
    show Steps p.tables e below (T26.setTop (mkF m 36 #[.val (.ref a1), .val (.ref b10_10), .val (.int (7 : Int32)), .val (.int (2 : Int32)), .val (.ref w5)] [])) _
    refine XS.aload X26.here hx rfl (hb hby d1_36) rfl rfl ?_
    show Steps p.tables e below (T26.setTop (mkF m 38 #[.val (.ref a1), .val (.ref b10_10), .val (.int (7 : Int32)), .val (.int (2 : Int32)), .val (.ref w5)] [(.ref w5)])) _
    refine st27 _ ?_
    show Steps p.tables e below (T27.setTop (mkF m 41 #[.val (.ref a1), .val (.ref b10_10), .val (.int (7 : Int32)), .val (.int (2 : Int32)), .val (.ref w5)] [(.ref b2_27)])) _
    jvm_step X27.here [X27.here.top, hx, (hb hby d1_41), X27.method', Bd.returns, Value.isRef, FieldType.isReference]
    first | (intro acts; rw [hr _ acts rfl rfl rfl]) | rw [hr _ _ rfl rfl rfl]
    exact Steps.refl _
  · show Q1_3 Z a1 w2 k_w2 w3 w4 w5 w6 w7 w8 w9 w13 w18 h0 n0 _ T27.heap _
    exact ⟨b2_27, rfl, N27, K0_27, sz_b2_27, x27_1, x27_2⟩
set_option maxRecDepth 65536 in
set_option maxHeartbeats 40000000 in
theorem rm0_3 (l : Launch) (Z : State) (a0 : Array Value) (hw : ∀ d ∈ tables_1, d.before a0 Z = true) (ws : List Jvm.Cond) (p1 : Int32) (w5 : Addr) (w7 : Addr) (w9 : Addr) (k_w9 : ClassId) (w10 : Addr) (w11 : Addr) (w12 : Addr) (w13 : Addr) (w14 : Addr) (w15 : Addr) (w16 : Addr) (w17 : Addr) (h0 : Heap) (n0 : Nat) (Z0 : n0 ≤ h0.size) (P2 : ¬ (((p1 &&& (2147483647 : Int32)) % (7 : Int32)) = (0 : Int32))) (P3 : ¬ (((p1 &&& (2147483647 : Int32)) % (7 : Int32)) = (1 : Int32))) (P4 : ((p1 &&& (2147483647 : Int32)) % (7 : Int32)) = (2 : Int32)) (S_ASH : Sta Z h0 "com/example/tipple_ledger/tippleledger/terms/Characteristic" "ASH" "Lcom/example/tipple_ledger/tippleledger/terms/Characteristic;" (.ref w5)) (S_ASH_PERCENT : Sta Z h0 "com/example/tipple_ledger/tippleledger/terms/WeightedAverage" "ASH_PERCENT" "Lcom/example/tipple_ledger/tippleledger/terms/WeightedAverage;" (.ref w7)) (F_perMmbtu_w7 : Fld Z h0 w7 "com/example/tipple_ledger/tippleledger/terms/WeightedAverage" "perMmbtu" "Z" (.int (0 : Int32))) (V_w9 : Arv Z h0 w9 k_w9 (.object "com/example/tipple_ledger/tippleledger/terms/WeightedAverage") (7 : Int32) [(.ref w10), (.ref w11), (.ref w7), (.ref w12), (.ref w13), (.ref w14), (.ref w15)] .null) (S__VALUES : Sta Z h0 "com/example/tipple_ledger/tippleledger/terms/WeightedAverage" "$VALUES" "[Lcom/example/tipple_ledger/tippleledger/terms/WeightedAverage;" (.ref w9)) (E_w9 : Exa Z h0 w9 "[Lcom/example/tipple_ledger/tippleledger/terms/WeightedAverage;") (F_characteristic_w10 : Fld Z h0 w10 "com/example/tipple_ledger/tippleledger/terms/WeightedAverage" "characteristic" "Lcom/example/tipple_ledger/tippleledger/terms/Characteristic;" (.ref w16)) (P18 : ¬ (w16 = w5)) (F_characteristic_w11 : Fld Z h0 w11 "com/example/tipple_ledger/tippleledger/terms/WeightedAverage" "characteristic" "Lcom/example/tipple_ledger/tippleledger/terms/Characteristic;" (.ref w17)) (P19 : ¬ (w17 = w5)) (F_characteristic_w7 : Fld Z h0 w7 "com/example/tipple_ledger/tippleledger/terms/WeightedAverage" "characteristic" "Lcom/example/tipple_ledger/tippleledger/terms/Characteristic;" (.ref w5)) (E_w7 : Exa Z h0 w7 "com/example/tipple_ledger/tippleledger/terms/WeightedAverage") :
    MetFree l x (head1 (Jvm.Cond.code x code maxLocals ret :: ws) room_1) (fun a U => a = #[(.int p1)] ∧ Z.Warmed39 U.vm ∧ U.heap = h0) (fun _ _ _ _ _ => True) (fun _ U o U' => ∃ v L, o = .returned v ∧ own_QT n0 v L ∧ FrameEnd U o U' L room_1.cells room_1.slots) := by
  refine MetFree.of_bodySF (plainFor_of_name pn_0) hisR ?_
  intro p e s m args below meth c s₁ Bd hml0 hP hK
  obtain ⟨rfl, hZ, hh⟩ := hP
  have hx := Bd.exec
  have hby := Bd.bytes
  have hml : c.maxLocals = 5 := hml0
  have hown : s.vm.findClass "com/example/tipple_ledger/tippleledger/terms/WeightedAverageByTonsPinLaw" = some m.cls := findClass_of_methodNamed Bd.named
  have hnm := (name_of_methodNamed Bd.named Bd.method).1
  have X0 : Stand p l e room_1 s m #[(.int p1)] below meth c s₁ [] 0 0 := Stand.of_body Bd
  have e0 : s₁.heap = h0 := by rw [← hh, Bd.state]; rfl
  have N0 := Fr.nil n0
  have pre0 : ∀ t, Steps p.tables e below (s₁.setTop (mkF m 0 #[.val (.int p1), .unset, .unset, .unset, .unset] [])) t → Steps p.tables e below (s₁.setTop (entryFrame m #[(.int p1)] maxLocals)) t := fun t k => castTop (ef_0_I m p1) k
  obtain ⟨T6, X6, e6, st6⟩ := getS2 X0 hx hZ hown (host := "") (Or.inl (hw _ (List.mem_of_getElem? (i := 86) rfl))) Via.refl e0 S_ASH (g := (mkF m 44 #[.val (.int p1), .val (.int ((p1 &&& (2147483647 : Int32)) % (7 : Int32))), .unset, .unset, .unset] [])) rfl (hb hby at_44)
  obtain ⟨T8, X8, e8, st8⟩ := getS2 X6 hx hZ hown (host := "") (Or.inl (hw _ (List.mem_of_getElem? (i := 87) rfl))) Via.refl e6 S_ASH_PERCENT (g := (mkF m 48 #[.val (.int p1), .val (.int ((p1 &&& (2147483647 : Int32)) % (7 : Int32))), .val (.ref w5), .unset, .unset] [])) rfl (hb hby at_48)
  obtain ⟨_, _, ⟨T20, L20, k20, n20⟩, -, X20, ⟨Lc20, hQ20, l20, y20, z20⟩, st20⟩ := Jvm.LawKit.callS X8 hx (y := (⟨"com/example/tipple_ledger/tippleledger/terms/WeightedAverage", "byTons", "(Lcom/example/tipple_ledger/tippleledger/terms/Characteristic;)Ljava/util/Optional;"⟩ : MethodName)) hown (mvT hZ (hw _ (List.mem_of_getElem? (i := 7) rfl))) (mvT hZ (hw _ (List.mem_of_getElem? (i := 8) rfl))) (mvT hZ (hw _ (List.mem_of_getElem? (i := 5) rfl))) (mvT hZ (hw _ (List.mem_of_getElem? (i := 9) rfl))) (by decide) (backOf (W := 0) (rm1_3 l Z a0 hw [] w5 w9 k_w9 w10 w11 w7 w12 w13 w14 w15 w16 w17 h0 n0 Z0 V_w9 S__VALUES E_w9 F_characteristic_w10 P18 F_characteristic_w11 P19 F_characteristic_w7 F_perMmbtu_w7) hZ (hw _ (List.mem_of_getElem? (i := 9) rfl)) (hw _ (List.mem_of_getElem? (i := 5) rfl)) (by decide) (by decide)) (g := (mkF m 106 #[.val (.int p1), .val (.int ((p1 &&& (2147483647 : Int32)) % (7 : Int32))), .val (.ref w5), .val (.ref w7), .unset] [(.ref w5)])) rfl (by rw [hml]; rfl) (argsL := [(.ref w5)]) (rest := []) (lenOf pd_4 rfl) rfl (by show 2 * 0 + _ ≤ _; exact Nat.le_of_eq rfl) (hb hby at_106) (fun _ _ => ⟨rfl, e8, (by decide : 0 + 2 ≤ _), (by decide : 0 + 8 ≤ _)⟩)
  dsimp only [Pt.U, Pt.locs, Pt.cells, Pt.slots] at X20 l20 y20 z20 st20 hQ20
  subst l20 y20 z20
  obtain ⟨b2_27_20, rfl, Nq20, K20, x20_0, x20_1, x20_2⟩ := hQ20
  have N20 := Fr.app N0 Nq20
  have sz_b2_27_20 : h0.size ≤ b2_27_20 := Nat.le_trans (Keep.refl h0 []).1 x20_0
  have g_b2_27_20 : n0 ≤ b2_27_20 := Nat.le_trans Z0 sz_b2_27_20
  have K0_20 : Keep h0 T20.heap [] := (Keep.refl h0 []).trans K20 all0
  have Z20 : n0 ≤ T20.heap.size := Nat.le_trans Z0 K20.1
  obtain ⟨cq21, kq21, q21a, q21b, q21c⟩ := isOf hZ rfl x20_1
  obtain ⟨_, _, ⟨T21, L21, k21, n21⟩, -, X21, ⟨Lc21, hQ21, l21, y21, z21⟩, st21⟩ := X20.virtualBack hx (y := (⟨"java/util/Optional", "orElse", "(Ljava/lang/Object;)Ljava/lang/Object;"⟩ : MethodName)) (z := (⟨"java/util/Optional", "orElse", "(Ljava/lang/Object;)Ljava/lang/Object;"⟩ : MethodName)) hown (mvT hZ (hw _ (List.mem_of_getElem? (i := 54) rfl))) (mvT hZ (hw _ (List.mem_of_getElem? (i := 55) rfl))) (notFace_of_selects (args := #[]) (mvT hZ (hw _ (List.mem_of_getElem? (i := 57) rfl)))) (mvT hZ (hw _ (List.mem_of_getElem? (i := 57) rfl))) (mvT hZ (hw _ (List.mem_of_getElem? (i := 56) rfl))) (by decide) (backOf (W := 0) (rm7_1 l Z a0 hw [] b2_27_20 w7 T20.heap n0 Z20 x20_2) hZ (hw _ (List.mem_of_getElem? (i := 58) rfl)) (hw _ (List.mem_of_getElem? (i := 37) rfl)) (by decide) (by decide)) q21a q21c (g := (mkF m 110 #[.val (.int p1), .val (.int ((p1 &&& (2147483647 : Int32)) % (7 : Int32))), .val (.ref w5), .val (.ref w7), .unset] [.null, (.ref b2_27_20)])) rfl (by rw [hml]; rfl) (Steps.refl _) (argsL := [.null]) (rest := []) (lenOf pd_1 rfl) rfl (by show 2 * 0 + _ ≤ _; exact Nat.le_of_eq rfl) (hb hby at_110) (fun _ _ => ⟨rfl, rfl, (by decide : 2 + 0 ≤ _), (by decide : 8 + 0 ≤ _)⟩)
  dsimp only [Pt.U, Pt.locs, Pt.cells, Pt.slots] at X21 l21 y21 z21 st21 hQ21
  subst l21 y21 z21
  obtain ⟨rfl, Nq21, e21⟩ := hQ21
  have N21 := Fr.app N20 Nq21
  have f22 := (E_w7.keep K20)
  obtain ⟨T23, X23, e23, st23⟩ := castY X21 hx hZ hown (hw _ (List.mem_of_getElem? (i := 59) rfl)) e21 (Ins.self f22) (g := (mkF m 113 #[.val (.int p1), .val (.int ((p1 &&& (2147483647 : Int32)) % (7 : Int32))), .val (.ref w5), .val (.ref w7), .unset] [(.ref w7)])) rfl rfl (hb hby at_113)
  have f24 := (F_characteristic_w7.keep K20 nin0)
  obtain ⟨cq25, kq25, q25a, q25b, q25c⟩ := isOf hZ e23 f22
  obtain ⟨_, _, ⟨T25, L25, k25, n25⟩, -, X25, ⟨Lc25, hQ25, l25, y25, z25⟩, st25⟩ := X23.virtualBack hx (y := (⟨"com/example/tipple_ledger/tippleledger/terms/WeightedAverage", "characteristic", "()Lcom/example/tipple_ledger/tippleledger/terms/Characteristic;"⟩ : MethodName)) (z := (⟨"com/example/tipple_ledger/tippleledger/terms/WeightedAverage", "characteristic", "()Lcom/example/tipple_ledger/tippleledger/terms/Characteristic;"⟩ : MethodName)) hown (mvT hZ (hw _ (List.mem_of_getElem? (i := 61) rfl))) (mvT hZ (hw _ (List.mem_of_getElem? (i := 62) rfl))) (notFace_of_selects (args := #[]) (mvT hZ (hw _ (List.mem_of_getElem? (i := 64) rfl)))) (mvT hZ (hw _ (List.mem_of_getElem? (i := 64) rfl))) (mvT hZ (hw _ (List.mem_of_getElem? (i := 63) rfl))) (by decide) (backOf (W := 0) (rm8_1 l Z a0 hw [] w7 w5 T20.heap n0 Z20 f24) hZ (hw _ (List.mem_of_getElem? (i := 65) rfl)) (hw _ (List.mem_of_getElem? (i := 5) rfl)) (by decide) (by decide)) q25a q25c (g := (mkF m 135 #[.val (.int p1), .val (.int ((p1 &&& (2147483647 : Int32)) % (7 : Int32))), .val (.ref w5), .val (.ref w7), .val (.ref w7)] [(.ref w7)])) rfl (by rw [hml]; rfl) (Steps.refl _) (argsL := []) (rest := []) (lenOf pd_5 rfl) rfl (by show 2 * 0 + _ ≤ _; exact Nat.le_of_eq rfl) (hb hby at_135) (fun _ _ => ⟨rfl, e23, (by decide : 2 + 0 ≤ _), (by decide : 8 + 0 ≤ _)⟩)
  dsimp only [Pt.U, Pt.locs, Pt.cells, Pt.slots] at X25 l25 y25 z25 st25 hQ25
  subst l25 y25 z25
  obtain ⟨rfl, Nq25, e25⟩ := hQ25
  have N25 := Fr.app N21 Nq25
  have f26 := (F_perMmbtu_w7.keep K20 nin0)
  obtain ⟨cq27, kq27, q27a, q27b, q27c⟩ := isOf hZ e25 f22
  obtain ⟨_, _, ⟨T27, L27, k27, n27⟩, -, X27, ⟨Lc27, hQ27, l27, y27, z27⟩, st27⟩ := X25.virtualBack hx (y := (⟨"com/example/tipple_ledger/tippleledger/terms/WeightedAverage", "perMmbtu", "()Z"⟩ : MethodName)) (z := (⟨"com/example/tipple_ledger/tippleledger/terms/WeightedAverage", "perMmbtu", "()Z"⟩ : MethodName)) hown (mvT hZ (hw _ (List.mem_of_getElem? (i := 66) rfl))) (mvT hZ (hw _ (List.mem_of_getElem? (i := 67) rfl))) (notFace_of_selects (args := #[]) (mvT hZ (hw _ (List.mem_of_getElem? (i := 69) rfl)))) (mvT hZ (hw _ (List.mem_of_getElem? (i := 69) rfl))) (mvT hZ (hw _ (List.mem_of_getElem? (i := 68) rfl))) (by decide) (backOf (W := 0) (rm9_1 l Z a0 hw [] w7 T20.heap n0 Z20 f26) hZ (hw _ (List.mem_of_getElem? (i := 70) rfl)) (hw _ (List.mem_of_getElem? (i := 5) rfl)) (by decide) (by decide)) q27a q27c (g := (mkF m 144 #[.val (.int p1), .val (.int ((p1 &&& (2147483647 : Int32)) % (7 : Int32))), .val (.ref w5), .val (.ref w7), .val (.ref w7)] [(.ref w7)])) rfl (by rw [hml]; rfl) (Steps.refl _) (argsL := []) (rest := []) (lenOf pd_6 rfl) rfl (by show 2 * 0 + _ ≤ _; exact Nat.le_of_eq rfl) (hb hby at_144) (fun _ _ => ⟨rfl, e25, (by decide : 2 + 0 ≤ _), (by decide : 8 + 0 ≤ _)⟩)
  dsimp only [Pt.U, Pt.locs, Pt.cells, Pt.slots] at X27 l27 y27 z27 st27 hQ27
  subst l27 y27 z27
  obtain ⟨rfl, Nq27, e27⟩ := hQ27
  have N27 := Fr.app N25 Nq27
  obtain ⟨fs, hr, hrun, hended, hW, hsame⟩ := X27.leave (v := some (.int (1 : Int32))) (fun h => by rw [Bd.returns] at h; cases h)
  refine ⟨_, _, pre0 _ ?_, hrun, hended, _, _, rfl, ?_, ⟨_, rfl⟩, hW, hsame.mono (by decide) (by decide)⟩
  · show Steps p.tables e below (s₁.setTop (mkF m 0 #[.val (.int p1), .unset, .unset, .unset, .unset] [])) _
    refine XS.iloadN X0.here hx rfl (hb hby at_0) rfl ?_
    show Steps p.tables e below (s₁.setTop (mkF m 1 #[.val (.int p1), .unset, .unset, .unset, .unset] [(.int p1)])) _
    refine X0.ldcInt hx hown (mvT hZ (hw _ (List.mem_of_getElem? (i := 0) rfl))) (g := (mkF m 1 #[.val (.int p1), .unset, .unset, .unset, .unset] [(.int p1)])) rfl (hb hby at_1) _ ?_
    show Steps p.tables e below (s₁.setTop (mkF m 3 #[.val (.int p1), .unset, .unset, .unset, .unset] [(.int (2147483647 : Int32)), (.int p1)])) _
    refine XS.iand X0.here hx rfl (hb hby at_3) rfl ?_
    show Steps p.tables e below (s₁.setTop (mkF m 4 #[.val (.int p1), .unset, .unset, .unset, .unset] [(.int (p1 &&& (2147483647 : Int32)))])) _
    refine XS.bipush X0.here hx rfl (hb hby at_4) ?_
    show Steps p.tables e below (s₁.setTop (mkF m 6 #[.val (.int p1), .unset, .unset, .unset, .unset] [(.int (7 : Int32)), (.int (p1 &&& (2147483647 : Int32)))])) _
    refine iremM X0 hx rfl (hb hby at_6) rfl (by decide : ¬ ((7 : Int32) = (0 : Int32))) ?_
    show Steps p.tables e below (s₁.setTop (mkF m 7 #[.val (.int p1), .unset, .unset, .unset, .unset] [(.int ((p1 &&& (2147483647 : Int32)) % (7 : Int32)))])) _
    refine XS.istoreN X0.here hx rfl (hb hby at_7) rfl (l' := #[.val (.int p1), .val (.int ((p1 &&& (2147483647 : Int32)) % (7 : Int32))), .unset, .unset, .unset]) rfl ?_
    show Steps p.tables e below (s₁.setTop (mkF m 8 #[.val (.int p1), .val (.int ((p1 &&& (2147483647 : Int32)) % (7 : Int32))), .unset, .unset, .unset] [])) _
    refine XS.iloadN X0.here hx rfl (hb hby at_8) rfl ?_
    show Steps p.tables e below (s₁.setTop (mkF m 9 #[.val (.int p1), .val (.int ((p1 &&& (2147483647 : Int32)) % (7 : Int32))), .unset, .unset, .unset] [(.int ((p1 &&& (2147483647 : Int32)) % (7 : Int32)))])) _
    refine XS.ifYes X0.here hx rfl (pc0 := 9) (pc' := 23) rfl (hb hby at_9) rfl ((if0 _ _).trans (feq P2).2) (by decide) (by decide) ?_
    show Steps p.tables e below (s₁.setTop (mkF m 23 #[.val (.int p1), .val (.int ((p1 &&& (2147483647 : Int32)) % (7 : Int32))), .unset, .unset, .unset] [])) _
    refine XS.iloadN X0.here hx rfl (hb hby at_23) rfl ?_
    show Steps p.tables e below (s₁.setTop (mkF m 24 #[.val (.int p1), .val (.int ((p1 &&& (2147483647 : Int32)) % (7 : Int32))), .unset, .unset, .unset] [(.int ((p1 &&& (2147483647 : Int32)) % (7 : Int32)))])) _
    refine XS.iconst X0.here hx rfl (hb hby at_24) ?_
    show Steps p.tables e below (s₁.setTop (mkF m 25 #[.val (.int p1), .val (.int ((p1 &&& (2147483647 : Int32)) % (7 : Int32))), .unset, .unset, .unset] [(.int (1 : Int32)), (.int ((p1 &&& (2147483647 : Int32)) % (7 : Int32)))])) _
    refine XS.icmpYes X0.here hx rfl (pc0 := 25) (pc' := 39) rfl (hb hby at_25) rfl (feq P3).2 (by decide) (by decide) ?_
    show Steps p.tables e below (s₁.setTop (mkF m 39 #[.val (.int p1), .val (.int ((p1 &&& (2147483647 : Int32)) % (7 : Int32))), .unset, .unset, .unset] [])) _
    refine XS.iloadN X0.here hx rfl (hb hby at_39) rfl ?_
    show Steps p.tables e below (s₁.setTop (mkF m 40 #[.val (.int p1), .val (.int ((p1 &&& (2147483647 : Int32)) % (7 : Int32))), .unset, .unset, .unset] [(.int ((p1 &&& (2147483647 : Int32)) % (7 : Int32)))])) _
    refine XS.iconst X0.here hx rfl (hb hby at_40) ?_
    show Steps p.tables e below (s₁.setTop (mkF m 41 #[.val (.int p1), .val (.int ((p1 &&& (2147483647 : Int32)) % (7 : Int32))), .unset, .unset, .unset] [(.int (2 : Int32)), (.int ((p1 &&& (2147483647 : Int32)) % (7 : Int32)))])) _
    refine XS.icmpNo X0.here hx rfl (hb hby at_41) rfl (teq P4).2 ?_
    show Steps p.tables e below (s₁.setTop (mkF m 44 #[.val (.int p1), .val (.int ((p1 &&& (2147483647 : Int32)) % (7 : Int32))), .unset, .unset, .unset] [])) _
    refine st6 _ ?_
    show Steps p.tables e below (T6.setTop (mkF m 47 #[.val (.int p1), .val (.int ((p1 &&& (2147483647 : Int32)) % (7 : Int32))), .unset, .unset, .unset] [(.ref w5)])) _
    refine XS.astoreN X6.here hx rfl (hb hby at_47) rfl rfl (l' := #[.val (.int p1), .val (.int ((p1 &&& (2147483647 : Int32)) % (7 : Int32))), .val (.ref w5), .unset, .unset]) rfl ?_
    show Steps p.tables e below (T6.setTop (mkF m 48 #[.val (.int p1), .val (.int ((p1 &&& (2147483647 : Int32)) % (7 : Int32))), .val (.ref w5), .unset, .unset] [])) _
    refine st8 _ ?_
    show Steps p.tables e below (T8.setTop (mkF m 51 #[.val (.int p1), .val (.int ((p1 &&& (2147483647 : Int32)) % (7 : Int32))), .val (.ref w5), .unset, .unset] [(.ref w7)])) _
    refine XS.astoreN X8.here hx rfl (hb hby at_51) rfl rfl (l' := #[.val (.int p1), .val (.int ((p1 &&& (2147483647 : Int32)) % (7 : Int32))), .val (.ref w5), .val (.ref w7), .unset]) rfl ?_
    show Steps p.tables e below (T8.setTop (mkF m 52 #[.val (.int p1), .val (.int ((p1 &&& (2147483647 : Int32)) % (7 : Int32))), .val (.ref w5), .val (.ref w7), .unset] [])) _
    refine XS.goto X8.here hx rfl (pc0 := 52) (pc' := 105) rfl (hb hby at_52) (by decide) (by decide) ?_
    show Steps p.tables e below (T8.setTop (mkF m 105 #[.val (.int p1), .val (.int ((p1 &&& (2147483647 : Int32)) % (7 : Int32))), .val (.ref w5), .val (.ref w7), .unset] [])) _
    refine XS.aloadN X8.here hx rfl (hb hby at_105) rfl rfl ?_
    show Steps p.tables e below (T8.setTop (mkF m 106 #[.val (.int p1), .val (.int ((p1 &&& (2147483647 : Int32)) % (7 : Int32))), .val (.ref w5), .val (.ref w7), .unset] [(.ref w5)])) _
    refine st20 _ ?_
    show Steps p.tables e below (T20.setTop (mkF m 109 #[.val (.int p1), .val (.int ((p1 &&& (2147483647 : Int32)) % (7 : Int32))), .val (.ref w5), .val (.ref w7), .unset] [(.ref b2_27_20)])) _
    refine XS.aconstNull X20.here hx rfl (hb hby at_109) ?_
    show Steps p.tables e below (T20.setTop (mkF m 110 #[.val (.int p1), .val (.int ((p1 &&& (2147483647 : Int32)) % (7 : Int32))), .val (.ref w5), .val (.ref w7), .unset] [.null, (.ref b2_27_20)])) _
    refine st21.trans ?_
    show Steps p.tables e below (T21.setTop (mkF m 113 #[.val (.int p1), .val (.int ((p1 &&& (2147483647 : Int32)) % (7 : Int32))), .val (.ref w5), .val (.ref w7), .unset] [(.ref w7)])) _
    refine st23 _ ?_
    show Steps p.tables e below (T23.setTop (mkF m 116 #[.val (.int p1), .val (.int ((p1 &&& (2147483647 : Int32)) % (7 : Int32))), .val (.ref w5), .val (.ref w7), .unset] [(.ref w7)])) _
    refine XS.astore X23.here hx rfl (hb hby at_116) rfl rfl (l' := #[.val (.int p1), .val (.int ((p1 &&& (2147483647 : Int32)) % (7 : Int32))), .val (.ref w5), .val (.ref w7), .val (.ref w7)]) rfl ?_
    show Steps p.tables e below (T23.setTop (mkF m 118 #[.val (.int p1), .val (.int ((p1 &&& (2147483647 : Int32)) % (7 : Int32))), .val (.ref w5), .val (.ref w7), .val (.ref w7)] [])) _
    refine XS.aload X23.here hx rfl (hb hby at_118) rfl rfl ?_
    show Steps p.tables e below (T23.setTop (mkF m 120 #[.val (.int p1), .val (.int ((p1 &&& (2147483647 : Int32)) % (7 : Int32))), .val (.ref w5), .val (.ref w7), .val (.ref w7)] [(.ref w7)])) _
    refine XS.aloadN X23.here hx rfl (hb hby at_120) rfl rfl ?_
    show Steps p.tables e below (T23.setTop (mkF m 121 #[.val (.int p1), .val (.int ((p1 &&& (2147483647 : Int32)) % (7 : Int32))), .val (.ref w5), .val (.ref w7), .val (.ref w7)] [(.ref w7), (.ref w7)])) _
    refine Jvm.RoadKit.acmp (g := (mkF m 121 #[.val (.int p1), .val (.int ((p1 &&& (2147483647 : Int32)) % (7 : Int32))), .val (.ref w5), .val (.ref w7), .val (.ref w7)] [(.ref w7), (.ref w7)])) X23 hx rfl rfl rfl (pc0 := 121) (pc' := 126) (same := true) rfl (hb hby at_121) rfl (decide_eq_true rfl) (by decide) (by decide) ?_
    show Steps p.tables e below (T23.setTop (mkF m 126 #[.val (.int p1), .val (.int ((p1 &&& (2147483647 : Int32)) % (7 : Int32))), .val (.ref w5), .val (.ref w7), .val (.ref w7)] [])) _
    refine XS.aload X23.here hx rfl (hb hby at_126) rfl rfl ?_
    show Steps p.tables e below (T23.setTop (mkF m 128 #[.val (.int p1), .val (.int ((p1 &&& (2147483647 : Int32)) % (7 : Int32))), .val (.ref w5), .val (.ref w7), .val (.ref w7)] [(.ref w7)])) _
    refine XS.ifnonnullYes X23.here hx rfl (pc0 := 128) (pc' := 133) rfl (hb hby at_128) rfl (by decide) (by decide) ?_
    show Steps p.tables e below (T23.setTop (mkF m 133 #[.val (.int p1), .val (.int ((p1 &&& (2147483647 : Int32)) % (7 : Int32))), .val (.ref w5), .val (.ref w7), .val (.ref w7)] [])) _
    refine XS.aload X23.here hx rfl (hb hby at_133) rfl rfl ?_
    show Steps p.tables e below (T23.setTop (mkF m 135 #[.val (.int p1), .val (.int ((p1 &&& (2147483647 : Int32)) % (7 : Int32))), .val (.ref w5), .val (.ref w7), .val (.ref w7)] [(.ref w7)])) _
    refine st25.trans ?_
    show Steps p.tables e below (T25.setTop (mkF m 138 #[.val (.int p1), .val (.int ((p1 &&& (2147483647 : Int32)) % (7 : Int32))), .val (.ref w5), .val (.ref w7), .val (.ref w7)] [(.ref w5)])) _
    refine XS.aloadN X25.here hx rfl (hb hby at_138) rfl rfl ?_
    show Steps p.tables e below (T25.setTop (mkF m 139 #[.val (.int p1), .val (.int ((p1 &&& (2147483647 : Int32)) % (7 : Int32))), .val (.ref w5), .val (.ref w7), .val (.ref w7)] [(.ref w5), (.ref w5)])) _
    refine Jvm.RoadKit.acmp (g := (mkF m 139 #[.val (.int p1), .val (.int ((p1 &&& (2147483647 : Int32)) % (7 : Int32))), .val (.ref w5), .val (.ref w7), .val (.ref w7)] [(.ref w5), (.ref w5)])) X25 hx rfl rfl rfl (pc0 := 139) (pc' := 142) (same := true) rfl (hb hby at_139) rfl (decide_eq_true rfl) (by decide) (by decide) ?_
    show Steps p.tables e below (T25.setTop (mkF m 142 #[.val (.int p1), .val (.int ((p1 &&& (2147483647 : Int32)) % (7 : Int32))), .val (.ref w5), .val (.ref w7), .val (.ref w7)] [])) _
    refine XS.aload X25.here hx rfl (hb hby at_142) rfl rfl ?_
    show Steps p.tables e below (T25.setTop (mkF m 144 #[.val (.int p1), .val (.int ((p1 &&& (2147483647 : Int32)) % (7 : Int32))), .val (.ref w5), .val (.ref w7), .val (.ref w7)] [(.ref w7)])) _
    refine st27.trans ?_
    show Steps p.tables e below (T27.setTop (mkF m 147 #[.val (.int p1), .val (.int ((p1 &&& (2147483647 : Int32)) % (7 : Int32))), .val (.ref w5), .val (.ref w7), .val (.ref w7)] [(.int (0 : Int32))])) _
    refine XS.ifNo X27.here hx rfl (hb hby at_147) rfl ((if0 _ _).trans (teq (rfl : (0 : Int32) = (0 : Int32))).2) ?_
    show Steps p.tables e below (T27.setTop (mkF m 150 #[.val (.int p1), .val (.int ((p1 &&& (2147483647 : Int32)) % (7 : Int32))), .val (.ref w5), .val (.ref w7), .val (.ref w7)] [])) _
    refine XS.iconst X27.here hx rfl (hb hby at_150) ?_
    show Steps p.tables e below (T27.setTop (mkF m 151 #[.val (.int p1), .val (.int ((p1 &&& (2147483647 : Int32)) % (7 : Int32))), .val (.ref w5), .val (.ref w7), .val (.ref w7)] [(.int (1 : Int32))])) _
    refine XS.goto X27.here hx rfl (pc0 := 151) (pc' := 155) rfl (hb hby at_151) (by decide) (by decide) ?_
    show Steps p.tables e below (T27.setTop (mkF m 155 #[.val (.int p1), .val (.int ((p1 &&& (2147483647 : Int32)) % (7 : Int32))), .val (.ref w5), .val (.ref w7), .val (.ref w7)] [(.int (1 : Int32))])) _
    exact retN X27 hx (t := .boolean) Bd.returns (by simp) (hb hby at_155) hr
  · exact ⟨rfl, N27⟩
theorem d1_48 : decode prog_194_method_11_code 48 = .ok (.invokestatic 99, 3) := by decide +kernel
theorem d10_0 : decode jdk_32_method_1_code 0 = .ok (.getstatic 1, 3) := by decide +kernel
theorem d10_3 : decode jdk_32_method_1_code 3 = .ok (.astore_n 0, 1) := by decide +kernel
theorem d10_4 : decode jdk_32_method_1_code 4 = .ok (.aload_n 0, 1) := by decide +kernel
theorem d10_5 : decode jdk_32_method_1_code 5 = .ok (.areturn, 1) := by decide +kernel
theorem ef_10 (m : MethodId)  : entryFrame m #[] 1 = mkF m 0 #[.unset] [] := by first | (simp [entryFrame, mkF, argsToLocals, Value.category]; done) | rfl
theorem pn_10 : plainName "java/util/Optional" = true := by first | (simp [plainName, overriddenIn]; done) | decide +kernel
def Q10_1 (Z : State) (w1 : Addr) (h0 : Heap) (n0 : Nat) (v : Option Value) (h : Heap) (L : List Loc) : Prop := v = some (.ref w1) ∧ Fr n0 L ∧ h = h0
set_option maxRecDepth 65536 in
set_option maxHeartbeats 40000000 in
theorem rm10_1 (l : Launch) (Z : State) (a0 : Array Value) (hw : ∀ d ∈ tables_1, d.before a0 Z = true) (ws : List Jvm.Cond) (w1 : Addr) (h0 : Heap) (n0 : Nat) (Z0 : n0 ≤ h0.size) (S_EMPTY : Sta Z h0 "java/util/Optional" "EMPTY" "Ljava/util/Optional;" (.ref w1)) :
    MetFree l (⟨"java/util/Optional", "empty", "()Ljava/util/Optional;"⟩ : MethodName) (head1 (Jvm.Cond.code (⟨"java/util/Optional", "empty", "()Ljava/util/Optional;"⟩ : MethodName) jdk_32_method_1_code 1 (some (.object "java/util/Optional")) :: ws) ({ frames := 0, cells := 0, slots := 0, locals := 0 } : Room)) (fun a U => a = #[] ∧ Z.Warmed39 U.vm ∧ U.heap = h0) (fun _ _ _ _ _ => True) (fun _ U o U' => ∃ v L, o = .returned v ∧ Q10_1 Z w1 h0 n0 v U'.heap L ∧ FrameEnd U o U' L ({ frames := 0, cells := 0, slots := 0, locals := 0 } : Room).cells ({ frames := 0, cells := 0, slots := 0, locals := 0 } : Room).slots) := by
  refine MetFree.of_bodySF (plainFor_of_name pn_10) hisR ?_
  intro p e s m args below meth c s₁ Bd hml0 hP hK
  obtain ⟨rfl, hZ, hh⟩ := hP
  have hx := Bd.exec
  have hby := Bd.bytes
  have hml : c.maxLocals = 1 := hml0
  have hown : s.vm.findClass "java/util/Optional" = some m.cls := findClass_of_methodNamed Bd.named
  have hnm := (name_of_methodNamed Bd.named Bd.method).1
  have X0 : Stand p l e ({ frames := 0, cells := 0, slots := 0, locals := 0 } : Room) s m #[] below meth c s₁ [] 0 0 := Stand.of_body Bd
  have e0 : s₁.heap = h0 := by rw [← hh, Bd.state]; rfl
  have N0 := Fr.nil n0
  have pre0 : ∀ t, Steps p.tables e below (s₁.setTop (mkF m 0 #[.unset] [])) t → Steps p.tables e below (s₁.setTop (entryFrame m #[] 1)) t := fun t k => castTop (ef_10 m ) k
  obtain ⟨T2, X2, e2, st2⟩ := getS2 X0 hx hZ hown (host := "") (Or.inl (hw _ (List.mem_of_getElem? (i := 79) rfl))) Via.refl e0 S_EMPTY (g := (mkF m 0 #[.unset] [])) rfl (hb hby d10_0)
  obtain ⟨fs, hr, hrun, hended, hW, hsame⟩ := X2.leave (v := some (.ref w1)) (fun h => by rw [Bd.returns] at h; cases h)
  refine ⟨_, _, pre0 _ ?_, hrun, hended, _, _, rfl, ?_, ⟨_, rfl⟩, hW, hsame.mono (by decide) (by decide)⟩
  · show Steps p.tables e below (s₁.setTop (mkF m 0 #[.unset] [])) _
    refine st2 _ ?_
    show Steps p.tables e below (T2.setTop (mkF m 3 #[.unset] [(.ref w1)])) _
    refine XS.astoreN X2.here hx rfl (hb hby d10_3) rfl rfl (l' := #[.val (.ref w1)]) rfl ?_
    show Steps p.tables e below (T2.setTop (mkF m 4 #[.val (.ref w1)] [])) _
    refine XS.aloadN X2.here hx rfl (hb hby d10_4) rfl rfl ?_
    show Steps p.tables e below (T2.setTop (mkF m 5 #[.val (.ref w1)] [(.ref w1)])) _
    jvm_step X2.here [X2.here.top, hx, (hb hby d10_5), X2.method', Bd.returns, Value.isRef, FieldType.isReference]
    first | (intro acts; rw [hr _ acts rfl rfl rfl]) | rw [hr _ _ rfl rfl rfl]
    exact Steps.refl _
  · show Q10_1 Z w1 h0 n0 _ T2.heap _
    rw [e2]
    exact ⟨rfl, N0, rfl⟩
theorem pd_7 : parseMethodDescriptor "()Ljava/util/Optional;" = some ⟨[], some (.object "java/util/Optional")⟩ := by decide +kernel
theorem d1_51 : decode prog_194_method_11_code 51 = .ok (.areturn, 1) := by decide +kernel
def Q1_4 (Z : State) (a1 : Addr) (w2 : Addr) (k_w2 : ClassId) (w3 : Addr) (w4 : Addr) (w5 : Addr) (w6 : Addr) (w7 : Addr) (w8 : Addr) (w9 : Addr) (w13 : Addr) (w18 : Addr) (w23 : Addr) (w34 : Addr) (w41 : Addr) (h0 : Heap) (n0 : Nat) (v : Option Value) (h : Heap) (L : List Loc) : Prop := v = some (.ref w41) ∧ Fr n0 L ∧ Keep h0 h []
set_option maxRecDepth 65536 in
set_option maxHeartbeats 40000000 in
theorem rm1_4 (l : Launch) (Z : State) (a0 : Array Value) (hw : ∀ d ∈ tables_1, d.before a0 Z = true) (ws : List Jvm.Cond) (a1 : Addr) (w2 : Addr) (k_w2 : ClassId) (w3 : Addr) (w4 : Addr) (w5 : Addr) (w6 : Addr) (w7 : Addr) (w8 : Addr) (w9 : Addr) (w13 : Addr) (w18 : Addr) (w23 : Addr) (w34 : Addr) (w41 : Addr) (h0 : Heap) (n0 : Nat) (Z0 : n0 ≤ h0.size) (V_w2 : Arv Z h0 w2 k_w2 (.object "com/example/tipple_ledger/tippleledger/terms/WeightedAverage") (7 : Int32) [(.ref w3), (.ref w4), (.ref w5), (.ref w6), (.ref w7), (.ref w8), (.ref w9)] .null) (S__VALUES : Sta Z h0 "com/example/tipple_ledger/tippleledger/terms/WeightedAverage" "$VALUES" "[Lcom/example/tipple_ledger/tippleledger/terms/WeightedAverage;" (.ref w2)) (E_w2 : Exa Z h0 w2 "[Lcom/example/tipple_ledger/tippleledger/terms/WeightedAverage;") (F_characteristic_w3 : Fld Z h0 w3 "com/example/tipple_ledger/tippleledger/terms/WeightedAverage" "characteristic" "Lcom/example/tipple_ledger/tippleledger/terms/Characteristic;" (.ref w13)) (P16 : ¬ (w13 = a1)) (F_characteristic_w4 : Fld Z h0 w4 "com/example/tipple_ledger/tippleledger/terms/WeightedAverage" "characteristic" "Lcom/example/tipple_ledger/tippleledger/terms/Characteristic;" (.ref w18)) (P21 : ¬ (w18 = a1)) (F_characteristic_w5 : Fld Z h0 w5 "com/example/tipple_ledger/tippleledger/terms/WeightedAverage" "characteristic" "Lcom/example/tipple_ledger/tippleledger/terms/Characteristic;" (.ref w23)) (P26 : ¬ (w23 = a1)) (F_characteristic_w6 : Fld Z h0 w6 "com/example/tipple_ledger/tippleledger/terms/WeightedAverage" "characteristic" "Lcom/example/tipple_ledger/tippleledger/terms/Characteristic;" (.ref w23)) (F_characteristic_w7 : Fld Z h0 w7 "com/example/tipple_ledger/tippleledger/terms/WeightedAverage" "characteristic" "Lcom/example/tipple_ledger/tippleledger/terms/Characteristic;" (.ref w18)) (F_characteristic_w8 : Fld Z h0 w8 "com/example/tipple_ledger/tippleledger/terms/WeightedAverage" "characteristic" "Lcom/example/tipple_ledger/tippleledger/terms/Characteristic;" (.ref w34)) (P37 : ¬ (w34 = a1)) (F_characteristic_w9 : Fld Z h0 w9 "com/example/tipple_ledger/tippleledger/terms/WeightedAverage" "characteristic" "Lcom/example/tipple_ledger/tippleledger/terms/Characteristic;" (.ref w34)) (S_EMPTY : Sta Z h0 "java/util/Optional" "EMPTY" "Ljava/util/Optional;" (.ref w41)) :
    MetFree l (⟨"com/example/tipple_ledger/tippleledger/terms/WeightedAverage", "byTons", "(Lcom/example/tipple_ledger/tippleledger/terms/Characteristic;)Ljava/util/Optional;"⟩ : MethodName) (head1 (Jvm.Cond.code (⟨"com/example/tipple_ledger/tippleledger/terms/WeightedAverage", "byTons", "(Lcom/example/tipple_ledger/tippleledger/terms/Characteristic;)Ljava/util/Optional;"⟩ : MethodName) prog_194_method_11_code 5 (some (.object "java/util/Optional")) :: ws) ({ frames := 2, cells := 1, slots := 7, locals := 25 } : Room)) (fun a U => a = #[(.ref a1)] ∧ Z.Warmed39 U.vm ∧ U.heap = h0) (fun _ _ _ _ _ => True) (fun _ U o U' => ∃ v L, o = .returned v ∧ Q1_4 Z a1 w2 k_w2 w3 w4 w5 w6 w7 w8 w9 w13 w18 w23 w34 w41 h0 n0 v U'.heap L ∧ FrameEnd U o U' L ({ frames := 2, cells := 1, slots := 7, locals := 25 } : Room).cells ({ frames := 2, cells := 1, slots := 7, locals := 25 } : Room).slots) := by
  refine MetFree.of_bodySF (plainFor_of_name pn_1) hisR ?_
  intro p e s m args below meth c s₁ Bd hml0 hP hK
  obtain ⟨rfl, hZ, hh⟩ := hP
  have hx := Bd.exec
  have hby := Bd.bytes
  have hml : c.maxLocals = 5 := hml0
  have hown : s.vm.findClass "com/example/tipple_ledger/tippleledger/terms/WeightedAverage" = some m.cls := findClass_of_methodNamed Bd.named
  have hnm := (name_of_methodNamed Bd.named Bd.method).1
  have X0 : Stand p l e ({ frames := 2, cells := 1, slots := 7, locals := 25 } : Room) s m #[(.ref a1)] below meth c s₁ [] 0 0 := Stand.of_body Bd
  have e0 : s₁.heap = h0 := by rw [← hh, Bd.state]; rfl
  have N0 := Fr.nil n0
  have pre0 : ∀ t, Steps p.tables e below (s₁.setTop (mkF m 0 #[.val (.ref a1), .unset, .unset, .unset, .unset] [])) t → Steps p.tables e below (s₁.setTop (entryFrame m #[(.ref a1)] 5)) t := fun t k => castTop (ef_1_R m a1) k
  obtain ⟨_, _, ⟨T10, L10, k10, n10⟩, -, X10, ⟨Lc10, hQ10, l10, y10, z10⟩, st10⟩ := Jvm.LawKit.callS X0 hx (y := (⟨"com/example/tipple_ledger/tippleledger/terms/WeightedAverage", "values", "()[Lcom/example/tipple_ledger/tippleledger/terms/WeightedAverage;"⟩ : MethodName)) hown (mvT hZ (hw _ (List.mem_of_getElem? (i := 10) rfl))) (mvT hZ (hw _ (List.mem_of_getElem? (i := 11) rfl))) (mvT hZ (hw _ (List.mem_of_getElem? (i := 5) rfl))) (mvT hZ (hw _ (List.mem_of_getElem? (i := 12) rfl))) (by decide) (backOf (W := 0) (rm2_1 l Z a0 hw [] w2 k_w2 w3 w4 w5 w6 w7 w8 w9 h0 n0 Z0 S__VALUES V_w2 E_w2) hZ (hw _ (List.mem_of_getElem? (i := 12) rfl)) (hw _ (List.mem_of_getElem? (i := 5) rfl)) (by decide) (by decide)) (g := (mkF m 0 #[.val (.ref a1), .unset, .unset, .unset, .unset] [])) rfl (by rw [hml]; rfl) (argsL := []) (rest := []) (lenOf pd_0 rfl) rfl (by show 2 * 0 + _ ≤ _; exact Nat.le_of_eq rfl) (hb hby d1_0) (fun _ _ => ⟨rfl, e0, (by decide : 0 + 1 ≤ _), (by decide : 0 + 7 ≤ _)⟩)
  dsimp only [Pt.U, Pt.locs, Pt.cells, Pt.slots] at X10 l10 y10 z10 st10 hQ10
  subst l10 y10 z10
  obtain ⟨b10_10, rfl, Nq10, K10, x10_0, x10_1, x10_2⟩ := hQ10
  have N10 := Fr.app N0 Nq10
  have sz_b10_10 : h0.size ≤ b10_10 := Nat.le_trans (Keep.refl h0 []).1 x10_0
  have g_b10_10 : n0 ≤ b10_10 := Nat.le_trans Z0 sz_b10_10
  have K0_10 : Keep h0 T10.heap [] := (Keep.refl h0 []).trans K10 all0
  have Z10 : n0 ≤ T10.heap.size := Nat.le_trans Z0 K10.1
  obtain ⟨cl11, Ar11, -, S11, N_11, -, -⟩ := id x10_1
  obtain ⟨cl12, Ar12, q12, S12, N_12, H12, G12⟩ := id x10_1
  have hin12 : ¬ ((0 : Int32) < 0 ∨ cl12.slots.size ≤ ((0 : Int32)).toNatClampNeg) := inb_of S12 ⟨by decide, (by decide : (0 : Int32) < (7 : Int32))⟩
  have hat12 : cl12.slots[((0 : Int32)).toNatClampNeg]? = some (.ref w3) := Has.at H12 hin12 rfl
  have f14 := (F_characteristic_w3.keep K10 nin0)
  obtain ⟨T15, X15, e15, st15⟩ := getF X10 hx hZ hown (host := "") (Or.inl (hw _ (List.mem_of_getElem? (i := 31) rfl))) Via.refl rfl f14 (g := (mkF m 21 #[.val (.ref a1), .val (.ref b10_10), .val (.int (7 : Int32)), .val (.int (0 : Int32)), .val (.ref w3)] [(.ref w3)])) rfl rfl (hb hby d1_21)
  obtain ⟨cl17, Ar17, q17, S17, N_17, H17, G17⟩ := id x10_1
  have hin17 : ¬ ((1 : Int32) < 0 ∨ cl17.slots.size ≤ ((1 : Int32)).toNatClampNeg) := inb_of S17 ⟨by decide, (by decide : (1 : Int32) < (7 : Int32))⟩
  have hat17 : cl17.slots[((1 : Int32)).toNatClampNeg]? = some (.ref w4) := Has.at H17 hin17 rfl
  have f19 := (F_characteristic_w4.keep K10 nin0)
  obtain ⟨T20, X20, e20, st20⟩ := getF X15 hx hZ hown (host := "") (Or.inl (hw _ (List.mem_of_getElem? (i := 31) rfl))) Via.refl e15 f19 (g := (mkF m 21 #[.val (.ref a1), .val (.ref b10_10), .val (.int (7 : Int32)), .val (.int (1 : Int32)), .val (.ref w4)] [(.ref w4)])) rfl rfl (hb hby d1_21)
  obtain ⟨cl22, Ar22, q22, S22, N_22, H22, G22⟩ := id x10_1
  have hin22 : ¬ ((2 : Int32) < 0 ∨ cl22.slots.size ≤ ((2 : Int32)).toNatClampNeg) := inb_of S22 ⟨by decide, (by decide : (2 : Int32) < (7 : Int32))⟩
  have hat22 : cl22.slots[((2 : Int32)).toNatClampNeg]? = some (.ref w5) := Has.at H22 hin22 rfl
  have f24 := (F_characteristic_w5.keep K10 nin0)
  obtain ⟨T25, X25, e25, st25⟩ := getF X20 hx hZ hown (host := "") (Or.inl (hw _ (List.mem_of_getElem? (i := 31) rfl))) Via.refl e20 f24 (g := (mkF m 21 #[.val (.ref a1), .val (.ref b10_10), .val (.int (7 : Int32)), .val (.int (2 : Int32)), .val (.ref w5)] [(.ref w5)])) rfl rfl (hb hby d1_21)
  obtain ⟨cl27, Ar27, q27, S27, N_27, H27, G27⟩ := id x10_1
  have hin27 : ¬ ((3 : Int32) < 0 ∨ cl27.slots.size ≤ ((3 : Int32)).toNatClampNeg) := inb_of S27 ⟨by decide, (by decide : (3 : Int32) < (7 : Int32))⟩
  have hat27 : cl27.slots[((3 : Int32)).toNatClampNeg]? = some (.ref w6) := Has.at H27 hin27 rfl
  have f28 := (F_characteristic_w6.keep K10 nin0)
  obtain ⟨T29, X29, e29, st29⟩ := getF X25 hx hZ hown (host := "") (Or.inl (hw _ (List.mem_of_getElem? (i := 31) rfl))) Via.refl e25 f28 (g := (mkF m 21 #[.val (.ref a1), .val (.ref b10_10), .val (.int (7 : Int32)), .val (.int (3 : Int32)), .val (.ref w6)] [(.ref w6)])) rfl rfl (hb hby d1_21)
  obtain ⟨cl30, Ar30, q30, S30, N_30, H30, G30⟩ := id x10_1
  have hin30 : ¬ ((4 : Int32) < 0 ∨ cl30.slots.size ≤ ((4 : Int32)).toNatClampNeg) := inb_of S30 ⟨by decide, (by decide : (4 : Int32) < (7 : Int32))⟩
  have hat30 : cl30.slots[((4 : Int32)).toNatClampNeg]? = some (.ref w7) := Has.at H30 hin30 rfl
  have f31 := (F_characteristic_w7.keep K10 nin0)
  obtain ⟨T32, X32, e32, st32⟩ := getF X29 hx hZ hown (host := "") (Or.inl (hw _ (List.mem_of_getElem? (i := 31) rfl))) Via.refl e29 f31 (g := (mkF m 21 #[.val (.ref a1), .val (.ref b10_10), .val (.int (7 : Int32)), .val (.int (4 : Int32)), .val (.ref w7)] [(.ref w7)])) rfl rfl (hb hby d1_21)
  obtain ⟨cl33, Ar33, q33, S33, N_33, H33, G33⟩ := id x10_1
  have hin33 : ¬ ((5 : Int32) < 0 ∨ cl33.slots.size ≤ ((5 : Int32)).toNatClampNeg) := inb_of S33 ⟨by decide, (by decide : (5 : Int32) < (7 : Int32))⟩
  have hat33 : cl33.slots[((5 : Int32)).toNatClampNeg]? = some (.ref w8) := Has.at H33 hin33 rfl
  have f35 := (F_characteristic_w8.keep K10 nin0)
  obtain ⟨T36, X36, e36, st36⟩ := getF X32 hx hZ hown (host := "") (Or.inl (hw _ (List.mem_of_getElem? (i := 31) rfl))) Via.refl e32 f35 (g := (mkF m 21 #[.val (.ref a1), .val (.ref b10_10), .val (.int (7 : Int32)), .val (.int (5 : Int32)), .val (.ref w8)] [(.ref w8)])) rfl rfl (hb hby d1_21)
  obtain ⟨cl38, Ar38, q38, S38, N_38, H38, G38⟩ := id x10_1
  have hin38 : ¬ ((6 : Int32) < 0 ∨ cl38.slots.size ≤ ((6 : Int32)).toNatClampNeg) := inb_of S38 ⟨by decide, (by decide : (6 : Int32) < (7 : Int32))⟩
  have hat38 : cl38.slots[((6 : Int32)).toNatClampNeg]? = some (.ref w9) := Has.at H38 hin38 rfl
  have f39 := (F_characteristic_w9.keep K10 nin0)
  obtain ⟨T40, X40, e40, st40⟩ := getF X36 hx hZ hown (host := "") (Or.inl (hw _ (List.mem_of_getElem? (i := 31) rfl))) Via.refl e36 f39 (g := (mkF m 21 #[.val (.ref a1), .val (.ref b10_10), .val (.int (7 : Int32)), .val (.int (6 : Int32)), .val (.ref w9)] [(.ref w9)])) rfl rfl (hb hby d1_21)
  have f42 := (own_sta_keep S_EMPTY K10 all0)
  obtain ⟨_, _, ⟨T43, L43, k43, n43⟩, -, X43, ⟨Lc43, hQ43, l43, y43, z43⟩, st43⟩ := Jvm.LawKit.callS X40 hx (y := (⟨"java/util/Optional", "empty", "()Ljava/util/Optional;"⟩ : MethodName)) hown (mvT hZ (hw _ (List.mem_of_getElem? (i := 76) rfl))) (mvT hZ (hw _ (List.mem_of_getElem? (i := 77) rfl))) (mvT hZ (hw _ (List.mem_of_getElem? (i := 37) rfl))) (mvT hZ (hw _ (List.mem_of_getElem? (i := 78) rfl))) (by decide) (backOf (W := 0) (rm10_1 l Z a0 hw [] w41 T10.heap n0 Z10 f42) hZ (hw _ (List.mem_of_getElem? (i := 78) rfl)) (hw _ (List.mem_of_getElem? (i := 37) rfl)) (by decide) (by decide)) (g := (mkF m 48 #[.val (.ref a1), .val (.ref b10_10), .val (.int (7 : Int32)), .val (.int (7 : Int32)), .val (.ref w9)] [])) rfl (by rw [hml]; rfl) (argsL := []) (rest := []) (lenOf pd_7 rfl) rfl (by show 2 * 0 + _ ≤ _; exact Nat.le_of_eq rfl) (hb hby d1_48) (fun _ _ => ⟨rfl, e40, (by decide : 1 + 0 ≤ _), (by decide : 7 + 0 ≤ _)⟩)
  dsimp only [Pt.U, Pt.locs, Pt.cells, Pt.slots] at X43 l43 y43 z43 st43 hQ43
  subst l43 y43 z43
  obtain ⟨rfl, Nq43, e43⟩ := hQ43
  have N43 := Fr.app N10 Nq43
  obtain ⟨fs, hr, hrun, hended, hW, hsame⟩ := X43.leave (v := some (.ref w41)) (fun h => by rw [Bd.returns] at h; cases h)
  refine ⟨_, _, pre0 _ ?_, hrun, hended, _, _, rfl, ?_, ⟨_, rfl⟩, hW, hsame.mono (by decide) (by decide)⟩
  · show Steps p.tables e below (s₁.setTop (mkF m 0 #[.val (.ref a1), .unset, .unset, .unset, .unset] [])) _
    refine st10 _ ?_
    show Steps p.tables e below (T10.setTop (mkF m 3 #[.val (.ref a1), .unset, .unset, .unset, .unset] [(.ref b10_10)])) _
    refine XS.astoreN X10.here hx rfl (hb hby d1_3) rfl rfl (l' := #[.val (.ref a1), .val (.ref b10_10), .unset, .unset, .unset]) rfl ?_
    show Steps p.tables e below (T10.setTop (mkF m 4 #[.val (.ref a1), .val (.ref b10_10), .unset, .unset, .unset] [])) _
    refine XS.aloadN X10.here hx rfl (hb hby d1_4) rfl rfl ?_
    show Steps p.tables e below (T10.setTop (mkF m 5 #[.val (.ref a1), .val (.ref b10_10), .unset, .unset, .unset] [(.ref b10_10)])) _
    refine X10.arraylength hx (Ar11.1) (State.isArrayOf_alike hZ.alike Ar11.2.1) (g := (mkF m 5 #[.val (.ref a1), .val (.ref b10_10), .unset, .unset, .unset] [(.ref b10_10)])) rfl rfl (hb hby d1_5) _ ?_
    rw [len_of S11 N_11]
    show Steps p.tables e below (T10.setTop (mkF m 6 #[.val (.ref a1), .val (.ref b10_10), .unset, .unset, .unset] [(.int (7 : Int32))])) _
    refine XS.istoreN X10.here hx rfl (hb hby d1_6) rfl (l' := #[.val (.ref a1), .val (.ref b10_10), .val (.int (7 : Int32)), .unset, .unset]) rfl ?_
    show Steps p.tables e below (T10.setTop (mkF m 7 #[.val (.ref a1), .val (.ref b10_10), .val (.int (7 : Int32)), .unset, .unset] [])) _
    refine XS.iconst X10.here hx rfl (hb hby d1_7) ?_
    show Steps p.tables e below (T10.setTop (mkF m 8 #[.val (.ref a1), .val (.ref b10_10), .val (.int (7 : Int32)), .unset, .unset] [(.int (0 : Int32))])) _
    refine XS.istoreN X10.here hx rfl (hb hby d1_8) rfl (l' := #[.val (.ref a1), .val (.ref b10_10), .val (.int (7 : Int32)), .val (.int (0 : Int32)), .unset]) rfl ?_
    show Steps p.tables e below (T10.setTop (mkF m 9 #[.val (.ref a1), .val (.ref b10_10), .val (.int (7 : Int32)), .val (.int (0 : Int32)), .unset] [])) _
    refine XS.iloadN X10.here hx rfl (hb hby d1_9) rfl ?_
    show Steps p.tables e below (T10.setTop (mkF m 10 #[.val (.ref a1), .val (.ref b10_10), .val (.int (7 : Int32)), .val (.int (0 : Int32)), .unset] [(.int (0 : Int32))])) _
    refine XS.iloadN X10.here hx rfl (hb hby d1_10) rfl ?_
    show Steps p.tables e below (T10.setTop (mkF m 11 #[.val (.ref a1), .val (.ref b10_10), .val (.int (7 : Int32)), .val (.int (0 : Int32)), .unset] [(.int (7 : Int32)), (.int (0 : Int32))])) _
    refine XS.icmpNo X10.here hx rfl (hb hby d1_11) rfl (tlt (by decide : (0 : Int32) < (7 : Int32))).2.1 ?_
    show Steps p.tables e below (T10.setTop (mkF m 14 #[.val (.ref a1), .val (.ref b10_10), .val (.int (7 : Int32)), .val (.int (0 : Int32)), .unset] [])) _
    refine XS.aloadN X10.here hx rfl (hb hby d1_14) rfl rfl ?_
    show Steps p.tables e below (T10.setTop (mkF m 15 #[.val (.ref a1), .val (.ref b10_10), .val (.int (7 : Int32)), .val (.int (0 : Int32)), .unset] [(.ref b10_10)])) _
    refine XS.iloadN X10.here hx rfl (hb hby d1_15) rfl ?_
    show Steps p.tables e below (T10.setTop (mkF m 16 #[.val (.ref a1), .val (.ref b10_10), .val (.int (7 : Int32)), .val (.int (0 : Int32)), .unset] [(.int (0 : Int32)), (.ref b10_10)])) _
    refine X10.aaload hx (j := (0 : Int32)) (v := (.ref w3)) (Ar12.1) (State.isArrayOf_alike hZ.alike Ar12.2.1) rfl Ar12.2.2 hin12 hat12 (g := (mkF m 16 #[.val (.ref a1), .val (.ref b10_10), .val (.int (7 : Int32)), .val (.int (0 : Int32)), .unset] [(.int (0 : Int32)), (.ref b10_10)])) rfl rfl (hb hby d1_16) _ ?_
    show Steps p.tables e below (T10.setTop (mkF m 17 #[.val (.ref a1), .val (.ref b10_10), .val (.int (7 : Int32)), .val (.int (0 : Int32)), .unset] [(.ref w3)])) _
    refine XS.astore X10.here hx rfl (hb hby d1_17) rfl rfl (l' := #[.val (.ref a1), .val (.ref b10_10), .val (.int (7 : Int32)), .val (.int (0 : Int32)), .val (.ref w3)]) rfl ?_
    show Steps p.tables e below (T10.setTop (mkF m 19 #[.val (.ref a1), .val (.ref b10_10), .val (.int (7 : Int32)), .val (.int (0 : Int32)), .val (.ref w3)] [])) _
    refine XS.aload X10.here hx rfl (hb hby d1_19) rfl rfl ?_
    show Steps p.tables e below (T10.setTop (mkF m 21 #[.val (.ref a1), .val (.ref b10_10), .val (.int (7 : Int32)), .val (.int (0 : Int32)), .val (.ref w3)] [(.ref w3)])) _
    refine st15 _ ?_
    show Steps p.tables e below (T15.setTop (mkF m 24 #[.val (.ref a1), .val (.ref b10_10), .val (.int (7 : Int32)), .val (.int (0 : Int32)), .val (.ref w3)] [(.ref w13)])) _
    refine XS.aloadN X15.here hx rfl (hb hby d1_24) rfl rfl ?_
    show Steps p.tables e below (T15.setTop (mkF m 25 #[.val (.ref a1), .val (.ref b10_10), .val (.int (7 : Int32)), .val (.int (0 : Int32)), .val (.ref w3)] [(.ref a1), (.ref w13)])) _
    refine Jvm.RoadKit.acmp (g := (mkF m 25 #[.val (.ref a1), .val (.ref b10_10), .val (.int (7 : Int32)), .val (.int (0 : Int32)), .val (.ref w3)] [(.ref a1), (.ref w13)])) X15 hx rfl rfl rfl (pc0 := 25) (pc' := 42) (same := false) rfl (hb hby d1_25) rfl (decide_eq_false fun q => P16 (Value.ref.inj q)) (by decide) (by decide) ?_
    show Steps p.tables e below (T15.setTop (mkF m 42 #[.val (.ref a1), .val (.ref b10_10), .val (.int (7 : Int32)), .val (.int (0 : Int32)), .val (.ref w3)] [])) _
    refine XS.iinc X15.here hx rfl (hb hby d1_42) rfl (l' := #[.val (.ref a1), .val (.ref b10_10), .val (.int (7 : Int32)), .val (.int (1 : Int32)), .val (.ref w3)]) rfl ?_
    show Steps p.tables e below (T15.setTop (mkF m 45 #[.val (.ref a1), .val (.ref b10_10), .val (.int (7 : Int32)), .val (.int (1 : Int32)), .val (.ref w3)] [])) _
    refine XS.goto X15.here hx rfl (pc0 := 45) (pc' := 9) rfl (hb hby d1_45) (by decide) (by decide) ?_
    show Steps p.tables e below (T15.setTop (mkF m 9 #[.val (.ref a1), .val (.ref b10_10), .val (.int (7 : Int32)), .val (.int (1 : Int32)), .val (.ref w3)] [])) _
    refine XS.iloadN X15.here hx rfl (hb hby d1_9) rfl ?_
    show Steps p.tables e below (T15.setTop (mkF m 10 #[.val (.ref a1), .val (.ref b10_10), .val (.int (7 : Int32)), .val (.int (1 : Int32)), .val (.ref w3)] [(.int (1 : Int32))])) _
    refine XS.iloadN X15.here hx rfl (hb hby d1_10) rfl ?_
    show Steps p.tables e below (T15.setTop (mkF m 11 #[.val (.ref a1), .val (.ref b10_10), .val (.int (7 : Int32)), .val (.int (1 : Int32)), .val (.ref w3)] [(.int (7 : Int32)), (.int (1 : Int32))])) _
    refine XS.icmpNo X15.here hx rfl (hb hby d1_11) rfl (tlt (by decide : (1 : Int32) < (7 : Int32))).2.1 ?_
    show Steps p.tables e below (T15.setTop (mkF m 14 #[.val (.ref a1), .val (.ref b10_10), .val (.int (7 : Int32)), .val (.int (1 : Int32)), .val (.ref w3)] [])) _
    refine XS.aloadN X15.here hx rfl (hb hby d1_14) rfl rfl ?_
    show Steps p.tables e below (T15.setTop (mkF m 15 #[.val (.ref a1), .val (.ref b10_10), .val (.int (7 : Int32)), .val (.int (1 : Int32)), .val (.ref w3)] [(.ref b10_10)])) _
    refine XS.iloadN X15.here hx rfl (hb hby d1_15) rfl ?_
    show Steps p.tables e below (T15.setTop (mkF m 16 #[.val (.ref a1), .val (.ref b10_10), .val (.int (7 : Int32)), .val (.int (1 : Int32)), .val (.ref w3)] [(.int (1 : Int32)), (.ref b10_10)])) _
    refine X15.aaload hx (j := (1 : Int32)) (v := (.ref w4)) (by rw [e15]; exact Ar17.1) (State.isArrayOf_alike hZ.alike Ar17.2.1) rfl Ar17.2.2 hin17 hat17 (g := (mkF m 16 #[.val (.ref a1), .val (.ref b10_10), .val (.int (7 : Int32)), .val (.int (1 : Int32)), .val (.ref w3)] [(.int (1 : Int32)), (.ref b10_10)])) rfl rfl (hb hby d1_16) _ ?_
    show Steps p.tables e below (T15.setTop (mkF m 17 #[.val (.ref a1), .val (.ref b10_10), .val (.int (7 : Int32)), .val (.int (1 : Int32)), .val (.ref w3)] [(.ref w4)])) _
    refine XS.astore X15.here hx rfl (hb hby d1_17) rfl rfl (l' := #[.val (.ref a1), .val (.ref b10_10), .val (.int (7 : Int32)), .val (.int (1 : Int32)), .val (.ref w4)]) rfl ?_
    show Steps p.tables e below (T15.setTop (mkF m 19 #[.val (.ref a1), .val (.ref b10_10), .val (.int (7 : Int32)), .val (.int (1 : Int32)), .val (.ref w4)] [])) _
    refine XS.aload X15.here hx rfl (hb hby d1_19) rfl rfl ?_
    show Steps p.tables e below (T15.setTop (mkF m 21 #[.val (.ref a1), .val (.ref b10_10), .val (.int (7 : Int32)), .val (.int (1 : Int32)), .val (.ref w4)] [(.ref w4)])) _
    refine st20 _ ?_
    show Steps p.tables e below (T20.setTop (mkF m 24 #[.val (.ref a1), .val (.ref b10_10), .val (.int (7 : Int32)), .val (.int (1 : Int32)), .val (.ref w4)] [(.ref w18)])) _
    refine XS.aloadN X20.here hx rfl (hb hby d1_24) rfl rfl ?_
    show Steps p.tables e below (T20.setTop (mkF m 25 #[.val (.ref a1), .val (.ref b10_10), .val (.int (7 : Int32)), .val (.int (1 : Int32)), .val (.ref w4)] [(.ref a1), (.ref w18)])) _
    refine Jvm.RoadKit.acmp (g := (mkF m 25 #[.val (.ref a1), .val (.ref b10_10), .val (.int (7 : Int32)), .val (.int (1 : Int32)), .val (.ref w4)] [(.ref a1), (.ref w18)])) X20 hx rfl rfl rfl (pc0 := 25) (pc' := 42) (same := false) rfl (hb hby d1_25) rfl (decide_eq_false fun q => P21 (Value.ref.inj q)) (by decide) (by decide) ?_
    show Steps p.tables e below (T20.setTop (mkF m 42 #[.val (.ref a1), .val (.ref b10_10), .val (.int (7 : Int32)), .val (.int (1 : Int32)), .val (.ref w4)] [])) _
    refine XS.iinc X20.here hx rfl (hb hby d1_42) rfl (l' := #[.val (.ref a1), .val (.ref b10_10), .val (.int (7 : Int32)), .val (.int (2 : Int32)), .val (.ref w4)]) rfl ?_
    show Steps p.tables e below (T20.setTop (mkF m 45 #[.val (.ref a1), .val (.ref b10_10), .val (.int (7 : Int32)), .val (.int (2 : Int32)), .val (.ref w4)] [])) _
    refine XS.goto X20.here hx rfl (pc0 := 45) (pc' := 9) rfl (hb hby d1_45) (by decide) (by decide) ?_
    show Steps p.tables e below (T20.setTop (mkF m 9 #[.val (.ref a1), .val (.ref b10_10), .val (.int (7 : Int32)), .val (.int (2 : Int32)), .val (.ref w4)] [])) _
    refine XS.iloadN X20.here hx rfl (hb hby d1_9) rfl ?_
    show Steps p.tables e below (T20.setTop (mkF m 10 #[.val (.ref a1), .val (.ref b10_10), .val (.int (7 : Int32)), .val (.int (2 : Int32)), .val (.ref w4)] [(.int (2 : Int32))])) _
    refine XS.iloadN X20.here hx rfl (hb hby d1_10) rfl ?_
    show Steps p.tables e below (T20.setTop (mkF m 11 #[.val (.ref a1), .val (.ref b10_10), .val (.int (7 : Int32)), .val (.int (2 : Int32)), .val (.ref w4)] [(.int (7 : Int32)), (.int (2 : Int32))])) _
    refine XS.icmpNo X20.here hx rfl (hb hby d1_11) rfl (tlt (by decide : (2 : Int32) < (7 : Int32))).2.1 ?_
    show Steps p.tables e below (T20.setTop (mkF m 14 #[.val (.ref a1), .val (.ref b10_10), .val (.int (7 : Int32)), .val (.int (2 : Int32)), .val (.ref w4)] [])) _
    refine XS.aloadN X20.here hx rfl (hb hby d1_14) rfl rfl ?_
    show Steps p.tables e below (T20.setTop (mkF m 15 #[.val (.ref a1), .val (.ref b10_10), .val (.int (7 : Int32)), .val (.int (2 : Int32)), .val (.ref w4)] [(.ref b10_10)])) _
    refine XS.iloadN X20.here hx rfl (hb hby d1_15) rfl ?_
    show Steps p.tables e below (T20.setTop (mkF m 16 #[.val (.ref a1), .val (.ref b10_10), .val (.int (7 : Int32)), .val (.int (2 : Int32)), .val (.ref w4)] [(.int (2 : Int32)), (.ref b10_10)])) _
    refine X20.aaload hx (j := (2 : Int32)) (v := (.ref w5)) (by rw [e20]; exact Ar22.1) (State.isArrayOf_alike hZ.alike Ar22.2.1) rfl Ar22.2.2 hin22 hat22 (g := (mkF m 16 #[.val (.ref a1), .val (.ref b10_10), .val (.int (7 : Int32)), .val (.int (2 : Int32)), .val (.ref w4)] [(.int (2 : Int32)), (.ref b10_10)])) rfl rfl (hb hby d1_16) _ ?_
    show Steps p.tables e below (T20.setTop (mkF m 17 #[.val (.ref a1), .val (.ref b10_10), .val (.int (7 : Int32)), .val (.int (2 : Int32)), .val (.ref w4)] [(.ref w5)])) _
    refine XS.astore X20.here hx rfl (hb hby d1_17) rfl rfl (l' := #[.val (.ref a1), .val (.ref b10_10), .val (.int (7 : Int32)), .val (.int (2 : Int32)), .val (.ref w5)]) rfl ?_
    show Steps p.tables e below (T20.setTop (mkF m 19 #[.val (.ref a1), .val (.ref b10_10), .val (.int (7 : Int32)), .val (.int (2 : Int32)), .val (.ref w5)] [])) _
    refine XS.aload X20.here hx rfl (hb hby d1_19) rfl rfl ?_
    show Steps p.tables e below (T20.setTop (mkF m 21 #[.val (.ref a1), .val (.ref b10_10), .val (.int (7 : Int32)), .val (.int (2 : Int32)), .val (.ref w5)] [(.ref w5)])) _
    refine st25 _ ?_
    show Steps p.tables e below (T25.setTop (mkF m 24 #[.val (.ref a1), .val (.ref b10_10), .val (.int (7 : Int32)), .val (.int (2 : Int32)), .val (.ref w5)] [(.ref w23)])) _
    refine XS.aloadN X25.here hx rfl (hb hby d1_24) rfl rfl ?_
    show Steps p.tables e below (T25.setTop (mkF m 25 #[.val (.ref a1), .val (.ref b10_10), .val (.int (7 : Int32)), .val (.int (2 : Int32)), .val (.ref w5)] [(.ref a1), (.ref w23)])) _
    refine Jvm.RoadKit.acmp (g := (mkF m 25 #[.val (.ref a1), .val (.ref b10_10), .val (.int (7 : Int32)), .val (.int (2 : Int32)), .val (.ref w5)] [(.ref a1), (.ref w23)])) X25 hx rfl rfl rfl (pc0 := 25) (pc' := 42) (same := false) rfl (hb hby d1_25) rfl (decide_eq_false fun q => P26 (Value.ref.inj q)) (by decide) (by decide) ?_
    show Steps p.tables e below (T25.setTop (mkF m 42 #[.val (.ref a1), .val (.ref b10_10), .val (.int (7 : Int32)), .val (.int (2 : Int32)), .val (.ref w5)] [])) _
    refine XS.iinc X25.here hx rfl (hb hby d1_42) rfl (l' := #[.val (.ref a1), .val (.ref b10_10), .val (.int (7 : Int32)), .val (.int (3 : Int32)), .val (.ref w5)]) rfl ?_
    show Steps p.tables e below (T25.setTop (mkF m 45 #[.val (.ref a1), .val (.ref b10_10), .val (.int (7 : Int32)), .val (.int (3 : Int32)), .val (.ref w5)] [])) _
    refine XS.goto X25.here hx rfl (pc0 := 45) (pc' := 9) rfl (hb hby d1_45) (by decide) (by decide) ?_
    show Steps p.tables e below (T25.setTop (mkF m 9 #[.val (.ref a1), .val (.ref b10_10), .val (.int (7 : Int32)), .val (.int (3 : Int32)), .val (.ref w5)] [])) _
    refine XS.iloadN X25.here hx rfl (hb hby d1_9) rfl ?_
    show Steps p.tables e below (T25.setTop (mkF m 10 #[.val (.ref a1), .val (.ref b10_10), .val (.int (7 : Int32)), .val (.int (3 : Int32)), .val (.ref w5)] [(.int (3 : Int32))])) _
    refine XS.iloadN X25.here hx rfl (hb hby d1_10) rfl ?_
    show Steps p.tables e below (T25.setTop (mkF m 11 #[.val (.ref a1), .val (.ref b10_10), .val (.int (7 : Int32)), .val (.int (3 : Int32)), .val (.ref w5)] [(.int (7 : Int32)), (.int (3 : Int32))])) _
    refine XS.icmpNo X25.here hx rfl (hb hby d1_11) rfl (tlt (by decide : (3 : Int32) < (7 : Int32))).2.1 ?_
    show Steps p.tables e below (T25.setTop (mkF m 14 #[.val (.ref a1), .val (.ref b10_10), .val (.int (7 : Int32)), .val (.int (3 : Int32)), .val (.ref w5)] [])) _
    refine XS.aloadN X25.here hx rfl (hb hby d1_14) rfl rfl ?_
    show Steps p.tables e below (T25.setTop (mkF m 15 #[.val (.ref a1), .val (.ref b10_10), .val (.int (7 : Int32)), .val (.int (3 : Int32)), .val (.ref w5)] [(.ref b10_10)])) _
    refine XS.iloadN X25.here hx rfl (hb hby d1_15) rfl ?_
    show Steps p.tables e below (T25.setTop (mkF m 16 #[.val (.ref a1), .val (.ref b10_10), .val (.int (7 : Int32)), .val (.int (3 : Int32)), .val (.ref w5)] [(.int (3 : Int32)), (.ref b10_10)])) _
    refine X25.aaload hx (j := (3 : Int32)) (v := (.ref w6)) (by rw [e25]; exact Ar27.1) (State.isArrayOf_alike hZ.alike Ar27.2.1) rfl Ar27.2.2 hin27 hat27 (g := (mkF m 16 #[.val (.ref a1), .val (.ref b10_10), .val (.int (7 : Int32)), .val (.int (3 : Int32)), .val (.ref w5)] [(.int (3 : Int32)), (.ref b10_10)])) rfl rfl (hb hby d1_16) _ ?_
    show Steps p.tables e below (T25.setTop (mkF m 17 #[.val (.ref a1), .val (.ref b10_10), .val (.int (7 : Int32)), .val (.int (3 : Int32)), .val (.ref w5)] [(.ref w6)])) _
    refine XS.astore X25.here hx rfl (hb hby d1_17) rfl rfl (l' := #[.val (.ref a1), .val (.ref b10_10), .val (.int (7 : Int32)), .val (.int (3 : Int32)), .val (.ref w6)]) rfl ?_
    show Steps p.tables e below (T25.setTop (mkF m 19 #[.val (.ref a1), .val (.ref b10_10), .val (.int (7 : Int32)), .val (.int (3 : Int32)), .val (.ref w6)] [])) _
    refine XS.aload X25.here hx rfl (hb hby d1_19) rfl rfl ?_
    show Steps p.tables e below (T25.setTop (mkF m 21 #[.val (.ref a1), .val (.ref b10_10), .val (.int (7 : Int32)), .val (.int (3 : Int32)), .val (.ref w6)] [(.ref w6)])) _
    refine st29 _ ?_
    show Steps p.tables e below (T29.setTop (mkF m 24 #[.val (.ref a1), .val (.ref b10_10), .val (.int (7 : Int32)), .val (.int (3 : Int32)), .val (.ref w6)] [(.ref w23)])) _
    refine XS.aloadN X29.here hx rfl (hb hby d1_24) rfl rfl ?_
    show Steps p.tables e below (T29.setTop (mkF m 25 #[.val (.ref a1), .val (.ref b10_10), .val (.int (7 : Int32)), .val (.int (3 : Int32)), .val (.ref w6)] [(.ref a1), (.ref w23)])) _
    refine Jvm.RoadKit.acmp (g := (mkF m 25 #[.val (.ref a1), .val (.ref b10_10), .val (.int (7 : Int32)), .val (.int (3 : Int32)), .val (.ref w6)] [(.ref a1), (.ref w23)])) X29 hx rfl rfl rfl (pc0 := 25) (pc' := 42) (same := false) rfl (hb hby d1_25) rfl (decide_eq_false fun q => P26 (Value.ref.inj q)) (by decide) (by decide) ?_
    show Steps p.tables e below (T29.setTop (mkF m 42 #[.val (.ref a1), .val (.ref b10_10), .val (.int (7 : Int32)), .val (.int (3 : Int32)), .val (.ref w6)] [])) _
    refine XS.iinc X29.here hx rfl (hb hby d1_42) rfl (l' := #[.val (.ref a1), .val (.ref b10_10), .val (.int (7 : Int32)), .val (.int (4 : Int32)), .val (.ref w6)]) rfl ?_
    show Steps p.tables e below (T29.setTop (mkF m 45 #[.val (.ref a1), .val (.ref b10_10), .val (.int (7 : Int32)), .val (.int (4 : Int32)), .val (.ref w6)] [])) _
    refine XS.goto X29.here hx rfl (pc0 := 45) (pc' := 9) rfl (hb hby d1_45) (by decide) (by decide) ?_
    show Steps p.tables e below (T29.setTop (mkF m 9 #[.val (.ref a1), .val (.ref b10_10), .val (.int (7 : Int32)), .val (.int (4 : Int32)), .val (.ref w6)] [])) _
    refine XS.iloadN X29.here hx rfl (hb hby d1_9) rfl ?_
    show Steps p.tables e below (T29.setTop (mkF m 10 #[.val (.ref a1), .val (.ref b10_10), .val (.int (7 : Int32)), .val (.int (4 : Int32)), .val (.ref w6)] [(.int (4 : Int32))])) _
    refine XS.iloadN X29.here hx rfl (hb hby d1_10) rfl ?_
    show Steps p.tables e below (T29.setTop (mkF m 11 #[.val (.ref a1), .val (.ref b10_10), .val (.int (7 : Int32)), .val (.int (4 : Int32)), .val (.ref w6)] [(.int (7 : Int32)), (.int (4 : Int32))])) _
    refine XS.icmpNo X29.here hx rfl (hb hby d1_11) rfl (tlt (by decide : (4 : Int32) < (7 : Int32))).2.1 ?_
    show Steps p.tables e below (T29.setTop (mkF m 14 #[.val (.ref a1), .val (.ref b10_10), .val (.int (7 : Int32)), .val (.int (4 : Int32)), .val (.ref w6)] [])) _
    refine XS.aloadN X29.here hx rfl (hb hby d1_14) rfl rfl ?_
    show Steps p.tables e below (T29.setTop (mkF m 15 #[.val (.ref a1), .val (.ref b10_10), .val (.int (7 : Int32)), .val (.int (4 : Int32)), .val (.ref w6)] [(.ref b10_10)])) _
    refine XS.iloadN X29.here hx rfl (hb hby d1_15) rfl ?_
    show Steps p.tables e below (T29.setTop (mkF m 16 #[.val (.ref a1), .val (.ref b10_10), .val (.int (7 : Int32)), .val (.int (4 : Int32)), .val (.ref w6)] [(.int (4 : Int32)), (.ref b10_10)])) _
    refine X29.aaload hx (j := (4 : Int32)) (v := (.ref w7)) (by rw [e29]; exact Ar30.1) (State.isArrayOf_alike hZ.alike Ar30.2.1) rfl Ar30.2.2 hin30 hat30 (g := (mkF m 16 #[.val (.ref a1), .val (.ref b10_10), .val (.int (7 : Int32)), .val (.int (4 : Int32)), .val (.ref w6)] [(.int (4 : Int32)), (.ref b10_10)])) rfl rfl (hb hby d1_16) _ ?_
    show Steps p.tables e below (T29.setTop (mkF m 17 #[.val (.ref a1), .val (.ref b10_10), .val (.int (7 : Int32)), .val (.int (4 : Int32)), .val (.ref w6)] [(.ref w7)])) _
    refine XS.astore X29.here hx rfl (hb hby d1_17) rfl rfl (l' := #[.val (.ref a1), .val (.ref b10_10), .val (.int (7 : Int32)), .val (.int (4 : Int32)), .val (.ref w7)]) rfl ?_
    show Steps p.tables e below (T29.setTop (mkF m 19 #[.val (.ref a1), .val (.ref b10_10), .val (.int (7 : Int32)), .val (.int (4 : Int32)), .val (.ref w7)] [])) _
    refine XS.aload X29.here hx rfl (hb hby d1_19) rfl rfl ?_
    show Steps p.tables e below (T29.setTop (mkF m 21 #[.val (.ref a1), .val (.ref b10_10), .val (.int (7 : Int32)), .val (.int (4 : Int32)), .val (.ref w7)] [(.ref w7)])) _
    refine st32 _ ?_
    show Steps p.tables e below (T32.setTop (mkF m 24 #[.val (.ref a1), .val (.ref b10_10), .val (.int (7 : Int32)), .val (.int (4 : Int32)), .val (.ref w7)] [(.ref w18)])) _
    refine XS.aloadN X32.here hx rfl (hb hby d1_24) rfl rfl ?_
    show Steps p.tables e below (T32.setTop (mkF m 25 #[.val (.ref a1), .val (.ref b10_10), .val (.int (7 : Int32)), .val (.int (4 : Int32)), .val (.ref w7)] [(.ref a1), (.ref w18)])) _
    refine Jvm.RoadKit.acmp (g := (mkF m 25 #[.val (.ref a1), .val (.ref b10_10), .val (.int (7 : Int32)), .val (.int (4 : Int32)), .val (.ref w7)] [(.ref a1), (.ref w18)])) X32 hx rfl rfl rfl (pc0 := 25) (pc' := 42) (same := false) rfl (hb hby d1_25) rfl (decide_eq_false fun q => P21 (Value.ref.inj q)) (by decide) (by decide) ?_
    show Steps p.tables e below (T32.setTop (mkF m 42 #[.val (.ref a1), .val (.ref b10_10), .val (.int (7 : Int32)), .val (.int (4 : Int32)), .val (.ref w7)] [])) _
    refine XS.iinc X32.here hx rfl (hb hby d1_42) rfl (l' := #[.val (.ref a1), .val (.ref b10_10), .val (.int (7 : Int32)), .val (.int (5 : Int32)), .val (.ref w7)]) rfl ?_
    show Steps p.tables e below (T32.setTop (mkF m 45 #[.val (.ref a1), .val (.ref b10_10), .val (.int (7 : Int32)), .val (.int (5 : Int32)), .val (.ref w7)] [])) _
    refine XS.goto X32.here hx rfl (pc0 := 45) (pc' := 9) rfl (hb hby d1_45) (by decide) (by decide) ?_
    show Steps p.tables e below (T32.setTop (mkF m 9 #[.val (.ref a1), .val (.ref b10_10), .val (.int (7 : Int32)), .val (.int (5 : Int32)), .val (.ref w7)] [])) _
    refine XS.iloadN X32.here hx rfl (hb hby d1_9) rfl ?_
    show Steps p.tables e below (T32.setTop (mkF m 10 #[.val (.ref a1), .val (.ref b10_10), .val (.int (7 : Int32)), .val (.int (5 : Int32)), .val (.ref w7)] [(.int (5 : Int32))])) _
    refine XS.iloadN X32.here hx rfl (hb hby d1_10) rfl ?_
    show Steps p.tables e below (T32.setTop (mkF m 11 #[.val (.ref a1), .val (.ref b10_10), .val (.int (7 : Int32)), .val (.int (5 : Int32)), .val (.ref w7)] [(.int (7 : Int32)), (.int (5 : Int32))])) _
    refine XS.icmpNo X32.here hx rfl (hb hby d1_11) rfl (tlt (by decide : (5 : Int32) < (7 : Int32))).2.1 ?_
    show Steps p.tables e below (T32.setTop (mkF m 14 #[.val (.ref a1), .val (.ref b10_10), .val (.int (7 : Int32)), .val (.int (5 : Int32)), .val (.ref w7)] [])) _
    refine XS.aloadN X32.here hx rfl (hb hby d1_14) rfl rfl ?_
    show Steps p.tables e below (T32.setTop (mkF m 15 #[.val (.ref a1), .val (.ref b10_10), .val (.int (7 : Int32)), .val (.int (5 : Int32)), .val (.ref w7)] [(.ref b10_10)])) _
    refine XS.iloadN X32.here hx rfl (hb hby d1_15) rfl ?_
    show Steps p.tables e below (T32.setTop (mkF m 16 #[.val (.ref a1), .val (.ref b10_10), .val (.int (7 : Int32)), .val (.int (5 : Int32)), .val (.ref w7)] [(.int (5 : Int32)), (.ref b10_10)])) _
    refine X32.aaload hx (j := (5 : Int32)) (v := (.ref w8)) (by rw [e32]; exact Ar33.1) (State.isArrayOf_alike hZ.alike Ar33.2.1) rfl Ar33.2.2 hin33 hat33 (g := (mkF m 16 #[.val (.ref a1), .val (.ref b10_10), .val (.int (7 : Int32)), .val (.int (5 : Int32)), .val (.ref w7)] [(.int (5 : Int32)), (.ref b10_10)])) rfl rfl (hb hby d1_16) _ ?_
    show Steps p.tables e below (T32.setTop (mkF m 17 #[.val (.ref a1), .val (.ref b10_10), .val (.int (7 : Int32)), .val (.int (5 : Int32)), .val (.ref w7)] [(.ref w8)])) _
    refine XS.astore X32.here hx rfl (hb hby d1_17) rfl rfl (l' := #[.val (.ref a1), .val (.ref b10_10), .val (.int (7 : Int32)), .val (.int (5 : Int32)), .val (.ref w8)]) rfl ?_
    show Steps p.tables e below (T32.setTop (mkF m 19 #[.val (.ref a1), .val (.ref b10_10), .val (.int (7 : Int32)), .val (.int (5 : Int32)), .val (.ref w8)] [])) _
    refine XS.aload X32.here hx rfl (hb hby d1_19) rfl rfl ?_
    show Steps p.tables e below (T32.setTop (mkF m 21 #[.val (.ref a1), .val (.ref b10_10), .val (.int (7 : Int32)), .val (.int (5 : Int32)), .val (.ref w8)] [(.ref w8)])) _
    refine st36 _ ?_
    show Steps p.tables e below (T36.setTop (mkF m 24 #[.val (.ref a1), .val (.ref b10_10), .val (.int (7 : Int32)), .val (.int (5 : Int32)), .val (.ref w8)] [(.ref w34)])) _
    refine XS.aloadN X36.here hx rfl (hb hby d1_24) rfl rfl ?_
    show Steps p.tables e below (T36.setTop (mkF m 25 #[.val (.ref a1), .val (.ref b10_10), .val (.int (7 : Int32)), .val (.int (5 : Int32)), .val (.ref w8)] [(.ref a1), (.ref w34)])) _
    refine Jvm.RoadKit.acmp (g := (mkF m 25 #[.val (.ref a1), .val (.ref b10_10), .val (.int (7 : Int32)), .val (.int (5 : Int32)), .val (.ref w8)] [(.ref a1), (.ref w34)])) X36 hx rfl rfl rfl (pc0 := 25) (pc' := 42) (same := false) rfl (hb hby d1_25) rfl (decide_eq_false fun q => P37 (Value.ref.inj q)) (by decide) (by decide) ?_
    show Steps p.tables e below (T36.setTop (mkF m 42 #[.val (.ref a1), .val (.ref b10_10), .val (.int (7 : Int32)), .val (.int (5 : Int32)), .val (.ref w8)] [])) _
    refine XS.iinc X36.here hx rfl (hb hby d1_42) rfl (l' := #[.val (.ref a1), .val (.ref b10_10), .val (.int (7 : Int32)), .val (.int (6 : Int32)), .val (.ref w8)]) rfl ?_
    show Steps p.tables e below (T36.setTop (mkF m 45 #[.val (.ref a1), .val (.ref b10_10), .val (.int (7 : Int32)), .val (.int (6 : Int32)), .val (.ref w8)] [])) _
    refine XS.goto X36.here hx rfl (pc0 := 45) (pc' := 9) rfl (hb hby d1_45) (by decide) (by decide) ?_
    show Steps p.tables e below (T36.setTop (mkF m 9 #[.val (.ref a1), .val (.ref b10_10), .val (.int (7 : Int32)), .val (.int (6 : Int32)), .val (.ref w8)] [])) _
    refine XS.iloadN X36.here hx rfl (hb hby d1_9) rfl ?_
    show Steps p.tables e below (T36.setTop (mkF m 10 #[.val (.ref a1), .val (.ref b10_10), .val (.int (7 : Int32)), .val (.int (6 : Int32)), .val (.ref w8)] [(.int (6 : Int32))])) _
    refine XS.iloadN X36.here hx rfl (hb hby d1_10) rfl ?_
    show Steps p.tables e below (T36.setTop (mkF m 11 #[.val (.ref a1), .val (.ref b10_10), .val (.int (7 : Int32)), .val (.int (6 : Int32)), .val (.ref w8)] [(.int (7 : Int32)), (.int (6 : Int32))])) _
    refine XS.icmpNo X36.here hx rfl (hb hby d1_11) rfl (tlt (by decide : (6 : Int32) < (7 : Int32))).2.1 ?_
    show Steps p.tables e below (T36.setTop (mkF m 14 #[.val (.ref a1), .val (.ref b10_10), .val (.int (7 : Int32)), .val (.int (6 : Int32)), .val (.ref w8)] [])) _
    refine XS.aloadN X36.here hx rfl (hb hby d1_14) rfl rfl ?_
    show Steps p.tables e below (T36.setTop (mkF m 15 #[.val (.ref a1), .val (.ref b10_10), .val (.int (7 : Int32)), .val (.int (6 : Int32)), .val (.ref w8)] [(.ref b10_10)])) _
    refine XS.iloadN X36.here hx rfl (hb hby d1_15) rfl ?_
    show Steps p.tables e below (T36.setTop (mkF m 16 #[.val (.ref a1), .val (.ref b10_10), .val (.int (7 : Int32)), .val (.int (6 : Int32)), .val (.ref w8)] [(.int (6 : Int32)), (.ref b10_10)])) _
    refine X36.aaload hx (j := (6 : Int32)) (v := (.ref w9)) (by rw [e36]; exact Ar38.1) (State.isArrayOf_alike hZ.alike Ar38.2.1) rfl Ar38.2.2 hin38 hat38 (g := (mkF m 16 #[.val (.ref a1), .val (.ref b10_10), .val (.int (7 : Int32)), .val (.int (6 : Int32)), .val (.ref w8)] [(.int (6 : Int32)), (.ref b10_10)])) rfl rfl (hb hby d1_16) _ ?_
    show Steps p.tables e below (T36.setTop (mkF m 17 #[.val (.ref a1), .val (.ref b10_10), .val (.int (7 : Int32)), .val (.int (6 : Int32)), .val (.ref w8)] [(.ref w9)])) _
    refine XS.astore X36.here hx rfl (hb hby d1_17) rfl rfl (l' := #[.val (.ref a1), .val (.ref b10_10), .val (.int (7 : Int32)), .val (.int (6 : Int32)), .val (.ref w9)]) rfl ?_
    show Steps p.tables e below (T36.setTop (mkF m 19 #[.val (.ref a1), .val (.ref b10_10), .val (.int (7 : Int32)), .val (.int (6 : Int32)), .val (.ref w9)] [])) _
    refine XS.aload X36.here hx rfl (hb hby d1_19) rfl rfl ?_
    show Steps p.tables e below (T36.setTop (mkF m 21 #[.val (.ref a1), .val (.ref b10_10), .val (.int (7 : Int32)), .val (.int (6 : Int32)), .val (.ref w9)] [(.ref w9)])) _
    refine st40 _ ?_
    show Steps p.tables e below (T40.setTop (mkF m 24 #[.val (.ref a1), .val (.ref b10_10), .val (.int (7 : Int32)), .val (.int (6 : Int32)), .val (.ref w9)] [(.ref w34)])) _
    refine XS.aloadN X40.here hx rfl (hb hby d1_24) rfl rfl ?_
    show Steps p.tables e below (T40.setTop (mkF m 25 #[.val (.ref a1), .val (.ref b10_10), .val (.int (7 : Int32)), .val (.int (6 : Int32)), .val (.ref w9)] [(.ref a1), (.ref w34)])) _
    refine Jvm.RoadKit.acmp (g := (mkF m 25 #[.val (.ref a1), .val (.ref b10_10), .val (.int (7 : Int32)), .val (.int (6 : Int32)), .val (.ref w9)] [(.ref a1), (.ref w34)])) X40 hx rfl rfl rfl (pc0 := 25) (pc' := 42) (same := false) rfl (hb hby d1_25) rfl (decide_eq_false fun q => P37 (Value.ref.inj q)) (by decide) (by decide) ?_
    show Steps p.tables e below (T40.setTop (mkF m 42 #[.val (.ref a1), .val (.ref b10_10), .val (.int (7 : Int32)), .val (.int (6 : Int32)), .val (.ref w9)] [])) _
    refine XS.iinc X40.here hx rfl (hb hby d1_42) rfl (l' := #[.val (.ref a1), .val (.ref b10_10), .val (.int (7 : Int32)), .val (.int (7 : Int32)), .val (.ref w9)]) rfl ?_
    show Steps p.tables e below (T40.setTop (mkF m 45 #[.val (.ref a1), .val (.ref b10_10), .val (.int (7 : Int32)), .val (.int (7 : Int32)), .val (.ref w9)] [])) _
    refine XS.goto X40.here hx rfl (pc0 := 45) (pc' := 9) rfl (hb hby d1_45) (by decide) (by decide) ?_
    show Steps p.tables e below (T40.setTop (mkF m 9 #[.val (.ref a1), .val (.ref b10_10), .val (.int (7 : Int32)), .val (.int (7 : Int32)), .val (.ref w9)] [])) _
    refine XS.iloadN X40.here hx rfl (hb hby d1_9) rfl ?_
    show Steps p.tables e below (T40.setTop (mkF m 10 #[.val (.ref a1), .val (.ref b10_10), .val (.int (7 : Int32)), .val (.int (7 : Int32)), .val (.ref w9)] [(.int (7 : Int32))])) _
    refine XS.iloadN X40.here hx rfl (hb hby d1_10) rfl ?_
    show Steps p.tables e below (T40.setTop (mkF m 11 #[.val (.ref a1), .val (.ref b10_10), .val (.int (7 : Int32)), .val (.int (7 : Int32)), .val (.ref w9)] [(.int (7 : Int32)), (.int (7 : Int32))])) _
    refine XS.icmpYes X40.here hx rfl (pc0 := 11) (pc' := 48) rfl (hb hby d1_11) rfl (flt (by decide : ¬ ((7 : Int32) < (7 : Int32)))).2.1 (by decide) (by decide) ?_
    show Steps p.tables e below (T40.setTop (mkF m 48 #[.val (.ref a1), .val (.ref b10_10), .val (.int (7 : Int32)), .val (.int (7 : Int32)), .val (.ref w9)] [])) _
    refine st43 _ ?_
    show Steps p.tables e below (T43.setTop (mkF m 51 #[.val (.ref a1), .val (.ref b10_10), .val (.int (7 : Int32)), .val (.int (7 : Int32)), .val (.ref w9)] [(.ref w41)])) _
    jvm_step X43.here [X43.here.top, hx, (hb hby d1_51), X43.method', Bd.returns, Value.isRef, FieldType.isReference]
    first | (intro acts; rw [hr _ acts rfl rfl rfl]) | rw [hr _ _ rfl rfl rfl]
    exact Steps.refl _
  · show Q1_4 Z a1 w2 k_w2 w3 w4 w5 w6 w7 w8 w9 w13 w18 w23 w34 w41 h0 n0 _ T43.heap _
    rw [e43]
    exact ⟨rfl, N43, K0_10⟩
theorem d7_14 : decode jdk_32_method_15_code 14 = .ok (.aload_n 1, 1) := by decide +kernel
def Q7_2 (Z : State) (a1 : Addr) (h0 : Heap) (n0 : Nat) (v : Option Value) (h : Heap) (L : List Loc) : Prop := v = some .null ∧ Fr n0 L ∧ h = h0
set_option maxRecDepth 65536 in
set_option maxHeartbeats 40000000 in
theorem rm7_2 (l : Launch) (Z : State) (a0 : Array Value) (hw : ∀ d ∈ tables_1, d.before a0 Z = true) (ws : List Jvm.Cond) (a1 : Addr) (h0 : Heap) (n0 : Nat) (Z0 : n0 ≤ h0.size) (F_value_a1 : Fld Z h0 a1 "java/util/Optional" "value" "Ljava/lang/Object;" .null) :
    MetFree l (⟨"java/util/Optional", "orElse", "(Ljava/lang/Object;)Ljava/lang/Object;"⟩ : MethodName) (head1 (Jvm.Cond.code (⟨"java/util/Optional", "orElse", "(Ljava/lang/Object;)Ljava/lang/Object;"⟩ : MethodName) jdk_32_method_15_code 2 (some (.object "java/lang/Object")) :: ws) ({ frames := 0, cells := 0, slots := 0, locals := 0 } : Room)) (fun a U => a = #[(.ref a1), .null] ∧ Z.Warmed39 U.vm ∧ U.heap = h0) (fun _ _ _ _ _ => True) (fun _ U o U' => ∃ v L, o = .returned v ∧ Q7_2 Z a1 h0 n0 v U'.heap L ∧ FrameEnd U o U' L ({ frames := 0, cells := 0, slots := 0, locals := 0 } : Room).cells ({ frames := 0, cells := 0, slots := 0, locals := 0 } : Room).slots) := by
  refine MetFree.of_bodySF (plainFor_of_name pn_7) hisR ?_
  intro p e s m args below meth c s₁ Bd hml0 hP hK
  obtain ⟨rfl, hZ, hh⟩ := hP
  have hx := Bd.exec
  have hby := Bd.bytes
  have hml : c.maxLocals = 2 := hml0
  have hown : s.vm.findClass "java/util/Optional" = some m.cls := findClass_of_methodNamed Bd.named
  have hnm := (name_of_methodNamed Bd.named Bd.method).1
  have X0 : Stand p l e ({ frames := 0, cells := 0, slots := 0, locals := 0 } : Room) s m #[(.ref a1), .null] below meth c s₁ [] 0 0 := Stand.of_body Bd
  have e0 : s₁.heap = h0 := by rw [← hh, Bd.state]; rfl
  have N0 := Fr.nil n0
  have pre0 : ∀ t, Steps p.tables e below (s₁.setTop (mkF m 0 #[.val (.ref a1), .val .null] [])) t → Steps p.tables e below (s₁.setTop (entryFrame m #[(.ref a1), .null] 2)) t := fun t k => castTop (ef_7_RN m a1) k
  obtain ⟨T2, X2, e2, st2⟩ := getF X0 hx hZ hown (host := "") (Or.inl (hw _ (List.mem_of_getElem? (i := 52) rfl))) Via.refl e0 F_value_a1 (g := (mkF m 1 #[.val (.ref a1), .val .null] [(.ref a1)])) rfl rfl (hb hby d7_1)
  obtain ⟨fs, hr, hrun, hended, hW, hsame⟩ := X2.leave (v := some .null) (fun h => by rw [Bd.returns] at h; cases h)
  refine ⟨_, _, pre0 _ ?_, hrun, hended, _, _, rfl, ?_, ⟨_, rfl⟩, hW, hsame.mono (by decide) (by decide)⟩
  · show Steps p.tables e below (s₁.setTop (mkF m 0 #[.val (.ref a1), .val .null] [])) _
    refine XS.aloadN X0.here hx rfl (hb hby d7_0) rfl rfl ?_
    show Steps p.tables e below (s₁.setTop (mkF m 1 #[.val (.ref a1), .val .null] [(.ref a1)])) _
    refine st2 _ ?_
    show Steps p.tables e below (T2.setTop (mkF m 4 #[.val (.ref a1), .val .null] [.null])) _
    refine XS.ifnullYes X2.here hx rfl (pc0 := 4) (pc' := 14) rfl (hb hby d7_4) rfl (by decide) (by decide) ?_
    show Steps p.tables e below (T2.setTop (mkF m 14 #[.val (.ref a1), .val .null] [])) _
    refine XS.aloadN X2.here hx rfl (hb hby d7_14) rfl rfl ?_
    show Steps p.tables e below (T2.setTop (mkF m 15 #[.val (.ref a1), .val .null] [.null])) _
    jvm_step X2.here [X2.here.top, hx, (hb hby d7_15), X2.method', Bd.returns, Value.isRef, FieldType.isReference]
    first | (intro acts; rw [hr _ acts rfl rfl rfl]) | rw [hr _ _ rfl rfl rfl]
    exact Steps.refl _
  · show Q7_2 Z a1 h0 n0 _ T2.heap _
    rw [e2]
    exact ⟨rfl, N0, rfl⟩
set_option maxRecDepth 65536 in
set_option maxHeartbeats 40000000 in
theorem rm0_4 (l : Launch) (Z : State) (a0 : Array Value) (hw : ∀ d ∈ tables_1, d.before a0 Z = true) (ws : List Jvm.Cond) (p1 : Int32) (w6 : Addr) (w8 : Addr) (k_w8 : ClassId) (w9 : Addr) (w10 : Addr) (w11 : Addr) (w12 : Addr) (w13 : Addr) (w14 : Addr) (w15 : Addr) (w16 : Addr) (w17 : Addr) (w18 : Addr) (w19 : Addr) (w20 : Addr) (h0 : Heap) (n0 : Nat) (Z0 : n0 ≤ h0.size) (P2 : ¬ (((p1 &&& (2147483647 : Int32)) % (7 : Int32)) = (0 : Int32))) (P3 : ¬ (((p1 &&& (2147483647 : Int32)) % (7 : Int32)) = (1 : Int32))) (P4 : ¬ (((p1 &&& (2147483647 : Int32)) % (7 : Int32)) = (2 : Int32))) (P5 : ((p1 &&& (2147483647 : Int32)) % (7 : Int32)) = (3 : Int32)) (S_VOLATILE_MATTER : Sta Z h0 "com/example/tipple_ledger/tippleledger/terms/Characteristic" "VOLATILE_MATTER" "Lcom/example/tipple_ledger/tippleledger/terms/Characteristic;" (.ref w6)) (V_w8 : Arv Z h0 w8 k_w8 (.object "com/example/tipple_ledger/tippleledger/terms/WeightedAverage") (7 : Int32) [(.ref w9), (.ref w10), (.ref w11), (.ref w12), (.ref w13), (.ref w14), (.ref w15)] .null) (S__VALUES : Sta Z h0 "com/example/tipple_ledger/tippleledger/terms/WeightedAverage" "$VALUES" "[Lcom/example/tipple_ledger/tippleledger/terms/WeightedAverage;" (.ref w8)) (E_w8 : Exa Z h0 w8 "[Lcom/example/tipple_ledger/tippleledger/terms/WeightedAverage;") (F_characteristic_w9 : Fld Z h0 w9 "com/example/tipple_ledger/tippleledger/terms/WeightedAverage" "characteristic" "Lcom/example/tipple_ledger/tippleledger/terms/Characteristic;" (.ref w16)) (P21 : ¬ (w16 = w6)) (F_characteristic_w10 : Fld Z h0 w10 "com/example/tipple_ledger/tippleledger/terms/WeightedAverage" "characteristic" "Lcom/example/tipple_ledger/tippleledger/terms/Characteristic;" (.ref w17)) (P22 : ¬ (w17 = w6)) (F_characteristic_w11 : Fld Z h0 w11 "com/example/tipple_ledger/tippleledger/terms/WeightedAverage" "characteristic" "Lcom/example/tipple_ledger/tippleledger/terms/Characteristic;" (.ref w18)) (P23 : ¬ (w18 = w6)) (F_characteristic_w12 : Fld Z h0 w12 "com/example/tipple_ledger/tippleledger/terms/WeightedAverage" "characteristic" "Lcom/example/tipple_ledger/tippleledger/terms/Characteristic;" (.ref w18)) (F_characteristic_w13 : Fld Z h0 w13 "com/example/tipple_ledger/tippleledger/terms/WeightedAverage" "characteristic" "Lcom/example/tipple_ledger/tippleledger/terms/Characteristic;" (.ref w17)) (F_characteristic_w14 : Fld Z h0 w14 "com/example/tipple_ledger/tippleledger/terms/WeightedAverage" "characteristic" "Lcom/example/tipple_ledger/tippleledger/terms/Characteristic;" (.ref w19)) (P24 : ¬ (w19 = w6)) (F_characteristic_w15 : Fld Z h0 w15 "com/example/tipple_ledger/tippleledger/terms/WeightedAverage" "characteristic" "Lcom/example/tipple_ledger/tippleledger/terms/Characteristic;" (.ref w19)) (S_EMPTY : Sta Z h0 "java/util/Optional" "EMPTY" "Ljava/util/Optional;" (.ref w20)) (F_value_w20 : Fld Z h0 w20 "java/util/Optional" "value" "Ljava/lang/Object;" .null) (E_w20 : Exa Z h0 w20 "java/util/Optional") :
    MetFree l x (head1 (Jvm.Cond.code x code maxLocals ret :: ws) room_1) (fun a U => a = #[(.int p1)] ∧ Z.Warmed39 U.vm ∧ U.heap = h0) (fun _ _ _ _ _ => True) (fun _ U o U' => ∃ v L, o = .returned v ∧ own_QT n0 v L ∧ FrameEnd U o U' L room_1.cells room_1.slots) := by
  refine MetFree.of_bodySF (plainFor_of_name pn_0) hisR ?_
  intro p e s m args below meth c s₁ Bd hml0 hP hK
  obtain ⟨rfl, hZ, hh⟩ := hP
  have hx := Bd.exec
  have hby := Bd.bytes
  have hml : c.maxLocals = 5 := hml0
  have hown : s.vm.findClass "com/example/tipple_ledger/tippleledger/terms/WeightedAverageByTonsPinLaw" = some m.cls := findClass_of_methodNamed Bd.named
  have hnm := (name_of_methodNamed Bd.named Bd.method).1
  have X0 : Stand p l e room_1 s m #[(.int p1)] below meth c s₁ [] 0 0 := Stand.of_body Bd
  have e0 : s₁.heap = h0 := by rw [← hh, Bd.state]; rfl
  have N0 := Fr.nil n0
  have pre0 : ∀ t, Steps p.tables e below (s₁.setTop (mkF m 0 #[.val (.int p1), .unset, .unset, .unset, .unset] [])) t → Steps p.tables e below (s₁.setTop (entryFrame m #[(.int p1)] maxLocals)) t := fun t k => castTop (ef_0_I m p1) k
  obtain ⟨T7, X7, e7, st7⟩ := getS2 X0 hx hZ hown (host := "") (Or.inl (hw _ (List.mem_of_getElem? (i := 71) rfl))) Via.refl e0 S_VOLATILE_MATTER (g := (mkF m 60 #[.val (.int p1), .val (.int ((p1 &&& (2147483647 : Int32)) % (7 : Int32))), .unset, .unset, .unset] [])) rfl (hb hby at_60)
  obtain ⟨_, _, ⟨T25, L25, k25, n25⟩, -, X25, ⟨Lc25, hQ25, l25, y25, z25⟩, st25⟩ := Jvm.LawKit.callS X7 hx (y := (⟨"com/example/tipple_ledger/tippleledger/terms/WeightedAverage", "byTons", "(Lcom/example/tipple_ledger/tippleledger/terms/Characteristic;)Ljava/util/Optional;"⟩ : MethodName)) hown (mvT hZ (hw _ (List.mem_of_getElem? (i := 7) rfl))) (mvT hZ (hw _ (List.mem_of_getElem? (i := 8) rfl))) (mvT hZ (hw _ (List.mem_of_getElem? (i := 5) rfl))) (mvT hZ (hw _ (List.mem_of_getElem? (i := 9) rfl))) (by decide) (backOf (W := 0) (rm1_4 l Z a0 hw [] w6 w8 k_w8 w9 w10 w11 w12 w13 w14 w15 w16 w17 w18 w19 w20 h0 n0 Z0 V_w8 S__VALUES E_w8 F_characteristic_w9 P21 F_characteristic_w10 P22 F_characteristic_w11 P23 F_characteristic_w12 F_characteristic_w13 F_characteristic_w14 P24 F_characteristic_w15 S_EMPTY) hZ (hw _ (List.mem_of_getElem? (i := 9) rfl)) (hw _ (List.mem_of_getElem? (i := 5) rfl)) (by decide) (by decide)) (g := (mkF m 106 #[.val (.int p1), .val (.int ((p1 &&& (2147483647 : Int32)) % (7 : Int32))), .val (.ref w6), .val .null, .unset] [(.ref w6)])) rfl (by rw [hml]; rfl) (argsL := [(.ref w6)]) (rest := []) (lenOf pd_4 rfl) rfl (by show 2 * 0 + _ ≤ _; exact Nat.le_of_eq rfl) (hb hby at_106) (fun _ _ => ⟨rfl, e7, (by decide : 0 + 1 ≤ _), (by decide : 0 + 7 ≤ _)⟩)
  dsimp only [Pt.U, Pt.locs, Pt.cells, Pt.slots] at X25 l25 y25 z25 st25 hQ25
  subst l25 y25 z25
  obtain ⟨rfl, Nq25, K25⟩ := hQ25
  have N25 := Fr.app N0 Nq25
  have K0_25 : Keep h0 T25.heap [] := (Keep.refl h0 []).trans K25 all0
  have Z25 : n0 ≤ T25.heap.size := Nat.le_trans Z0 K25.1
  have f26 := (F_value_w20.keep K25 nin0)
  have f28 := (E_w20.keep K25)
  obtain ⟨cq27, kq27, q27a, q27b, q27c⟩ := isOf hZ rfl f28
  obtain ⟨_, _, ⟨T27, L27, k27, n27⟩, -, X27, ⟨Lc27, hQ27, l27, y27, z27⟩, st27⟩ := X25.virtualBack hx (y := (⟨"java/util/Optional", "orElse", "(Ljava/lang/Object;)Ljava/lang/Object;"⟩ : MethodName)) (z := (⟨"java/util/Optional", "orElse", "(Ljava/lang/Object;)Ljava/lang/Object;"⟩ : MethodName)) hown (mvT hZ (hw _ (List.mem_of_getElem? (i := 54) rfl))) (mvT hZ (hw _ (List.mem_of_getElem? (i := 55) rfl))) (notFace_of_selects (args := #[]) (mvT hZ (hw _ (List.mem_of_getElem? (i := 57) rfl)))) (mvT hZ (hw _ (List.mem_of_getElem? (i := 57) rfl))) (mvT hZ (hw _ (List.mem_of_getElem? (i := 56) rfl))) (by decide) (backOf (W := 0) (rm7_2 l Z a0 hw [] w20 T25.heap n0 Z25 f26) hZ (hw _ (List.mem_of_getElem? (i := 58) rfl)) (hw _ (List.mem_of_getElem? (i := 37) rfl)) (by decide) (by decide)) q27a q27c (g := (mkF m 110 #[.val (.int p1), .val (.int ((p1 &&& (2147483647 : Int32)) % (7 : Int32))), .val (.ref w6), .val .null, .unset] [.null, (.ref w20)])) rfl (by rw [hml]; rfl) (Steps.refl _) (argsL := [.null]) (rest := []) (lenOf pd_1 rfl) rfl (by show 2 * 0 + _ ≤ _; exact Nat.le_of_eq rfl) (hb hby at_110) (fun _ _ => ⟨rfl, rfl, (by decide : 1 + 0 ≤ _), (by decide : 7 + 0 ≤ _)⟩)
  dsimp only [Pt.U, Pt.locs, Pt.cells, Pt.slots] at X27 l27 y27 z27 st27 hQ27
  subst l27 y27 z27
  obtain ⟨rfl, Nq27, e27⟩ := hQ27
  have N27 := Fr.app N25 Nq27
  obtain ⟨fs, hr, hrun, hended, hW, hsame⟩ := X27.leave (v := some (.int (1 : Int32))) (fun h => by rw [Bd.returns] at h; cases h)
  refine ⟨_, _, pre0 _ ?_, hrun, hended, _, _, rfl, ?_, ⟨_, rfl⟩, hW, hsame.mono (by decide) (by decide)⟩
  · show Steps p.tables e below (s₁.setTop (mkF m 0 #[.val (.int p1), .unset, .unset, .unset, .unset] [])) _
    refine XS.iloadN X0.here hx rfl (hb hby at_0) rfl ?_
    show Steps p.tables e below (s₁.setTop (mkF m 1 #[.val (.int p1), .unset, .unset, .unset, .unset] [(.int p1)])) _
    refine X0.ldcInt hx hown (mvT hZ (hw _ (List.mem_of_getElem? (i := 0) rfl))) (g := (mkF m 1 #[.val (.int p1), .unset, .unset, .unset, .unset] [(.int p1)])) rfl (hb hby at_1) _ ?_
    show Steps p.tables e below (s₁.setTop (mkF m 3 #[.val (.int p1), .unset, .unset, .unset, .unset] [(.int (2147483647 : Int32)), (.int p1)])) _
    refine XS.iand X0.here hx rfl (hb hby at_3) rfl ?_
    show Steps p.tables e below (s₁.setTop (mkF m 4 #[.val (.int p1), .unset, .unset, .unset, .unset] [(.int (p1 &&& (2147483647 : Int32)))])) _
    refine XS.bipush X0.here hx rfl (hb hby at_4) ?_
    show Steps p.tables e below (s₁.setTop (mkF m 6 #[.val (.int p1), .unset, .unset, .unset, .unset] [(.int (7 : Int32)), (.int (p1 &&& (2147483647 : Int32)))])) _
    refine iremM X0 hx rfl (hb hby at_6) rfl (by decide : ¬ ((7 : Int32) = (0 : Int32))) ?_
    show Steps p.tables e below (s₁.setTop (mkF m 7 #[.val (.int p1), .unset, .unset, .unset, .unset] [(.int ((p1 &&& (2147483647 : Int32)) % (7 : Int32)))])) _
    refine XS.istoreN X0.here hx rfl (hb hby at_7) rfl (l' := #[.val (.int p1), .val (.int ((p1 &&& (2147483647 : Int32)) % (7 : Int32))), .unset, .unset, .unset]) rfl ?_
    show Steps p.tables e below (s₁.setTop (mkF m 8 #[.val (.int p1), .val (.int ((p1 &&& (2147483647 : Int32)) % (7 : Int32))), .unset, .unset, .unset] [])) _
    refine XS.iloadN X0.here hx rfl (hb hby at_8) rfl ?_
    show Steps p.tables e below (s₁.setTop (mkF m 9 #[.val (.int p1), .val (.int ((p1 &&& (2147483647 : Int32)) % (7 : Int32))), .unset, .unset, .unset] [(.int ((p1 &&& (2147483647 : Int32)) % (7 : Int32)))])) _
    refine XS.ifYes X0.here hx rfl (pc0 := 9) (pc' := 23) rfl (hb hby at_9) rfl ((if0 _ _).trans (feq P2).2) (by decide) (by decide) ?_
    show Steps p.tables e below (s₁.setTop (mkF m 23 #[.val (.int p1), .val (.int ((p1 &&& (2147483647 : Int32)) % (7 : Int32))), .unset, .unset, .unset] [])) _
    refine XS.iloadN X0.here hx rfl (hb hby at_23) rfl ?_
    show Steps p.tables e below (s₁.setTop (mkF m 24 #[.val (.int p1), .val (.int ((p1 &&& (2147483647 : Int32)) % (7 : Int32))), .unset, .unset, .unset] [(.int ((p1 &&& (2147483647 : Int32)) % (7 : Int32)))])) _
    refine XS.iconst X0.here hx rfl (hb hby at_24) ?_
    show Steps p.tables e below (s₁.setTop (mkF m 25 #[.val (.int p1), .val (.int ((p1 &&& (2147483647 : Int32)) % (7 : Int32))), .unset, .unset, .unset] [(.int (1 : Int32)), (.int ((p1 &&& (2147483647 : Int32)) % (7 : Int32)))])) _
    refine XS.icmpYes X0.here hx rfl (pc0 := 25) (pc' := 39) rfl (hb hby at_25) rfl (feq P3).2 (by decide) (by decide) ?_
    show Steps p.tables e below (s₁.setTop (mkF m 39 #[.val (.int p1), .val (.int ((p1 &&& (2147483647 : Int32)) % (7 : Int32))), .unset, .unset, .unset] [])) _
    refine XS.iloadN X0.here hx rfl (hb hby at_39) rfl ?_
    show Steps p.tables e below (s₁.setTop (mkF m 40 #[.val (.int p1), .val (.int ((p1 &&& (2147483647 : Int32)) % (7 : Int32))), .unset, .unset, .unset] [(.int ((p1 &&& (2147483647 : Int32)) % (7 : Int32)))])) _
    refine XS.iconst X0.here hx rfl (hb hby at_40) ?_
    show Steps p.tables e below (s₁.setTop (mkF m 41 #[.val (.int p1), .val (.int ((p1 &&& (2147483647 : Int32)) % (7 : Int32))), .unset, .unset, .unset] [(.int (2 : Int32)), (.int ((p1 &&& (2147483647 : Int32)) % (7 : Int32)))])) _
    refine XS.icmpYes X0.here hx rfl (pc0 := 41) (pc' := 55) rfl (hb hby at_41) rfl (feq P4).2 (by decide) (by decide) ?_
    show Steps p.tables e below (s₁.setTop (mkF m 55 #[.val (.int p1), .val (.int ((p1 &&& (2147483647 : Int32)) % (7 : Int32))), .unset, .unset, .unset] [])) _
    refine XS.iloadN X0.here hx rfl (hb hby at_55) rfl ?_
    show Steps p.tables e below (s₁.setTop (mkF m 56 #[.val (.int p1), .val (.int ((p1 &&& (2147483647 : Int32)) % (7 : Int32))), .unset, .unset, .unset] [(.int ((p1 &&& (2147483647 : Int32)) % (7 : Int32)))])) _
    refine XS.iconst X0.here hx rfl (hb hby at_56) ?_
    show Steps p.tables e below (s₁.setTop (mkF m 57 #[.val (.int p1), .val (.int ((p1 &&& (2147483647 : Int32)) % (7 : Int32))), .unset, .unset, .unset] [(.int (3 : Int32)), (.int ((p1 &&& (2147483647 : Int32)) % (7 : Int32)))])) _
    refine XS.icmpNo X0.here hx rfl (hb hby at_57) rfl (teq P5).2 ?_
    show Steps p.tables e below (s₁.setTop (mkF m 60 #[.val (.int p1), .val (.int ((p1 &&& (2147483647 : Int32)) % (7 : Int32))), .unset, .unset, .unset] [])) _
    refine st7 _ ?_
    show Steps p.tables e below (T7.setTop (mkF m 63 #[.val (.int p1), .val (.int ((p1 &&& (2147483647 : Int32)) % (7 : Int32))), .unset, .unset, .unset] [(.ref w6)])) _
    refine XS.astoreN X7.here hx rfl (hb hby at_63) rfl rfl (l' := #[.val (.int p1), .val (.int ((p1 &&& (2147483647 : Int32)) % (7 : Int32))), .val (.ref w6), .unset, .unset]) rfl ?_
    show Steps p.tables e below (T7.setTop (mkF m 64 #[.val (.int p1), .val (.int ((p1 &&& (2147483647 : Int32)) % (7 : Int32))), .val (.ref w6), .unset, .unset] [])) _
    refine XS.aconstNull X7.here hx rfl (hb hby at_64) ?_
    show Steps p.tables e below (T7.setTop (mkF m 65 #[.val (.int p1), .val (.int ((p1 &&& (2147483647 : Int32)) % (7 : Int32))), .val (.ref w6), .unset, .unset] [.null])) _
    refine XS.astoreN X7.here hx rfl (hb hby at_65) rfl rfl (l' := #[.val (.int p1), .val (.int ((p1 &&& (2147483647 : Int32)) % (7 : Int32))), .val (.ref w6), .val .null, .unset]) rfl ?_
    show Steps p.tables e below (T7.setTop (mkF m 66 #[.val (.int p1), .val (.int ((p1 &&& (2147483647 : Int32)) % (7 : Int32))), .val (.ref w6), .val .null, .unset] [])) _
    refine XS.goto X7.here hx rfl (pc0 := 66) (pc' := 105) rfl (hb hby at_66) (by decide) (by decide) ?_
    show Steps p.tables e below (T7.setTop (mkF m 105 #[.val (.int p1), .val (.int ((p1 &&& (2147483647 : Int32)) % (7 : Int32))), .val (.ref w6), .val .null, .unset] [])) _
    refine XS.aloadN X7.here hx rfl (hb hby at_105) rfl rfl ?_
    show Steps p.tables e below (T7.setTop (mkF m 106 #[.val (.int p1), .val (.int ((p1 &&& (2147483647 : Int32)) % (7 : Int32))), .val (.ref w6), .val .null, .unset] [(.ref w6)])) _
    refine st25 _ ?_
    show Steps p.tables e below (T25.setTop (mkF m 109 #[.val (.int p1), .val (.int ((p1 &&& (2147483647 : Int32)) % (7 : Int32))), .val (.ref w6), .val .null, .unset] [(.ref w20)])) _
    refine XS.aconstNull X25.here hx rfl (hb hby at_109) ?_
    show Steps p.tables e below (T25.setTop (mkF m 110 #[.val (.int p1), .val (.int ((p1 &&& (2147483647 : Int32)) % (7 : Int32))), .val (.ref w6), .val .null, .unset] [.null, (.ref w20)])) _
    refine st27.trans ?_
    show Steps p.tables e below (T27.setTop (mkF m 113 #[.val (.int p1), .val (.int ((p1 &&& (2147483647 : Int32)) % (7 : Int32))), .val (.ref w6), .val .null, .unset] [.null])) _
    refine X27.checkcastNull hx (g := (mkF m 113 #[.val (.int p1), .val (.int ((p1 &&& (2147483647 : Int32)) % (7 : Int32))), .val (.ref w6), .val .null, .unset] [.null])) rfl rfl (hb hby at_113) _ ?_
    show Steps p.tables e below (T27.setTop (mkF m 116 #[.val (.int p1), .val (.int ((p1 &&& (2147483647 : Int32)) % (7 : Int32))), .val (.ref w6), .val .null, .unset] [.null])) _
    refine XS.astore X27.here hx rfl (hb hby at_116) rfl rfl (l' := #[.val (.int p1), .val (.int ((p1 &&& (2147483647 : Int32)) % (7 : Int32))), .val (.ref w6), .val .null, .val .null]) rfl ?_
    show Steps p.tables e below (T27.setTop (mkF m 118 #[.val (.int p1), .val (.int ((p1 &&& (2147483647 : Int32)) % (7 : Int32))), .val (.ref w6), .val .null, .val .null] [])) _
    refine XS.aload X27.here hx rfl (hb hby at_118) rfl rfl ?_
    show Steps p.tables e below (T27.setTop (mkF m 120 #[.val (.int p1), .val (.int ((p1 &&& (2147483647 : Int32)) % (7 : Int32))), .val (.ref w6), .val .null, .val .null] [.null])) _
    refine XS.aloadN X27.here hx rfl (hb hby at_120) rfl rfl ?_
    show Steps p.tables e below (T27.setTop (mkF m 121 #[.val (.int p1), .val (.int ((p1 &&& (2147483647 : Int32)) % (7 : Int32))), .val (.ref w6), .val .null, .val .null] [.null, .null])) _
    refine Jvm.RoadKit.acmp (g := (mkF m 121 #[.val (.int p1), .val (.int ((p1 &&& (2147483647 : Int32)) % (7 : Int32))), .val (.ref w6), .val .null, .val .null] [.null, .null])) X27 hx rfl rfl rfl (pc0 := 121) (pc' := 126) (same := true) rfl (hb hby at_121) rfl (decide_eq_true rfl) (by decide) (by decide) ?_
    show Steps p.tables e below (T27.setTop (mkF m 126 #[.val (.int p1), .val (.int ((p1 &&& (2147483647 : Int32)) % (7 : Int32))), .val (.ref w6), .val .null, .val .null] [])) _
    refine XS.aload X27.here hx rfl (hb hby at_126) rfl rfl ?_
    show Steps p.tables e below (T27.setTop (mkF m 128 #[.val (.int p1), .val (.int ((p1 &&& (2147483647 : Int32)) % (7 : Int32))), .val (.ref w6), .val .null, .val .null] [.null])) _
    refine XS.ifnonnullNo X27.here hx rfl (hb hby at_128) rfl ?_
    show Steps p.tables e below (T27.setTop (mkF m 131 #[.val (.int p1), .val (.int ((p1 &&& (2147483647 : Int32)) % (7 : Int32))), .val (.ref w6), .val .null, .val .null] [])) _
    refine XS.iconst X27.here hx rfl (hb hby at_131) ?_
    show Steps p.tables e below (T27.setTop (mkF m 132 #[.val (.int p1), .val (.int ((p1 &&& (2147483647 : Int32)) % (7 : Int32))), .val (.ref w6), .val .null, .val .null] [(.int (1 : Int32))])) _
    exact retN X27 hx (t := .boolean) Bd.returns (by simp) (hb hby at_132) hr
  · exact ⟨rfl, N27⟩
def Q1_5 (Z : State) (a1 : Addr) (w2 : Addr) (k_w2 : ClassId) (w3 : Addr) (w4 : Addr) (w5 : Addr) (w6 : Addr) (w7 : Addr) (w8 : Addr) (w9 : Addr) (w13 : Addr) (w18 : Addr) (w23 : Addr) (h0 : Heap) (n0 : Nat) (v : Option Value) (h : Heap) (L : List Loc) : Prop := ∃ (b2_38 : Addr), v = some (.ref b2_38) ∧ Fr n0 L ∧ Keep h0 h [] ∧ h0.size ≤ b2_38 ∧ Exa Z h b2_38 "java/util/Optional" ∧ Fld Z h b2_38 "java/util/Optional" "value" "Ljava/lang/Object;" (.ref w8)
set_option maxRecDepth 65536 in
set_option maxHeartbeats 40000000 in
theorem rm1_5 (l : Launch) (Z : State) (a0 : Array Value) (hw : ∀ d ∈ tables_1, d.before a0 Z = true) (ws : List Jvm.Cond) (a1 : Addr) (w2 : Addr) (k_w2 : ClassId) (w3 : Addr) (w4 : Addr) (w5 : Addr) (w6 : Addr) (w7 : Addr) (w8 : Addr) (w9 : Addr) (w13 : Addr) (w18 : Addr) (w23 : Addr) (h0 : Heap) (n0 : Nat) (Z0 : n0 ≤ h0.size) (V_w2 : Arv Z h0 w2 k_w2 (.object "com/example/tipple_ledger/tippleledger/terms/WeightedAverage") (7 : Int32) [(.ref w3), (.ref w4), (.ref w5), (.ref w6), (.ref w7), (.ref w8), (.ref w9)] .null) (S__VALUES : Sta Z h0 "com/example/tipple_ledger/tippleledger/terms/WeightedAverage" "$VALUES" "[Lcom/example/tipple_ledger/tippleledger/terms/WeightedAverage;" (.ref w2)) (E_w2 : Exa Z h0 w2 "[Lcom/example/tipple_ledger/tippleledger/terms/WeightedAverage;") (F_characteristic_w3 : Fld Z h0 w3 "com/example/tipple_ledger/tippleledger/terms/WeightedAverage" "characteristic" "Lcom/example/tipple_ledger/tippleledger/terms/Characteristic;" (.ref w13)) (P16 : ¬ (w13 = a1)) (F_characteristic_w4 : Fld Z h0 w4 "com/example/tipple_ledger/tippleledger/terms/WeightedAverage" "characteristic" "Lcom/example/tipple_ledger/tippleledger/terms/Characteristic;" (.ref w18)) (P21 : ¬ (w18 = a1)) (F_characteristic_w5 : Fld Z h0 w5 "com/example/tipple_ledger/tippleledger/terms/WeightedAverage" "characteristic" "Lcom/example/tipple_ledger/tippleledger/terms/Characteristic;" (.ref w23)) (P26 : ¬ (w23 = a1)) (F_characteristic_w6 : Fld Z h0 w6 "com/example/tipple_ledger/tippleledger/terms/WeightedAverage" "characteristic" "Lcom/example/tipple_ledger/tippleledger/terms/Characteristic;" (.ref w23)) (F_characteristic_w7 : Fld Z h0 w7 "com/example/tipple_ledger/tippleledger/terms/WeightedAverage" "characteristic" "Lcom/example/tipple_ledger/tippleledger/terms/Characteristic;" (.ref w18)) (F_characteristic_w8 : Fld Z h0 w8 "com/example/tipple_ledger/tippleledger/terms/WeightedAverage" "characteristic" "Lcom/example/tipple_ledger/tippleledger/terms/Characteristic;" (.ref a1)) (F_perMmbtu_w8 : Fld Z h0 w8 "com/example/tipple_ledger/tippleledger/terms/WeightedAverage" "perMmbtu" "Z" (.int (0 : Int32))) :
    MetFree l (⟨"com/example/tipple_ledger/tippleledger/terms/WeightedAverage", "byTons", "(Lcom/example/tipple_ledger/tippleledger/terms/Characteristic;)Ljava/util/Optional;"⟩ : MethodName) (head1 (Jvm.Cond.code (⟨"com/example/tipple_ledger/tippleledger/terms/WeightedAverage", "byTons", "(Lcom/example/tipple_ledger/tippleledger/terms/Characteristic;)Ljava/util/Optional;"⟩ : MethodName) prog_194_method_11_code 5 (some (.object "java/util/Optional")) :: ws) ({ frames := 3, cells := 2, slots := 8, locals := 38 } : Room)) (fun a U => a = #[(.ref a1)] ∧ Z.Warmed39 U.vm ∧ U.heap = h0) (fun _ _ _ _ _ => True) (fun _ U o U' => ∃ v L, o = .returned v ∧ Q1_5 Z a1 w2 k_w2 w3 w4 w5 w6 w7 w8 w9 w13 w18 w23 h0 n0 v U'.heap L ∧ FrameEnd U o U' L ({ frames := 3, cells := 2, slots := 8, locals := 38 } : Room).cells ({ frames := 3, cells := 2, slots := 8, locals := 38 } : Room).slots) := by
  refine MetFree.of_bodySF (plainFor_of_name pn_1) hisR ?_
  intro p e s m args below meth c s₁ Bd hml0 hP hK
  obtain ⟨rfl, hZ, hh⟩ := hP
  have hx := Bd.exec
  have hby := Bd.bytes
  have hml : c.maxLocals = 5 := hml0
  have hown : s.vm.findClass "com/example/tipple_ledger/tippleledger/terms/WeightedAverage" = some m.cls := findClass_of_methodNamed Bd.named
  have hnm := (name_of_methodNamed Bd.named Bd.method).1
  have X0 : Stand p l e ({ frames := 3, cells := 2, slots := 8, locals := 38 } : Room) s m #[(.ref a1)] below meth c s₁ [] 0 0 := Stand.of_body Bd
  have e0 : s₁.heap = h0 := by rw [← hh, Bd.state]; rfl
  have N0 := Fr.nil n0
  have pre0 : ∀ t, Steps p.tables e below (s₁.setTop (mkF m 0 #[.val (.ref a1), .unset, .unset, .unset, .unset] [])) t → Steps p.tables e below (s₁.setTop (entryFrame m #[(.ref a1)] 5)) t := fun t k => castTop (ef_1_R m a1) k
  obtain ⟨_, _, ⟨T10, L10, k10, n10⟩, -, X10, ⟨Lc10, hQ10, l10, y10, z10⟩, st10⟩ := Jvm.LawKit.callS X0 hx (y := (⟨"com/example/tipple_ledger/tippleledger/terms/WeightedAverage", "values", "()[Lcom/example/tipple_ledger/tippleledger/terms/WeightedAverage;"⟩ : MethodName)) hown (mvT hZ (hw _ (List.mem_of_getElem? (i := 10) rfl))) (mvT hZ (hw _ (List.mem_of_getElem? (i := 11) rfl))) (mvT hZ (hw _ (List.mem_of_getElem? (i := 5) rfl))) (mvT hZ (hw _ (List.mem_of_getElem? (i := 12) rfl))) (by decide) (backOf (W := 0) (rm2_1 l Z a0 hw [] w2 k_w2 w3 w4 w5 w6 w7 w8 w9 h0 n0 Z0 S__VALUES V_w2 E_w2) hZ (hw _ (List.mem_of_getElem? (i := 12) rfl)) (hw _ (List.mem_of_getElem? (i := 5) rfl)) (by decide) (by decide)) (g := (mkF m 0 #[.val (.ref a1), .unset, .unset, .unset, .unset] [])) rfl (by rw [hml]; rfl) (argsL := []) (rest := []) (lenOf pd_0 rfl) rfl (by show 2 * 0 + _ ≤ _; exact Nat.le_of_eq rfl) (hb hby d1_0) (fun _ _ => ⟨rfl, e0, (by decide : 0 + 1 ≤ _), (by decide : 0 + 7 ≤ _)⟩)
  dsimp only [Pt.U, Pt.locs, Pt.cells, Pt.slots] at X10 l10 y10 z10 st10 hQ10
  subst l10 y10 z10
  obtain ⟨b10_10, rfl, Nq10, K10, x10_0, x10_1, x10_2⟩ := hQ10
  have N10 := Fr.app N0 Nq10
  have sz_b10_10 : h0.size ≤ b10_10 := Nat.le_trans (Keep.refl h0 []).1 x10_0
  have g_b10_10 : n0 ≤ b10_10 := Nat.le_trans Z0 sz_b10_10
  have K0_10 : Keep h0 T10.heap [] := (Keep.refl h0 []).trans K10 all0
  have Z10 : n0 ≤ T10.heap.size := Nat.le_trans Z0 K10.1
  obtain ⟨cl11, Ar11, -, S11, N_11, -, -⟩ := id x10_1
  obtain ⟨cl12, Ar12, q12, S12, N_12, H12, G12⟩ := id x10_1
  have hin12 : ¬ ((0 : Int32) < 0 ∨ cl12.slots.size ≤ ((0 : Int32)).toNatClampNeg) := inb_of S12 ⟨by decide, (by decide : (0 : Int32) < (7 : Int32))⟩
  have hat12 : cl12.slots[((0 : Int32)).toNatClampNeg]? = some (.ref w3) := Has.at H12 hin12 rfl
  have f14 := (F_characteristic_w3.keep K10 nin0)
  obtain ⟨T15, X15, e15, st15⟩ := getF X10 hx hZ hown (host := "") (Or.inl (hw _ (List.mem_of_getElem? (i := 31) rfl))) Via.refl rfl f14 (g := (mkF m 21 #[.val (.ref a1), .val (.ref b10_10), .val (.int (7 : Int32)), .val (.int (0 : Int32)), .val (.ref w3)] [(.ref w3)])) rfl rfl (hb hby d1_21)
  obtain ⟨cl17, Ar17, q17, S17, N_17, H17, G17⟩ := id x10_1
  have hin17 : ¬ ((1 : Int32) < 0 ∨ cl17.slots.size ≤ ((1 : Int32)).toNatClampNeg) := inb_of S17 ⟨by decide, (by decide : (1 : Int32) < (7 : Int32))⟩
  have hat17 : cl17.slots[((1 : Int32)).toNatClampNeg]? = some (.ref w4) := Has.at H17 hin17 rfl
  have f19 := (F_characteristic_w4.keep K10 nin0)
  obtain ⟨T20, X20, e20, st20⟩ := getF X15 hx hZ hown (host := "") (Or.inl (hw _ (List.mem_of_getElem? (i := 31) rfl))) Via.refl e15 f19 (g := (mkF m 21 #[.val (.ref a1), .val (.ref b10_10), .val (.int (7 : Int32)), .val (.int (1 : Int32)), .val (.ref w4)] [(.ref w4)])) rfl rfl (hb hby d1_21)
  obtain ⟨cl22, Ar22, q22, S22, N_22, H22, G22⟩ := id x10_1
  have hin22 : ¬ ((2 : Int32) < 0 ∨ cl22.slots.size ≤ ((2 : Int32)).toNatClampNeg) := inb_of S22 ⟨by decide, (by decide : (2 : Int32) < (7 : Int32))⟩
  have hat22 : cl22.slots[((2 : Int32)).toNatClampNeg]? = some (.ref w5) := Has.at H22 hin22 rfl
  have f24 := (F_characteristic_w5.keep K10 nin0)
  obtain ⟨T25, X25, e25, st25⟩ := getF X20 hx hZ hown (host := "") (Or.inl (hw _ (List.mem_of_getElem? (i := 31) rfl))) Via.refl e20 f24 (g := (mkF m 21 #[.val (.ref a1), .val (.ref b10_10), .val (.int (7 : Int32)), .val (.int (2 : Int32)), .val (.ref w5)] [(.ref w5)])) rfl rfl (hb hby d1_21)
  obtain ⟨cl27, Ar27, q27, S27, N_27, H27, G27⟩ := id x10_1
  have hin27 : ¬ ((3 : Int32) < 0 ∨ cl27.slots.size ≤ ((3 : Int32)).toNatClampNeg) := inb_of S27 ⟨by decide, (by decide : (3 : Int32) < (7 : Int32))⟩
  have hat27 : cl27.slots[((3 : Int32)).toNatClampNeg]? = some (.ref w6) := Has.at H27 hin27 rfl
  have f28 := (F_characteristic_w6.keep K10 nin0)
  obtain ⟨T29, X29, e29, st29⟩ := getF X25 hx hZ hown (host := "") (Or.inl (hw _ (List.mem_of_getElem? (i := 31) rfl))) Via.refl e25 f28 (g := (mkF m 21 #[.val (.ref a1), .val (.ref b10_10), .val (.int (7 : Int32)), .val (.int (3 : Int32)), .val (.ref w6)] [(.ref w6)])) rfl rfl (hb hby d1_21)
  obtain ⟨cl30, Ar30, q30, S30, N_30, H30, G30⟩ := id x10_1
  have hin30 : ¬ ((4 : Int32) < 0 ∨ cl30.slots.size ≤ ((4 : Int32)).toNatClampNeg) := inb_of S30 ⟨by decide, (by decide : (4 : Int32) < (7 : Int32))⟩
  have hat30 : cl30.slots[((4 : Int32)).toNatClampNeg]? = some (.ref w7) := Has.at H30 hin30 rfl
  have f31 := (F_characteristic_w7.keep K10 nin0)
  obtain ⟨T32, X32, e32, st32⟩ := getF X29 hx hZ hown (host := "") (Or.inl (hw _ (List.mem_of_getElem? (i := 31) rfl))) Via.refl e29 f31 (g := (mkF m 21 #[.val (.ref a1), .val (.ref b10_10), .val (.int (7 : Int32)), .val (.int (4 : Int32)), .val (.ref w7)] [(.ref w7)])) rfl rfl (hb hby d1_21)
  obtain ⟨cl33, Ar33, q33, S33, N_33, H33, G33⟩ := id x10_1
  have hin33 : ¬ ((5 : Int32) < 0 ∨ cl33.slots.size ≤ ((5 : Int32)).toNatClampNeg) := inb_of S33 ⟨by decide, (by decide : (5 : Int32) < (7 : Int32))⟩
  have hat33 : cl33.slots[((5 : Int32)).toNatClampNeg]? = some (.ref w8) := Has.at H33 hin33 rfl
  have f34 := (F_characteristic_w8.keep K10 nin0)
  obtain ⟨T35, X35, e35, st35⟩ := getF X32 hx hZ hown (host := "") (Or.inl (hw _ (List.mem_of_getElem? (i := 31) rfl))) Via.refl e32 f34 (g := (mkF m 21 #[.val (.ref a1), .val (.ref b10_10), .val (.int (7 : Int32)), .val (.int (5 : Int32)), .val (.ref w8)] [(.ref w8)])) rfl rfl (hb hby d1_21)
  have f36 := (F_perMmbtu_w8.keep K10 nin0)
  obtain ⟨T37, X37, e37, st37⟩ := getF X35 hx hZ hown (host := "") (Or.inl (hw _ (List.mem_of_getElem? (i := 33) rfl))) Via.refl e35 f36 (g := (mkF m 30 #[.val (.ref a1), .val (.ref b10_10), .val (.int (7 : Int32)), .val (.int (5 : Int32)), .val (.ref w8)] [(.ref w8)])) rfl rfl (hb hby d1_30)
  obtain ⟨_, _, ⟨T38, L38, k38, n38⟩, -, X38, ⟨Lc38, hQ38, l38, y38, z38⟩, st38⟩ := Jvm.LawKit.callS X37 hx (y := (⟨"java/util/Optional", "of", "(Ljava/lang/Object;)Ljava/util/Optional;"⟩ : MethodName)) hown (mvT hZ (hw _ (List.mem_of_getElem? (i := 35) rfl))) (mvT hZ (hw _ (List.mem_of_getElem? (i := 36) rfl))) (mvT hZ (hw _ (List.mem_of_getElem? (i := 37) rfl))) (mvT hZ (hw _ (List.mem_of_getElem? (i := 38) rfl))) (by decide) (backOf (W := 0) (rm3_1 l Z a0 hw [] w8 T10.heap n0 Z10) hZ (hw _ (List.mem_of_getElem? (i := 38) rfl)) (hw _ (List.mem_of_getElem? (i := 37) rfl)) (by decide) (by decide)) (g := (mkF m 38 #[.val (.ref a1), .val (.ref b10_10), .val (.int (7 : Int32)), .val (.int (5 : Int32)), .val (.ref w8)] [(.ref w8)])) rfl (by rw [hml]; rfl) (argsL := [(.ref w8)]) (rest := []) (lenOf pd_3 rfl) rfl (by show 2 * 0 + _ ≤ _; exact Nat.le_of_eq rfl) (hb hby d1_38) (fun _ _ => ⟨rfl, e37, (by decide : 1 + 1 ≤ _), (by decide : 7 + 1 ≤ _)⟩)
  dsimp only [Pt.U, Pt.locs, Pt.cells, Pt.slots] at X38 l38 y38 z38 st38 hQ38
  subst l38 y38 z38
  obtain ⟨b2_38, rfl, Nq38, K38, x38_0, x38_1, x38_2⟩ := hQ38
  have N38 := Fr.app N10 Nq38
  have sz_b2_38 : h0.size ≤ b2_38 := Nat.le_trans K0_10.1 x38_0
  have g_b2_38 : n0 ≤ b2_38 := Nat.le_trans Z0 sz_b2_38
  have K0_38 : Keep h0 T38.heap [] := K0_10.trans K38 all0
  have Z38 : n0 ≤ T38.heap.size := Nat.le_trans Z10 K38.1
  obtain ⟨fs, hr, hrun, hended, hW, hsame⟩ := X38.leave (v := some (.ref b2_38)) (fun h => by rw [Bd.returns] at h; cases h)
  refine ⟨_, _, pre0 _ ?_, hrun, hended, _, _, rfl, ?_, ⟨_, rfl⟩, hW, hsame.mono (by decide) (by decide)⟩
  · show Steps p.tables e below (s₁.setTop (mkF m 0 #[.val (.ref a1), .unset, .unset, .unset, .unset] [])) _
    refine st10 _ ?_
    show Steps p.tables e below (T10.setTop (mkF m 3 #[.val (.ref a1), .unset, .unset, .unset, .unset] [(.ref b10_10)])) _
    refine XS.astoreN X10.here hx rfl (hb hby d1_3) rfl rfl (l' := #[.val (.ref a1), .val (.ref b10_10), .unset, .unset, .unset]) rfl ?_
    show Steps p.tables e below (T10.setTop (mkF m 4 #[.val (.ref a1), .val (.ref b10_10), .unset, .unset, .unset] [])) _
    refine XS.aloadN X10.here hx rfl (hb hby d1_4) rfl rfl ?_
    show Steps p.tables e below (T10.setTop (mkF m 5 #[.val (.ref a1), .val (.ref b10_10), .unset, .unset, .unset] [(.ref b10_10)])) _
    refine X10.arraylength hx (Ar11.1) (State.isArrayOf_alike hZ.alike Ar11.2.1) (g := (mkF m 5 #[.val (.ref a1), .val (.ref b10_10), .unset, .unset, .unset] [(.ref b10_10)])) rfl rfl (hb hby d1_5) _ ?_
    rw [len_of S11 N_11]
    show Steps p.tables e below (T10.setTop (mkF m 6 #[.val (.ref a1), .val (.ref b10_10), .unset, .unset, .unset] [(.int (7 : Int32))])) _
    refine XS.istoreN X10.here hx rfl (hb hby d1_6) rfl (l' := #[.val (.ref a1), .val (.ref b10_10), .val (.int (7 : Int32)), .unset, .unset]) rfl ?_
    show Steps p.tables e below (T10.setTop (mkF m 7 #[.val (.ref a1), .val (.ref b10_10), .val (.int (7 : Int32)), .unset, .unset] [])) _
    refine XS.iconst X10.here hx rfl (hb hby d1_7) ?_
    show Steps p.tables e below (T10.setTop (mkF m 8 #[.val (.ref a1), .val (.ref b10_10), .val (.int (7 : Int32)), .unset, .unset] [(.int (0 : Int32))])) _
    refine XS.istoreN X10.here hx rfl (hb hby d1_8) rfl (l' := #[.val (.ref a1), .val (.ref b10_10), .val (.int (7 : Int32)), .val (.int (0 : Int32)), .unset]) rfl ?_
    show Steps p.tables e below (T10.setTop (mkF m 9 #[.val (.ref a1), .val (.ref b10_10), .val (.int (7 : Int32)), .val (.int (0 : Int32)), .unset] [])) _
    refine XS.iloadN X10.here hx rfl (hb hby d1_9) rfl ?_
    show Steps p.tables e below (T10.setTop (mkF m 10 #[.val (.ref a1), .val (.ref b10_10), .val (.int (7 : Int32)), .val (.int (0 : Int32)), .unset] [(.int (0 : Int32))])) _
    refine XS.iloadN X10.here hx rfl (hb hby d1_10) rfl ?_
    show Steps p.tables e below (T10.setTop (mkF m 11 #[.val (.ref a1), .val (.ref b10_10), .val (.int (7 : Int32)), .val (.int (0 : Int32)), .unset] [(.int (7 : Int32)), (.int (0 : Int32))])) _
    refine XS.icmpNo X10.here hx rfl (hb hby d1_11) rfl (tlt (by decide : (0 : Int32) < (7 : Int32))).2.1 ?_
    show Steps p.tables e below (T10.setTop (mkF m 14 #[.val (.ref a1), .val (.ref b10_10), .val (.int (7 : Int32)), .val (.int (0 : Int32)), .unset] [])) _
    refine XS.aloadN X10.here hx rfl (hb hby d1_14) rfl rfl ?_
    show Steps p.tables e below (T10.setTop (mkF m 15 #[.val (.ref a1), .val (.ref b10_10), .val (.int (7 : Int32)), .val (.int (0 : Int32)), .unset] [(.ref b10_10)])) _
    refine XS.iloadN X10.here hx rfl (hb hby d1_15) rfl ?_
    show Steps p.tables e below (T10.setTop (mkF m 16 #[.val (.ref a1), .val (.ref b10_10), .val (.int (7 : Int32)), .val (.int (0 : Int32)), .unset] [(.int (0 : Int32)), (.ref b10_10)])) _
    refine X10.aaload hx (j := (0 : Int32)) (v := (.ref w3)) (Ar12.1) (State.isArrayOf_alike hZ.alike Ar12.2.1) rfl Ar12.2.2 hin12 hat12 (g := (mkF m 16 #[.val (.ref a1), .val (.ref b10_10), .val (.int (7 : Int32)), .val (.int (0 : Int32)), .unset] [(.int (0 : Int32)), (.ref b10_10)])) rfl rfl (hb hby d1_16) _ ?_
    show Steps p.tables e below (T10.setTop (mkF m 17 #[.val (.ref a1), .val (.ref b10_10), .val (.int (7 : Int32)), .val (.int (0 : Int32)), .unset] [(.ref w3)])) _
    refine XS.astore X10.here hx rfl (hb hby d1_17) rfl rfl (l' := #[.val (.ref a1), .val (.ref b10_10), .val (.int (7 : Int32)), .val (.int (0 : Int32)), .val (.ref w3)]) rfl ?_
    show Steps p.tables e below (T10.setTop (mkF m 19 #[.val (.ref a1), .val (.ref b10_10), .val (.int (7 : Int32)), .val (.int (0 : Int32)), .val (.ref w3)] [])) _
    refine XS.aload X10.here hx rfl (hb hby d1_19) rfl rfl ?_
    show Steps p.tables e below (T10.setTop (mkF m 21 #[.val (.ref a1), .val (.ref b10_10), .val (.int (7 : Int32)), .val (.int (0 : Int32)), .val (.ref w3)] [(.ref w3)])) _
    refine st15 _ ?_
    show Steps p.tables e below (T15.setTop (mkF m 24 #[.val (.ref a1), .val (.ref b10_10), .val (.int (7 : Int32)), .val (.int (0 : Int32)), .val (.ref w3)] [(.ref w13)])) _
    refine XS.aloadN X15.here hx rfl (hb hby d1_24) rfl rfl ?_
    show Steps p.tables e below (T15.setTop (mkF m 25 #[.val (.ref a1), .val (.ref b10_10), .val (.int (7 : Int32)), .val (.int (0 : Int32)), .val (.ref w3)] [(.ref a1), (.ref w13)])) _
    refine Jvm.RoadKit.acmp (g := (mkF m 25 #[.val (.ref a1), .val (.ref b10_10), .val (.int (7 : Int32)), .val (.int (0 : Int32)), .val (.ref w3)] [(.ref a1), (.ref w13)])) X15 hx rfl rfl rfl (pc0 := 25) (pc' := 42) (same := false) rfl (hb hby d1_25) rfl (decide_eq_false fun q => P16 (Value.ref.inj q)) (by decide) (by decide) ?_
    show Steps p.tables e below (T15.setTop (mkF m 42 #[.val (.ref a1), .val (.ref b10_10), .val (.int (7 : Int32)), .val (.int (0 : Int32)), .val (.ref w3)] [])) _
    refine XS.iinc X15.here hx rfl (hb hby d1_42) rfl (l' := #[.val (.ref a1), .val (.ref b10_10), .val (.int (7 : Int32)), .val (.int (1 : Int32)), .val (.ref w3)]) rfl ?_
    show Steps p.tables e below (T15.setTop (mkF m 45 #[.val (.ref a1), .val (.ref b10_10), .val (.int (7 : Int32)), .val (.int (1 : Int32)), .val (.ref w3)] [])) _
    refine XS.goto X15.here hx rfl (pc0 := 45) (pc' := 9) rfl (hb hby d1_45) (by decide) (by decide) ?_
    show Steps p.tables e below (T15.setTop (mkF m 9 #[.val (.ref a1), .val (.ref b10_10), .val (.int (7 : Int32)), .val (.int (1 : Int32)), .val (.ref w3)] [])) _
    refine XS.iloadN X15.here hx rfl (hb hby d1_9) rfl ?_
    show Steps p.tables e below (T15.setTop (mkF m 10 #[.val (.ref a1), .val (.ref b10_10), .val (.int (7 : Int32)), .val (.int (1 : Int32)), .val (.ref w3)] [(.int (1 : Int32))])) _
    refine XS.iloadN X15.here hx rfl (hb hby d1_10) rfl ?_
    show Steps p.tables e below (T15.setTop (mkF m 11 #[.val (.ref a1), .val (.ref b10_10), .val (.int (7 : Int32)), .val (.int (1 : Int32)), .val (.ref w3)] [(.int (7 : Int32)), (.int (1 : Int32))])) _
    refine XS.icmpNo X15.here hx rfl (hb hby d1_11) rfl (tlt (by decide : (1 : Int32) < (7 : Int32))).2.1 ?_
    show Steps p.tables e below (T15.setTop (mkF m 14 #[.val (.ref a1), .val (.ref b10_10), .val (.int (7 : Int32)), .val (.int (1 : Int32)), .val (.ref w3)] [])) _
    refine XS.aloadN X15.here hx rfl (hb hby d1_14) rfl rfl ?_
    show Steps p.tables e below (T15.setTop (mkF m 15 #[.val (.ref a1), .val (.ref b10_10), .val (.int (7 : Int32)), .val (.int (1 : Int32)), .val (.ref w3)] [(.ref b10_10)])) _
    refine XS.iloadN X15.here hx rfl (hb hby d1_15) rfl ?_
    show Steps p.tables e below (T15.setTop (mkF m 16 #[.val (.ref a1), .val (.ref b10_10), .val (.int (7 : Int32)), .val (.int (1 : Int32)), .val (.ref w3)] [(.int (1 : Int32)), (.ref b10_10)])) _
    refine X15.aaload hx (j := (1 : Int32)) (v := (.ref w4)) (by rw [e15]; exact Ar17.1) (State.isArrayOf_alike hZ.alike Ar17.2.1) rfl Ar17.2.2 hin17 hat17 (g := (mkF m 16 #[.val (.ref a1), .val (.ref b10_10), .val (.int (7 : Int32)), .val (.int (1 : Int32)), .val (.ref w3)] [(.int (1 : Int32)), (.ref b10_10)])) rfl rfl (hb hby d1_16) _ ?_
    show Steps p.tables e below (T15.setTop (mkF m 17 #[.val (.ref a1), .val (.ref b10_10), .val (.int (7 : Int32)), .val (.int (1 : Int32)), .val (.ref w3)] [(.ref w4)])) _
    refine XS.astore X15.here hx rfl (hb hby d1_17) rfl rfl (l' := #[.val (.ref a1), .val (.ref b10_10), .val (.int (7 : Int32)), .val (.int (1 : Int32)), .val (.ref w4)]) rfl ?_
    show Steps p.tables e below (T15.setTop (mkF m 19 #[.val (.ref a1), .val (.ref b10_10), .val (.int (7 : Int32)), .val (.int (1 : Int32)), .val (.ref w4)] [])) _
    refine XS.aload X15.here hx rfl (hb hby d1_19) rfl rfl ?_
    show Steps p.tables e below (T15.setTop (mkF m 21 #[.val (.ref a1), .val (.ref b10_10), .val (.int (7 : Int32)), .val (.int (1 : Int32)), .val (.ref w4)] [(.ref w4)])) _
    refine st20 _ ?_
    show Steps p.tables e below (T20.setTop (mkF m 24 #[.val (.ref a1), .val (.ref b10_10), .val (.int (7 : Int32)), .val (.int (1 : Int32)), .val (.ref w4)] [(.ref w18)])) _
    refine XS.aloadN X20.here hx rfl (hb hby d1_24) rfl rfl ?_
    show Steps p.tables e below (T20.setTop (mkF m 25 #[.val (.ref a1), .val (.ref b10_10), .val (.int (7 : Int32)), .val (.int (1 : Int32)), .val (.ref w4)] [(.ref a1), (.ref w18)])) _
    refine Jvm.RoadKit.acmp (g := (mkF m 25 #[.val (.ref a1), .val (.ref b10_10), .val (.int (7 : Int32)), .val (.int (1 : Int32)), .val (.ref w4)] [(.ref a1), (.ref w18)])) X20 hx rfl rfl rfl (pc0 := 25) (pc' := 42) (same := false) rfl (hb hby d1_25) rfl (decide_eq_false fun q => P21 (Value.ref.inj q)) (by decide) (by decide) ?_
    show Steps p.tables e below (T20.setTop (mkF m 42 #[.val (.ref a1), .val (.ref b10_10), .val (.int (7 : Int32)), .val (.int (1 : Int32)), .val (.ref w4)] [])) _
    refine XS.iinc X20.here hx rfl (hb hby d1_42) rfl (l' := #[.val (.ref a1), .val (.ref b10_10), .val (.int (7 : Int32)), .val (.int (2 : Int32)), .val (.ref w4)]) rfl ?_
    show Steps p.tables e below (T20.setTop (mkF m 45 #[.val (.ref a1), .val (.ref b10_10), .val (.int (7 : Int32)), .val (.int (2 : Int32)), .val (.ref w4)] [])) _
    refine XS.goto X20.here hx rfl (pc0 := 45) (pc' := 9) rfl (hb hby d1_45) (by decide) (by decide) ?_
    show Steps p.tables e below (T20.setTop (mkF m 9 #[.val (.ref a1), .val (.ref b10_10), .val (.int (7 : Int32)), .val (.int (2 : Int32)), .val (.ref w4)] [])) _
    refine XS.iloadN X20.here hx rfl (hb hby d1_9) rfl ?_
    show Steps p.tables e below (T20.setTop (mkF m 10 #[.val (.ref a1), .val (.ref b10_10), .val (.int (7 : Int32)), .val (.int (2 : Int32)), .val (.ref w4)] [(.int (2 : Int32))])) _
    refine XS.iloadN X20.here hx rfl (hb hby d1_10) rfl ?_
    show Steps p.tables e below (T20.setTop (mkF m 11 #[.val (.ref a1), .val (.ref b10_10), .val (.int (7 : Int32)), .val (.int (2 : Int32)), .val (.ref w4)] [(.int (7 : Int32)), (.int (2 : Int32))])) _
    refine XS.icmpNo X20.here hx rfl (hb hby d1_11) rfl (tlt (by decide : (2 : Int32) < (7 : Int32))).2.1 ?_
    show Steps p.tables e below (T20.setTop (mkF m 14 #[.val (.ref a1), .val (.ref b10_10), .val (.int (7 : Int32)), .val (.int (2 : Int32)), .val (.ref w4)] [])) _
    refine XS.aloadN X20.here hx rfl (hb hby d1_14) rfl rfl ?_
    show Steps p.tables e below (T20.setTop (mkF m 15 #[.val (.ref a1), .val (.ref b10_10), .val (.int (7 : Int32)), .val (.int (2 : Int32)), .val (.ref w4)] [(.ref b10_10)])) _
    refine XS.iloadN X20.here hx rfl (hb hby d1_15) rfl ?_
    show Steps p.tables e below (T20.setTop (mkF m 16 #[.val (.ref a1), .val (.ref b10_10), .val (.int (7 : Int32)), .val (.int (2 : Int32)), .val (.ref w4)] [(.int (2 : Int32)), (.ref b10_10)])) _
    refine X20.aaload hx (j := (2 : Int32)) (v := (.ref w5)) (by rw [e20]; exact Ar22.1) (State.isArrayOf_alike hZ.alike Ar22.2.1) rfl Ar22.2.2 hin22 hat22 (g := (mkF m 16 #[.val (.ref a1), .val (.ref b10_10), .val (.int (7 : Int32)), .val (.int (2 : Int32)), .val (.ref w4)] [(.int (2 : Int32)), (.ref b10_10)])) rfl rfl (hb hby d1_16) _ ?_
    show Steps p.tables e below (T20.setTop (mkF m 17 #[.val (.ref a1), .val (.ref b10_10), .val (.int (7 : Int32)), .val (.int (2 : Int32)), .val (.ref w4)] [(.ref w5)])) _
    refine XS.astore X20.here hx rfl (hb hby d1_17) rfl rfl (l' := #[.val (.ref a1), .val (.ref b10_10), .val (.int (7 : Int32)), .val (.int (2 : Int32)), .val (.ref w5)]) rfl ?_
    show Steps p.tables e below (T20.setTop (mkF m 19 #[.val (.ref a1), .val (.ref b10_10), .val (.int (7 : Int32)), .val (.int (2 : Int32)), .val (.ref w5)] [])) _
    refine XS.aload X20.here hx rfl (hb hby d1_19) rfl rfl ?_
    show Steps p.tables e below (T20.setTop (mkF m 21 #[.val (.ref a1), .val (.ref b10_10), .val (.int (7 : Int32)), .val (.int (2 : Int32)), .val (.ref w5)] [(.ref w5)])) _
    refine st25 _ ?_
    show Steps p.tables e below (T25.setTop (mkF m 24 #[.val (.ref a1), .val (.ref b10_10), .val (.int (7 : Int32)), .val (.int (2 : Int32)), .val (.ref w5)] [(.ref w23)])) _
    refine XS.aloadN X25.here hx rfl (hb hby d1_24) rfl rfl ?_
    show Steps p.tables e below (T25.setTop (mkF m 25 #[.val (.ref a1), .val (.ref b10_10), .val (.int (7 : Int32)), .val (.int (2 : Int32)), .val (.ref w5)] [(.ref a1), (.ref w23)])) _
    refine Jvm.RoadKit.acmp (g := (mkF m 25 #[.val (.ref a1), .val (.ref b10_10), .val (.int (7 : Int32)), .val (.int (2 : Int32)), .val (.ref w5)] [(.ref a1), (.ref w23)])) X25 hx rfl rfl rfl (pc0 := 25) (pc' := 42) (same := false) rfl (hb hby d1_25) rfl (decide_eq_false fun q => P26 (Value.ref.inj q)) (by decide) (by decide) ?_
    show Steps p.tables e below (T25.setTop (mkF m 42 #[.val (.ref a1), .val (.ref b10_10), .val (.int (7 : Int32)), .val (.int (2 : Int32)), .val (.ref w5)] [])) _
    refine XS.iinc X25.here hx rfl (hb hby d1_42) rfl (l' := #[.val (.ref a1), .val (.ref b10_10), .val (.int (7 : Int32)), .val (.int (3 : Int32)), .val (.ref w5)]) rfl ?_
    show Steps p.tables e below (T25.setTop (mkF m 45 #[.val (.ref a1), .val (.ref b10_10), .val (.int (7 : Int32)), .val (.int (3 : Int32)), .val (.ref w5)] [])) _
    refine XS.goto X25.here hx rfl (pc0 := 45) (pc' := 9) rfl (hb hby d1_45) (by decide) (by decide) ?_
    show Steps p.tables e below (T25.setTop (mkF m 9 #[.val (.ref a1), .val (.ref b10_10), .val (.int (7 : Int32)), .val (.int (3 : Int32)), .val (.ref w5)] [])) _
    refine XS.iloadN X25.here hx rfl (hb hby d1_9) rfl ?_
    show Steps p.tables e below (T25.setTop (mkF m 10 #[.val (.ref a1), .val (.ref b10_10), .val (.int (7 : Int32)), .val (.int (3 : Int32)), .val (.ref w5)] [(.int (3 : Int32))])) _
    refine XS.iloadN X25.here hx rfl (hb hby d1_10) rfl ?_
    show Steps p.tables e below (T25.setTop (mkF m 11 #[.val (.ref a1), .val (.ref b10_10), .val (.int (7 : Int32)), .val (.int (3 : Int32)), .val (.ref w5)] [(.int (7 : Int32)), (.int (3 : Int32))])) _
    refine XS.icmpNo X25.here hx rfl (hb hby d1_11) rfl (tlt (by decide : (3 : Int32) < (7 : Int32))).2.1 ?_
    show Steps p.tables e below (T25.setTop (mkF m 14 #[.val (.ref a1), .val (.ref b10_10), .val (.int (7 : Int32)), .val (.int (3 : Int32)), .val (.ref w5)] [])) _
    refine XS.aloadN X25.here hx rfl (hb hby d1_14) rfl rfl ?_
    show Steps p.tables e below (T25.setTop (mkF m 15 #[.val (.ref a1), .val (.ref b10_10), .val (.int (7 : Int32)), .val (.int (3 : Int32)), .val (.ref w5)] [(.ref b10_10)])) _
    refine XS.iloadN X25.here hx rfl (hb hby d1_15) rfl ?_
    show Steps p.tables e below (T25.setTop (mkF m 16 #[.val (.ref a1), .val (.ref b10_10), .val (.int (7 : Int32)), .val (.int (3 : Int32)), .val (.ref w5)] [(.int (3 : Int32)), (.ref b10_10)])) _
    refine X25.aaload hx (j := (3 : Int32)) (v := (.ref w6)) (by rw [e25]; exact Ar27.1) (State.isArrayOf_alike hZ.alike Ar27.2.1) rfl Ar27.2.2 hin27 hat27 (g := (mkF m 16 #[.val (.ref a1), .val (.ref b10_10), .val (.int (7 : Int32)), .val (.int (3 : Int32)), .val (.ref w5)] [(.int (3 : Int32)), (.ref b10_10)])) rfl rfl (hb hby d1_16) _ ?_
    show Steps p.tables e below (T25.setTop (mkF m 17 #[.val (.ref a1), .val (.ref b10_10), .val (.int (7 : Int32)), .val (.int (3 : Int32)), .val (.ref w5)] [(.ref w6)])) _
    refine XS.astore X25.here hx rfl (hb hby d1_17) rfl rfl (l' := #[.val (.ref a1), .val (.ref b10_10), .val (.int (7 : Int32)), .val (.int (3 : Int32)), .val (.ref w6)]) rfl ?_
    show Steps p.tables e below (T25.setTop (mkF m 19 #[.val (.ref a1), .val (.ref b10_10), .val (.int (7 : Int32)), .val (.int (3 : Int32)), .val (.ref w6)] [])) _
    refine XS.aload X25.here hx rfl (hb hby d1_19) rfl rfl ?_
    show Steps p.tables e below (T25.setTop (mkF m 21 #[.val (.ref a1), .val (.ref b10_10), .val (.int (7 : Int32)), .val (.int (3 : Int32)), .val (.ref w6)] [(.ref w6)])) _
    refine st29 _ ?_
    show Steps p.tables e below (T29.setTop (mkF m 24 #[.val (.ref a1), .val (.ref b10_10), .val (.int (7 : Int32)), .val (.int (3 : Int32)), .val (.ref w6)] [(.ref w23)])) _
    refine XS.aloadN X29.here hx rfl (hb hby d1_24) rfl rfl ?_
    show Steps p.tables e below (T29.setTop (mkF m 25 #[.val (.ref a1), .val (.ref b10_10), .val (.int (7 : Int32)), .val (.int (3 : Int32)), .val (.ref w6)] [(.ref a1), (.ref w23)])) _
    refine Jvm.RoadKit.acmp (g := (mkF m 25 #[.val (.ref a1), .val (.ref b10_10), .val (.int (7 : Int32)), .val (.int (3 : Int32)), .val (.ref w6)] [(.ref a1), (.ref w23)])) X29 hx rfl rfl rfl (pc0 := 25) (pc' := 42) (same := false) rfl (hb hby d1_25) rfl (decide_eq_false fun q => P26 (Value.ref.inj q)) (by decide) (by decide) ?_
    show Steps p.tables e below (T29.setTop (mkF m 42 #[.val (.ref a1), .val (.ref b10_10), .val (.int (7 : Int32)), .val (.int (3 : Int32)), .val (.ref w6)] [])) _
    refine XS.iinc X29.here hx rfl (hb hby d1_42) rfl (l' := #[.val (.ref a1), .val (.ref b10_10), .val (.int (7 : Int32)), .val (.int (4 : Int32)), .val (.ref w6)]) rfl ?_
    show Steps p.tables e below (T29.setTop (mkF m 45 #[.val (.ref a1), .val (.ref b10_10), .val (.int (7 : Int32)), .val (.int (4 : Int32)), .val (.ref w6)] [])) _
    refine XS.goto X29.here hx rfl (pc0 := 45) (pc' := 9) rfl (hb hby d1_45) (by decide) (by decide) ?_
    show Steps p.tables e below (T29.setTop (mkF m 9 #[.val (.ref a1), .val (.ref b10_10), .val (.int (7 : Int32)), .val (.int (4 : Int32)), .val (.ref w6)] [])) _
    refine XS.iloadN X29.here hx rfl (hb hby d1_9) rfl ?_
    show Steps p.tables e below (T29.setTop (mkF m 10 #[.val (.ref a1), .val (.ref b10_10), .val (.int (7 : Int32)), .val (.int (4 : Int32)), .val (.ref w6)] [(.int (4 : Int32))])) _
    refine XS.iloadN X29.here hx rfl (hb hby d1_10) rfl ?_
    show Steps p.tables e below (T29.setTop (mkF m 11 #[.val (.ref a1), .val (.ref b10_10), .val (.int (7 : Int32)), .val (.int (4 : Int32)), .val (.ref w6)] [(.int (7 : Int32)), (.int (4 : Int32))])) _
    refine XS.icmpNo X29.here hx rfl (hb hby d1_11) rfl (tlt (by decide : (4 : Int32) < (7 : Int32))).2.1 ?_
    show Steps p.tables e below (T29.setTop (mkF m 14 #[.val (.ref a1), .val (.ref b10_10), .val (.int (7 : Int32)), .val (.int (4 : Int32)), .val (.ref w6)] [])) _
    refine XS.aloadN X29.here hx rfl (hb hby d1_14) rfl rfl ?_
    show Steps p.tables e below (T29.setTop (mkF m 15 #[.val (.ref a1), .val (.ref b10_10), .val (.int (7 : Int32)), .val (.int (4 : Int32)), .val (.ref w6)] [(.ref b10_10)])) _
    refine XS.iloadN X29.here hx rfl (hb hby d1_15) rfl ?_
    show Steps p.tables e below (T29.setTop (mkF m 16 #[.val (.ref a1), .val (.ref b10_10), .val (.int (7 : Int32)), .val (.int (4 : Int32)), .val (.ref w6)] [(.int (4 : Int32)), (.ref b10_10)])) _
    refine X29.aaload hx (j := (4 : Int32)) (v := (.ref w7)) (by rw [e29]; exact Ar30.1) (State.isArrayOf_alike hZ.alike Ar30.2.1) rfl Ar30.2.2 hin30 hat30 (g := (mkF m 16 #[.val (.ref a1), .val (.ref b10_10), .val (.int (7 : Int32)), .val (.int (4 : Int32)), .val (.ref w6)] [(.int (4 : Int32)), (.ref b10_10)])) rfl rfl (hb hby d1_16) _ ?_
    show Steps p.tables e below (T29.setTop (mkF m 17 #[.val (.ref a1), .val (.ref b10_10), .val (.int (7 : Int32)), .val (.int (4 : Int32)), .val (.ref w6)] [(.ref w7)])) _
    refine XS.astore X29.here hx rfl (hb hby d1_17) rfl rfl (l' := #[.val (.ref a1), .val (.ref b10_10), .val (.int (7 : Int32)), .val (.int (4 : Int32)), .val (.ref w7)]) rfl ?_
    show Steps p.tables e below (T29.setTop (mkF m 19 #[.val (.ref a1), .val (.ref b10_10), .val (.int (7 : Int32)), .val (.int (4 : Int32)), .val (.ref w7)] [])) _
    refine XS.aload X29.here hx rfl (hb hby d1_19) rfl rfl ?_
    show Steps p.tables e below (T29.setTop (mkF m 21 #[.val (.ref a1), .val (.ref b10_10), .val (.int (7 : Int32)), .val (.int (4 : Int32)), .val (.ref w7)] [(.ref w7)])) _
    refine st32 _ ?_
    show Steps p.tables e below (T32.setTop (mkF m 24 #[.val (.ref a1), .val (.ref b10_10), .val (.int (7 : Int32)), .val (.int (4 : Int32)), .val (.ref w7)] [(.ref w18)])) _
    refine XS.aloadN X32.here hx rfl (hb hby d1_24) rfl rfl ?_
    show Steps p.tables e below (T32.setTop (mkF m 25 #[.val (.ref a1), .val (.ref b10_10), .val (.int (7 : Int32)), .val (.int (4 : Int32)), .val (.ref w7)] [(.ref a1), (.ref w18)])) _
    refine Jvm.RoadKit.acmp (g := (mkF m 25 #[.val (.ref a1), .val (.ref b10_10), .val (.int (7 : Int32)), .val (.int (4 : Int32)), .val (.ref w7)] [(.ref a1), (.ref w18)])) X32 hx rfl rfl rfl (pc0 := 25) (pc' := 42) (same := false) rfl (hb hby d1_25) rfl (decide_eq_false fun q => P21 (Value.ref.inj q)) (by decide) (by decide) ?_
    show Steps p.tables e below (T32.setTop (mkF m 42 #[.val (.ref a1), .val (.ref b10_10), .val (.int (7 : Int32)), .val (.int (4 : Int32)), .val (.ref w7)] [])) _
    refine XS.iinc X32.here hx rfl (hb hby d1_42) rfl (l' := #[.val (.ref a1), .val (.ref b10_10), .val (.int (7 : Int32)), .val (.int (5 : Int32)), .val (.ref w7)]) rfl ?_
    show Steps p.tables e below (T32.setTop (mkF m 45 #[.val (.ref a1), .val (.ref b10_10), .val (.int (7 : Int32)), .val (.int (5 : Int32)), .val (.ref w7)] [])) _
    refine XS.goto X32.here hx rfl (pc0 := 45) (pc' := 9) rfl (hb hby d1_45) (by decide) (by decide) ?_
    show Steps p.tables e below (T32.setTop (mkF m 9 #[.val (.ref a1), .val (.ref b10_10), .val (.int (7 : Int32)), .val (.int (5 : Int32)), .val (.ref w7)] [])) _
    refine XS.iloadN X32.here hx rfl (hb hby d1_9) rfl ?_
    show Steps p.tables e below (T32.setTop (mkF m 10 #[.val (.ref a1), .val (.ref b10_10), .val (.int (7 : Int32)), .val (.int (5 : Int32)), .val (.ref w7)] [(.int (5 : Int32))])) _
    refine XS.iloadN X32.here hx rfl (hb hby d1_10) rfl ?_
    show Steps p.tables e below (T32.setTop (mkF m 11 #[.val (.ref a1), .val (.ref b10_10), .val (.int (7 : Int32)), .val (.int (5 : Int32)), .val (.ref w7)] [(.int (7 : Int32)), (.int (5 : Int32))])) _
    refine XS.icmpNo X32.here hx rfl (hb hby d1_11) rfl (tlt (by decide : (5 : Int32) < (7 : Int32))).2.1 ?_
    show Steps p.tables e below (T32.setTop (mkF m 14 #[.val (.ref a1), .val (.ref b10_10), .val (.int (7 : Int32)), .val (.int (5 : Int32)), .val (.ref w7)] [])) _
    refine XS.aloadN X32.here hx rfl (hb hby d1_14) rfl rfl ?_
    show Steps p.tables e below (T32.setTop (mkF m 15 #[.val (.ref a1), .val (.ref b10_10), .val (.int (7 : Int32)), .val (.int (5 : Int32)), .val (.ref w7)] [(.ref b10_10)])) _
    refine XS.iloadN X32.here hx rfl (hb hby d1_15) rfl ?_
    show Steps p.tables e below (T32.setTop (mkF m 16 #[.val (.ref a1), .val (.ref b10_10), .val (.int (7 : Int32)), .val (.int (5 : Int32)), .val (.ref w7)] [(.int (5 : Int32)), (.ref b10_10)])) _
    refine X32.aaload hx (j := (5 : Int32)) (v := (.ref w8)) (by rw [e32]; exact Ar33.1) (State.isArrayOf_alike hZ.alike Ar33.2.1) rfl Ar33.2.2 hin33 hat33 (g := (mkF m 16 #[.val (.ref a1), .val (.ref b10_10), .val (.int (7 : Int32)), .val (.int (5 : Int32)), .val (.ref w7)] [(.int (5 : Int32)), (.ref b10_10)])) rfl rfl (hb hby d1_16) _ ?_
    show Steps p.tables e below (T32.setTop (mkF m 17 #[.val (.ref a1), .val (.ref b10_10), .val (.int (7 : Int32)), .val (.int (5 : Int32)), .val (.ref w7)] [(.ref w8)])) _
    refine XS.astore X32.here hx rfl (hb hby d1_17) rfl rfl (l' := #[.val (.ref a1), .val (.ref b10_10), .val (.int (7 : Int32)), .val (.int (5 : Int32)), .val (.ref w8)]) rfl ?_
    show Steps p.tables e below (T32.setTop (mkF m 19 #[.val (.ref a1), .val (.ref b10_10), .val (.int (7 : Int32)), .val (.int (5 : Int32)), .val (.ref w8)] [])) _
    refine XS.aload X32.here hx rfl (hb hby d1_19) rfl rfl ?_
    show Steps p.tables e below (T32.setTop (mkF m 21 #[.val (.ref a1), .val (.ref b10_10), .val (.int (7 : Int32)), .val (.int (5 : Int32)), .val (.ref w8)] [(.ref w8)])) _
    refine st35 _ ?_
    show Steps p.tables e below (T35.setTop (mkF m 24 #[.val (.ref a1), .val (.ref b10_10), .val (.int (7 : Int32)), .val (.int (5 : Int32)), .val (.ref w8)] [(.ref a1)])) _
    refine XS.aloadN X35.here hx rfl (hb hby d1_24) rfl rfl ?_
    show Steps p.tables e below (T35.setTop (mkF m 25 #[.val (.ref a1), .val (.ref b10_10), .val (.int (7 : Int32)), .val (.int (5 : Int32)), .val (.ref w8)] [(.ref a1), (.ref a1)])) _
    refine Jvm.RoadKit.acmp (g := (mkF m 25 #[.val (.ref a1), .val (.ref b10_10), .val (.int (7 : Int32)), .val (.int (5 : Int32)), .val (.ref w8)] [(.ref a1), (.ref a1)])) X35 hx rfl rfl rfl (pc0 := 25) (pc' := 28) (same := true) rfl (hb hby d1_25) rfl (decide_eq_true rfl) (by decide) (by decide) ?_
    show Steps p.tables e below (T35.setTop (mkF m 28 #[.val (.ref a1), .val (.ref b10_10), .val (.int (7 : Int32)), .val (.int (5 : Int32)), .val (.ref w8)] [])) _
    refine XS.aload X35.here hx rfl (hb hby d1_28) rfl rfl ?_
    show Steps p.tables e below (T35.setTop (mkF m 30 #[.val (.ref a1), .val (.ref b10_10), .val (.int (7 : Int32)), .val (.int (5 : Int32)), .val (.ref w8)] [(.ref w8)])) _
    refine st37 _ ?_
    show Steps p.tables e below (T37.setTop (mkF m 33 #[.val (.ref a1), .val (.ref b10_10), .val (.int (7 : Int32)), .val (.int (5 : Int32)), .val (.ref w8)] [(.int (0 : Int32))])) _
    refine XS.ifNo X37.here hx rfl (hb hby d1_33) rfl ((if0 _ _).trans (teq (rfl : (0 : Int32) = (0 : Int32))).2) ?_
    show Steps p.tables e below (T37.setTop (mkF m 36 #[.val (.ref a1), .val (.ref b10_10), .val (.int (7 : Int32)), .val (.int (5 : Int32)), .val (.ref w8)] [])) _
    refine XS.aload X37.here hx rfl (hb hby d1_36) rfl rfl ?_
    show Steps p.tables e below (T37.setTop (mkF m 38 #[.val (.ref a1), .val (.ref b10_10), .val (.int (7 : Int32)), .val (.int (5 : Int32)), .val (.ref w8)] [(.ref w8)])) _
    refine st38 _ ?_
    show Steps p.tables e below (T38.setTop (mkF m 41 #[.val (.ref a1), .val (.ref b10_10), .val (.int (7 : Int32)), .val (.int (5 : Int32)), .val (.ref w8)] [(.ref b2_38)])) _
    jvm_step X38.here [X38.here.top, hx, (hb hby d1_41), X38.method', Bd.returns, Value.isRef, FieldType.isReference]
    first | (intro acts; rw [hr _ acts rfl rfl rfl]) | rw [hr _ _ rfl rfl rfl]
    exact Steps.refl _
  · show Q1_5 Z a1 w2 k_w2 w3 w4 w5 w6 w7 w8 w9 w13 w18 w23 h0 n0 _ T38.heap _
    exact ⟨b2_38, rfl, N38, K0_38, sz_b2_38, x38_1, x38_2⟩
set_option maxRecDepth 65536 in
set_option maxHeartbeats 40000000 in
theorem rm0_5 (l : Launch) (Z : State) (a0 : Array Value) (hw : ∀ d ∈ tables_1, d.before a0 Z = true) (ws : List Jvm.Cond) (p1 : Int32) (w7 : Addr) (w9 : Addr) (w11 : Addr) (k_w11 : ClassId) (w12 : Addr) (w13 : Addr) (w14 : Addr) (w15 : Addr) (w16 : Addr) (w17 : Addr) (w18 : Addr) (w19 : Addr) (w20 : Addr) (h0 : Heap) (n0 : Nat) (Z0 : n0 ≤ h0.size) (P2 : ¬ (((p1 &&& (2147483647 : Int32)) % (7 : Int32)) = (0 : Int32))) (P3 : ¬ (((p1 &&& (2147483647 : Int32)) % (7 : Int32)) = (1 : Int32))) (P4 : ¬ (((p1 &&& (2147483647 : Int32)) % (7 : Int32)) = (2 : Int32))) (P5 : ¬ (((p1 &&& (2147483647 : Int32)) % (7 : Int32)) = (3 : Int32))) (P6 : ((p1 &&& (2147483647 : Int32)) % (7 : Int32)) = (4 : Int32)) (S_SULFUR : Sta Z h0 "com/example/tipple_ledger/tippleledger/terms/Characteristic" "SULFUR" "Lcom/example/tipple_ledger/tippleledger/terms/Characteristic;" (.ref w7)) (S_SULFUR_PERCENT : Sta Z h0 "com/example/tipple_ledger/tippleledger/terms/WeightedAverage" "SULFUR_PERCENT" "Lcom/example/tipple_ledger/tippleledger/terms/WeightedAverage;" (.ref w9)) (F_perMmbtu_w9 : Fld Z h0 w9 "com/example/tipple_ledger/tippleledger/terms/WeightedAverage" "perMmbtu" "Z" (.int (0 : Int32))) (V_w11 : Arv Z h0 w11 k_w11 (.object "com/example/tipple_ledger/tippleledger/terms/WeightedAverage") (7 : Int32) [(.ref w12), (.ref w13), (.ref w14), (.ref w15), (.ref w16), (.ref w9), (.ref w17)] .null) (S__VALUES : Sta Z h0 "com/example/tipple_ledger/tippleledger/terms/WeightedAverage" "$VALUES" "[Lcom/example/tipple_ledger/tippleledger/terms/WeightedAverage;" (.ref w11)) (E_w11 : Exa Z h0 w11 "[Lcom/example/tipple_ledger/tippleledger/terms/WeightedAverage;") (F_characteristic_w12 : Fld Z h0 w12 "com/example/tipple_ledger/tippleledger/terms/WeightedAverage" "characteristic" "Lcom/example/tipple_ledger/tippleledger/terms/Characteristic;" (.ref w18)) (P21 : ¬ (w18 = w7)) (F_characteristic_w13 : Fld Z h0 w13 "com/example/tipple_ledger/tippleledger/terms/WeightedAverage" "characteristic" "Lcom/example/tipple_ledger/tippleledger/terms/Characteristic;" (.ref w19)) (P22 : ¬ (w19 = w7)) (F_characteristic_w14 : Fld Z h0 w14 "com/example/tipple_ledger/tippleledger/terms/WeightedAverage" "characteristic" "Lcom/example/tipple_ledger/tippleledger/terms/Characteristic;" (.ref w20)) (P23 : ¬ (w20 = w7)) (F_characteristic_w15 : Fld Z h0 w15 "com/example/tipple_ledger/tippleledger/terms/WeightedAverage" "characteristic" "Lcom/example/tipple_ledger/tippleledger/terms/Characteristic;" (.ref w20)) (F_characteristic_w16 : Fld Z h0 w16 "com/example/tipple_ledger/tippleledger/terms/WeightedAverage" "characteristic" "Lcom/example/tipple_ledger/tippleledger/terms/Characteristic;" (.ref w19)) (F_characteristic_w9 : Fld Z h0 w9 "com/example/tipple_ledger/tippleledger/terms/WeightedAverage" "characteristic" "Lcom/example/tipple_ledger/tippleledger/terms/Characteristic;" (.ref w7)) (E_w9 : Exa Z h0 w9 "com/example/tipple_ledger/tippleledger/terms/WeightedAverage") :
    MetFree l x (head1 (Jvm.Cond.code x code maxLocals ret :: ws) room_1) (fun a U => a = #[(.int p1)] ∧ Z.Warmed39 U.vm ∧ U.heap = h0) (fun _ _ _ _ _ => True) (fun _ U o U' => ∃ v L, o = .returned v ∧ own_QT n0 v L ∧ FrameEnd U o U' L room_1.cells room_1.slots) := by
  refine MetFree.of_bodySF (plainFor_of_name pn_0) hisR ?_
  intro p e s m args below meth c s₁ Bd hml0 hP hK
  obtain ⟨rfl, hZ, hh⟩ := hP
  have hx := Bd.exec
  have hby := Bd.bytes
  have hml : c.maxLocals = 5 := hml0
  have hown : s.vm.findClass "com/example/tipple_ledger/tippleledger/terms/WeightedAverageByTonsPinLaw" = some m.cls := findClass_of_methodNamed Bd.named
  have hnm := (name_of_methodNamed Bd.named Bd.method).1
  have X0 : Stand p l e room_1 s m #[(.int p1)] below meth c s₁ [] 0 0 := Stand.of_body Bd
  have e0 : s₁.heap = h0 := by rw [← hh, Bd.state]; rfl
  have N0 := Fr.nil n0
  have pre0 : ∀ t, Steps p.tables e below (s₁.setTop (mkF m 0 #[.val (.int p1), .unset, .unset, .unset, .unset] [])) t → Steps p.tables e below (s₁.setTop (entryFrame m #[(.int p1)] maxLocals)) t := fun t k => castTop (ef_0_I m p1) k
  obtain ⟨T8, X8, e8, st8⟩ := getS2 X0 hx hZ hown (host := "") (Or.inl (hw _ (List.mem_of_getElem? (i := 84) rfl))) Via.refl e0 S_SULFUR (g := (mkF m 74 #[.val (.int p1), .val (.int ((p1 &&& (2147483647 : Int32)) % (7 : Int32))), .unset, .unset, .unset] [])) rfl (hb hby at_74)
  obtain ⟨T10, X10, e10, st10⟩ := getS2 X8 hx hZ hown (host := "") (Or.inl (hw _ (List.mem_of_getElem? (i := 85) rfl))) Via.refl e8 S_SULFUR_PERCENT (g := (mkF m 78 #[.val (.int p1), .val (.int ((p1 &&& (2147483647 : Int32)) % (7 : Int32))), .val (.ref w7), .unset, .unset] [])) rfl (hb hby at_78)
  obtain ⟨_, _, ⟨T24, L24, k24, n24⟩, -, X24, ⟨Lc24, hQ24, l24, y24, z24⟩, st24⟩ := Jvm.LawKit.callS X10 hx (y := (⟨"com/example/tipple_ledger/tippleledger/terms/WeightedAverage", "byTons", "(Lcom/example/tipple_ledger/tippleledger/terms/Characteristic;)Ljava/util/Optional;"⟩ : MethodName)) hown (mvT hZ (hw _ (List.mem_of_getElem? (i := 7) rfl))) (mvT hZ (hw _ (List.mem_of_getElem? (i := 8) rfl))) (mvT hZ (hw _ (List.mem_of_getElem? (i := 5) rfl))) (mvT hZ (hw _ (List.mem_of_getElem? (i := 9) rfl))) (by decide) (backOf (W := 0) (rm1_5 l Z a0 hw [] w7 w11 k_w11 w12 w13 w14 w15 w16 w9 w17 w18 w19 w20 h0 n0 Z0 V_w11 S__VALUES E_w11 F_characteristic_w12 P21 F_characteristic_w13 P22 F_characteristic_w14 P23 F_characteristic_w15 F_characteristic_w16 F_characteristic_w9 F_perMmbtu_w9) hZ (hw _ (List.mem_of_getElem? (i := 9) rfl)) (hw _ (List.mem_of_getElem? (i := 5) rfl)) (by decide) (by decide)) (g := (mkF m 106 #[.val (.int p1), .val (.int ((p1 &&& (2147483647 : Int32)) % (7 : Int32))), .val (.ref w7), .val (.ref w9), .unset] [(.ref w7)])) rfl (by rw [hml]; rfl) (argsL := [(.ref w7)]) (rest := []) (lenOf pd_4 rfl) rfl (by show 2 * 0 + _ ≤ _; exact Nat.le_of_eq rfl) (hb hby at_106) (fun _ _ => ⟨rfl, e10, (by decide : 0 + 2 ≤ _), (by decide : 0 + 8 ≤ _)⟩)
  dsimp only [Pt.U, Pt.locs, Pt.cells, Pt.slots] at X24 l24 y24 z24 st24 hQ24
  subst l24 y24 z24
  obtain ⟨b2_38_24, rfl, Nq24, K24, x24_0, x24_1, x24_2⟩ := hQ24
  have N24 := Fr.app N0 Nq24
  have sz_b2_38_24 : h0.size ≤ b2_38_24 := Nat.le_trans (Keep.refl h0 []).1 x24_0
  have g_b2_38_24 : n0 ≤ b2_38_24 := Nat.le_trans Z0 sz_b2_38_24
  have K0_24 : Keep h0 T24.heap [] := (Keep.refl h0 []).trans K24 all0
  have Z24 : n0 ≤ T24.heap.size := Nat.le_trans Z0 K24.1
  obtain ⟨cq25, kq25, q25a, q25b, q25c⟩ := isOf hZ rfl x24_1
  obtain ⟨_, _, ⟨T25, L25, k25, n25⟩, -, X25, ⟨Lc25, hQ25, l25, y25, z25⟩, st25⟩ := X24.virtualBack hx (y := (⟨"java/util/Optional", "orElse", "(Ljava/lang/Object;)Ljava/lang/Object;"⟩ : MethodName)) (z := (⟨"java/util/Optional", "orElse", "(Ljava/lang/Object;)Ljava/lang/Object;"⟩ : MethodName)) hown (mvT hZ (hw _ (List.mem_of_getElem? (i := 54) rfl))) (mvT hZ (hw _ (List.mem_of_getElem? (i := 55) rfl))) (notFace_of_selects (args := #[]) (mvT hZ (hw _ (List.mem_of_getElem? (i := 57) rfl)))) (mvT hZ (hw _ (List.mem_of_getElem? (i := 57) rfl))) (mvT hZ (hw _ (List.mem_of_getElem? (i := 56) rfl))) (by decide) (backOf (W := 0) (rm7_1 l Z a0 hw [] b2_38_24 w9 T24.heap n0 Z24 x24_2) hZ (hw _ (List.mem_of_getElem? (i := 58) rfl)) (hw _ (List.mem_of_getElem? (i := 37) rfl)) (by decide) (by decide)) q25a q25c (g := (mkF m 110 #[.val (.int p1), .val (.int ((p1 &&& (2147483647 : Int32)) % (7 : Int32))), .val (.ref w7), .val (.ref w9), .unset] [.null, (.ref b2_38_24)])) rfl (by rw [hml]; rfl) (Steps.refl _) (argsL := [.null]) (rest := []) (lenOf pd_1 rfl) rfl (by show 2 * 0 + _ ≤ _; exact Nat.le_of_eq rfl) (hb hby at_110) (fun _ _ => ⟨rfl, rfl, (by decide : 2 + 0 ≤ _), (by decide : 8 + 0 ≤ _)⟩)
  dsimp only [Pt.U, Pt.locs, Pt.cells, Pt.slots] at X25 l25 y25 z25 st25 hQ25
  subst l25 y25 z25
  obtain ⟨rfl, Nq25, e25⟩ := hQ25
  have N25 := Fr.app N24 Nq25
  have f26 := (E_w9.keep K24)
  obtain ⟨T27, X27, e27, st27⟩ := castY X25 hx hZ hown (hw _ (List.mem_of_getElem? (i := 59) rfl)) e25 (Ins.self f26) (g := (mkF m 113 #[.val (.int p1), .val (.int ((p1 &&& (2147483647 : Int32)) % (7 : Int32))), .val (.ref w7), .val (.ref w9), .unset] [(.ref w9)])) rfl rfl (hb hby at_113)
  have f28 := (F_characteristic_w9.keep K24 nin0)
  obtain ⟨cq29, kq29, q29a, q29b, q29c⟩ := isOf hZ e27 f26
  obtain ⟨_, _, ⟨T29, L29, k29, n29⟩, -, X29, ⟨Lc29, hQ29, l29, y29, z29⟩, st29⟩ := X27.virtualBack hx (y := (⟨"com/example/tipple_ledger/tippleledger/terms/WeightedAverage", "characteristic", "()Lcom/example/tipple_ledger/tippleledger/terms/Characteristic;"⟩ : MethodName)) (z := (⟨"com/example/tipple_ledger/tippleledger/terms/WeightedAverage", "characteristic", "()Lcom/example/tipple_ledger/tippleledger/terms/Characteristic;"⟩ : MethodName)) hown (mvT hZ (hw _ (List.mem_of_getElem? (i := 61) rfl))) (mvT hZ (hw _ (List.mem_of_getElem? (i := 62) rfl))) (notFace_of_selects (args := #[]) (mvT hZ (hw _ (List.mem_of_getElem? (i := 64) rfl)))) (mvT hZ (hw _ (List.mem_of_getElem? (i := 64) rfl))) (mvT hZ (hw _ (List.mem_of_getElem? (i := 63) rfl))) (by decide) (backOf (W := 0) (rm8_1 l Z a0 hw [] w9 w7 T24.heap n0 Z24 f28) hZ (hw _ (List.mem_of_getElem? (i := 65) rfl)) (hw _ (List.mem_of_getElem? (i := 5) rfl)) (by decide) (by decide)) q29a q29c (g := (mkF m 135 #[.val (.int p1), .val (.int ((p1 &&& (2147483647 : Int32)) % (7 : Int32))), .val (.ref w7), .val (.ref w9), .val (.ref w9)] [(.ref w9)])) rfl (by rw [hml]; rfl) (Steps.refl _) (argsL := []) (rest := []) (lenOf pd_5 rfl) rfl (by show 2 * 0 + _ ≤ _; exact Nat.le_of_eq rfl) (hb hby at_135) (fun _ _ => ⟨rfl, e27, (by decide : 2 + 0 ≤ _), (by decide : 8 + 0 ≤ _)⟩)
  dsimp only [Pt.U, Pt.locs, Pt.cells, Pt.slots] at X29 l29 y29 z29 st29 hQ29
  subst l29 y29 z29
  obtain ⟨rfl, Nq29, e29⟩ := hQ29
  have N29 := Fr.app N25 Nq29
  have f30 := (F_perMmbtu_w9.keep K24 nin0)
  obtain ⟨cq31, kq31, q31a, q31b, q31c⟩ := isOf hZ e29 f26
  obtain ⟨_, _, ⟨T31, L31, k31, n31⟩, -, X31, ⟨Lc31, hQ31, l31, y31, z31⟩, st31⟩ := X29.virtualBack hx (y := (⟨"com/example/tipple_ledger/tippleledger/terms/WeightedAverage", "perMmbtu", "()Z"⟩ : MethodName)) (z := (⟨"com/example/tipple_ledger/tippleledger/terms/WeightedAverage", "perMmbtu", "()Z"⟩ : MethodName)) hown (mvT hZ (hw _ (List.mem_of_getElem? (i := 66) rfl))) (mvT hZ (hw _ (List.mem_of_getElem? (i := 67) rfl))) (notFace_of_selects (args := #[]) (mvT hZ (hw _ (List.mem_of_getElem? (i := 69) rfl)))) (mvT hZ (hw _ (List.mem_of_getElem? (i := 69) rfl))) (mvT hZ (hw _ (List.mem_of_getElem? (i := 68) rfl))) (by decide) (backOf (W := 0) (rm9_1 l Z a0 hw [] w9 T24.heap n0 Z24 f30) hZ (hw _ (List.mem_of_getElem? (i := 70) rfl)) (hw _ (List.mem_of_getElem? (i := 5) rfl)) (by decide) (by decide)) q31a q31c (g := (mkF m 144 #[.val (.int p1), .val (.int ((p1 &&& (2147483647 : Int32)) % (7 : Int32))), .val (.ref w7), .val (.ref w9), .val (.ref w9)] [(.ref w9)])) rfl (by rw [hml]; rfl) (Steps.refl _) (argsL := []) (rest := []) (lenOf pd_6 rfl) rfl (by show 2 * 0 + _ ≤ _; exact Nat.le_of_eq rfl) (hb hby at_144) (fun _ _ => ⟨rfl, e29, (by decide : 2 + 0 ≤ _), (by decide : 8 + 0 ≤ _)⟩)
  dsimp only [Pt.U, Pt.locs, Pt.cells, Pt.slots] at X31 l31 y31 z31 st31 hQ31
  subst l31 y31 z31
  obtain ⟨rfl, Nq31, e31⟩ := hQ31
  have N31 := Fr.app N29 Nq31
  obtain ⟨fs, hr, hrun, hended, hW, hsame⟩ := X31.leave (v := some (.int (1 : Int32))) (fun h => by rw [Bd.returns] at h; cases h)
  refine ⟨_, _, pre0 _ ?_, hrun, hended, _, _, rfl, ?_, ⟨_, rfl⟩, hW, hsame.mono (by decide) (by decide)⟩
  · show Steps p.tables e below (s₁.setTop (mkF m 0 #[.val (.int p1), .unset, .unset, .unset, .unset] [])) _
    refine XS.iloadN X0.here hx rfl (hb hby at_0) rfl ?_
    show Steps p.tables e below (s₁.setTop (mkF m 1 #[.val (.int p1), .unset, .unset, .unset, .unset] [(.int p1)])) _
    refine X0.ldcInt hx hown (mvT hZ (hw _ (List.mem_of_getElem? (i := 0) rfl))) (g := (mkF m 1 #[.val (.int p1), .unset, .unset, .unset, .unset] [(.int p1)])) rfl (hb hby at_1) _ ?_
    show Steps p.tables e below (s₁.setTop (mkF m 3 #[.val (.int p1), .unset, .unset, .unset, .unset] [(.int (2147483647 : Int32)), (.int p1)])) _
    refine XS.iand X0.here hx rfl (hb hby at_3) rfl ?_
    show Steps p.tables e below (s₁.setTop (mkF m 4 #[.val (.int p1), .unset, .unset, .unset, .unset] [(.int (p1 &&& (2147483647 : Int32)))])) _
    refine XS.bipush X0.here hx rfl (hb hby at_4) ?_
    show Steps p.tables e below (s₁.setTop (mkF m 6 #[.val (.int p1), .unset, .unset, .unset, .unset] [(.int (7 : Int32)), (.int (p1 &&& (2147483647 : Int32)))])) _
    refine iremM X0 hx rfl (hb hby at_6) rfl (by decide : ¬ ((7 : Int32) = (0 : Int32))) ?_
    show Steps p.tables e below (s₁.setTop (mkF m 7 #[.val (.int p1), .unset, .unset, .unset, .unset] [(.int ((p1 &&& (2147483647 : Int32)) % (7 : Int32)))])) _
    refine XS.istoreN X0.here hx rfl (hb hby at_7) rfl (l' := #[.val (.int p1), .val (.int ((p1 &&& (2147483647 : Int32)) % (7 : Int32))), .unset, .unset, .unset]) rfl ?_
    show Steps p.tables e below (s₁.setTop (mkF m 8 #[.val (.int p1), .val (.int ((p1 &&& (2147483647 : Int32)) % (7 : Int32))), .unset, .unset, .unset] [])) _
    refine XS.iloadN X0.here hx rfl (hb hby at_8) rfl ?_
    show Steps p.tables e below (s₁.setTop (mkF m 9 #[.val (.int p1), .val (.int ((p1 &&& (2147483647 : Int32)) % (7 : Int32))), .unset, .unset, .unset] [(.int ((p1 &&& (2147483647 : Int32)) % (7 : Int32)))])) _
    refine XS.ifYes X0.here hx rfl (pc0 := 9) (pc' := 23) rfl (hb hby at_9) rfl ((if0 _ _).trans (feq P2).2) (by decide) (by decide) ?_
    show Steps p.tables e below (s₁.setTop (mkF m 23 #[.val (.int p1), .val (.int ((p1 &&& (2147483647 : Int32)) % (7 : Int32))), .unset, .unset, .unset] [])) _
    refine XS.iloadN X0.here hx rfl (hb hby at_23) rfl ?_
    show Steps p.tables e below (s₁.setTop (mkF m 24 #[.val (.int p1), .val (.int ((p1 &&& (2147483647 : Int32)) % (7 : Int32))), .unset, .unset, .unset] [(.int ((p1 &&& (2147483647 : Int32)) % (7 : Int32)))])) _
    refine XS.iconst X0.here hx rfl (hb hby at_24) ?_
    show Steps p.tables e below (s₁.setTop (mkF m 25 #[.val (.int p1), .val (.int ((p1 &&& (2147483647 : Int32)) % (7 : Int32))), .unset, .unset, .unset] [(.int (1 : Int32)), (.int ((p1 &&& (2147483647 : Int32)) % (7 : Int32)))])) _
    refine XS.icmpYes X0.here hx rfl (pc0 := 25) (pc' := 39) rfl (hb hby at_25) rfl (feq P3).2 (by decide) (by decide) ?_
    show Steps p.tables e below (s₁.setTop (mkF m 39 #[.val (.int p1), .val (.int ((p1 &&& (2147483647 : Int32)) % (7 : Int32))), .unset, .unset, .unset] [])) _
    refine XS.iloadN X0.here hx rfl (hb hby at_39) rfl ?_
    show Steps p.tables e below (s₁.setTop (mkF m 40 #[.val (.int p1), .val (.int ((p1 &&& (2147483647 : Int32)) % (7 : Int32))), .unset, .unset, .unset] [(.int ((p1 &&& (2147483647 : Int32)) % (7 : Int32)))])) _
    refine XS.iconst X0.here hx rfl (hb hby at_40) ?_
    show Steps p.tables e below (s₁.setTop (mkF m 41 #[.val (.int p1), .val (.int ((p1 &&& (2147483647 : Int32)) % (7 : Int32))), .unset, .unset, .unset] [(.int (2 : Int32)), (.int ((p1 &&& (2147483647 : Int32)) % (7 : Int32)))])) _
    refine XS.icmpYes X0.here hx rfl (pc0 := 41) (pc' := 55) rfl (hb hby at_41) rfl (feq P4).2 (by decide) (by decide) ?_
    show Steps p.tables e below (s₁.setTop (mkF m 55 #[.val (.int p1), .val (.int ((p1 &&& (2147483647 : Int32)) % (7 : Int32))), .unset, .unset, .unset] [])) _
    refine XS.iloadN X0.here hx rfl (hb hby at_55) rfl ?_
    show Steps p.tables e below (s₁.setTop (mkF m 56 #[.val (.int p1), .val (.int ((p1 &&& (2147483647 : Int32)) % (7 : Int32))), .unset, .unset, .unset] [(.int ((p1 &&& (2147483647 : Int32)) % (7 : Int32)))])) _
    refine XS.iconst X0.here hx rfl (hb hby at_56) ?_
    show Steps p.tables e below (s₁.setTop (mkF m 57 #[.val (.int p1), .val (.int ((p1 &&& (2147483647 : Int32)) % (7 : Int32))), .unset, .unset, .unset] [(.int (3 : Int32)), (.int ((p1 &&& (2147483647 : Int32)) % (7 : Int32)))])) _
    refine XS.icmpYes X0.here hx rfl (pc0 := 57) (pc' := 69) rfl (hb hby at_57) rfl (feq P5).2 (by decide) (by decide) ?_
    show Steps p.tables e below (s₁.setTop (mkF m 69 #[.val (.int p1), .val (.int ((p1 &&& (2147483647 : Int32)) % (7 : Int32))), .unset, .unset, .unset] [])) _
    refine XS.iloadN X0.here hx rfl (hb hby at_69) rfl ?_
    show Steps p.tables e below (s₁.setTop (mkF m 70 #[.val (.int p1), .val (.int ((p1 &&& (2147483647 : Int32)) % (7 : Int32))), .unset, .unset, .unset] [(.int ((p1 &&& (2147483647 : Int32)) % (7 : Int32)))])) _
    refine XS.iconst X0.here hx rfl (hb hby at_70) ?_
    show Steps p.tables e below (s₁.setTop (mkF m 71 #[.val (.int p1), .val (.int ((p1 &&& (2147483647 : Int32)) % (7 : Int32))), .unset, .unset, .unset] [(.int (4 : Int32)), (.int ((p1 &&& (2147483647 : Int32)) % (7 : Int32)))])) _
    refine XS.icmpNo X0.here hx rfl (hb hby at_71) rfl (teq P6).2 ?_
    show Steps p.tables e below (s₁.setTop (mkF m 74 #[.val (.int p1), .val (.int ((p1 &&& (2147483647 : Int32)) % (7 : Int32))), .unset, .unset, .unset] [])) _
    refine st8 _ ?_
    show Steps p.tables e below (T8.setTop (mkF m 77 #[.val (.int p1), .val (.int ((p1 &&& (2147483647 : Int32)) % (7 : Int32))), .unset, .unset, .unset] [(.ref w7)])) _
    refine XS.astoreN X8.here hx rfl (hb hby at_77) rfl rfl (l' := #[.val (.int p1), .val (.int ((p1 &&& (2147483647 : Int32)) % (7 : Int32))), .val (.ref w7), .unset, .unset]) rfl ?_
    show Steps p.tables e below (T8.setTop (mkF m 78 #[.val (.int p1), .val (.int ((p1 &&& (2147483647 : Int32)) % (7 : Int32))), .val (.ref w7), .unset, .unset] [])) _
    refine st10 _ ?_
    show Steps p.tables e below (T10.setTop (mkF m 81 #[.val (.int p1), .val (.int ((p1 &&& (2147483647 : Int32)) % (7 : Int32))), .val (.ref w7), .unset, .unset] [(.ref w9)])) _
    refine XS.astoreN X10.here hx rfl (hb hby at_81) rfl rfl (l' := #[.val (.int p1), .val (.int ((p1 &&& (2147483647 : Int32)) % (7 : Int32))), .val (.ref w7), .val (.ref w9), .unset]) rfl ?_
    show Steps p.tables e below (T10.setTop (mkF m 82 #[.val (.int p1), .val (.int ((p1 &&& (2147483647 : Int32)) % (7 : Int32))), .val (.ref w7), .val (.ref w9), .unset] [])) _
    refine XS.goto X10.here hx rfl (pc0 := 82) (pc' := 105) rfl (hb hby at_82) (by decide) (by decide) ?_
    show Steps p.tables e below (T10.setTop (mkF m 105 #[.val (.int p1), .val (.int ((p1 &&& (2147483647 : Int32)) % (7 : Int32))), .val (.ref w7), .val (.ref w9), .unset] [])) _
    refine XS.aloadN X10.here hx rfl (hb hby at_105) rfl rfl ?_
    show Steps p.tables e below (T10.setTop (mkF m 106 #[.val (.int p1), .val (.int ((p1 &&& (2147483647 : Int32)) % (7 : Int32))), .val (.ref w7), .val (.ref w9), .unset] [(.ref w7)])) _
    refine st24 _ ?_
    show Steps p.tables e below (T24.setTop (mkF m 109 #[.val (.int p1), .val (.int ((p1 &&& (2147483647 : Int32)) % (7 : Int32))), .val (.ref w7), .val (.ref w9), .unset] [(.ref b2_38_24)])) _
    refine XS.aconstNull X24.here hx rfl (hb hby at_109) ?_
    show Steps p.tables e below (T24.setTop (mkF m 110 #[.val (.int p1), .val (.int ((p1 &&& (2147483647 : Int32)) % (7 : Int32))), .val (.ref w7), .val (.ref w9), .unset] [.null, (.ref b2_38_24)])) _
    refine st25.trans ?_
    show Steps p.tables e below (T25.setTop (mkF m 113 #[.val (.int p1), .val (.int ((p1 &&& (2147483647 : Int32)) % (7 : Int32))), .val (.ref w7), .val (.ref w9), .unset] [(.ref w9)])) _
    refine st27 _ ?_
    show Steps p.tables e below (T27.setTop (mkF m 116 #[.val (.int p1), .val (.int ((p1 &&& (2147483647 : Int32)) % (7 : Int32))), .val (.ref w7), .val (.ref w9), .unset] [(.ref w9)])) _
    refine XS.astore X27.here hx rfl (hb hby at_116) rfl rfl (l' := #[.val (.int p1), .val (.int ((p1 &&& (2147483647 : Int32)) % (7 : Int32))), .val (.ref w7), .val (.ref w9), .val (.ref w9)]) rfl ?_
    show Steps p.tables e below (T27.setTop (mkF m 118 #[.val (.int p1), .val (.int ((p1 &&& (2147483647 : Int32)) % (7 : Int32))), .val (.ref w7), .val (.ref w9), .val (.ref w9)] [])) _
    refine XS.aload X27.here hx rfl (hb hby at_118) rfl rfl ?_
    show Steps p.tables e below (T27.setTop (mkF m 120 #[.val (.int p1), .val (.int ((p1 &&& (2147483647 : Int32)) % (7 : Int32))), .val (.ref w7), .val (.ref w9), .val (.ref w9)] [(.ref w9)])) _
    refine XS.aloadN X27.here hx rfl (hb hby at_120) rfl rfl ?_
    show Steps p.tables e below (T27.setTop (mkF m 121 #[.val (.int p1), .val (.int ((p1 &&& (2147483647 : Int32)) % (7 : Int32))), .val (.ref w7), .val (.ref w9), .val (.ref w9)] [(.ref w9), (.ref w9)])) _
    refine Jvm.RoadKit.acmp (g := (mkF m 121 #[.val (.int p1), .val (.int ((p1 &&& (2147483647 : Int32)) % (7 : Int32))), .val (.ref w7), .val (.ref w9), .val (.ref w9)] [(.ref w9), (.ref w9)])) X27 hx rfl rfl rfl (pc0 := 121) (pc' := 126) (same := true) rfl (hb hby at_121) rfl (decide_eq_true rfl) (by decide) (by decide) ?_
    show Steps p.tables e below (T27.setTop (mkF m 126 #[.val (.int p1), .val (.int ((p1 &&& (2147483647 : Int32)) % (7 : Int32))), .val (.ref w7), .val (.ref w9), .val (.ref w9)] [])) _
    refine XS.aload X27.here hx rfl (hb hby at_126) rfl rfl ?_
    show Steps p.tables e below (T27.setTop (mkF m 128 #[.val (.int p1), .val (.int ((p1 &&& (2147483647 : Int32)) % (7 : Int32))), .val (.ref w7), .val (.ref w9), .val (.ref w9)] [(.ref w9)])) _
    refine XS.ifnonnullYes X27.here hx rfl (pc0 := 128) (pc' := 133) rfl (hb hby at_128) rfl (by decide) (by decide) ?_
    show Steps p.tables e below (T27.setTop (mkF m 133 #[.val (.int p1), .val (.int ((p1 &&& (2147483647 : Int32)) % (7 : Int32))), .val (.ref w7), .val (.ref w9), .val (.ref w9)] [])) _
    refine XS.aload X27.here hx rfl (hb hby at_133) rfl rfl ?_
    show Steps p.tables e below (T27.setTop (mkF m 135 #[.val (.int p1), .val (.int ((p1 &&& (2147483647 : Int32)) % (7 : Int32))), .val (.ref w7), .val (.ref w9), .val (.ref w9)] [(.ref w9)])) _
    refine st29.trans ?_
    show Steps p.tables e below (T29.setTop (mkF m 138 #[.val (.int p1), .val (.int ((p1 &&& (2147483647 : Int32)) % (7 : Int32))), .val (.ref w7), .val (.ref w9), .val (.ref w9)] [(.ref w7)])) _
    refine XS.aloadN X29.here hx rfl (hb hby at_138) rfl rfl ?_
    show Steps p.tables e below (T29.setTop (mkF m 139 #[.val (.int p1), .val (.int ((p1 &&& (2147483647 : Int32)) % (7 : Int32))), .val (.ref w7), .val (.ref w9), .val (.ref w9)] [(.ref w7), (.ref w7)])) _
    refine Jvm.RoadKit.acmp (g := (mkF m 139 #[.val (.int p1), .val (.int ((p1 &&& (2147483647 : Int32)) % (7 : Int32))), .val (.ref w7), .val (.ref w9), .val (.ref w9)] [(.ref w7), (.ref w7)])) X29 hx rfl rfl rfl (pc0 := 139) (pc' := 142) (same := true) rfl (hb hby at_139) rfl (decide_eq_true rfl) (by decide) (by decide) ?_
    show Steps p.tables e below (T29.setTop (mkF m 142 #[.val (.int p1), .val (.int ((p1 &&& (2147483647 : Int32)) % (7 : Int32))), .val (.ref w7), .val (.ref w9), .val (.ref w9)] [])) _
    refine XS.aload X29.here hx rfl (hb hby at_142) rfl rfl ?_
    show Steps p.tables e below (T29.setTop (mkF m 144 #[.val (.int p1), .val (.int ((p1 &&& (2147483647 : Int32)) % (7 : Int32))), .val (.ref w7), .val (.ref w9), .val (.ref w9)] [(.ref w9)])) _
    refine st31.trans ?_
    show Steps p.tables e below (T31.setTop (mkF m 147 #[.val (.int p1), .val (.int ((p1 &&& (2147483647 : Int32)) % (7 : Int32))), .val (.ref w7), .val (.ref w9), .val (.ref w9)] [(.int (0 : Int32))])) _
    refine XS.ifNo X31.here hx rfl (hb hby at_147) rfl ((if0 _ _).trans (teq (rfl : (0 : Int32) = (0 : Int32))).2) ?_
    show Steps p.tables e below (T31.setTop (mkF m 150 #[.val (.int p1), .val (.int ((p1 &&& (2147483647 : Int32)) % (7 : Int32))), .val (.ref w7), .val (.ref w9), .val (.ref w9)] [])) _
    refine XS.iconst X31.here hx rfl (hb hby at_150) ?_
    show Steps p.tables e below (T31.setTop (mkF m 151 #[.val (.int p1), .val (.int ((p1 &&& (2147483647 : Int32)) % (7 : Int32))), .val (.ref w7), .val (.ref w9), .val (.ref w9)] [(.int (1 : Int32))])) _
    refine XS.goto X31.here hx rfl (pc0 := 151) (pc' := 155) rfl (hb hby at_151) (by decide) (by decide) ?_
    show Steps p.tables e below (T31.setTop (mkF m 155 #[.val (.int p1), .val (.int ((p1 &&& (2147483647 : Int32)) % (7 : Int32))), .val (.ref w7), .val (.ref w9), .val (.ref w9)] [(.int (1 : Int32))])) _
    exact retN X31 hx (t := .boolean) Bd.returns (by simp) (hb hby at_155) hr
  · exact ⟨rfl, N31⟩
set_option maxRecDepth 65536 in
set_option maxHeartbeats 40000000 in
theorem rm0_6 (l : Launch) (Z : State) (a0 : Array Value) (hw : ∀ d ∈ tables_1, d.before a0 Z = true) (ws : List Jvm.Cond) (p1 : Int32) (w8 : Addr) (w10 : Addr) (k_w10 : ClassId) (w11 : Addr) (w12 : Addr) (w13 : Addr) (w14 : Addr) (w15 : Addr) (w16 : Addr) (w17 : Addr) (w18 : Addr) (w19 : Addr) (w20 : Addr) (w21 : Addr) (w22 : Addr) (h0 : Heap) (n0 : Nat) (Z0 : n0 ≤ h0.size) (P2 : ¬ (((p1 &&& (2147483647 : Int32)) % (7 : Int32)) = (0 : Int32))) (P3 : ¬ (((p1 &&& (2147483647 : Int32)) % (7 : Int32)) = (1 : Int32))) (P4 : ¬ (((p1 &&& (2147483647 : Int32)) % (7 : Int32)) = (2 : Int32))) (P5 : ¬ (((p1 &&& (2147483647 : Int32)) % (7 : Int32)) = (3 : Int32))) (P6 : ¬ (((p1 &&& (2147483647 : Int32)) % (7 : Int32)) = (4 : Int32))) (P7 : ((p1 &&& (2147483647 : Int32)) % (7 : Int32)) = (5 : Int32)) (S_ASH_FUSION_TEMPERATURE : Sta Z h0 "com/example/tipple_ledger/tippleledger/terms/Characteristic" "ASH_FUSION_TEMPERATURE" "Lcom/example/tipple_ledger/tippleledger/terms/Characteristic;" (.ref w8)) (V_w10 : Arv Z h0 w10 k_w10 (.object "com/example/tipple_ledger/tippleledger/terms/WeightedAverage") (7 : Int32) [(.ref w11), (.ref w12), (.ref w13), (.ref w14), (.ref w15), (.ref w16), (.ref w17)] .null) (S__VALUES : Sta Z h0 "com/example/tipple_ledger/tippleledger/terms/WeightedAverage" "$VALUES" "[Lcom/example/tipple_ledger/tippleledger/terms/WeightedAverage;" (.ref w10)) (E_w10 : Exa Z h0 w10 "[Lcom/example/tipple_ledger/tippleledger/terms/WeightedAverage;") (F_characteristic_w11 : Fld Z h0 w11 "com/example/tipple_ledger/tippleledger/terms/WeightedAverage" "characteristic" "Lcom/example/tipple_ledger/tippleledger/terms/Characteristic;" (.ref w18)) (P23 : ¬ (w18 = w8)) (F_characteristic_w12 : Fld Z h0 w12 "com/example/tipple_ledger/tippleledger/terms/WeightedAverage" "characteristic" "Lcom/example/tipple_ledger/tippleledger/terms/Characteristic;" (.ref w19)) (P24 : ¬ (w19 = w8)) (F_characteristic_w13 : Fld Z h0 w13 "com/example/tipple_ledger/tippleledger/terms/WeightedAverage" "characteristic" "Lcom/example/tipple_ledger/tippleledger/terms/Characteristic;" (.ref w20)) (P25 : ¬ (w20 = w8)) (F_characteristic_w14 : Fld Z h0 w14 "com/example/tipple_ledger/tippleledger/terms/WeightedAverage" "characteristic" "Lcom/example/tipple_ledger/tippleledger/terms/Characteristic;" (.ref w20)) (F_characteristic_w15 : Fld Z h0 w15 "com/example/tipple_ledger/tippleledger/terms/WeightedAverage" "characteristic" "Lcom/example/tipple_ledger/tippleledger/terms/Characteristic;" (.ref w19)) (F_characteristic_w16 : Fld Z h0 w16 "com/example/tipple_ledger/tippleledger/terms/WeightedAverage" "characteristic" "Lcom/example/tipple_ledger/tippleledger/terms/Characteristic;" (.ref w21)) (P26 : ¬ (w21 = w8)) (F_characteristic_w17 : Fld Z h0 w17 "com/example/tipple_ledger/tippleledger/terms/WeightedAverage" "characteristic" "Lcom/example/tipple_ledger/tippleledger/terms/Characteristic;" (.ref w21)) (S_EMPTY : Sta Z h0 "java/util/Optional" "EMPTY" "Ljava/util/Optional;" (.ref w22)) (F_value_w22 : Fld Z h0 w22 "java/util/Optional" "value" "Ljava/lang/Object;" .null) (E_w22 : Exa Z h0 w22 "java/util/Optional") :
    MetFree l x (head1 (Jvm.Cond.code x code maxLocals ret :: ws) room_1) (fun a U => a = #[(.int p1)] ∧ Z.Warmed39 U.vm ∧ U.heap = h0) (fun _ _ _ _ _ => True) (fun _ U o U' => ∃ v L, o = .returned v ∧ own_QT n0 v L ∧ FrameEnd U o U' L room_1.cells room_1.slots) := by
  refine MetFree.of_bodySF (plainFor_of_name pn_0) hisR ?_
  intro p e s m args below meth c s₁ Bd hml0 hP hK
  obtain ⟨rfl, hZ, hh⟩ := hP
  have hx := Bd.exec
  have hby := Bd.bytes
  have hml : c.maxLocals = 5 := hml0
  have hown : s.vm.findClass "com/example/tipple_ledger/tippleledger/terms/WeightedAverageByTonsPinLaw" = some m.cls := findClass_of_methodNamed Bd.named
  have hnm := (name_of_methodNamed Bd.named Bd.method).1
  have X0 : Stand p l e room_1 s m #[(.int p1)] below meth c s₁ [] 0 0 := Stand.of_body Bd
  have e0 : s₁.heap = h0 := by rw [← hh, Bd.state]; rfl
  have N0 := Fr.nil n0
  have pre0 : ∀ t, Steps p.tables e below (s₁.setTop (mkF m 0 #[.val (.int p1), .unset, .unset, .unset, .unset] [])) t → Steps p.tables e below (s₁.setTop (entryFrame m #[(.int p1)] maxLocals)) t := fun t k => castTop (ef_0_I m p1) k
  obtain ⟨T9, X9, e9, st9⟩ := getS2 X0 hx hZ hown (host := "") (Or.inl (hw _ (List.mem_of_getElem? (i := 80) rfl))) Via.refl e0 S_ASH_FUSION_TEMPERATURE (g := (mkF m 90 #[.val (.int p1), .val (.int ((p1 &&& (2147483647 : Int32)) % (7 : Int32))), .unset, .unset, .unset] [])) rfl (hb hby at_90)
  obtain ⟨_, _, ⟨T27, L27, k27, n27⟩, -, X27, ⟨Lc27, hQ27, l27, y27, z27⟩, st27⟩ := Jvm.LawKit.callS X9 hx (y := (⟨"com/example/tipple_ledger/tippleledger/terms/WeightedAverage", "byTons", "(Lcom/example/tipple_ledger/tippleledger/terms/Characteristic;)Ljava/util/Optional;"⟩ : MethodName)) hown (mvT hZ (hw _ (List.mem_of_getElem? (i := 7) rfl))) (mvT hZ (hw _ (List.mem_of_getElem? (i := 8) rfl))) (mvT hZ (hw _ (List.mem_of_getElem? (i := 5) rfl))) (mvT hZ (hw _ (List.mem_of_getElem? (i := 9) rfl))) (by decide) (backOf (W := 0) (rm1_4 l Z a0 hw [] w8 w10 k_w10 w11 w12 w13 w14 w15 w16 w17 w18 w19 w20 w21 w22 h0 n0 Z0 V_w10 S__VALUES E_w10 F_characteristic_w11 P23 F_characteristic_w12 P24 F_characteristic_w13 P25 F_characteristic_w14 F_characteristic_w15 F_characteristic_w16 P26 F_characteristic_w17 S_EMPTY) hZ (hw _ (List.mem_of_getElem? (i := 9) rfl)) (hw _ (List.mem_of_getElem? (i := 5) rfl)) (by decide) (by decide)) (g := (mkF m 106 #[.val (.int p1), .val (.int ((p1 &&& (2147483647 : Int32)) % (7 : Int32))), .val (.ref w8), .val .null, .unset] [(.ref w8)])) rfl (by rw [hml]; rfl) (argsL := [(.ref w8)]) (rest := []) (lenOf pd_4 rfl) rfl (by show 2 * 0 + _ ≤ _; exact Nat.le_of_eq rfl) (hb hby at_106) (fun _ _ => ⟨rfl, e9, (by decide : 0 + 1 ≤ _), (by decide : 0 + 7 ≤ _)⟩)
  dsimp only [Pt.U, Pt.locs, Pt.cells, Pt.slots] at X27 l27 y27 z27 st27 hQ27
  subst l27 y27 z27
  obtain ⟨rfl, Nq27, K27⟩ := hQ27
  have N27 := Fr.app N0 Nq27
  have K0_27 : Keep h0 T27.heap [] := (Keep.refl h0 []).trans K27 all0
  have Z27 : n0 ≤ T27.heap.size := Nat.le_trans Z0 K27.1
  have f28 := (F_value_w22.keep K27 nin0)
  have f30 := (E_w22.keep K27)
  obtain ⟨cq29, kq29, q29a, q29b, q29c⟩ := isOf hZ rfl f30
  obtain ⟨_, _, ⟨T29, L29, k29, n29⟩, -, X29, ⟨Lc29, hQ29, l29, y29, z29⟩, st29⟩ := X27.virtualBack hx (y := (⟨"java/util/Optional", "orElse", "(Ljava/lang/Object;)Ljava/lang/Object;"⟩ : MethodName)) (z := (⟨"java/util/Optional", "orElse", "(Ljava/lang/Object;)Ljava/lang/Object;"⟩ : MethodName)) hown (mvT hZ (hw _ (List.mem_of_getElem? (i := 54) rfl))) (mvT hZ (hw _ (List.mem_of_getElem? (i := 55) rfl))) (notFace_of_selects (args := #[]) (mvT hZ (hw _ (List.mem_of_getElem? (i := 57) rfl)))) (mvT hZ (hw _ (List.mem_of_getElem? (i := 57) rfl))) (mvT hZ (hw _ (List.mem_of_getElem? (i := 56) rfl))) (by decide) (backOf (W := 0) (rm7_2 l Z a0 hw [] w22 T27.heap n0 Z27 f28) hZ (hw _ (List.mem_of_getElem? (i := 58) rfl)) (hw _ (List.mem_of_getElem? (i := 37) rfl)) (by decide) (by decide)) q29a q29c (g := (mkF m 110 #[.val (.int p1), .val (.int ((p1 &&& (2147483647 : Int32)) % (7 : Int32))), .val (.ref w8), .val .null, .unset] [.null, (.ref w22)])) rfl (by rw [hml]; rfl) (Steps.refl _) (argsL := [.null]) (rest := []) (lenOf pd_1 rfl) rfl (by show 2 * 0 + _ ≤ _; exact Nat.le_of_eq rfl) (hb hby at_110) (fun _ _ => ⟨rfl, rfl, (by decide : 1 + 0 ≤ _), (by decide : 7 + 0 ≤ _)⟩)
  dsimp only [Pt.U, Pt.locs, Pt.cells, Pt.slots] at X29 l29 y29 z29 st29 hQ29
  subst l29 y29 z29
  obtain ⟨rfl, Nq29, e29⟩ := hQ29
  have N29 := Fr.app N27 Nq29
  obtain ⟨fs, hr, hrun, hended, hW, hsame⟩ := X29.leave (v := some (.int (1 : Int32))) (fun h => by rw [Bd.returns] at h; cases h)
  refine ⟨_, _, pre0 _ ?_, hrun, hended, _, _, rfl, ?_, ⟨_, rfl⟩, hW, hsame.mono (by decide) (by decide)⟩
  · show Steps p.tables e below (s₁.setTop (mkF m 0 #[.val (.int p1), .unset, .unset, .unset, .unset] [])) _
    refine XS.iloadN X0.here hx rfl (hb hby at_0) rfl ?_
    show Steps p.tables e below (s₁.setTop (mkF m 1 #[.val (.int p1), .unset, .unset, .unset, .unset] [(.int p1)])) _
    refine X0.ldcInt hx hown (mvT hZ (hw _ (List.mem_of_getElem? (i := 0) rfl))) (g := (mkF m 1 #[.val (.int p1), .unset, .unset, .unset, .unset] [(.int p1)])) rfl (hb hby at_1) _ ?_
    show Steps p.tables e below (s₁.setTop (mkF m 3 #[.val (.int p1), .unset, .unset, .unset, .unset] [(.int (2147483647 : Int32)), (.int p1)])) _
    refine XS.iand X0.here hx rfl (hb hby at_3) rfl ?_
    show Steps p.tables e below (s₁.setTop (mkF m 4 #[.val (.int p1), .unset, .unset, .unset, .unset] [(.int (p1 &&& (2147483647 : Int32)))])) _
    refine XS.bipush X0.here hx rfl (hb hby at_4) ?_
    show Steps p.tables e below (s₁.setTop (mkF m 6 #[.val (.int p1), .unset, .unset, .unset, .unset] [(.int (7 : Int32)), (.int (p1 &&& (2147483647 : Int32)))])) _
    refine iremM X0 hx rfl (hb hby at_6) rfl (by decide : ¬ ((7 : Int32) = (0 : Int32))) ?_
    show Steps p.tables e below (s₁.setTop (mkF m 7 #[.val (.int p1), .unset, .unset, .unset, .unset] [(.int ((p1 &&& (2147483647 : Int32)) % (7 : Int32)))])) _
    refine XS.istoreN X0.here hx rfl (hb hby at_7) rfl (l' := #[.val (.int p1), .val (.int ((p1 &&& (2147483647 : Int32)) % (7 : Int32))), .unset, .unset, .unset]) rfl ?_
    show Steps p.tables e below (s₁.setTop (mkF m 8 #[.val (.int p1), .val (.int ((p1 &&& (2147483647 : Int32)) % (7 : Int32))), .unset, .unset, .unset] [])) _
    refine XS.iloadN X0.here hx rfl (hb hby at_8) rfl ?_
    show Steps p.tables e below (s₁.setTop (mkF m 9 #[.val (.int p1), .val (.int ((p1 &&& (2147483647 : Int32)) % (7 : Int32))), .unset, .unset, .unset] [(.int ((p1 &&& (2147483647 : Int32)) % (7 : Int32)))])) _
    refine XS.ifYes X0.here hx rfl (pc0 := 9) (pc' := 23) rfl (hb hby at_9) rfl ((if0 _ _).trans (feq P2).2) (by decide) (by decide) ?_
    show Steps p.tables e below (s₁.setTop (mkF m 23 #[.val (.int p1), .val (.int ((p1 &&& (2147483647 : Int32)) % (7 : Int32))), .unset, .unset, .unset] [])) _
    refine XS.iloadN X0.here hx rfl (hb hby at_23) rfl ?_
    show Steps p.tables e below (s₁.setTop (mkF m 24 #[.val (.int p1), .val (.int ((p1 &&& (2147483647 : Int32)) % (7 : Int32))), .unset, .unset, .unset] [(.int ((p1 &&& (2147483647 : Int32)) % (7 : Int32)))])) _
    refine XS.iconst X0.here hx rfl (hb hby at_24) ?_
    show Steps p.tables e below (s₁.setTop (mkF m 25 #[.val (.int p1), .val (.int ((p1 &&& (2147483647 : Int32)) % (7 : Int32))), .unset, .unset, .unset] [(.int (1 : Int32)), (.int ((p1 &&& (2147483647 : Int32)) % (7 : Int32)))])) _
    refine XS.icmpYes X0.here hx rfl (pc0 := 25) (pc' := 39) rfl (hb hby at_25) rfl (feq P3).2 (by decide) (by decide) ?_
    show Steps p.tables e below (s₁.setTop (mkF m 39 #[.val (.int p1), .val (.int ((p1 &&& (2147483647 : Int32)) % (7 : Int32))), .unset, .unset, .unset] [])) _
    refine XS.iloadN X0.here hx rfl (hb hby at_39) rfl ?_
    show Steps p.tables e below (s₁.setTop (mkF m 40 #[.val (.int p1), .val (.int ((p1 &&& (2147483647 : Int32)) % (7 : Int32))), .unset, .unset, .unset] [(.int ((p1 &&& (2147483647 : Int32)) % (7 : Int32)))])) _
    refine XS.iconst X0.here hx rfl (hb hby at_40) ?_
    show Steps p.tables e below (s₁.setTop (mkF m 41 #[.val (.int p1), .val (.int ((p1 &&& (2147483647 : Int32)) % (7 : Int32))), .unset, .unset, .unset] [(.int (2 : Int32)), (.int ((p1 &&& (2147483647 : Int32)) % (7 : Int32)))])) _
    refine XS.icmpYes X0.here hx rfl (pc0 := 41) (pc' := 55) rfl (hb hby at_41) rfl (feq P4).2 (by decide) (by decide) ?_
    show Steps p.tables e below (s₁.setTop (mkF m 55 #[.val (.int p1), .val (.int ((p1 &&& (2147483647 : Int32)) % (7 : Int32))), .unset, .unset, .unset] [])) _
    refine XS.iloadN X0.here hx rfl (hb hby at_55) rfl ?_
    show Steps p.tables e below (s₁.setTop (mkF m 56 #[.val (.int p1), .val (.int ((p1 &&& (2147483647 : Int32)) % (7 : Int32))), .unset, .unset, .unset] [(.int ((p1 &&& (2147483647 : Int32)) % (7 : Int32)))])) _
    refine XS.iconst X0.here hx rfl (hb hby at_56) ?_
    show Steps p.tables e below (s₁.setTop (mkF m 57 #[.val (.int p1), .val (.int ((p1 &&& (2147483647 : Int32)) % (7 : Int32))), .unset, .unset, .unset] [(.int (3 : Int32)), (.int ((p1 &&& (2147483647 : Int32)) % (7 : Int32)))])) _
    refine XS.icmpYes X0.here hx rfl (pc0 := 57) (pc' := 69) rfl (hb hby at_57) rfl (feq P5).2 (by decide) (by decide) ?_
    show Steps p.tables e below (s₁.setTop (mkF m 69 #[.val (.int p1), .val (.int ((p1 &&& (2147483647 : Int32)) % (7 : Int32))), .unset, .unset, .unset] [])) _
    refine XS.iloadN X0.here hx rfl (hb hby at_69) rfl ?_
    show Steps p.tables e below (s₁.setTop (mkF m 70 #[.val (.int p1), .val (.int ((p1 &&& (2147483647 : Int32)) % (7 : Int32))), .unset, .unset, .unset] [(.int ((p1 &&& (2147483647 : Int32)) % (7 : Int32)))])) _
    refine XS.iconst X0.here hx rfl (hb hby at_70) ?_
    show Steps p.tables e below (s₁.setTop (mkF m 71 #[.val (.int p1), .val (.int ((p1 &&& (2147483647 : Int32)) % (7 : Int32))), .unset, .unset, .unset] [(.int (4 : Int32)), (.int ((p1 &&& (2147483647 : Int32)) % (7 : Int32)))])) _
    refine XS.icmpYes X0.here hx rfl (pc0 := 71) (pc' := 85) rfl (hb hby at_71) rfl (feq P6).2 (by decide) (by decide) ?_
    show Steps p.tables e below (s₁.setTop (mkF m 85 #[.val (.int p1), .val (.int ((p1 &&& (2147483647 : Int32)) % (7 : Int32))), .unset, .unset, .unset] [])) _
    refine XS.iloadN X0.here hx rfl (hb hby at_85) rfl ?_
    show Steps p.tables e below (s₁.setTop (mkF m 86 #[.val (.int p1), .val (.int ((p1 &&& (2147483647 : Int32)) % (7 : Int32))), .unset, .unset, .unset] [(.int ((p1 &&& (2147483647 : Int32)) % (7 : Int32)))])) _
    refine XS.iconst X0.here hx rfl (hb hby at_86) ?_
    show Steps p.tables e below (s₁.setTop (mkF m 87 #[.val (.int p1), .val (.int ((p1 &&& (2147483647 : Int32)) % (7 : Int32))), .unset, .unset, .unset] [(.int (5 : Int32)), (.int ((p1 &&& (2147483647 : Int32)) % (7 : Int32)))])) _
    refine XS.icmpNo X0.here hx rfl (hb hby at_87) rfl (teq P7).2 ?_
    show Steps p.tables e below (s₁.setTop (mkF m 90 #[.val (.int p1), .val (.int ((p1 &&& (2147483647 : Int32)) % (7 : Int32))), .unset, .unset, .unset] [])) _
    refine st9 _ ?_
    show Steps p.tables e below (T9.setTop (mkF m 93 #[.val (.int p1), .val (.int ((p1 &&& (2147483647 : Int32)) % (7 : Int32))), .unset, .unset, .unset] [(.ref w8)])) _
    refine XS.astoreN X9.here hx rfl (hb hby at_93) rfl rfl (l' := #[.val (.int p1), .val (.int ((p1 &&& (2147483647 : Int32)) % (7 : Int32))), .val (.ref w8), .unset, .unset]) rfl ?_
    show Steps p.tables e below (T9.setTop (mkF m 94 #[.val (.int p1), .val (.int ((p1 &&& (2147483647 : Int32)) % (7 : Int32))), .val (.ref w8), .unset, .unset] [])) _
    refine XS.aconstNull X9.here hx rfl (hb hby at_94) ?_
    show Steps p.tables e below (T9.setTop (mkF m 95 #[.val (.int p1), .val (.int ((p1 &&& (2147483647 : Int32)) % (7 : Int32))), .val (.ref w8), .unset, .unset] [.null])) _
    refine XS.astoreN X9.here hx rfl (hb hby at_95) rfl rfl (l' := #[.val (.int p1), .val (.int ((p1 &&& (2147483647 : Int32)) % (7 : Int32))), .val (.ref w8), .val .null, .unset]) rfl ?_
    show Steps p.tables e below (T9.setTop (mkF m 96 #[.val (.int p1), .val (.int ((p1 &&& (2147483647 : Int32)) % (7 : Int32))), .val (.ref w8), .val .null, .unset] [])) _
    refine XS.goto X9.here hx rfl (pc0 := 96) (pc' := 105) rfl (hb hby at_96) (by decide) (by decide) ?_
    show Steps p.tables e below (T9.setTop (mkF m 105 #[.val (.int p1), .val (.int ((p1 &&& (2147483647 : Int32)) % (7 : Int32))), .val (.ref w8), .val .null, .unset] [])) _
    refine XS.aloadN X9.here hx rfl (hb hby at_105) rfl rfl ?_
    show Steps p.tables e below (T9.setTop (mkF m 106 #[.val (.int p1), .val (.int ((p1 &&& (2147483647 : Int32)) % (7 : Int32))), .val (.ref w8), .val .null, .unset] [(.ref w8)])) _
    refine st27 _ ?_
    show Steps p.tables e below (T27.setTop (mkF m 109 #[.val (.int p1), .val (.int ((p1 &&& (2147483647 : Int32)) % (7 : Int32))), .val (.ref w8), .val .null, .unset] [(.ref w22)])) _
    refine XS.aconstNull X27.here hx rfl (hb hby at_109) ?_
    show Steps p.tables e below (T27.setTop (mkF m 110 #[.val (.int p1), .val (.int ((p1 &&& (2147483647 : Int32)) % (7 : Int32))), .val (.ref w8), .val .null, .unset] [.null, (.ref w22)])) _
    refine st29.trans ?_
    show Steps p.tables e below (T29.setTop (mkF m 113 #[.val (.int p1), .val (.int ((p1 &&& (2147483647 : Int32)) % (7 : Int32))), .val (.ref w8), .val .null, .unset] [.null])) _
    refine X29.checkcastNull hx (g := (mkF m 113 #[.val (.int p1), .val (.int ((p1 &&& (2147483647 : Int32)) % (7 : Int32))), .val (.ref w8), .val .null, .unset] [.null])) rfl rfl (hb hby at_113) _ ?_
    show Steps p.tables e below (T29.setTop (mkF m 116 #[.val (.int p1), .val (.int ((p1 &&& (2147483647 : Int32)) % (7 : Int32))), .val (.ref w8), .val .null, .unset] [.null])) _
    refine XS.astore X29.here hx rfl (hb hby at_116) rfl rfl (l' := #[.val (.int p1), .val (.int ((p1 &&& (2147483647 : Int32)) % (7 : Int32))), .val (.ref w8), .val .null, .val .null]) rfl ?_
    show Steps p.tables e below (T29.setTop (mkF m 118 #[.val (.int p1), .val (.int ((p1 &&& (2147483647 : Int32)) % (7 : Int32))), .val (.ref w8), .val .null, .val .null] [])) _
    refine XS.aload X29.here hx rfl (hb hby at_118) rfl rfl ?_
    show Steps p.tables e below (T29.setTop (mkF m 120 #[.val (.int p1), .val (.int ((p1 &&& (2147483647 : Int32)) % (7 : Int32))), .val (.ref w8), .val .null, .val .null] [.null])) _
    refine XS.aloadN X29.here hx rfl (hb hby at_120) rfl rfl ?_
    show Steps p.tables e below (T29.setTop (mkF m 121 #[.val (.int p1), .val (.int ((p1 &&& (2147483647 : Int32)) % (7 : Int32))), .val (.ref w8), .val .null, .val .null] [.null, .null])) _
    refine Jvm.RoadKit.acmp (g := (mkF m 121 #[.val (.int p1), .val (.int ((p1 &&& (2147483647 : Int32)) % (7 : Int32))), .val (.ref w8), .val .null, .val .null] [.null, .null])) X29 hx rfl rfl rfl (pc0 := 121) (pc' := 126) (same := true) rfl (hb hby at_121) rfl (decide_eq_true rfl) (by decide) (by decide) ?_
    show Steps p.tables e below (T29.setTop (mkF m 126 #[.val (.int p1), .val (.int ((p1 &&& (2147483647 : Int32)) % (7 : Int32))), .val (.ref w8), .val .null, .val .null] [])) _
    refine XS.aload X29.here hx rfl (hb hby at_126) rfl rfl ?_
    show Steps p.tables e below (T29.setTop (mkF m 128 #[.val (.int p1), .val (.int ((p1 &&& (2147483647 : Int32)) % (7 : Int32))), .val (.ref w8), .val .null, .val .null] [.null])) _
    refine XS.ifnonnullNo X29.here hx rfl (hb hby at_128) rfl ?_
    show Steps p.tables e below (T29.setTop (mkF m 131 #[.val (.int p1), .val (.int ((p1 &&& (2147483647 : Int32)) % (7 : Int32))), .val (.ref w8), .val .null, .val .null] [])) _
    refine XS.iconst X29.here hx rfl (hb hby at_131) ?_
    show Steps p.tables e below (T29.setTop (mkF m 132 #[.val (.int p1), .val (.int ((p1 &&& (2147483647 : Int32)) % (7 : Int32))), .val (.ref w8), .val .null, .val .null] [(.int (1 : Int32))])) _
    exact retN X29 hx (t := .boolean) Bd.returns (by simp) (hb hby at_132) hr
  · exact ⟨rfl, N29⟩
set_option maxRecDepth 65536 in
set_option maxHeartbeats 40000000 in
theorem rm0_7 (l : Launch) (Z : State) (a0 : Array Value) (hw : ∀ d ∈ tables_1, d.before a0 Z = true) (ws : List Jvm.Cond) (p1 : Int32) (w8 : Addr) (w10 : Addr) (k_w10 : ClassId) (w11 : Addr) (w12 : Addr) (w13 : Addr) (w14 : Addr) (w15 : Addr) (w16 : Addr) (w17 : Addr) (w18 : Addr) (w19 : Addr) (w20 : Addr) (w21 : Addr) (w22 : Addr) (h0 : Heap) (n0 : Nat) (Z0 : n0 ≤ h0.size) (P2 : ¬ (((p1 &&& (2147483647 : Int32)) % (7 : Int32)) = (0 : Int32))) (P3 : ¬ (((p1 &&& (2147483647 : Int32)) % (7 : Int32)) = (1 : Int32))) (P4 : ¬ (((p1 &&& (2147483647 : Int32)) % (7 : Int32)) = (2 : Int32))) (P5 : ¬ (((p1 &&& (2147483647 : Int32)) % (7 : Int32)) = (3 : Int32))) (P6 : ¬ (((p1 &&& (2147483647 : Int32)) % (7 : Int32)) = (4 : Int32))) (P7 : ¬ (((p1 &&& (2147483647 : Int32)) % (7 : Int32)) = (5 : Int32))) (S_GRINDABILITY : Sta Z h0 "com/example/tipple_ledger/tippleledger/terms/Characteristic" "GRINDABILITY" "Lcom/example/tipple_ledger/tippleledger/terms/Characteristic;" (.ref w8)) (V_w10 : Arv Z h0 w10 k_w10 (.object "com/example/tipple_ledger/tippleledger/terms/WeightedAverage") (7 : Int32) [(.ref w11), (.ref w12), (.ref w13), (.ref w14), (.ref w15), (.ref w16), (.ref w17)] .null) (S__VALUES : Sta Z h0 "com/example/tipple_ledger/tippleledger/terms/WeightedAverage" "$VALUES" "[Lcom/example/tipple_ledger/tippleledger/terms/WeightedAverage;" (.ref w10)) (E_w10 : Exa Z h0 w10 "[Lcom/example/tipple_ledger/tippleledger/terms/WeightedAverage;") (F_characteristic_w11 : Fld Z h0 w11 "com/example/tipple_ledger/tippleledger/terms/WeightedAverage" "characteristic" "Lcom/example/tipple_ledger/tippleledger/terms/Characteristic;" (.ref w18)) (P23 : ¬ (w18 = w8)) (F_characteristic_w12 : Fld Z h0 w12 "com/example/tipple_ledger/tippleledger/terms/WeightedAverage" "characteristic" "Lcom/example/tipple_ledger/tippleledger/terms/Characteristic;" (.ref w19)) (P24 : ¬ (w19 = w8)) (F_characteristic_w13 : Fld Z h0 w13 "com/example/tipple_ledger/tippleledger/terms/WeightedAverage" "characteristic" "Lcom/example/tipple_ledger/tippleledger/terms/Characteristic;" (.ref w20)) (P25 : ¬ (w20 = w8)) (F_characteristic_w14 : Fld Z h0 w14 "com/example/tipple_ledger/tippleledger/terms/WeightedAverage" "characteristic" "Lcom/example/tipple_ledger/tippleledger/terms/Characteristic;" (.ref w20)) (F_characteristic_w15 : Fld Z h0 w15 "com/example/tipple_ledger/tippleledger/terms/WeightedAverage" "characteristic" "Lcom/example/tipple_ledger/tippleledger/terms/Characteristic;" (.ref w19)) (F_characteristic_w16 : Fld Z h0 w16 "com/example/tipple_ledger/tippleledger/terms/WeightedAverage" "characteristic" "Lcom/example/tipple_ledger/tippleledger/terms/Characteristic;" (.ref w21)) (P26 : ¬ (w21 = w8)) (F_characteristic_w17 : Fld Z h0 w17 "com/example/tipple_ledger/tippleledger/terms/WeightedAverage" "characteristic" "Lcom/example/tipple_ledger/tippleledger/terms/Characteristic;" (.ref w21)) (S_EMPTY : Sta Z h0 "java/util/Optional" "EMPTY" "Ljava/util/Optional;" (.ref w22)) (F_value_w22 : Fld Z h0 w22 "java/util/Optional" "value" "Ljava/lang/Object;" .null) (E_w22 : Exa Z h0 w22 "java/util/Optional") :
    MetFree l x (head1 (Jvm.Cond.code x code maxLocals ret :: ws) room_1) (fun a U => a = #[(.int p1)] ∧ Z.Warmed39 U.vm ∧ U.heap = h0) (fun _ _ _ _ _ => True) (fun _ U o U' => ∃ v L, o = .returned v ∧ own_QT n0 v L ∧ FrameEnd U o U' L room_1.cells room_1.slots) := by
  refine MetFree.of_bodySF (plainFor_of_name pn_0) hisR ?_
  intro p e s m args below meth c s₁ Bd hml0 hP hK
  obtain ⟨rfl, hZ, hh⟩ := hP
  have hx := Bd.exec
  have hby := Bd.bytes
  have hml : c.maxLocals = 5 := hml0
  have hown : s.vm.findClass "com/example/tipple_ledger/tippleledger/terms/WeightedAverageByTonsPinLaw" = some m.cls := findClass_of_methodNamed Bd.named
  have hnm := (name_of_methodNamed Bd.named Bd.method).1
  have X0 : Stand p l e room_1 s m #[(.int p1)] below meth c s₁ [] 0 0 := Stand.of_body Bd
  have e0 : s₁.heap = h0 := by rw [← hh, Bd.state]; rfl
  have N0 := Fr.nil n0
  have pre0 : ∀ t, Steps p.tables e below (s₁.setTop (mkF m 0 #[.val (.int p1), .unset, .unset, .unset, .unset] [])) t → Steps p.tables e below (s₁.setTop (entryFrame m #[(.int p1)] maxLocals)) t := fun t k => castTop (ef_0_I m p1) k
  obtain ⟨T9, X9, e9, st9⟩ := getS2 X0 hx hZ hown (host := "") (Or.inl (hw _ (List.mem_of_getElem? (i := 82) rfl))) Via.refl e0 S_GRINDABILITY (g := (mkF m 99 #[.val (.int p1), .val (.int ((p1 &&& (2147483647 : Int32)) % (7 : Int32))), .unset, .unset, .unset] [])) rfl (hb hby at_99)
  obtain ⟨_, _, ⟨T27, L27, k27, n27⟩, -, X27, ⟨Lc27, hQ27, l27, y27, z27⟩, st27⟩ := Jvm.LawKit.callS X9 hx (y := (⟨"com/example/tipple_ledger/tippleledger/terms/WeightedAverage", "byTons", "(Lcom/example/tipple_ledger/tippleledger/terms/Characteristic;)Ljava/util/Optional;"⟩ : MethodName)) hown (mvT hZ (hw _ (List.mem_of_getElem? (i := 7) rfl))) (mvT hZ (hw _ (List.mem_of_getElem? (i := 8) rfl))) (mvT hZ (hw _ (List.mem_of_getElem? (i := 5) rfl))) (mvT hZ (hw _ (List.mem_of_getElem? (i := 9) rfl))) (by decide) (backOf (W := 0) (rm1_4 l Z a0 hw [] w8 w10 k_w10 w11 w12 w13 w14 w15 w16 w17 w18 w19 w20 w21 w22 h0 n0 Z0 V_w10 S__VALUES E_w10 F_characteristic_w11 P23 F_characteristic_w12 P24 F_characteristic_w13 P25 F_characteristic_w14 F_characteristic_w15 F_characteristic_w16 P26 F_characteristic_w17 S_EMPTY) hZ (hw _ (List.mem_of_getElem? (i := 9) rfl)) (hw _ (List.mem_of_getElem? (i := 5) rfl)) (by decide) (by decide)) (g := (mkF m 106 #[.val (.int p1), .val (.int ((p1 &&& (2147483647 : Int32)) % (7 : Int32))), .val (.ref w8), .val .null, .unset] [(.ref w8)])) rfl (by rw [hml]; rfl) (argsL := [(.ref w8)]) (rest := []) (lenOf pd_4 rfl) rfl (by show 2 * 0 + _ ≤ _; exact Nat.le_of_eq rfl) (hb hby at_106) (fun _ _ => ⟨rfl, e9, (by decide : 0 + 1 ≤ _), (by decide : 0 + 7 ≤ _)⟩)
  dsimp only [Pt.U, Pt.locs, Pt.cells, Pt.slots] at X27 l27 y27 z27 st27 hQ27
  subst l27 y27 z27
  obtain ⟨rfl, Nq27, K27⟩ := hQ27
  have N27 := Fr.app N0 Nq27
  have K0_27 : Keep h0 T27.heap [] := (Keep.refl h0 []).trans K27 all0
  have Z27 : n0 ≤ T27.heap.size := Nat.le_trans Z0 K27.1
  have f28 := (F_value_w22.keep K27 nin0)
  have f30 := (E_w22.keep K27)
  obtain ⟨cq29, kq29, q29a, q29b, q29c⟩ := isOf hZ rfl f30
  obtain ⟨_, _, ⟨T29, L29, k29, n29⟩, -, X29, ⟨Lc29, hQ29, l29, y29, z29⟩, st29⟩ := X27.virtualBack hx (y := (⟨"java/util/Optional", "orElse", "(Ljava/lang/Object;)Ljava/lang/Object;"⟩ : MethodName)) (z := (⟨"java/util/Optional", "orElse", "(Ljava/lang/Object;)Ljava/lang/Object;"⟩ : MethodName)) hown (mvT hZ (hw _ (List.mem_of_getElem? (i := 54) rfl))) (mvT hZ (hw _ (List.mem_of_getElem? (i := 55) rfl))) (notFace_of_selects (args := #[]) (mvT hZ (hw _ (List.mem_of_getElem? (i := 57) rfl)))) (mvT hZ (hw _ (List.mem_of_getElem? (i := 57) rfl))) (mvT hZ (hw _ (List.mem_of_getElem? (i := 56) rfl))) (by decide) (backOf (W := 0) (rm7_2 l Z a0 hw [] w22 T27.heap n0 Z27 f28) hZ (hw _ (List.mem_of_getElem? (i := 58) rfl)) (hw _ (List.mem_of_getElem? (i := 37) rfl)) (by decide) (by decide)) q29a q29c (g := (mkF m 110 #[.val (.int p1), .val (.int ((p1 &&& (2147483647 : Int32)) % (7 : Int32))), .val (.ref w8), .val .null, .unset] [.null, (.ref w22)])) rfl (by rw [hml]; rfl) (Steps.refl _) (argsL := [.null]) (rest := []) (lenOf pd_1 rfl) rfl (by show 2 * 0 + _ ≤ _; exact Nat.le_of_eq rfl) (hb hby at_110) (fun _ _ => ⟨rfl, rfl, (by decide : 1 + 0 ≤ _), (by decide : 7 + 0 ≤ _)⟩)
  dsimp only [Pt.U, Pt.locs, Pt.cells, Pt.slots] at X29 l29 y29 z29 st29 hQ29
  subst l29 y29 z29
  obtain ⟨rfl, Nq29, e29⟩ := hQ29
  have N29 := Fr.app N27 Nq29
  obtain ⟨fs, hr, hrun, hended, hW, hsame⟩ := X29.leave (v := some (.int (1 : Int32))) (fun h => by rw [Bd.returns] at h; cases h)
  refine ⟨_, _, pre0 _ ?_, hrun, hended, _, _, rfl, ?_, ⟨_, rfl⟩, hW, hsame.mono (by decide) (by decide)⟩
  · show Steps p.tables e below (s₁.setTop (mkF m 0 #[.val (.int p1), .unset, .unset, .unset, .unset] [])) _
    refine XS.iloadN X0.here hx rfl (hb hby at_0) rfl ?_
    show Steps p.tables e below (s₁.setTop (mkF m 1 #[.val (.int p1), .unset, .unset, .unset, .unset] [(.int p1)])) _
    refine X0.ldcInt hx hown (mvT hZ (hw _ (List.mem_of_getElem? (i := 0) rfl))) (g := (mkF m 1 #[.val (.int p1), .unset, .unset, .unset, .unset] [(.int p1)])) rfl (hb hby at_1) _ ?_
    show Steps p.tables e below (s₁.setTop (mkF m 3 #[.val (.int p1), .unset, .unset, .unset, .unset] [(.int (2147483647 : Int32)), (.int p1)])) _
    refine XS.iand X0.here hx rfl (hb hby at_3) rfl ?_
    show Steps p.tables e below (s₁.setTop (mkF m 4 #[.val (.int p1), .unset, .unset, .unset, .unset] [(.int (p1 &&& (2147483647 : Int32)))])) _
    refine XS.bipush X0.here hx rfl (hb hby at_4) ?_
    show Steps p.tables e below (s₁.setTop (mkF m 6 #[.val (.int p1), .unset, .unset, .unset, .unset] [(.int (7 : Int32)), (.int (p1 &&& (2147483647 : Int32)))])) _
    refine iremM X0 hx rfl (hb hby at_6) rfl (by decide : ¬ ((7 : Int32) = (0 : Int32))) ?_
    show Steps p.tables e below (s₁.setTop (mkF m 7 #[.val (.int p1), .unset, .unset, .unset, .unset] [(.int ((p1 &&& (2147483647 : Int32)) % (7 : Int32)))])) _
    refine XS.istoreN X0.here hx rfl (hb hby at_7) rfl (l' := #[.val (.int p1), .val (.int ((p1 &&& (2147483647 : Int32)) % (7 : Int32))), .unset, .unset, .unset]) rfl ?_
    show Steps p.tables e below (s₁.setTop (mkF m 8 #[.val (.int p1), .val (.int ((p1 &&& (2147483647 : Int32)) % (7 : Int32))), .unset, .unset, .unset] [])) _
    refine XS.iloadN X0.here hx rfl (hb hby at_8) rfl ?_
    show Steps p.tables e below (s₁.setTop (mkF m 9 #[.val (.int p1), .val (.int ((p1 &&& (2147483647 : Int32)) % (7 : Int32))), .unset, .unset, .unset] [(.int ((p1 &&& (2147483647 : Int32)) % (7 : Int32)))])) _
    refine XS.ifYes X0.here hx rfl (pc0 := 9) (pc' := 23) rfl (hb hby at_9) rfl ((if0 _ _).trans (feq P2).2) (by decide) (by decide) ?_
    show Steps p.tables e below (s₁.setTop (mkF m 23 #[.val (.int p1), .val (.int ((p1 &&& (2147483647 : Int32)) % (7 : Int32))), .unset, .unset, .unset] [])) _
    refine XS.iloadN X0.here hx rfl (hb hby at_23) rfl ?_
    show Steps p.tables e below (s₁.setTop (mkF m 24 #[.val (.int p1), .val (.int ((p1 &&& (2147483647 : Int32)) % (7 : Int32))), .unset, .unset, .unset] [(.int ((p1 &&& (2147483647 : Int32)) % (7 : Int32)))])) _
    refine XS.iconst X0.here hx rfl (hb hby at_24) ?_
    show Steps p.tables e below (s₁.setTop (mkF m 25 #[.val (.int p1), .val (.int ((p1 &&& (2147483647 : Int32)) % (7 : Int32))), .unset, .unset, .unset] [(.int (1 : Int32)), (.int ((p1 &&& (2147483647 : Int32)) % (7 : Int32)))])) _
    refine XS.icmpYes X0.here hx rfl (pc0 := 25) (pc' := 39) rfl (hb hby at_25) rfl (feq P3).2 (by decide) (by decide) ?_
    show Steps p.tables e below (s₁.setTop (mkF m 39 #[.val (.int p1), .val (.int ((p1 &&& (2147483647 : Int32)) % (7 : Int32))), .unset, .unset, .unset] [])) _
    refine XS.iloadN X0.here hx rfl (hb hby at_39) rfl ?_
    show Steps p.tables e below (s₁.setTop (mkF m 40 #[.val (.int p1), .val (.int ((p1 &&& (2147483647 : Int32)) % (7 : Int32))), .unset, .unset, .unset] [(.int ((p1 &&& (2147483647 : Int32)) % (7 : Int32)))])) _
    refine XS.iconst X0.here hx rfl (hb hby at_40) ?_
    show Steps p.tables e below (s₁.setTop (mkF m 41 #[.val (.int p1), .val (.int ((p1 &&& (2147483647 : Int32)) % (7 : Int32))), .unset, .unset, .unset] [(.int (2 : Int32)), (.int ((p1 &&& (2147483647 : Int32)) % (7 : Int32)))])) _
    refine XS.icmpYes X0.here hx rfl (pc0 := 41) (pc' := 55) rfl (hb hby at_41) rfl (feq P4).2 (by decide) (by decide) ?_
    show Steps p.tables e below (s₁.setTop (mkF m 55 #[.val (.int p1), .val (.int ((p1 &&& (2147483647 : Int32)) % (7 : Int32))), .unset, .unset, .unset] [])) _
    refine XS.iloadN X0.here hx rfl (hb hby at_55) rfl ?_
    show Steps p.tables e below (s₁.setTop (mkF m 56 #[.val (.int p1), .val (.int ((p1 &&& (2147483647 : Int32)) % (7 : Int32))), .unset, .unset, .unset] [(.int ((p1 &&& (2147483647 : Int32)) % (7 : Int32)))])) _
    refine XS.iconst X0.here hx rfl (hb hby at_56) ?_
    show Steps p.tables e below (s₁.setTop (mkF m 57 #[.val (.int p1), .val (.int ((p1 &&& (2147483647 : Int32)) % (7 : Int32))), .unset, .unset, .unset] [(.int (3 : Int32)), (.int ((p1 &&& (2147483647 : Int32)) % (7 : Int32)))])) _
    refine XS.icmpYes X0.here hx rfl (pc0 := 57) (pc' := 69) rfl (hb hby at_57) rfl (feq P5).2 (by decide) (by decide) ?_
    show Steps p.tables e below (s₁.setTop (mkF m 69 #[.val (.int p1), .val (.int ((p1 &&& (2147483647 : Int32)) % (7 : Int32))), .unset, .unset, .unset] [])) _
    refine XS.iloadN X0.here hx rfl (hb hby at_69) rfl ?_
    show Steps p.tables e below (s₁.setTop (mkF m 70 #[.val (.int p1), .val (.int ((p1 &&& (2147483647 : Int32)) % (7 : Int32))), .unset, .unset, .unset] [(.int ((p1 &&& (2147483647 : Int32)) % (7 : Int32)))])) _
    refine XS.iconst X0.here hx rfl (hb hby at_70) ?_
    show Steps p.tables e below (s₁.setTop (mkF m 71 #[.val (.int p1), .val (.int ((p1 &&& (2147483647 : Int32)) % (7 : Int32))), .unset, .unset, .unset] [(.int (4 : Int32)), (.int ((p1 &&& (2147483647 : Int32)) % (7 : Int32)))])) _
    refine XS.icmpYes X0.here hx rfl (pc0 := 71) (pc' := 85) rfl (hb hby at_71) rfl (feq P6).2 (by decide) (by decide) ?_
    show Steps p.tables e below (s₁.setTop (mkF m 85 #[.val (.int p1), .val (.int ((p1 &&& (2147483647 : Int32)) % (7 : Int32))), .unset, .unset, .unset] [])) _
    refine XS.iloadN X0.here hx rfl (hb hby at_85) rfl ?_
    show Steps p.tables e below (s₁.setTop (mkF m 86 #[.val (.int p1), .val (.int ((p1 &&& (2147483647 : Int32)) % (7 : Int32))), .unset, .unset, .unset] [(.int ((p1 &&& (2147483647 : Int32)) % (7 : Int32)))])) _
    refine XS.iconst X0.here hx rfl (hb hby at_86) ?_
    show Steps p.tables e below (s₁.setTop (mkF m 87 #[.val (.int p1), .val (.int ((p1 &&& (2147483647 : Int32)) % (7 : Int32))), .unset, .unset, .unset] [(.int (5 : Int32)), (.int ((p1 &&& (2147483647 : Int32)) % (7 : Int32)))])) _
    refine XS.icmpYes X0.here hx rfl (pc0 := 87) (pc' := 99) rfl (hb hby at_87) rfl (feq P7).2 (by decide) (by decide) ?_
    show Steps p.tables e below (s₁.setTop (mkF m 99 #[.val (.int p1), .val (.int ((p1 &&& (2147483647 : Int32)) % (7 : Int32))), .unset, .unset, .unset] [])) _
    refine st9 _ ?_
    show Steps p.tables e below (T9.setTop (mkF m 102 #[.val (.int p1), .val (.int ((p1 &&& (2147483647 : Int32)) % (7 : Int32))), .unset, .unset, .unset] [(.ref w8)])) _
    refine XS.astoreN X9.here hx rfl (hb hby at_102) rfl rfl (l' := #[.val (.int p1), .val (.int ((p1 &&& (2147483647 : Int32)) % (7 : Int32))), .val (.ref w8), .unset, .unset]) rfl ?_
    show Steps p.tables e below (T9.setTop (mkF m 103 #[.val (.int p1), .val (.int ((p1 &&& (2147483647 : Int32)) % (7 : Int32))), .val (.ref w8), .unset, .unset] [])) _
    refine XS.aconstNull X9.here hx rfl (hb hby at_103) ?_
    show Steps p.tables e below (T9.setTop (mkF m 104 #[.val (.int p1), .val (.int ((p1 &&& (2147483647 : Int32)) % (7 : Int32))), .val (.ref w8), .unset, .unset] [.null])) _
    refine XS.astoreN X9.here hx rfl (hb hby at_104) rfl rfl (l' := #[.val (.int p1), .val (.int ((p1 &&& (2147483647 : Int32)) % (7 : Int32))), .val (.ref w8), .val .null, .unset]) rfl ?_
    show Steps p.tables e below (T9.setTop (mkF m 105 #[.val (.int p1), .val (.int ((p1 &&& (2147483647 : Int32)) % (7 : Int32))), .val (.ref w8), .val .null, .unset] [])) _
    refine XS.aloadN X9.here hx rfl (hb hby at_105) rfl rfl ?_
    show Steps p.tables e below (T9.setTop (mkF m 106 #[.val (.int p1), .val (.int ((p1 &&& (2147483647 : Int32)) % (7 : Int32))), .val (.ref w8), .val .null, .unset] [(.ref w8)])) _
    refine st27 _ ?_
    show Steps p.tables e below (T27.setTop (mkF m 109 #[.val (.int p1), .val (.int ((p1 &&& (2147483647 : Int32)) % (7 : Int32))), .val (.ref w8), .val .null, .unset] [(.ref w22)])) _
    refine XS.aconstNull X27.here hx rfl (hb hby at_109) ?_
    show Steps p.tables e below (T27.setTop (mkF m 110 #[.val (.int p1), .val (.int ((p1 &&& (2147483647 : Int32)) % (7 : Int32))), .val (.ref w8), .val .null, .unset] [.null, (.ref w22)])) _
    refine st29.trans ?_
    show Steps p.tables e below (T29.setTop (mkF m 113 #[.val (.int p1), .val (.int ((p1 &&& (2147483647 : Int32)) % (7 : Int32))), .val (.ref w8), .val .null, .unset] [.null])) _
    refine X29.checkcastNull hx (g := (mkF m 113 #[.val (.int p1), .val (.int ((p1 &&& (2147483647 : Int32)) % (7 : Int32))), .val (.ref w8), .val .null, .unset] [.null])) rfl rfl (hb hby at_113) _ ?_
    show Steps p.tables e below (T29.setTop (mkF m 116 #[.val (.int p1), .val (.int ((p1 &&& (2147483647 : Int32)) % (7 : Int32))), .val (.ref w8), .val .null, .unset] [.null])) _
    refine XS.astore X29.here hx rfl (hb hby at_116) rfl rfl (l' := #[.val (.int p1), .val (.int ((p1 &&& (2147483647 : Int32)) % (7 : Int32))), .val (.ref w8), .val .null, .val .null]) rfl ?_
    show Steps p.tables e below (T29.setTop (mkF m 118 #[.val (.int p1), .val (.int ((p1 &&& (2147483647 : Int32)) % (7 : Int32))), .val (.ref w8), .val .null, .val .null] [])) _
    refine XS.aload X29.here hx rfl (hb hby at_118) rfl rfl ?_
    show Steps p.tables e below (T29.setTop (mkF m 120 #[.val (.int p1), .val (.int ((p1 &&& (2147483647 : Int32)) % (7 : Int32))), .val (.ref w8), .val .null, .val .null] [.null])) _
    refine XS.aloadN X29.here hx rfl (hb hby at_120) rfl rfl ?_
    show Steps p.tables e below (T29.setTop (mkF m 121 #[.val (.int p1), .val (.int ((p1 &&& (2147483647 : Int32)) % (7 : Int32))), .val (.ref w8), .val .null, .val .null] [.null, .null])) _
    refine Jvm.RoadKit.acmp (g := (mkF m 121 #[.val (.int p1), .val (.int ((p1 &&& (2147483647 : Int32)) % (7 : Int32))), .val (.ref w8), .val .null, .val .null] [.null, .null])) X29 hx rfl rfl rfl (pc0 := 121) (pc' := 126) (same := true) rfl (hb hby at_121) rfl (decide_eq_true rfl) (by decide) (by decide) ?_
    show Steps p.tables e below (T29.setTop (mkF m 126 #[.val (.int p1), .val (.int ((p1 &&& (2147483647 : Int32)) % (7 : Int32))), .val (.ref w8), .val .null, .val .null] [])) _
    refine XS.aload X29.here hx rfl (hb hby at_126) rfl rfl ?_
    show Steps p.tables e below (T29.setTop (mkF m 128 #[.val (.int p1), .val (.int ((p1 &&& (2147483647 : Int32)) % (7 : Int32))), .val (.ref w8), .val .null, .val .null] [.null])) _
    refine XS.ifnonnullNo X29.here hx rfl (hb hby at_128) rfl ?_
    show Steps p.tables e below (T29.setTop (mkF m 131 #[.val (.int p1), .val (.int ((p1 &&& (2147483647 : Int32)) % (7 : Int32))), .val (.ref w8), .val .null, .val .null] [])) _
    refine XS.iconst X29.here hx rfl (hb hby at_131) ?_
    show Steps p.tables e below (T29.setTop (mkF m 132 #[.val (.int p1), .val (.int ((p1 &&& (2147483647 : Int32)) % (7 : Int32))), .val (.ref w8), .val .null, .val .null] [(.int (1 : Int32))])) _
    exact retN X29 hx (t := .boolean) Bd.returns (by simp) (hb hby at_132) hr
  · exact ⟨rfl, N29⟩
set_option maxRecDepth 65536 in
set_option maxHeartbeats 40000000 in
theorem comes_1 {Post : Tables → Env → Array Value → State → Outcome → State → Prop} (hpost : ∀ tb e args s v u, (limb_1_1.after args s (.returned v) u = true ∧ limb_1_2.after args s (.returned v) u = true ∧ True) → FrameEnd s (.returned v) u (Jvm.fieldLocs frame_1_writes args s ++ Jvm.arrayLocs frame_1_arrays args s ++ Jvm.staticLocs frame_1_statics s) 16 128 → Post tb e args s (.returned v) u) :
    ArmFor flags0 classFile x code maxLocals ret World_1 tables_1 room_1 Calls_1 rest_1 Pre_1 Post := by
  intro l hfl _ _ p e ha hc hk s m args below hf hA hF happ hP
  obtain ⟨hcalls, hrest, hpre⟩ := hP
  obtain ⟨-, -, -, hnamed, -, -, -, hat⟩ := (Spec.applies_iff hf).mp happ
  obtain ⟨hg, hn⟩ := and_e (Cond.before_iff.mp (show (Jvm.Cond.and given_1 narrow_1).before args s = true from hpre))
  obtain ⟨g0, gr0⟩ := and_e hg
  obtain ⟨w0, rfl⟩ : ∃ w0 : Value, args = #[w0] := by
    have hs : args.size = 1 := by simpa [Cond.value, given_1] using g0
    obtain ⟨L⟩ := args
    match L, hs with
    | [w0], _ => exact ⟨w0, rfl⟩
  have hw := fun d (hd : d ∈ tables_1) => atoms_spec (ws := Jvm.Cond.code x code maxLocals ret :: tables_1) hat d (List.mem_cons_of_mem _ hd)
  have hfit : Fit s := fun {y c} hc i hi => by
    obtain ⟨ha, rfl⟩ := Array.getElem?_eq_some_iff.mp hc
    have q := List.all_eq_true.mp ((Array.all_eq_true_iff_forall_mem.mp hF) _ (Array.getElem_mem ha)) i (List.mem_range.mpr hi)
    simpa [Array.getElem?_eq_getElem hi] using q
  obtain ⟨hsets, hown0⟩ := atoms_of _ (rest_1_c_eq ▸ (show rest_1_c.before _ s = true from hrest))
  obtain ⟨i0, ei0⟩ := is_v gr0
  obtain rfl : w0 = (.int i0) := Option.some.inj ei0
  obtain ⟨c0, cr0⟩ := and_e hn
  obtain ⟨c1, cr1⟩ := and_e cr0
  obtain ⟨c2, cr2⟩ := and_e cr1
  obtain ⟨c3, cr3⟩ := and_e cr2
  obtain ⟨c4, cr4⟩ := and_e cr3
  obtain ⟨c5, cr5⟩ := and_e cr4
  obtain ⟨c6, cr6⟩ := and_e cr5
  obtain ⟨c7, cr7⟩ := and_e cr6
  obtain ⟨c8, cr8⟩ := and_e cr7
  obtain ⟨c9, cr9⟩ := and_e cr8
  obtain ⟨c10, cr10⟩ := and_e cr9
  obtain ⟨c11, cr11⟩ := and_e cr10
  obtain ⟨c12, cr12⟩ := and_e cr11
  obtain ⟨c13, cr13⟩ := and_e cr12
  obtain ⟨c14, cr14⟩ := and_e cr13
  obtain ⟨c15, cr15⟩ := and_e cr14
  obtain ⟨c16, cr16⟩ := and_e cr15
  obtain ⟨c17, cr17⟩ := and_e cr16
  obtain ⟨c18, cr18⟩ := and_e cr17
  obtain ⟨c19, cr19⟩ := and_e cr18
  obtain ⟨c20, cr20⟩ := and_e cr19
  obtain ⟨c21, cr21⟩ := and_e cr20
  obtain ⟨c22, cr22⟩ := and_e cr21
  obtain ⟨c23, cr23⟩ := and_e cr22
  obtain ⟨c24, cr24⟩ := and_e cr23
  obtain ⟨c25, cr25⟩ := and_e cr24
  obtain ⟨c26, cr26⟩ := and_e cr25
  obtain ⟨c27, cr27⟩ := and_e cr26
  obtain ⟨c28, cr28⟩ := and_e cr27
  obtain ⟨c29, cr29⟩ := and_e cr28
  obtain ⟨c30, cr30⟩ := and_e cr29
  obtain ⟨c31, cr31⟩ := and_e cr30
  obtain ⟨c32, cr32⟩ := and_e cr31
  obtain ⟨c33, cr33⟩ := and_e cr32
  obtain ⟨c34, cr34⟩ := and_e cr33
  obtain ⟨c35, cr35⟩ := and_e cr34
  obtain ⟨c36, cr36⟩ := and_e cr35
  obtain ⟨c37, cr37⟩ := and_e cr36
  obtain ⟨c38, cr38⟩ := and_e cr37
  obtain ⟨c39, cr39⟩ := and_e cr38
  obtain ⟨c40, cr40⟩ := and_e cr39
  obtain ⟨c41, cr41⟩ := and_e cr40
  obtain ⟨c42, cr42⟩ := and_e cr41
  obtain ⟨c43, cr43⟩ := and_e cr42
  obtain ⟨x_HEATING_VALUE_0, ev_HEATING_VALUE_0⟩ := exa_v c0
  have S_HEATING_VALUE_0 := Sta.start ev_HEATING_VALUE_0 (Or.inr ⟨(hw _ (List.mem_of_getElem? (i := 2) rfl)), (hw _ (List.mem_of_getElem? (i := 3) rfl))⟩)
  have E_HEATING_VALUE_0 := Exa.start ev_HEATING_VALUE_0 c0
  obtain ⟨x_HEATING_VALUE_1, ev_HEATING_VALUE_1⟩ := exa_v c1
  have S_HEATING_VALUE_1 := Sta.start ev_HEATING_VALUE_1 (Or.inr ⟨(hw _ (List.mem_of_getElem? (i := 5) rfl)), (hw _ (List.mem_of_getElem? (i := 6) rfl))⟩)
  have E_HEATING_VALUE_1 := Exa.start ev_HEATING_VALUE_1 c1
  obtain ⟨x__VALUES_2, ev__VALUES_2⟩ := exa_v c3
  have S__VALUES_2 := Sta.start ev__VALUES_2 (Or.inl (hw _ (List.mem_of_getElem? (i := 28) rfl)))
  have E__VALUES_2 := Exa.start ev__VALUES_2 c3
  obtain ⟨x_MOISTURE_PERCENT_3, ev_MOISTURE_PERCENT_3⟩ := exa_v c6
  have S_MOISTURE_PERCENT_3 := Sta.start ev_MOISTURE_PERCENT_3 (Or.inr ⟨(hw _ (List.mem_of_getElem? (i := 5) rfl)), (hw _ (List.mem_of_getElem? (i := 22) rfl))⟩)
  have E_MOISTURE_PERCENT_3 := Exa.start ev_MOISTURE_PERCENT_3 c6
  obtain ⟨x_ASH_PERCENT_4, ev_ASH_PERCENT_4⟩ := exa_v c8
  have S_ASH_PERCENT_4 := Sta.start ev_ASH_PERCENT_4 (Or.inr ⟨(hw _ (List.mem_of_getElem? (i := 5) rfl)), (hw _ (List.mem_of_getElem? (i := 23) rfl))⟩)
  have E_ASH_PERCENT_4 := Exa.start ev_ASH_PERCENT_4 c8
  obtain ⟨x_ASH_PER_MMBTU_5, ev_ASH_PER_MMBTU_5⟩ := exa_v c10
  have S_ASH_PER_MMBTU_5 := Sta.start ev_ASH_PER_MMBTU_5 (Or.inr ⟨(hw _ (List.mem_of_getElem? (i := 5) rfl)), (hw _ (List.mem_of_getElem? (i := 24) rfl))⟩)
  have E_ASH_PER_MMBTU_5 := Exa.start ev_ASH_PER_MMBTU_5 c10
  obtain ⟨x_MOISTURE_PER_MMBTU_6, ev_MOISTURE_PER_MMBTU_6⟩ := exa_v c12
  have S_MOISTURE_PER_MMBTU_6 := Sta.start ev_MOISTURE_PER_MMBTU_6 (Or.inr ⟨(hw _ (List.mem_of_getElem? (i := 5) rfl)), (hw _ (List.mem_of_getElem? (i := 25) rfl))⟩)
  have E_MOISTURE_PER_MMBTU_6 := Exa.start ev_MOISTURE_PER_MMBTU_6 c12
  obtain ⟨x_SULFUR_PERCENT_7, ev_SULFUR_PERCENT_7⟩ := exa_v c14
  have S_SULFUR_PERCENT_7 := Sta.start ev_SULFUR_PERCENT_7 (Or.inr ⟨(hw _ (List.mem_of_getElem? (i := 5) rfl)), (hw _ (List.mem_of_getElem? (i := 26) rfl))⟩)
  have E_SULFUR_PERCENT_7 := Exa.start ev_SULFUR_PERCENT_7 c14
  obtain ⟨x_SULFUR_PER_MMBTU_8, ev_SULFUR_PER_MMBTU_8⟩ := exa_v c16
  have S_SULFUR_PER_MMBTU_8 := Sta.start ev_SULFUR_PER_MMBTU_8 (Or.inr ⟨(hw _ (List.mem_of_getElem? (i := 5) rfl)), (hw _ (List.mem_of_getElem? (i := 27) rfl))⟩)
  have E_SULFUR_PER_MMBTU_8 := Exa.start ev_SULFUR_PER_MMBTU_8 c16
  obtain ⟨x_VOLATILE_MATTER_9, ev_VOLATILE_MATTER_9⟩ := exa_v c20
  have S_VOLATILE_MATTER_9 := Sta.start ev_VOLATILE_MATTER_9 (Or.inr ⟨(hw _ (List.mem_of_getElem? (i := 2) rfl)), (hw _ (List.mem_of_getElem? (i := 72) rfl))⟩)
  have E_VOLATILE_MATTER_9 := Exa.start ev_VOLATILE_MATTER_9 c20
  obtain ⟨x_MOISTURE_10, ev_MOISTURE_10⟩ := exa_v c23
  have S_MOISTURE_10 := Sta.start ev_MOISTURE_10 (Or.inr ⟨(hw _ (List.mem_of_getElem? (i := 2) rfl)), (hw _ (List.mem_of_getElem? (i := 73) rfl))⟩)
  have E_MOISTURE_10 := Exa.start ev_MOISTURE_10 c23
  obtain ⟨x_ASH_11, ev_ASH_11⟩ := exa_v c26
  have S_ASH_11 := Sta.start ev_ASH_11 (Or.inr ⟨(hw _ (List.mem_of_getElem? (i := 2) rfl)), (hw _ (List.mem_of_getElem? (i := 74) rfl))⟩)
  have E_ASH_11 := Exa.start ev_ASH_11 c26
  obtain ⟨x_SULFUR_12, ev_SULFUR_12⟩ := exa_v c31
  have S_SULFUR_12 := Sta.start ev_SULFUR_12 (Or.inr ⟨(hw _ (List.mem_of_getElem? (i := 2) rfl)), (hw _ (List.mem_of_getElem? (i := 75) rfl))⟩)
  have E_SULFUR_12 := Exa.start ev_SULFUR_12 c31
  obtain ⟨x_ASH_FUSION_TEMPERATURE_13, ev_ASH_FUSION_TEMPERATURE_13⟩ := exa_v c35
  have S_ASH_FUSION_TEMPERATURE_13 := Sta.start ev_ASH_FUSION_TEMPERATURE_13 (Or.inr ⟨(hw _ (List.mem_of_getElem? (i := 2) rfl)), (hw _ (List.mem_of_getElem? (i := 81) rfl))⟩)
  have E_ASH_FUSION_TEMPERATURE_13 := Exa.start ev_ASH_FUSION_TEMPERATURE_13 c35
  obtain ⟨x_GRINDABILITY_14, ev_GRINDABILITY_14⟩ := exa_v c37
  have S_GRINDABILITY_14 := Sta.start ev_GRINDABILITY_14 (Or.inr ⟨(hw _ (List.mem_of_getElem? (i := 2) rfl)), (hw _ (List.mem_of_getElem? (i := 83) rfl))⟩)
  have E_GRINDABILITY_14 := Exa.start ev_GRINDABILITY_14 c37
  obtain ⟨x_EMPTY_15, ev_EMPTY_15⟩ := exa_v (Cond.before_iff.mp (hsets _ (List.mem_of_getElem? (i := 2) rfl)))
  have S_EMPTY_15 := Sta.start ev_EMPTY_15 (Or.inl (hsets _ (List.mem_of_getElem? (i := 1) rfl)))
  have E_EMPTY_15 := Exa.start ev_EMPTY_15 (Cond.before_iff.mp (hsets _ (List.mem_of_getElem? (i := 2) rfl)))
  have F_HEATING_VALUE_1_characteristic := own_fld_ref ev_HEATING_VALUE_1 ev_HEATING_VALUE_0 c18
  have F_HEATING_VALUE_1_perMmbtu := own_fld_int ev_HEATING_VALUE_1 c19
  have F_HEATING_VALUE_0_ordinal := own_fld_int ev_HEATING_VALUE_0 c21
  have F_VOLATILE_MATTER_9_ordinal := own_fld_int ev_VOLATILE_MATTER_9 c22
  have F_MOISTURE_PERCENT_3_characteristic := own_fld_ref ev_MOISTURE_PERCENT_3 ev_MOISTURE_10 c24
  have F_MOISTURE_10_ordinal := own_fld_int ev_MOISTURE_10 c25
  have F_ASH_PERCENT_4_characteristic := own_fld_ref ev_ASH_PERCENT_4 ev_ASH_11 c27
  have F_ASH_11_ordinal := own_fld_int ev_ASH_11 c28
  have F_ASH_PER_MMBTU_5_characteristic := own_fld_ref ev_ASH_PER_MMBTU_5 ev_ASH_11 c29
  have F_MOISTURE_PER_MMBTU_6_characteristic := own_fld_ref ev_MOISTURE_PER_MMBTU_6 ev_MOISTURE_10 c30
  have F_SULFUR_PERCENT_7_characteristic := own_fld_ref ev_SULFUR_PERCENT_7 ev_SULFUR_12 c32
  have F_SULFUR_12_ordinal := own_fld_int ev_SULFUR_12 c33
  have F_SULFUR_PER_MMBTU_8_characteristic := own_fld_ref ev_SULFUR_PER_MMBTU_8 ev_SULFUR_12 c34
  have F_ASH_FUSION_TEMPERATURE_13_ordinal := own_fld_int ev_ASH_FUSION_TEMPERATURE_13 c36
  have F_GRINDABILITY_14_ordinal := own_fld_int ev_GRINDABILITY_14 c38
  have F_SULFUR_PERCENT_7_perMmbtu := own_fld_int ev_SULFUR_PERCENT_7 c39
  have F_ASH_PERCENT_4_perMmbtu := own_fld_int ev_ASH_PERCENT_4 c40
  have F_MOISTURE_PERCENT_3_perMmbtu := own_fld_int ev_MOISTURE_PERCENT_3 c41
  have F_ASH_PER_MMBTU_5_perMmbtu := own_fld_int ev_ASH_PER_MMBTU_5 c42
  have F_MOISTURE_PER_MMBTU_6_perMmbtu := own_fld_int ev_MOISTURE_PER_MMBTU_6 c43
  have F_SULFUR_PER_MMBTU_8_perMmbtu := own_fld_int ev_SULFUR_PER_MMBTU_8 cr43
  have F_EMPTY_15_value := own_fld_null ev_EMPTY_15 (Cond.before_iff.mp (hsets _ (List.mem_of_getElem? (i := 3) rfl)))
  obtain ⟨ca__VALUES_2, Aa__VALUES_2⟩ := Arr.start ev__VALUES_2 c2
  obtain ⟨la__VALUES_2, lb__VALUES_2⟩ := own_len Aa__VALUES_2 ev__VALUES_2 c4
  have el__VALUES_2_0 := own_elem_ref Aa__VALUES_2 ev__VALUES_2 ev_HEATING_VALUE_1 c5 0 rfl
  have el__VALUES_2_1 := own_elem_ref Aa__VALUES_2 ev__VALUES_2 ev_MOISTURE_PERCENT_3 c7 1 rfl
  have el__VALUES_2_2 := own_elem_ref Aa__VALUES_2 ev__VALUES_2 ev_ASH_PERCENT_4 c9 2 rfl
  have el__VALUES_2_3 := own_elem_ref Aa__VALUES_2 ev__VALUES_2 ev_ASH_PER_MMBTU_5 c11 3 rfl
  have el__VALUES_2_4 := own_elem_ref Aa__VALUES_2 ev__VALUES_2 ev_MOISTURE_PER_MMBTU_6 c13 4 rfl
  have el__VALUES_2_5 := own_elem_ref Aa__VALUES_2 ev__VALUES_2 ev_SULFUR_PERCENT_7 c15 5 rfl
  have el__VALUES_2_6 := own_elem_ref Aa__VALUES_2 ev__VALUES_2 ev_SULFUR_PER_MMBTU_8 c17 6 rfl
  have V__VALUES_2 : Arv s s.heap x__VALUES_2 ca__VALUES_2.cls (.object "com/example/tipple_ledger/tippleledger/terms/WeightedAverage") (7 : Int32) [(.ref x_HEATING_VALUE_1), (.ref x_MOISTURE_PERCENT_3), (.ref x_ASH_PERCENT_4), (.ref x_ASH_PER_MMBTU_5), (.ref x_MOISTURE_PER_MMBTU_6), (.ref x_SULFUR_PERCENT_7), (.ref x_SULFUR_PER_MMBTU_8)] .null := Arv.start hfit Aa__VALUES_2 la__VALUES_2 lb__VALUES_2 (by decide) rfl ⟨el__VALUES_2_0, el__VALUES_2_1, el__VALUES_2_2, el__VALUES_2_3, el__VALUES_2_4, el__VALUES_2_5, el__VALUES_2_6, trivial⟩
  have hM : MetFree l x (head1 (Jvm.Cond.code x code maxLocals ret :: tables_1) room_1) (fun a U => a = #[(.int i0)] ∧ s.Warmed39 U.vm ∧ U.heap = s.heap) (fun _ _ _ _ _ => True) (fun _ U o U' => ∃ v L, o = .returned v ∧ own_QT s.heap.size v L ∧ FrameEnd U o U' L room_1.cells room_1.slots) := by
    by_cases hc1 : ((i0 &&& (2147483647 : Int32)) % (7 : Int32)) = (0 : Int32)
    · exact rm0_1 l s _ hw tables_1 i0 x_HEATING_VALUE_0 x_HEATING_VALUE_1 x__VALUES_2 ca__VALUES_2.cls x_MOISTURE_PERCENT_3 x_ASH_PERCENT_4 x_ASH_PER_MMBTU_5 x_MOISTURE_PER_MMBTU_6 x_SULFUR_PERCENT_7 x_SULFUR_PER_MMBTU_8 s.heap s.heap.size (Nat.le_refl _) hc1 S_HEATING_VALUE_0 S_HEATING_VALUE_1 F_HEATING_VALUE_1_perMmbtu V__VALUES_2 S__VALUES_2 E__VALUES_2 F_HEATING_VALUE_1_characteristic E_HEATING_VALUE_1
    · by_cases hc2 : ((i0 &&& (2147483647 : Int32)) % (7 : Int32)) = (1 : Int32)
      · exact rm0_2 l s _ hw tables_1 i0 x_MOISTURE_10 x_MOISTURE_PERCENT_3 x__VALUES_2 ca__VALUES_2.cls x_HEATING_VALUE_1 x_ASH_PERCENT_4 x_ASH_PER_MMBTU_5 x_MOISTURE_PER_MMBTU_6 x_SULFUR_PERCENT_7 x_SULFUR_PER_MMBTU_8 x_HEATING_VALUE_0 s.heap s.heap.size (Nat.le_refl _) hc1 hc2 S_MOISTURE_10 S_MOISTURE_PERCENT_3 F_MOISTURE_PERCENT_3_perMmbtu V__VALUES_2 S__VALUES_2 E__VALUES_2 F_HEATING_VALUE_1_characteristic (Fld.ne F_HEATING_VALUE_0_ordinal F_MOISTURE_10_ordinal (own_ne_int (by decide))) F_MOISTURE_PERCENT_3_characteristic E_MOISTURE_PERCENT_3
      · by_cases hc3 : ((i0 &&& (2147483647 : Int32)) % (7 : Int32)) = (2 : Int32)
        · exact rm0_3 l s _ hw tables_1 i0 x_ASH_11 x_ASH_PERCENT_4 x__VALUES_2 ca__VALUES_2.cls x_HEATING_VALUE_1 x_MOISTURE_PERCENT_3 x_ASH_PER_MMBTU_5 x_MOISTURE_PER_MMBTU_6 x_SULFUR_PERCENT_7 x_SULFUR_PER_MMBTU_8 x_HEATING_VALUE_0 x_MOISTURE_10 s.heap s.heap.size (Nat.le_refl _) hc1 hc2 hc3 S_ASH_11 S_ASH_PERCENT_4 F_ASH_PERCENT_4_perMmbtu V__VALUES_2 S__VALUES_2 E__VALUES_2 F_HEATING_VALUE_1_characteristic (Fld.ne F_HEATING_VALUE_0_ordinal F_ASH_11_ordinal (own_ne_int (by decide))) F_MOISTURE_PERCENT_3_characteristic (Fld.ne F_MOISTURE_10_ordinal F_ASH_11_ordinal (own_ne_int (by decide))) F_ASH_PERCENT_4_characteristic E_ASH_PERCENT_4
        · by_cases hc4 : ((i0 &&& (2147483647 : Int32)) % (7 : Int32)) = (3 : Int32)
          · exact rm0_4 l s _ hw tables_1 i0 x_VOLATILE_MATTER_9 x__VALUES_2 ca__VALUES_2.cls x_HEATING_VALUE_1 x_MOISTURE_PERCENT_3 x_ASH_PERCENT_4 x_ASH_PER_MMBTU_5 x_MOISTURE_PER_MMBTU_6 x_SULFUR_PERCENT_7 x_SULFUR_PER_MMBTU_8 x_HEATING_VALUE_0 x_MOISTURE_10 x_ASH_11 x_SULFUR_12 x_EMPTY_15 s.heap s.heap.size (Nat.le_refl _) hc1 hc2 hc3 hc4 S_VOLATILE_MATTER_9 V__VALUES_2 S__VALUES_2 E__VALUES_2 F_HEATING_VALUE_1_characteristic (Fld.ne F_HEATING_VALUE_0_ordinal F_VOLATILE_MATTER_9_ordinal (own_ne_int (by decide))) F_MOISTURE_PERCENT_3_characteristic (Fld.ne F_MOISTURE_10_ordinal F_VOLATILE_MATTER_9_ordinal (own_ne_int (by decide))) F_ASH_PERCENT_4_characteristic (Fld.ne F_ASH_11_ordinal F_VOLATILE_MATTER_9_ordinal (own_ne_int (by decide))) F_ASH_PER_MMBTU_5_characteristic F_MOISTURE_PER_MMBTU_6_characteristic F_SULFUR_PERCENT_7_characteristic (Fld.ne F_SULFUR_12_ordinal F_VOLATILE_MATTER_9_ordinal (own_ne_int (by decide))) F_SULFUR_PER_MMBTU_8_characteristic S_EMPTY_15 F_EMPTY_15_value E_EMPTY_15
          · by_cases hc5 : ((i0 &&& (2147483647 : Int32)) % (7 : Int32)) = (4 : Int32)
            · exact rm0_5 l s _ hw tables_1 i0 x_SULFUR_12 x_SULFUR_PERCENT_7 x__VALUES_2 ca__VALUES_2.cls x_HEATING_VALUE_1 x_MOISTURE_PERCENT_3 x_ASH_PERCENT_4 x_ASH_PER_MMBTU_5 x_MOISTURE_PER_MMBTU_6 x_SULFUR_PER_MMBTU_8 x_HEATING_VALUE_0 x_MOISTURE_10 x_ASH_11 s.heap s.heap.size (Nat.le_refl _) hc1 hc2 hc3 hc4 hc5 S_SULFUR_12 S_SULFUR_PERCENT_7 F_SULFUR_PERCENT_7_perMmbtu V__VALUES_2 S__VALUES_2 E__VALUES_2 F_HEATING_VALUE_1_characteristic (Fld.ne F_HEATING_VALUE_0_ordinal F_SULFUR_12_ordinal (own_ne_int (by decide))) F_MOISTURE_PERCENT_3_characteristic (Fld.ne F_MOISTURE_10_ordinal F_SULFUR_12_ordinal (own_ne_int (by decide))) F_ASH_PERCENT_4_characteristic (Fld.ne F_ASH_11_ordinal F_SULFUR_12_ordinal (own_ne_int (by decide))) F_ASH_PER_MMBTU_5_characteristic F_MOISTURE_PER_MMBTU_6_characteristic F_SULFUR_PERCENT_7_characteristic E_SULFUR_PERCENT_7
            · by_cases hc6 : ((i0 &&& (2147483647 : Int32)) % (7 : Int32)) = (5 : Int32)
              · exact rm0_6 l s _ hw tables_1 i0 x_ASH_FUSION_TEMPERATURE_13 x__VALUES_2 ca__VALUES_2.cls x_HEATING_VALUE_1 x_MOISTURE_PERCENT_3 x_ASH_PERCENT_4 x_ASH_PER_MMBTU_5 x_MOISTURE_PER_MMBTU_6 x_SULFUR_PERCENT_7 x_SULFUR_PER_MMBTU_8 x_HEATING_VALUE_0 x_MOISTURE_10 x_ASH_11 x_SULFUR_12 x_EMPTY_15 s.heap s.heap.size (Nat.le_refl _) hc1 hc2 hc3 hc4 hc5 hc6 S_ASH_FUSION_TEMPERATURE_13 V__VALUES_2 S__VALUES_2 E__VALUES_2 F_HEATING_VALUE_1_characteristic (Fld.ne F_HEATING_VALUE_0_ordinal F_ASH_FUSION_TEMPERATURE_13_ordinal (own_ne_int (by decide))) F_MOISTURE_PERCENT_3_characteristic (Fld.ne F_MOISTURE_10_ordinal F_ASH_FUSION_TEMPERATURE_13_ordinal (own_ne_int (by decide))) F_ASH_PERCENT_4_characteristic (Fld.ne F_ASH_11_ordinal F_ASH_FUSION_TEMPERATURE_13_ordinal (own_ne_int (by decide))) F_ASH_PER_MMBTU_5_characteristic F_MOISTURE_PER_MMBTU_6_characteristic F_SULFUR_PERCENT_7_characteristic (Fld.ne F_SULFUR_12_ordinal F_ASH_FUSION_TEMPERATURE_13_ordinal (own_ne_int (by decide))) F_SULFUR_PER_MMBTU_8_characteristic S_EMPTY_15 F_EMPTY_15_value E_EMPTY_15
              · exact rm0_7 l s _ hw tables_1 i0 x_GRINDABILITY_14 x__VALUES_2 ca__VALUES_2.cls x_HEATING_VALUE_1 x_MOISTURE_PERCENT_3 x_ASH_PERCENT_4 x_ASH_PER_MMBTU_5 x_MOISTURE_PER_MMBTU_6 x_SULFUR_PERCENT_7 x_SULFUR_PER_MMBTU_8 x_HEATING_VALUE_0 x_MOISTURE_10 x_ASH_11 x_SULFUR_12 x_EMPTY_15 s.heap s.heap.size (Nat.le_refl _) hc1 hc2 hc3 hc4 hc5 hc6 S_GRINDABILITY_14 V__VALUES_2 S__VALUES_2 E__VALUES_2 F_HEATING_VALUE_1_characteristic (Fld.ne F_HEATING_VALUE_0_ordinal F_GRINDABILITY_14_ordinal (own_ne_int (by decide))) F_MOISTURE_PERCENT_3_characteristic (Fld.ne F_MOISTURE_10_ordinal F_GRINDABILITY_14_ordinal (own_ne_int (by decide))) F_ASH_PERCENT_4_characteristic (Fld.ne F_ASH_11_ordinal F_GRINDABILITY_14_ordinal (own_ne_int (by decide))) F_ASH_PER_MMBTU_5_characteristic F_MOISTURE_PER_MMBTU_6_characteristic F_SULFUR_PERCENT_7_characteristic (Fld.ne F_SULFUR_12_ordinal F_GRINDABILITY_14_ordinal (own_ne_int (by decide))) F_SULFUR_PER_MMBTU_8_characteristic S_EMPTY_15 F_EMPTY_15_value E_EMPTY_15
  obtain ⟨n, o, h1, h2, h3, _, L, rfl, ⟨rfl, N⟩, hq⟩ := hM p e ha hc hk s m _ below hf ((Spec.applies_iff_loose hf).mp happ).1 ⟨rfl, State.Warmed39.refl s, rfl⟩ trivial
  refine ⟨n, _, h1, h2, h3, hpost _ _ _ _ _ _ ⟨Cond.after_iff.mpr rfl, Cond.after_iff.mpr (eq_i res_at (Term.int_eval (1)) rfl), trivial⟩ ⟨hq.1, hq.2.1, (hq.2.2.sift fun y hy => Or.inr (N y hy)).mono (by decide) (by decide)⟩⟩
theorem main_1_1 : Claimed_1_1 := comes_1 fun _ _ _ _ _ _ h hF => ⟨h.1, hF⟩
theorem main_1_2 : Claimed_1_2 := comes_1 fun _ _ _ _ _ _ h hF => ⟨h.2.1, hF⟩
end Jvm.Pilot.@@N@@
namespace Jvm.Pilot.@@N@@
open Jvm Jvm.ClassFile Sem Op Lib Jvm.Free Jvm.Stand Jvm.Pilot.@@N@@.Jvm.D
/-! MADE BY PROGRAM (witnessworld.py) out of the Statement's table words and the real class files: 16 classes; the members and pool entries that the words name. The judged class is class 1, her method 1. -/
namespace start1
open Jvm.ClassFile
def u (s : String) : CpInfo := .utf8 (stringToUtf16 s)
/-- a pool by its gaps: so many unusable entries, then the entry; so many at the end -/
def gap : Nat → List CpInfo → List CpInfo
  | 0, r => r
  | n + 1, r => .unusable :: gap n r
def poolList (es : List (Nat × CpInfo)) (last : Nat) : List CpInfo := es.foldr (fun e r => gap e.1 (e.2 :: r)) (gap last [])
def pool (es : List (Nat × CpInfo)) (last : Nat) : Array CpInfo := ⟨poolList es last⟩
def fileOf (pool : Array CpInfo) (this : Nat) (attrs : Array Attribute := #[]) (ms : Array MethodInfo := #[]) (fl : Nat := 33) (sup : Nat := 0) (ifs : Array Nat := #[]) (fds : Array FieldInfo := #[]) : ClassFile where
  minorVersion := 0
  majorVersion := 65
  constantPool := pool
  accessFlags := fl
  thisClass := this
  superClass := sup
  interfaces := ifs
  fields := fds
  methods := ms
  attributes := attrs
def plain (name : String) (sup : Option ClassId) : Class where
  name := name
  kind := .ordinary
  loader := none
  accessFlags := 33
  super := sup
  interfaces := #[]
  cf := none
  fields := #[]
  methods := #[]
  instanceTypes := #[]
  staticTypes := #[]
  resolved := #[]
  callSites := []
  init := .initialized
  statics := none
  mirror := none

def pool0 : Array CpInfo := pool [(5, u "<init>"), (0, u "()V"), (1, .class_ 10), (1, u "java/lang/Object"), (85, u "clone"), (0, u "()Ljava/lang/Object;")] 26

def k0c0 : Code := { maxStack := 0, maxLocals := 1, code := object_method_1_code, exceptionTable := #[], attributes := #[] }
def k0m0 : Method := { name := "<init>", desc := "()V", sig := { parameters := [], returnType := none }, accessFlags := 1, code := some k0c0 }
def k0m1 : Method := { name := "clone", desc := "()Ljava/lang/Object;", sig := { parameters := [], returnType := some (.object "java/lang/Object") }, accessFlags := 260, code := none }
/-- java/lang/Object -/
def k0 : Class := { plain "java/lang/Object" none with
  accessFlags := 33
  interfaces := #[]
  cf := some (fileOf pool0 8 #[] #[{ accessFlags := 1, nameIndex := 5, descriptorIndex := 6, attributes := #[] }, { accessFlags := 260, nameIndex := 96, descriptorIndex := 97, attributes := #[] }] 33 0 #[] #[])
  fields := #[]
  methods := #[k0m0, k0m1]
  instanceTypes := #[]
  staticTypes := #[]
  resolved := Array.replicate 124 none
  statics := none }

def pool1 : Array CpInfo := pool [(2, .class_ 4), (1, u "java/lang/Object"), (0, u "<init>"), (0, u "()V"), (0, .integer 2147483647), (0, .fieldref 9 10), (0, .class_ 11), (0, .nameAndType 12 13), (0, u "com/example/tipple_ledger/tippleledger/terms/Characteristic"), (0, u "HEATING_VALUE"), (0, u "Lcom/example/tipple_ledger/tippleledger/terms/Characteristic;"), (0, .fieldref 15 16), (0, .class_ 17), (0, .nameAndType 12 18), (0, u "com/example/tipple_ledger/tippleledger/terms/WeightedAverage"), (0, u "Lcom/example/tipple_ledger/tippleledger/terms/WeightedAverage;"), (0, .fieldref 9 20), (0, .nameAndType 21 13), (0, u "MOISTURE"), (0, .fieldref 15 23), (0, .nameAndType 24 18), (0, u "MOISTURE_PERCENT"), (0, .fieldref 9 26), (0, .nameAndType 27 13), (0, u "ASH"), (0, .fieldref 15 29), (0, .nameAndType 30 18), (0, u "ASH_PERCENT"), (0, .fieldref 9 32), (0, .nameAndType 33 13), (0, u "VOLATILE_MATTER"), (0, .fieldref 9 35), (0, .nameAndType 36 13), (0, u "SULFUR"), (0, .fieldref 15 38), (0, .nameAndType 39 18), (0, u "SULFUR_PERCENT"), (0, .fieldref 9 41), (0, .nameAndType 42 13), (0, u "ASH_FUSION_TEMPERATURE"), (0, .fieldref 9 44), (0, .nameAndType 45 13), (0, u "GRINDABILITY"), (0, .methodref 15 47), (0, .nameAndType 48 49), (0, u "byTons"), (0, u "(Lcom/example/tipple_ledger/tippleledger/terms/Characteristic;)Ljava/util/Optional;"), (0, .methodref 51 52), (0, .class_ 53), (0, .nameAndType 54 55), (0, u "java/util/Optional"), (0, u "orElse"), (0, u "(Ljava/lang/Object;)Ljava/lang/Object;"), (0, .methodref 15 57), (0, .nameAndType 58 59), (0, u "characteristic"), (0, u "()Lcom/example/tipple_ledger/tippleledger/terms/Characteristic;"), (0, .methodref 15 61), (0, .nameAndType 62 63), (0, u "perMmbtu"), (0, u "()Z"), (0, .class_ 65), (0, u "com/example/tipple_ledger/tippleledger/terms/WeightedAverageByTonsPinLaw"), (2, u "law"), (0, u "(I)Z")] 3

def k1m0 : Method := { name := "<init>", desc := "()V", sig := { parameters := [], returnType := none }, accessFlags := 1, code := none }
def k1c1 : Code := { maxStack := 2, maxLocals := 5, code := code, exceptionTable := #[], attributes := #[] }
def k1m1 : Method := { name := "law", desc := "(I)Z", sig := { parameters := [.int], returnType := some .boolean }, accessFlags := 9, code := some k1c1 }
/-- com/example/tipple_ledger/tippleledger/terms/WeightedAverageByTonsPinLaw -/
def k1 : Class := { plain "com/example/tipple_ledger/tippleledger/terms/WeightedAverageByTonsPinLaw" (some 0) with
  accessFlags := 49
  interfaces := #[]
  cf := some (fileOf pool1 64 #[] #[{ accessFlags := 1, nameIndex := 5, descriptorIndex := 6, attributes := #[] }, { accessFlags := 9, nameIndex := 68, descriptorIndex := 69, attributes := #[] }] 49 2 #[] #[])
  fields := #[]
  methods := #[k1m0, k1m1]
  instanceTypes := #[]
  staticTypes := #[]
  resolved := Array.replicate 73 none
  statics := none }

def pool2 : Array CpInfo := pool [(1, .class_ 2), (0, u "java/lang/constant/Constable"), (0, .class_ 4), (0, u "java/lang/Object")] 6

/-- java/lang/constant/Constable -/
def k2 : Class := { plain "java/lang/constant/Constable" (some 0) with
  accessFlags := 1537
  interfaces := #[]
  cf := some (fileOf pool2 1 #[] #[] 1537 3 #[] #[])
  fields := #[]
  methods := #[]
  instanceTypes := #[]
  staticTypes := #[]
  resolved := Array.replicate 11 none
  statics := none }

def pool3 : Array CpInfo := pool [(1, .class_ 2), (0, u "java/lang/Comparable"), (0, .class_ 4), (0, u "java/lang/Object")] 7

/-- java/lang/Comparable -/
def k3 : Class := { plain "java/lang/Comparable" (some 0) with
  accessFlags := 1537
  interfaces := #[]
  cf := some (fileOf pool3 1 #[] #[] 1537 3 #[] #[])
  fields := #[]
  methods := #[]
  instanceTypes := #[]
  staticTypes := #[]
  resolved := Array.replicate 12 none
  statics := none }

def pool4 : Array CpInfo := pool [(1, .class_ 2), (0, u "java/io/Serializable"), (0, .class_ 4), (0, u "java/lang/Object")] 2

/-- java/io/Serializable -/
def k4 : Class := { plain "java/io/Serializable" (some 0) with
  accessFlags := 1537
  interfaces := #[]
  cf := some (fileOf pool4 1 #[] #[] 1537 3 #[] #[])
  fields := #[]
  methods := #[]
  instanceTypes := #[]
  staticTypes := #[]
  resolved := Array.replicate 7 none
  statics := none }

def pool5 : Array CpInfo := pool [(2, .class_ 4), (1, u "java/lang/Enum"), (0, u "name"), (0, u "Ljava/lang/String;"), (2, u "ordinal"), (0, u "I"), (1, .class_ 14), (1, u "java/lang/Object"), (4, u "hash"), (86, .class_ 108), (1, u "java/lang/Enum$EnumDesc"), (2, .class_ 112), (0, u "java/lang/constant/Constable"), (0, .class_ 114), (0, u "java/lang/Comparable"), (0, .class_ 116), (0, u "java/io/Serializable")] 87

/-- java/lang/Enum -/
def k5 : Class := { plain "java/lang/Enum" (some 0) with
  accessFlags := 1057
  interfaces := #[2, 3, 4]
  cf := some (fileOf pool5 2 #[.nestMembers #[106]] #[] 1057 12 #[111, 113, 115] #[{ accessFlags := 18, nameIndex := 5, descriptorIndex := 6, attributes := #[] }, { accessFlags := 18, nameIndex := 9, descriptorIndex := 10, attributes := #[] }, { accessFlags := 2, nameIndex := 19, descriptorIndex := 10, attributes := #[] }])
  fields := #[{ name := "name", type := (.object "java/lang/String"), accessFlags := 18, slot := 0, constantValue := 0 }, { name := "ordinal", type := .int, accessFlags := 18, slot := 1, constantValue := 0 }, { name := "hash", type := .int, accessFlags := 2, slot := 2, constantValue := 0 }]
  methods := #[]
  instanceTypes := #[(.object "java/lang/String"), .int, .int]
  staticTypes := #[]
  resolved := Array.replicate 204 none
  statics := none }

def pool6 : Array CpInfo := pool [(1, .class_ 2), (0, u "com/example/tipple_ledger/tippleledger/terms/Characteristic"), (2, u "HEATING_VALUE"), (0, u "Lcom/example/tipple_ledger/tippleledger/terms/Characteristic;"), (2, u "MOISTURE"), (2, u "ASH"), (2, u "VOLATILE_MATTER"), (2, u "SULFUR"), (2, u "ASH_FUSION_TEMPERATURE"), (2, u "GRINDABILITY"), (2, u "$VALUES"), (0, u "[Lcom/example/tipple_ledger/tippleledger/terms/Characteristic;"), (6, .class_ 37), (1, u "java/lang/Enum"), (8, u "column"), (0, u "Ljava/lang/String;"), (2, u "places"), (0, u "I")] 75

/-- com/example/tipple_ledger/tippleledger/terms/Characteristic -/
def k6 : Class := { plain "com/example/tipple_ledger/tippleledger/terms/Characteristic" (some 5) with
  accessFlags := 16433
  interfaces := #[]
  cf := some (fileOf pool6 1 #[] #[] 16433 35 #[] #[{ accessFlags := 16409, nameIndex := 5, descriptorIndex := 6, attributes := #[] }, { accessFlags := 16409, nameIndex := 9, descriptorIndex := 6, attributes := #[] }, { accessFlags := 16409, nameIndex := 12, descriptorIndex := 6, attributes := #[] }, { accessFlags := 16409, nameIndex := 15, descriptorIndex := 6, attributes := #[] }, { accessFlags := 16409, nameIndex := 18, descriptorIndex := 6, attributes := #[] }, { accessFlags := 16409, nameIndex := 21, descriptorIndex := 6, attributes := #[] }, { accessFlags := 16409, nameIndex := 24, descriptorIndex := 6, attributes := #[] }, { accessFlags := 18, nameIndex := 46, descriptorIndex := 47, attributes := #[] }, { accessFlags := 18, nameIndex := 50, descriptorIndex := 51, attributes := #[] }, { accessFlags := 4122, nameIndex := 27, descriptorIndex := 28, attributes := #[] }])
  fields := #[{ name := "HEATING_VALUE", type := (.object "com/example/tipple_ledger/tippleledger/terms/Characteristic"), accessFlags := 16409, slot := 0, constantValue := 0 }, { name := "MOISTURE", type := (.object "com/example/tipple_ledger/tippleledger/terms/Characteristic"), accessFlags := 16409, slot := 1, constantValue := 0 }, { name := "ASH", type := (.object "com/example/tipple_ledger/tippleledger/terms/Characteristic"), accessFlags := 16409, slot := 2, constantValue := 0 }, { name := "VOLATILE_MATTER", type := (.object "com/example/tipple_ledger/tippleledger/terms/Characteristic"), accessFlags := 16409, slot := 3, constantValue := 0 }, { name := "SULFUR", type := (.object "com/example/tipple_ledger/tippleledger/terms/Characteristic"), accessFlags := 16409, slot := 4, constantValue := 0 }, { name := "ASH_FUSION_TEMPERATURE", type := (.object "com/example/tipple_ledger/tippleledger/terms/Characteristic"), accessFlags := 16409, slot := 5, constantValue := 0 }, { name := "GRINDABILITY", type := (.object "com/example/tipple_ledger/tippleledger/terms/Characteristic"), accessFlags := 16409, slot := 6, constantValue := 0 }, { name := "column", type := (.object "java/lang/String"), accessFlags := 18, slot := 3, constantValue := 0 }, { name := "places", type := .int, accessFlags := 18, slot := 4, constantValue := 0 }, { name := "$VALUES", type := (.array (.object "com/example/tipple_ledger/tippleledger/terms/Characteristic")), accessFlags := 4122, slot := 7, constantValue := 0 }]
  methods := #[]
  instanceTypes := #[(.object "java/lang/String"), .int, .int, (.object "java/lang/String"), .int]
  staticTypes := #[(.object "com/example/tipple_ledger/tippleledger/terms/Characteristic"), (.object "com/example/tipple_ledger/tippleledger/terms/Characteristic"), (.object "com/example/tipple_ledger/tippleledger/terms/Characteristic"), (.object "com/example/tipple_ledger/tippleledger/terms/Characteristic"), (.object "com/example/tipple_ledger/tippleledger/terms/Characteristic"), (.object "com/example/tipple_ledger/tippleledger/terms/Characteristic"), (.object "com/example/tipple_ledger/tippleledger/terms/Characteristic"), (.array (.object "com/example/tipple_ledger/tippleledger/terms/Characteristic"))]
  resolved := Array.replicate 127 none
  statics := some 0 }

def pool7 : Array CpInfo := pool [(1, .class_ 2), (0, u "com/example/tipple_ledger/tippleledger/terms/WeightedAverage"), (2, u "HEATING_VALUE"), (0, u "Lcom/example/tipple_ledger/tippleledger/terms/WeightedAverage;"), (2, u "MOISTURE_PERCENT"), (2, u "ASH_PERCENT"), (2, u "ASH_PER_MMBTU"), (2, u "MOISTURE_PER_MMBTU"), (2, u "SULFUR_PERCENT"), (2, u "SULFUR_PER_MMBTU"), (0, .fieldref 1 26), (0, .nameAndType 27 28), (0, u "$VALUES"), (0, u "[Lcom/example/tipple_ledger/tippleledger/terms/WeightedAverage;"), (0, .methodref 30 31), (0, .class_ 28), (0, .nameAndType 32 33), (0, u "clone"), (0, u "()Ljava/lang/Object;"), (1, .class_ 37), (1, u "java/lang/Enum"), (6, .fieldref 1 45), (0, .nameAndType 46 47), (0, u "characteristic"), (0, u "Lcom/example/tipple_ledger/tippleledger/terms/Characteristic;"), (2, u "column"), (0, u "Ljava/lang/String;"), (2, u "pounds"), (0, .fieldref 1 56), (0, .nameAndType 57 58), (0, u "perMmbtu"), (0, u "Z"), (2, u "word"), (1, .class_ 65), (1, u "java/util/Optional"), (1, u "(Ljava/lang/Object;)Ljava/util/Optional;"), (20, u "()Z"), (3, .methodref 1 93), (0, .nameAndType 94 95), (0, u "values"), (0, u "()[Lcom/example/tipple_ledger/tippleledger/terms/WeightedAverage;"), (0, .methodref 63 97), (0, .nameAndType 98 67), (0, u "of"), (0, .methodref 63 100), (0, .nameAndType 101 102), (0, u "empty"), (0, u "()Ljava/util/Optional;"), (125, u "()Lcom/example/tipple_ledger/tippleledger/terms/Characteristic;"), (6, u "byTons"), (0, u "(Lcom/example/tipple_ledger/tippleledger/terms/Characteristic;)Ljava/util/Optional;")] 33

def k7c0 : Code := { maxStack := 1, maxLocals := 0, code := prog_194_method_1_code, exceptionTable := #[], attributes := #[] }
def k7m0 : Method := { name := "values", desc := "()[Lcom/example/tipple_ledger/tippleledger/terms/WeightedAverage;", sig := { parameters := [], returnType := some (.array (.object "com/example/tipple_ledger/tippleledger/terms/WeightedAverage")) }, accessFlags := 9, code := some k7c0 }
def k7c1 : Code := { maxStack := 1, maxLocals := 1, code := prog_194_method_4_code, exceptionTable := #[], attributes := #[] }
def k7m1 : Method := { name := "characteristic", desc := "()Lcom/example/tipple_ledger/tippleledger/terms/Characteristic;", sig := { parameters := [], returnType := some (.object "com/example/tipple_ledger/tippleledger/terms/Characteristic") }, accessFlags := 1, code := some k7c1 }
def k7c2 : Code := { maxStack := 1, maxLocals := 1, code := prog_194_method_7_code, exceptionTable := #[], attributes := #[] }
def k7m2 : Method := { name := "perMmbtu", desc := "()Z", sig := { parameters := [], returnType := some .boolean }, accessFlags := 1, code := some k7c2 }
def k7c3 : Code := { maxStack := 2, maxLocals := 5, code := prog_194_method_11_code, exceptionTable := #[], attributes := #[] }
def k7m3 : Method := { name := "byTons", desc := "(Lcom/example/tipple_ledger/tippleledger/terms/Characteristic;)Ljava/util/Optional;", sig := { parameters := [(.object "com/example/tipple_ledger/tippleledger/terms/Characteristic")], returnType := some (.object "java/util/Optional") }, accessFlags := 9, code := some k7c3 }
/-- com/example/tipple_ledger/tippleledger/terms/WeightedAverage -/
def k7 : Class := { plain "com/example/tipple_ledger/tippleledger/terms/WeightedAverage" (some 5) with
  accessFlags := 16433
  interfaces := #[]
  cf := some (fileOf pool7 1 #[] #[{ accessFlags := 9, nameIndex := 94, descriptorIndex := 95, attributes := #[] }, { accessFlags := 1, nameIndex := 46, descriptorIndex := 228, attributes := #[] }, { accessFlags := 1, nameIndex := 57, descriptorIndex := 88, attributes := #[] }, { accessFlags := 9, nameIndex := 235, descriptorIndex := 236, attributes := #[] }] 16433 35 #[] #[{ accessFlags := 16409, nameIndex := 5, descriptorIndex := 6, attributes := #[] }, { accessFlags := 16409, nameIndex := 9, descriptorIndex := 6, attributes := #[] }, { accessFlags := 16409, nameIndex := 12, descriptorIndex := 6, attributes := #[] }, { accessFlags := 16409, nameIndex := 15, descriptorIndex := 6, attributes := #[] }, { accessFlags := 16409, nameIndex := 18, descriptorIndex := 6, attributes := #[] }, { accessFlags := 16409, nameIndex := 21, descriptorIndex := 6, attributes := #[] }, { accessFlags := 16409, nameIndex := 24, descriptorIndex := 6, attributes := #[] }, { accessFlags := 18, nameIndex := 46, descriptorIndex := 47, attributes := #[] }, { accessFlags := 18, nameIndex := 50, descriptorIndex := 51, attributes := #[] }, { accessFlags := 18, nameIndex := 54, descriptorIndex := 51, attributes := #[] }, { accessFlags := 18, nameIndex := 57, descriptorIndex := 58, attributes := #[] }, { accessFlags := 18, nameIndex := 61, descriptorIndex := 51, attributes := #[] }, { accessFlags := 4122, nameIndex := 27, descriptorIndex := 28, attributes := #[] }])
  fields := #[{ name := "HEATING_VALUE", type := (.object "com/example/tipple_ledger/tippleledger/terms/WeightedAverage"), accessFlags := 16409, slot := 0, constantValue := 0 }, { name := "MOISTURE_PERCENT", type := (.object "com/example/tipple_ledger/tippleledger/terms/WeightedAverage"), accessFlags := 16409, slot := 1, constantValue := 0 }, { name := "ASH_PERCENT", type := (.object "com/example/tipple_ledger/tippleledger/terms/WeightedAverage"), accessFlags := 16409, slot := 2, constantValue := 0 }, { name := "ASH_PER_MMBTU", type := (.object "com/example/tipple_ledger/tippleledger/terms/WeightedAverage"), accessFlags := 16409, slot := 3, constantValue := 0 }, { name := "MOISTURE_PER_MMBTU", type := (.object "com/example/tipple_ledger/tippleledger/terms/WeightedAverage"), accessFlags := 16409, slot := 4, constantValue := 0 }, { name := "SULFUR_PERCENT", type := (.object "com/example/tipple_ledger/tippleledger/terms/WeightedAverage"), accessFlags := 16409, slot := 5, constantValue := 0 }, { name := "SULFUR_PER_MMBTU", type := (.object "com/example/tipple_ledger/tippleledger/terms/WeightedAverage"), accessFlags := 16409, slot := 6, constantValue := 0 }, { name := "characteristic", type := (.object "com/example/tipple_ledger/tippleledger/terms/Characteristic"), accessFlags := 18, slot := 3, constantValue := 0 }, { name := "column", type := (.object "java/lang/String"), accessFlags := 18, slot := 4, constantValue := 0 }, { name := "pounds", type := (.object "java/lang/String"), accessFlags := 18, slot := 5, constantValue := 0 }, { name := "perMmbtu", type := .boolean, accessFlags := 18, slot := 6, constantValue := 0 }, { name := "word", type := (.object "java/lang/String"), accessFlags := 18, slot := 7, constantValue := 0 }, { name := "$VALUES", type := (.array (.object "com/example/tipple_ledger/tippleledger/terms/WeightedAverage")), accessFlags := 4122, slot := 7, constantValue := 0 }]
  methods := #[k7m0, k7m1, k7m2, k7m3]
  instanceTypes := #[(.object "java/lang/String"), .int, .int, (.object "com/example/tipple_ledger/tippleledger/terms/Characteristic"), (.object "java/lang/String"), (.object "java/lang/String"), .boolean, (.object "java/lang/String")]
  staticTypes := #[(.object "com/example/tipple_ledger/tippleledger/terms/WeightedAverage"), (.object "com/example/tipple_ledger/tippleledger/terms/WeightedAverage"), (.object "com/example/tipple_ledger/tippleledger/terms/WeightedAverage"), (.object "com/example/tipple_ledger/tippleledger/terms/WeightedAverage"), (.object "com/example/tipple_ledger/tippleledger/terms/WeightedAverage"), (.object "com/example/tipple_ledger/tippleledger/terms/WeightedAverage"), (.object "com/example/tipple_ledger/tippleledger/terms/WeightedAverage"), (.array (.object "com/example/tipple_ledger/tippleledger/terms/WeightedAverage"))]
  resolved := Array.replicate 270 none
  statics := some 1 }

def pool8 : Array CpInfo := pool [(1, .class_ 2), (0, u "java/lang/Cloneable"), (0, .class_ 4), (0, u "java/lang/Object")] 2

/-- java/lang/Cloneable -/
def k8 : Class := { plain "java/lang/Cloneable" (some 0) with
  accessFlags := 1537
  interfaces := #[]
  cf := some (fileOf pool8 1 #[] #[] 1537 3 #[] #[])
  fields := #[]
  methods := #[]
  instanceTypes := #[]
  staticTypes := #[]
  resolved := Array.replicate 7 none
  statics := none }

def pool9 : Array CpInfo := pool [(1, .fieldref 2 3), (0, .class_ 4), (0, .nameAndType 5 6), (0, u "java/util/Optional"), (0, u "EMPTY"), (0, u "Ljava/util/Optional;"), (0, .methodref 8 9), (0, .class_ 10), (0, .nameAndType 11 12), (0, u "java/lang/Object"), (0, u "<init>"), (0, u "()V"), (0, .fieldref 2 14), (0, .nameAndType 15 16), (0, u "value"), (0, u "Ljava/lang/Object;"), (0, .methodref 18 19), (0, .class_ 20), (0, .nameAndType 21 22), (0, u "java/util/Objects"), (0, u "requireNonNull"), (0, u "(Ljava/lang/Object;)Ljava/lang/Object;"), (0, .methodref 2 24), (0, .nameAndType 11 25), (0, u "(Ljava/lang/Object;)V"), (29, u "empty"), (0, u "()Ljava/util/Optional;"), (8, u "(Ljava/lang/Object;)Ljava/util/Optional;"), (16, u "of"), (82, u "orElse")] 21

def k9c0 : Code := { maxStack := 1, maxLocals := 1, code := jdk_32_method_1_code, exceptionTable := #[], attributes := #[] }
def k9m0 : Method := { name := "empty", desc := "()Ljava/util/Optional;", sig := { parameters := [], returnType := some (.object "java/util/Optional") }, accessFlags := 9, code := some k9c0 }
def k9c1 : Code := { maxStack := 2, maxLocals := 2, code := jdk_32_method_2_code, exceptionTable := #[], attributes := #[] }
def k9m1 : Method := { name := "<init>", desc := "(Ljava/lang/Object;)V", sig := { parameters := [(.object "java/lang/Object")], returnType := none }, accessFlags := 2, code := some k9c1 }
def k9c2 : Code := { maxStack := 3, maxLocals := 1, code := jdk_32_method_3_code, exceptionTable := #[], attributes := #[] }
def k9m2 : Method := { name := "of", desc := "(Ljava/lang/Object;)Ljava/util/Optional;", sig := { parameters := [(.object "java/lang/Object")], returnType := some (.object "java/util/Optional") }, accessFlags := 9, code := some k9c2 }
def k9c3 : Code := { maxStack := 1, maxLocals := 2, code := jdk_32_method_15_code, exceptionTable := #[], attributes := #[] }
def k9m3 : Method := { name := "orElse", desc := "(Ljava/lang/Object;)Ljava/lang/Object;", sig := { parameters := [(.object "java/lang/Object")], returnType := some (.object "java/lang/Object") }, accessFlags := 1, code := some k9c3 }
/-- java/util/Optional -/
def k9 : Class := { plain "java/util/Optional" (some 0) with
  accessFlags := 49
  interfaces := #[]
  cf := some (fileOf pool9 2 #[] #[{ accessFlags := 9, nameIndex := 55, descriptorIndex := 56, attributes := #[] }, { accessFlags := 2, nameIndex := 11, descriptorIndex := 25, attributes := #[] }, { accessFlags := 9, nameIndex := 82, descriptorIndex := 65, attributes := #[] }, { accessFlags := 1, nameIndex := 165, descriptorIndex := 22, attributes := #[] }] 49 8 #[] #[{ accessFlags := 26, nameIndex := 5, descriptorIndex := 6, attributes := #[] }, { accessFlags := 18, nameIndex := 15, descriptorIndex := 16, attributes := #[] }])
  fields := #[{ name := "EMPTY", type := (.object "java/util/Optional"), accessFlags := 26, slot := 0, constantValue := 0 }, { name := "value", type := (.object "java/lang/Object"), accessFlags := 18, slot := 0, constantValue := 0 }]
  methods := #[k9m0, k9m1, k9m2, k9m3]
  instanceTypes := #[(.object "java/lang/Object")]
  staticTypes := #[(.object "java/util/Optional")]
  resolved := Array.replicate 187 none
  statics := some 2 }

def pool10 : Array CpInfo := pool [(2, .class_ 4), (1, u "java/lang/Object"), (0, u "<init>"), (0, u "()V"), (35, .class_ 44), (1, u "java/util/Objects"), (0, u "requireNonNull"), (0, u "(Ljava/lang/Object;)Ljava/lang/Object;")] 137

def k10m0 : Method := { name := "<init>", desc := "()V", sig := { parameters := [], returnType := none }, accessFlags := 2, code := none }
def k10c1 : Code := { maxStack := 2, maxLocals := 1, code := jdk_31_method_10_code, exceptionTable := #[], attributes := #[] }
def k10m1 : Method := { name := "requireNonNull", desc := "(Ljava/lang/Object;)Ljava/lang/Object;", sig := { parameters := [(.object "java/lang/Object")], returnType := some (.object "java/lang/Object") }, accessFlags := 9, code := some k10c1 }
/-- java/util/Objects -/
def k10 : Class := { plain "java/util/Objects" (some 0) with
  accessFlags := 49
  interfaces := #[]
  cf := some (fileOf pool10 42 #[] #[{ accessFlags := 2, nameIndex := 5, descriptorIndex := 6, attributes := #[] }, { accessFlags := 9, nameIndex := 45, descriptorIndex := 46, attributes := #[] }] 49 2 #[] #[])
  fields := #[]
  methods := #[k10m0, k10m1]
  instanceTypes := #[]
  staticTypes := #[]
  resolved := Array.replicate 184 none
  statics := none }

/-- the primitive byte -/
def k11 : Class := { plain "byte" none with kind := .primitive 'B', accessFlags := 0x411 }
/-- [B -/
def k12 : Class := { plain "[B" (some 0) with kind := .array 11 .byte, interfaces := #[8, 4], accessFlags := 1041 }

/-- the primitive int -/
def k13 : Class := { plain "int" none with kind := .primitive 'I', accessFlags := 0x411 }
/-- [I -/
def k14 : Class := { plain "[I" (some 0) with kind := .array 13 .int, interfaces := #[8, 4], accessFlags := 1041 }

/-- [Lcom/example/tipple_ledger/tippleledger/terms/WeightedAverage; -/
def k15 : Class := { plain "[Lcom/example/tipple_ledger/tippleledger/terms/WeightedAverage;" (some 0) with kind := .array 7 (.object "com/example/tipple_ledger/tippleledger/terms/WeightedAverage"), interfaces := #[8, 4], accessFlags := 1041 }

def heap : Heap := #[{ cls := 6, slots := #[.ref 4, .ref 13, .ref 14, .ref 12, .ref 15, .ref 16, .ref 17, .null], vm := .statics 6 },
  { cls := 7, slots := #[.ref 5, .ref 6, .ref 7, .ref 8, .ref 9, .ref 10, .ref 11, .ref 3], vm := .statics 7 },
  { cls := 9, slots := #[.ref 18], vm := .statics 9 },
  { cls := 15, slots := #[.ref 5, .ref 6, .ref 7, .ref 8, .ref 9, .ref 10, .ref 11], vm := .none },
  { cls := 6, slots := #[.null, .int 0, .int 0, .null, .int 0], vm := .none },
  { cls := 7, slots := #[.null, .int 0, .int 0, .ref 4, .null, .null, .int 0, .null], vm := .none },
  { cls := 7, slots := #[.null, .int 0, .int 0, .ref 13, .null, .null, .int 0, .null], vm := .none },
  { cls := 7, slots := #[.null, .int 0, .int 0, .ref 14, .null, .null, .int 0, .null], vm := .none },
  { cls := 7, slots := #[.null, .int 0, .int 0, .ref 14, .null, .null, .int 1, .null], vm := .none },
  { cls := 7, slots := #[.null, .int 0, .int 0, .ref 13, .null, .null, .int 1, .null], vm := .none },
  { cls := 7, slots := #[.null, .int 0, .int 0, .ref 15, .null, .null, .int 0, .null], vm := .none },
  { cls := 7, slots := #[.null, .int 0, .int 0, .ref 15, .null, .null, .int 1, .null], vm := .none },
  { cls := 6, slots := #[.null, .int 3, .int 0, .null, .int 0], vm := .none },
  { cls := 6, slots := #[.null, .int 1, .int 0, .null, .int 0], vm := .none },
  { cls := 6, slots := #[.null, .int 2, .int 0, .null, .int 0], vm := .none },
  { cls := 6, slots := #[.null, .int 4, .int 0, .null, .int 0], vm := .none },
  { cls := 6, slots := #[.null, .int 5, .int 0, .null, .int 0], vm := .none },
  { cls := 6, slots := #[.null, .int 6, .int 0, .null, .int 0], vm := .none },
  { cls := 9, slots := #[.null], vm := .none }]
def classes : Array Class := #[k0, k1, k2, k3, k4, k5, k6, k7, k8, k9, k10, k11, k12, k13, k14, k15]
def interned : List (Array UInt16 × Addr) := []
def slotsUsed : Nat := 116
def theMethod : MethodId := ⟨1, 1⟩
def args0 : Array Value := #[.int 5]
def aboutOver (below : List Frame) : State where
  vm := { classes := classes, interned := interned.toArray }
  heap := heap
  slotsUsed := slotsUsed
  threads := #[{ frames := .invoking theMethod args0 :: below }]
def below0 : List Frame := [.native { method := ⟨0, 0⟩, args := #[] }]
def about1 : State := aboutOver below0
def p0 : Program := .bare "" "" ""
def e0 : Env := launch0.env 0 0 0
theorem w_frames : about1.frames = Frame.invoking theMethod args0 :: below0 := rfl
set_option maxRecDepth 65536 in
theorem w_args : argsFit about1.vm theMethod args0 = true := by decide +kernel
set_option maxRecDepth 65536 in
theorem w_heap : heapFits about1 = true := by decide +kernel
set_option maxRecDepth 65536 in
theorem w_runnable : about1.curStatus? = some .runnable := by decide +kernel
set_option maxRecDepth 65536 in
theorem w_alone : about1.alone = true := by decide +kernel
set_option maxRecDepth 65536 in
theorem w_named : about1.methodNamed? x = some theMethod := by decide +kernel
set_option maxRecDepth 65536 in
theorem w_hears : about1.hears theMethod below0 = true := by decide +kernel
set_option maxRecDepth 65536 in
theorem w_ripe : about1.ripe theMethod args0 below0 = true := by decide +kernel
theorem w_running : about1.status = .running := rfl
set_option maxRecDepth 65536 in
theorem w_room : about1.hasRoom e0.platform room_1 = true :=
  launch0.hasRoom_least _ room_1 (by decide +kernel) (by decide +kernel) (by decide +kernel) (by decide +kernel) (by decide +kernel) (by decide +kernel)
theorem allAtoms_all (ts : List Jvm.Cond) (a : Array Jvm.Value) (st : Jvm.State) : (allAtoms ts).before a st = ts.all (fun c => c.before a st) := by
  induction ts with
  | nil => rfl
  | cons c t ih =>
    show (Jvm.Cond.and c (allAtoms t)).before a st = _
    rw [Jvm.Cond.before_and, ih, List.all_cons]
def words1 : List Jvm.Cond := Jvm.Cond.code x code maxLocals ret :: tables_1
/-- a 'code' word, met by the world's own term for the bytes: nothing is compared byte by byte -/
theorem code_word {y : MethodName} {bytes : ByteArray} {mx : Nat} {rt : Option FieldType} {a : Array Value} {s : State} {m : MethodId} {meth : Method} {c : Code} (h1 : s.methodNamed? y = some m) (h2 : s.vm.method? m = some meth) (h3 : meth.code = some c) (h4 : c.code = bytes)
    (h5 : (c.maxLocals == mx && c.exceptionTable.isEmpty && decide (c.maxStack ≤ mostOperands) && decide (meth.sig.returnType = rt) && !meth.locks && decide (parseMethodDescriptor y.desc = some meth.sig)) = true) : (Jvm.Cond.code y bytes mx rt).before a s = true := by
  simp only [Bool.and_eq_true, beq_iff_eq, Bool.not_eq_true', decide_eq_true_eq] at h5
  obtain ⟨⟨⟨⟨⟨g1, g2⟩, g3⟩, g4⟩, g5⟩, g6⟩ := h5
  simp [Cond.before, Cond.holds, Cond.value, h1, h2, h3, h4, g1, g2, g3, g4, g5, g6]
def isCode : Jvm.Cond → Bool
  | .code _ _ _ _ => true
  | _ => false
theorem all_split {L : List Jvm.Cond} {P : Jvm.Cond → Bool} (h1 : L.all (fun c => isCode c || P c) = true) (h2 : ∀ c ∈ L.filter isCode, P c = true) : L.all P = true := by
  refine List.all_eq_true.mpr fun c hc => ?_
  have h := List.all_eq_true.mp h1 c hc
  rcases Bool.eq_false_or_eq_true (isCode c) with hi | hi
  · exact h2 c (List.mem_filter.mpr ⟨hc, hi⟩)
  · simpa [hi] using h
set_option maxRecDepth 65536 in
theorem w_c0 : (Jvm.Cond.code x code maxLocals ret).before args0 about1 = true := code_word (m := ⟨1, 1⟩) (meth := k1m1) (c := k1c1) (by decide +kernel) rfl rfl rfl (by decide +kernel)
set_option maxRecDepth 65536 in
theorem w_c1 : (Jvm.Cond.code ({ cls := "com/example/tipple_ledger/tippleledger/terms/WeightedAverage", name := "byTons", desc := "(Lcom/example/tipple_ledger/tippleledger/terms/Characteristic;)Ljava/util/Optional;" } : Jvm.MethodName) prog_194_method_11_code (5 : Nat) (Option.some (Jvm.ClassFile.FieldType.object "java/util/Optional"))).before args0 about1 = true := code_word (m := ⟨7, 3⟩) (meth := k7m3) (c := k7c3) (by decide +kernel) rfl rfl rfl (by decide +kernel)
set_option maxRecDepth 65536 in
theorem w_c2 : (Jvm.Cond.code ({ cls := "com/example/tipple_ledger/tippleledger/terms/WeightedAverage", name := "values", desc := "()[Lcom/example/tipple_ledger/tippleledger/terms/WeightedAverage;" } : Jvm.MethodName) prog_194_method_1_code (0 : Nat) (Option.some (Jvm.ClassFile.FieldType.array (Jvm.ClassFile.FieldType.object "com/example/tipple_ledger/tippleledger/terms/WeightedAverage")))).before args0 about1 = true := code_word (m := ⟨7, 0⟩) (meth := k7m0) (c := k7c0) (by decide +kernel) rfl rfl rfl (by decide +kernel)
set_option maxRecDepth 65536 in
theorem w_c3 : (Jvm.Cond.code ({ cls := "java/util/Optional", name := "of", desc := "(Ljava/lang/Object;)Ljava/util/Optional;" } : Jvm.MethodName) jdk_32_method_3_code (1 : Nat) (Option.some (Jvm.ClassFile.FieldType.object "java/util/Optional"))).before args0 about1 = true := code_word (m := ⟨9, 2⟩) (meth := k9m2) (c := k9c2) (by decide +kernel) rfl rfl rfl (by decide +kernel)
set_option maxRecDepth 65536 in
theorem w_c4 : (Jvm.Cond.code ({ cls := "java/util/Objects", name := "requireNonNull", desc := "(Ljava/lang/Object;)Ljava/lang/Object;" } : Jvm.MethodName) jdk_31_method_10_code (1 : Nat) (Option.some (Jvm.ClassFile.FieldType.object "java/lang/Object"))).before args0 about1 = true := code_word (m := ⟨10, 1⟩) (meth := k10m1) (c := k10c1) (by decide +kernel) rfl rfl rfl (by decide +kernel)
set_option maxRecDepth 65536 in
theorem w_c5 : (Jvm.Cond.code ({ cls := "java/util/Optional", name := "<init>", desc := "(Ljava/lang/Object;)V" } : Jvm.MethodName) jdk_32_method_2_code (2 : Nat) (Option.none : Option Jvm.ClassFile.FieldType)).before args0 about1 = true := code_word (m := ⟨9, 1⟩) (meth := k9m1) (c := k9c1) (by decide +kernel) rfl rfl rfl (by decide +kernel)
set_option maxRecDepth 65536 in
theorem w_c6 : (Jvm.Cond.code ({ cls := "java/lang/Object", name := "<init>", desc := "()V" } : Jvm.MethodName) object_method_1_code (1 : Nat) (Option.none : Option Jvm.ClassFile.FieldType)).before args0 about1 = true := code_word (m := ⟨0, 0⟩) (meth := k0m0) (c := k0c0) (by decide +kernel) rfl rfl rfl (by decide +kernel)
set_option maxRecDepth 65536 in
theorem w_c7 : (Jvm.Cond.code ({ cls := "java/util/Optional", name := "orElse", desc := "(Ljava/lang/Object;)Ljava/lang/Object;" } : Jvm.MethodName) jdk_32_method_15_code (2 : Nat) (Option.some (Jvm.ClassFile.FieldType.object "java/lang/Object"))).before args0 about1 = true := code_word (m := ⟨9, 3⟩) (meth := k9m3) (c := k9c3) (by decide +kernel) rfl rfl rfl (by decide +kernel)
set_option maxRecDepth 65536 in
theorem w_c8 : (Jvm.Cond.code ({ cls := "com/example/tipple_ledger/tippleledger/terms/WeightedAverage", name := "characteristic", desc := "()Lcom/example/tipple_ledger/tippleledger/terms/Characteristic;" } : Jvm.MethodName) prog_194_method_4_code (1 : Nat) (Option.some (Jvm.ClassFile.FieldType.object "com/example/tipple_ledger/tippleledger/terms/Characteristic"))).before args0 about1 = true := code_word (m := ⟨7, 1⟩) (meth := k7m1) (c := k7c1) (by decide +kernel) rfl rfl rfl (by decide +kernel)
set_option maxRecDepth 65536 in
theorem w_c9 : (Jvm.Cond.code ({ cls := "com/example/tipple_ledger/tippleledger/terms/WeightedAverage", name := "perMmbtu", desc := "()Z" } : Jvm.MethodName) prog_194_method_7_code (1 : Nat) (Option.some Jvm.ClassFile.FieldType.boolean)).before args0 about1 = true := code_word (m := ⟨7, 2⟩) (meth := k7m2) (c := k7c2) (by decide +kernel) rfl rfl rfl (by decide +kernel)
set_option maxRecDepth 65536 in
theorem w_c10 : (Jvm.Cond.code ({ cls := "java/util/Optional", name := "empty", desc := "()Ljava/util/Optional;" } : Jvm.MethodName) jdk_32_method_1_code (1 : Nat) (Option.some (Jvm.ClassFile.FieldType.object "java/util/Optional"))).before args0 about1 = true := code_word (m := ⟨9, 0⟩) (meth := k9m0) (c := k9c0) (by decide +kernel) rfl rfl rfl (by decide +kernel)
def codes1 : List Jvm.Cond := [Jvm.Cond.code x code maxLocals ret, Jvm.Cond.code ({ cls := "com/example/tipple_ledger/tippleledger/terms/WeightedAverage", name := "byTons", desc := "(Lcom/example/tipple_ledger/tippleledger/terms/Characteristic;)Ljava/util/Optional;" } : Jvm.MethodName) prog_194_method_11_code (5 : Nat) (Option.some (Jvm.ClassFile.FieldType.object "java/util/Optional")), Jvm.Cond.code ({ cls := "com/example/tipple_ledger/tippleledger/terms/WeightedAverage", name := "values", desc := "()[Lcom/example/tipple_ledger/tippleledger/terms/WeightedAverage;" } : Jvm.MethodName) prog_194_method_1_code (0 : Nat) (Option.some (Jvm.ClassFile.FieldType.array (Jvm.ClassFile.FieldType.object "com/example/tipple_ledger/tippleledger/terms/WeightedAverage"))), Jvm.Cond.code ({ cls := "java/util/Optional", name := "of", desc := "(Ljava/lang/Object;)Ljava/util/Optional;" } : Jvm.MethodName) jdk_32_method_3_code (1 : Nat) (Option.some (Jvm.ClassFile.FieldType.object "java/util/Optional")), Jvm.Cond.code ({ cls := "java/util/Objects", name := "requireNonNull", desc := "(Ljava/lang/Object;)Ljava/lang/Object;" } : Jvm.MethodName) jdk_31_method_10_code (1 : Nat) (Option.some (Jvm.ClassFile.FieldType.object "java/lang/Object")), Jvm.Cond.code ({ cls := "java/util/Optional", name := "<init>", desc := "(Ljava/lang/Object;)V" } : Jvm.MethodName) jdk_32_method_2_code (2 : Nat) (Option.none : Option Jvm.ClassFile.FieldType), Jvm.Cond.code ({ cls := "java/lang/Object", name := "<init>", desc := "()V" } : Jvm.MethodName) object_method_1_code (1 : Nat) (Option.none : Option Jvm.ClassFile.FieldType), Jvm.Cond.code ({ cls := "java/util/Optional", name := "orElse", desc := "(Ljava/lang/Object;)Ljava/lang/Object;" } : Jvm.MethodName) jdk_32_method_15_code (2 : Nat) (Option.some (Jvm.ClassFile.FieldType.object "java/lang/Object")), Jvm.Cond.code ({ cls := "com/example/tipple_ledger/tippleledger/terms/WeightedAverage", name := "characteristic", desc := "()Lcom/example/tipple_ledger/tippleledger/terms/Characteristic;" } : Jvm.MethodName) prog_194_method_4_code (1 : Nat) (Option.some (Jvm.ClassFile.FieldType.object "com/example/tipple_ledger/tippleledger/terms/Characteristic")), Jvm.Cond.code ({ cls := "com/example/tipple_ledger/tippleledger/terms/WeightedAverage", name := "perMmbtu", desc := "()Z" } : Jvm.MethodName) prog_194_method_7_code (1 : Nat) (Option.some Jvm.ClassFile.FieldType.boolean), Jvm.Cond.code ({ cls := "java/util/Optional", name := "empty", desc := "()Ljava/util/Optional;" } : Jvm.MethodName) jdk_32_method_1_code (1 : Nat) (Option.some (Jvm.ClassFile.FieldType.object "java/util/Optional"))]
set_option maxRecDepth 65536 in
theorem codes_eq : words1.filter isCode = codes1 := rfl
theorem w_codes : ∀ c ∈ words1.filter isCode, c.before args0 about1 = true := by
  rw [codes_eq]
  intro c hc
  simp only [codes1, List.mem_cons, List.not_mem_nil, or_false] at hc
  rcases hc with rfl | rfl | rfl | rfl | rfl | rfl | rfl | rfl | rfl | rfl | rfl
  · exact w_c0
  · exact w_c1
  · exact w_c2
  · exact w_c3
  · exact w_c4
  · exact w_c5
  · exact w_c6
  · exact w_c7
  · exact w_c8
  · exact w_c9
  · exact w_c10
set_option maxRecDepth 65536 in
theorem w_t1 : (words1.take 24).all (fun c => isCode c || c.before args0 about1) = true := by decide +kernel
set_option maxRecDepth 65536 in
theorem w_t2 : ((words1.drop 24).take 24).all (fun c => isCode c || c.before args0 about1) = true := by decide +kernel
set_option maxRecDepth 65536 in
theorem w_t3 : (((words1.drop 24).drop 24).take 24).all (fun c => isCode c || c.before args0 about1) = true := by decide +kernel
set_option maxRecDepth 65536 in
theorem w_t4 : (((words1.drop 24).drop 24).drop 24).all (fun c => isCode c || c.before args0 about1) = true := by decide +kernel
theorem w_tables : (allAtoms (Jvm.Cond.code x code maxLocals ret :: tables_1)).before args0 about1 = true := by
  rw [allAtoms_all]
  show words1.all (fun c => c.before args0 about1) = true
  refine all_split ?_ w_codes
  rw [← List.take_append_drop 24 words1, List.all_append, w_t1, ← List.take_append_drop 24 (words1.drop 24), List.all_append, w_t2, ← List.take_append_drop 24 ((words1.drop 24).drop 24), List.all_append, w_t3, w_t4]
  rfl
set_option maxRecDepth 65536 in
theorem w_rest : rest_1_c.before args0 about1 = true := by decide +kernel
set_option maxRecDepth 65536 in
theorem w_case : (Jvm.Cond.and given_1 narrow_1).before args0 about1 = true := by decide +kernel
theorem w_applies : (headSpec (Jvm.Cond.code x code maxLocals ret :: tables_1) room_1).applies x e0.platform about1 = true :=
  (Spec.applies_iff w_frames).mpr ⟨w_running, w_runnable, w_alone, w_named, w_hears, w_ripe, w_room, w_tables⟩
theorem atStart : AtStart classFile x code maxLocals ret World_1 tables_1 room_1 Calls_1 rest_1 Pre_1 launch0 p0 e0 about1 theMethod args0 below0 :=
  ⟨lists_1, trivial, launch0.admits_env _ _ _, launch0.least_env, fairChoices_fair.cas, fairChoices_fair.clock, w_frames, w_args, w_heap, w_applies, trivial, w_rest, w_case⟩
end start1
theorem witness_1 : WitnessClaimed_1 := ⟨start1.p0, start1.e0, start1.about1, start1.theMethod, start1.args0, start1.below0, start1.atStart⟩
end Jvm.Pilot.@@N@@
